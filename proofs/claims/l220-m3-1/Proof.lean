import JvmDerived
import JvmDerived.Pilot.@@N@@Statement
import JvmDerived.Pilot.@@N@@Code
set_option linter.unusedVariables false
set_option linter.unusedSimpArgs false
namespace Jvm.RoadKit
open Sem ClassFile Op Lib Jvm.Stand Jvm.Free Jvm.LawKit
section New
variable {p : Program} {l : Launch} {e : Env} {R : Room} {s : State} {m : MethodId} {args : Array Value} {below : List Frame} {meth : Method} {c : Code} {T : State} {locs : List Loc} {cells slots : Nat}
theorem retI (X : Stand p l e R s m args below meth c T locs cells slots) (hx : p.tables.exec = Jvm.exec) {pc : Nat} {Ls : Array Slot} {z : Int32} {rest : List Value} (hret : meth.sig.returnType = some .int) (hd : decode c.code pc = .ok (.ireturn, 1)) {fs : List Frame}
    (hl : ∀ (f : JFrame) (acts : List Action), f.method = m → f.locked = none → f.entered = [] → (doReturn e (T.setTop f) acts (some (.int z))).1 = T.setFrames fs) : Steps p.tables e below (T.setTop (mkF m pc Ls (.int z :: rest))) (T.setFrames fs) := by
  have hm' : T.vm.method? m = some meth := X.method'
  have hn : narrow .int (.int z) = .int z := rfl
  show Steps p.tables e below (T.setTop { method := m, pc := pc, locals := Ls, stack := _ :: rest, locked := none }) _
  jvm_step X.here [X.here.top, hx, hd, hm', hret, hn]
  first | (intro acts; rw [hl _ acts rfl rfl rfl]) | rw [hl _ _ rfl rfl rfl]
  exact Steps.refl _
end New
end Jvm.RoadKit
namespace Jvm.Pilot.@@N@@
open Jvm Jvm.ClassFile Sem Op Lib Jvm.Free Jvm.Stand Jvm.LawKit Jvm.RoadKit Bundle Jvm.Pilot.@@N@@.Jvm.D
def Wp (p : Program) (e : Env) (s : State) (below : List Frame) (C S : Nat) (Q : Option Value → Heap → List Loc → Prop) (T : State) (g : JFrame) : Prop :=
  ∃ s₂ o, Steps p.tables e below (T.setTop g) s₂ ∧ s₂.status = .running ∧ Ended s₂ below o ∧ ∃ v L, o = .returned v ∧ Q v s₂.heap L ∧ FrameEnd s o s₂ L C S
section OwnW
variable {p : Program} {l : Launch} {e : Env} {R : Room} {s : State} {m : MethodId} {args : Array Value} {below : List Frame} {meth : Method} {c : Code} {T : State} {locs : List Loc} {cells slots : Nat} {C S : Nat} {Q : Option Value → Heap → List Loc → Prop} {pc pc' : Nat} {Ls : Array Slot} {st : List Value}
theorem Wp.via {T' : State} {g g' : JFrame} (st : ∀ t, Steps p.tables e below (T'.setTop g') t → Steps p.tables e below (T.setTop g) t) (k : Wp p e s below C S Q T' g') : Wp p e s below C S Q T g := by
  obtain ⟨s₂, o, h1, h2⟩ := k
  exact ⟨s₂, o, st _ h1, h2⟩
theorem w_iload (X : Stand p l e R s m args below meth c T locs cells slots) (hx : p.tables.exec = Jvm.exec) {k : Nat} {v : Int32} (hd : decode c.code pc = .ok (.iload k, 2)) (hl : Ls[k]? = some (.val (.int v))) (hp : pc + 2 = pc') (k : Wp p e s below C S Q T (mkF m pc' Ls (Value.int v :: st))) : Wp p e s below C S Q T (mkF m pc Ls (st)) := by
  subst hp
  exact Wp.via (fun _ h => XS.iload X.here hx rfl hd hl h) k
theorem w_iloadN (X : Stand p l e R s m args below meth c T locs cells slots) (hx : p.tables.exec = Jvm.exec) {k : Fin 4} {v : Int32} (hd : decode c.code pc = .ok (.iload_n k, 1)) (hl : Ls[k.val]? = some (.val (.int v))) (hp : pc + 1 = pc') (k : Wp p e s below C S Q T (mkF m pc' Ls (Value.int v :: st))) : Wp p e s below C S Q T (mkF m pc Ls (st)) := by
  subst hp
  exact Wp.via (fun _ h => XS.iloadN X.here hx rfl hd hl h) k
theorem w_lload (X : Stand p l e R s m args below meth c T locs cells slots) (hx : p.tables.exec = Jvm.exec) {k : Nat} {v : Int64} (hd : decode c.code pc = .ok (.lload k, 2)) (hl : Ls[k]? = some (.val (.long v))) (hp : pc + 2 = pc') (k : Wp p e s below C S Q T (mkF m pc' Ls (Value.long v :: st))) : Wp p e s below C S Q T (mkF m pc Ls (st)) := by
  subst hp
  exact Wp.via (fun _ h => XT.lload X.here hx rfl hd hl h) k
theorem w_lloadN (X : Stand p l e R s m args below meth c T locs cells slots) (hx : p.tables.exec = Jvm.exec) {k : Fin 4} {v : Int64} (hd : decode c.code pc = .ok (.lload_n k, 1)) (hl : Ls[k.val]? = some (.val (.long v))) (hp : pc + 1 = pc') (k : Wp p e s below C S Q T (mkF m pc' Ls (Value.long v :: st))) : Wp p e s below C S Q T (mkF m pc Ls (st)) := by
  subst hp
  exact Wp.via (fun _ h => XT.lloadN X.here hx rfl hd hl h) k
theorem w_aload (X : Stand p l e R s m args below meth c T locs cells slots) (hx : p.tables.exec = Jvm.exec) {k : Nat} {v : Value} (hd : decode c.code pc = .ok (.aload k, 2)) (hl : Ls[k]? = some (.val v)) (hv : v.isRef = true) (hp : pc + 2 = pc') (k : Wp p e s below C S Q T (mkF m pc' Ls (v :: st))) : Wp p e s below C S Q T (mkF m pc Ls (st)) := by
  subst hp
  exact Wp.via (fun _ h => XS.aload X.here hx rfl hd hl hv h) k
theorem w_aloadN (X : Stand p l e R s m args below meth c T locs cells slots) (hx : p.tables.exec = Jvm.exec) {k : Fin 4} {v : Value} (hd : decode c.code pc = .ok (.aload_n k, 1)) (hl : Ls[k.val]? = some (.val v)) (hv : v.isRef = true) (hp : pc + 1 = pc') (k : Wp p e s below C S Q T (mkF m pc' Ls (v :: st))) : Wp p e s below C S Q T (mkF m pc Ls (st)) := by
  subst hp
  exact Wp.via (fun _ h => XS.aloadN X.here hx rfl hd hl hv h) k
theorem w_istore (X : Stand p l e R s m args below meth c T locs cells slots) (hx : p.tables.exec = Jvm.exec) {k : Nat} {v : Int32} {l' : Array Slot} (hd : decode c.code pc = .ok (.istore k, 2)) (hl : storeLocals Ls k (Value.int v) = some l') (hp : pc + 2 = pc') (k : Wp p e s below C S Q T (mkF m pc' l' (st))) : Wp p e s below C S Q T (mkF m pc Ls (Value.int v :: st)) := by
  subst hp
  exact Wp.via (fun _ h => XS.istore X.here hx rfl hd rfl hl h) k
theorem w_istoreN (X : Stand p l e R s m args below meth c T locs cells slots) (hx : p.tables.exec = Jvm.exec) {k : Fin 4} {v : Int32} {l' : Array Slot} (hd : decode c.code pc = .ok (.istore_n k, 1)) (hl : storeLocals Ls k.val (Value.int v) = some l') (hp : pc + 1 = pc') (k : Wp p e s below C S Q T (mkF m pc' l' (st))) : Wp p e s below C S Q T (mkF m pc Ls (Value.int v :: st)) := by
  subst hp
  exact Wp.via (fun _ h => XS.istoreN X.here hx rfl hd rfl hl h) k
theorem w_lstore (X : Stand p l e R s m args below meth c T locs cells slots) (hx : p.tables.exec = Jvm.exec) {k : Nat} {v : Int64} {l' : Array Slot} (hd : decode c.code pc = .ok (.lstore k, 2)) (hl : storeLocals Ls k (Value.long v) = some l') (hp : pc + 2 = pc') (k : Wp p e s below C S Q T (mkF m pc' l' (st))) : Wp p e s below C S Q T (mkF m pc Ls (Value.long v :: st)) := by
  subst hp
  exact Wp.via (fun _ h => XT.lstore X.here hx rfl hd rfl hl h) k
theorem w_lstoreN (X : Stand p l e R s m args below meth c T locs cells slots) (hx : p.tables.exec = Jvm.exec) {k : Fin 4} {v : Int64} {l' : Array Slot} (hd : decode c.code pc = .ok (.lstore_n k, 1)) (hl : storeLocals Ls k.val (Value.long v) = some l') (hp : pc + 1 = pc') (k : Wp p e s below C S Q T (mkF m pc' l' (st))) : Wp p e s below C S Q T (mkF m pc Ls (Value.long v :: st)) := by
  subst hp
  exact Wp.via (fun _ h => XT.lstoreN X.here hx rfl hd rfl hl h) k
theorem w_istoreS (X : Stand p l e R s m args below meth c T locs cells slots) (hx : p.tables.exec = Jvm.exec) {k : Nat} {v : Int32} {o : Slot} (hd : decode c.code pc = .ok (.istore k, 2)) (hold : Ls[k]? = some o) (ho : One o) (hp : pc + 2 = pc') (k : Wp p e s below C S Q T (mkF m pc' (Ls.setIfInBounds k (.val (.int v))) (st))) : Wp p e s below C S Q T (mkF m pc Ls (Value.int v :: st)) := by
  subst hp
  exact Wp.via (fun _ h => XS.istoreS X.here hx rfl hd rfl hold ho h) k
theorem w_astore (X : Stand p l e R s m args below meth c T locs cells slots) (hx : p.tables.exec = Jvm.exec) {k : Nat} {v : Value} {l' : Array Slot} (hd : decode c.code pc = .ok (.astore k, 2)) (hv : v.isRef = true) (hl : storeLocals Ls k v = some l') (hp : pc + 2 = pc') (k : Wp p e s below C S Q T (mkF m pc' l' (st))) : Wp p e s below C S Q T (mkF m pc Ls (v :: st)) := by
  subst hp
  exact Wp.via (fun _ h => XS.astore X.here hx rfl hd rfl hv hl h) k
theorem w_astoreN (X : Stand p l e R s m args below meth c T locs cells slots) (hx : p.tables.exec = Jvm.exec) {k : Fin 4} {v : Value} {l' : Array Slot} (hd : decode c.code pc = .ok (.astore_n k, 1)) (hv : v.isRef = true) (hl : storeLocals Ls k.val v = some l') (hp : pc + 1 = pc') (k : Wp p e s below C S Q T (mkF m pc' l' (st))) : Wp p e s below C S Q T (mkF m pc Ls (v :: st)) := by
  subst hp
  exact Wp.via (fun _ h => XS.astoreN X.here hx rfl hd rfl hv hl h) k
theorem w_iconst (X : Stand p l e R s m args below meth c T locs cells slots) (hx : p.tables.exec = Jvm.exec) {i : Int} {v : Int32} (hd : decode c.code pc = .ok (.iconst i, 1)) (hv : Int32.ofInt i = v) (hp : pc + 1 = pc') (k : Wp p e s below C S Q T (mkF m pc' Ls (Value.int v :: st))) : Wp p e s below C S Q T (mkF m pc Ls (st)) := by
  subst hp hv
  exact Wp.via (fun _ h => XS.iconst X.here hx rfl hd h) k
theorem w_bipush (X : Stand p l e R s m args below meth c T locs cells slots) (hx : p.tables.exec = Jvm.exec) {i : Int} {v : Int32} (hd : decode c.code pc = .ok (.bipush i, 2)) (hv : (Int8.ofInt i).toInt32 = v) (hp : pc + 2 = pc') (k : Wp p e s below C S Q T (mkF m pc' Ls (Value.int v :: st))) : Wp p e s below C S Q T (mkF m pc Ls (st)) := by
  subst hp hv
  exact Wp.via (fun _ h => XS.bipush X.here hx rfl hd h) k
theorem w_sipush (X : Stand p l e R s m args below meth c T locs cells slots) (hx : p.tables.exec = Jvm.exec) {i : Int} {v : Int32} (hd : decode c.code pc = .ok (.sipush i, 3)) (hv : (Int16.ofInt i).toInt32 = v) (hp : pc + 3 = pc') (k : Wp p e s below C S Q T (mkF m pc' Ls (Value.int v :: st))) : Wp p e s below C S Q T (mkF m pc Ls (st)) := by
  subst hp hv
  exact Wp.via (fun _ h => XS.sipush X.here hx rfl hd h) k
theorem w_lconst (X : Stand p l e R s m args below meth c T locs cells slots) (hx : p.tables.exec = Jvm.exec) {k : Fin 2} {v : Int64} (hd : decode c.code pc = .ok (.lconst k, 1)) (hv : Int64.ofNat k = v) (hp : pc + 1 = pc') (k : Wp p e s below C S Q T (mkF m pc' Ls (Value.long v :: st))) : Wp p e s below C S Q T (mkF m pc Ls (st)) := by
  subst hp hv
  exact Wp.via (fun _ h => XT.lconst X.here hx rfl hd h) k
theorem w_aconst (X : Stand p l e R s m args below meth c T locs cells slots) (hx : p.tables.exec = Jvm.exec)  (hd : decode c.code pc = .ok (.aconst_null, 1))  (hp : pc + 1 = pc') (k : Wp p e s below C S Q T (mkF m pc' Ls (Value.null :: st))) : Wp p e s below C S Q T (mkF m pc Ls (st)) := by
  subst hp
  exact Wp.via (fun _ h => XS.aconstNull X.here hx rfl hd h) k
theorem w_ldc (X : Stand p l e R s m args below meth c T locs cells slots) (hx : p.tables.exec = Jvm.exec) {i : Nat} {v : Int32} {own : String} (hd : decode c.code pc = .ok (.ldc i, 2)) (hown : s.vm.findClass own = some m.cls) (hc : (Jvm.Cond.constant own i v).before args s = true) (hp : pc + 2 = pc') (k : Wp p e s below C S Q T (mkF m pc' Ls (Value.int v :: st))) : Wp p e s below C S Q T (mkF m pc Ls (st)) := by
  subst hp
  exact Wp.via (fun _ h => X.ldcInt hx hown hc (g := mkF m pc Ls st) rfl hd _ h) k
theorem w_ldc2 (X : Stand p l e R s m args below meth c T locs cells slots) (hx : p.tables.exec = Jvm.exec) {i : Nat} {v : Int64} {own : String} (hd : decode c.code pc = .ok (.ldc2_w i, 3)) (hown : s.vm.findClass own = some m.cls) (hc : (Jvm.Cond.constantLong own i v).before args s = true) (hp : pc + 3 = pc') (k : Wp p e s below C S Q T (mkF m pc' Ls (Value.long v :: st))) : Wp p e s below C S Q T (mkF m pc Ls (st)) := by
  subst hp
  exact Wp.via (fun _ h => X.ldc2Long hx hown hc (g := mkF m pc Ls st) rfl hd _ h) k
theorem w_iadd (X : Stand p l e R s m args below meth c T locs cells slots) (hx : p.tables.exec = Jvm.exec) {x y : Int32} (hd : decode c.code pc = .ok (.iadd, 1))  (hp : pc + 1 = pc') (k : Wp p e s below C S Q T (mkF m pc' Ls (Value.int (x + y) :: st))) : Wp p e s below C S Q T (mkF m pc Ls (Value.int y :: Value.int x :: st)) := by
  subst hp
  exact Wp.via (fun _ h => XS.iadd X.here hx rfl hd rfl h) k
theorem w_isub (X : Stand p l e R s m args below meth c T locs cells slots) (hx : p.tables.exec = Jvm.exec) {x y : Int32} (hd : decode c.code pc = .ok (.isub, 1))  (hp : pc + 1 = pc') (k : Wp p e s below C S Q T (mkF m pc' Ls (Value.int (x - y) :: st))) : Wp p e s below C S Q T (mkF m pc Ls (Value.int y :: Value.int x :: st)) := by
  subst hp
  exact Wp.via (fun _ h => XS.isub X.here hx rfl hd rfl h) k
theorem w_iand (X : Stand p l e R s m args below meth c T locs cells slots) (hx : p.tables.exec = Jvm.exec) {x y : Int32} (hd : decode c.code pc = .ok (.iand, 1))  (hp : pc + 1 = pc') (k : Wp p e s below C S Q T (mkF m pc' Ls (Value.int (x &&& y) :: st))) : Wp p e s below C S Q T (mkF m pc Ls (Value.int y :: Value.int x :: st)) := by
  subst hp
  exact Wp.via (fun _ h => XS.iand X.here hx rfl hd rfl h) k
theorem w_imul (X : Stand p l e R s m args below meth c T locs cells slots) (hx : p.tables.exec = Jvm.exec) {x y : Int32} (hd : decode c.code pc = .ok (.imul, 1))  (hp : pc + 1 = pc') (k : Wp p e s below C S Q T (mkF m pc' Ls (Value.int (x * y) :: st))) : Wp p e s below C S Q T (mkF m pc Ls (Value.int y :: Value.int x :: st)) := by
  subst hp
  exact Wp.via (fun _ h => XS.imul X.here hx rfl hd rfl h) k
theorem w_ixor (X : Stand p l e R s m args below meth c T locs cells slots) (hx : p.tables.exec = Jvm.exec) {x y : Int32} (hd : decode c.code pc = .ok (.ixor, 1))  (hp : pc + 1 = pc') (k : Wp p e s below C S Q T (mkF m pc' Ls (Value.int (x ^^^ y) :: st))) : Wp p e s below C S Q T (mkF m pc Ls (Value.int y :: Value.int x :: st)) := by
  subst hp
  exact Wp.via (fun _ h => XT.ixor X.here hx rfl hd rfl h) k
theorem w_ior (X : Stand p l e R s m args below meth c T locs cells slots) (hx : p.tables.exec = Jvm.exec) {x y : Int32} (hd : decode c.code pc = .ok (.ior, 1))  (hp : pc + 1 = pc') (k : Wp p e s below C S Q T (mkF m pc' Ls (Value.int (x ||| y) :: st))) : Wp p e s below C S Q T (mkF m pc Ls (Value.int y :: Value.int x :: st)) := by
  subst hp
  exact Wp.via (fun _ h => XT.ior X.here hx rfl hd rfl h) k
theorem w_ishl (X : Stand p l e R s m args below meth c T locs cells slots) (hx : p.tables.exec = Jvm.exec) {x y : Int32} (hd : decode c.code pc = .ok (.ishl, 1))  (hp : pc + 1 = pc') (k : Wp p e s below C S Q T (mkF m pc' Ls (Value.int (x <<< (y &&& 31)) :: st))) : Wp p e s below C S Q T (mkF m pc Ls (Value.int y :: Value.int x :: st)) := by
  subst hp
  exact Wp.via (fun _ h => XT.ishl X.here hx rfl hd rfl h) k
theorem w_ishr (X : Stand p l e R s m args below meth c T locs cells slots) (hx : p.tables.exec = Jvm.exec) {x y : Int32} (hd : decode c.code pc = .ok (.ishr, 1))  (hp : pc + 1 = pc') (k : Wp p e s below C S Q T (mkF m pc' Ls (Value.int (x >>> (y &&& 31)) :: st))) : Wp p e s below C S Q T (mkF m pc Ls (Value.int y :: Value.int x :: st)) := by
  subst hp
  exact Wp.via (fun _ h => XT.ishr X.here hx rfl hd rfl h) k
theorem w_iushr (X : Stand p l e R s m args below meth c T locs cells slots) (hx : p.tables.exec = Jvm.exec) {x y : Int32} (hd : decode c.code pc = .ok (.iushr, 1))  (hp : pc + 1 = pc') (k : Wp p e s below C S Q T (mkF m pc' Ls (Value.int (XT.ushr x y) :: st))) : Wp p e s below C S Q T (mkF m pc Ls (Value.int y :: Value.int x :: st)) := by
  subst hp
  exact Wp.via (fun _ h => XT.iushr X.here hx rfl hd rfl h) k
theorem w_idiv (X : Stand p l e R s m args below meth c T locs cells slots) (hx : p.tables.exec = Jvm.exec) {x y : Int32} (hd : decode c.code pc = .ok (.idiv, 1)) (hy : y ≠ 0) (hp : pc + 1 = pc') (k : Wp p e s below C S Q T (mkF m pc' Ls (Value.int (x / y) :: st))) : Wp p e s below C S Q T (mkF m pc Ls (Value.int y :: Value.int x :: st)) := by
  subst hp
  exact Wp.via (fun _ h => XS.idiv X.here hx rfl hd rfl hy h) k
theorem w_irem (X : Stand p l e R s m args below meth c T locs cells slots) (hx : p.tables.exec = Jvm.exec) {x y : Int32} (hd : decode c.code pc = .ok (.irem, 1)) (hy : y ≠ 0) (hp : pc + 1 = pc') (k : Wp p e s below C S Q T (mkF m pc' Ls (Value.int (x % y) :: st))) : Wp p e s below C S Q T (mkF m pc Ls (Value.int y :: Value.int x :: st)) := by
  subst hp
  exact Wp.via (fun _ h => iremM X hx rfl hd rfl hy h) k
theorem w_ladd (X : Stand p l e R s m args below meth c T locs cells slots) (hx : p.tables.exec = Jvm.exec) {x y : Int64} (hd : decode c.code pc = .ok (.ladd, 1))  (hp : pc + 1 = pc') (k : Wp p e s below C S Q T (mkF m pc' Ls (Value.long (x + y) :: st))) : Wp p e s below C S Q T (mkF m pc Ls (Value.long y :: Value.long x :: st)) := by
  subst hp
  exact Wp.via (fun _ h => XT.ladd X.here hx rfl hd rfl h) k
theorem w_lsub (X : Stand p l e R s m args below meth c T locs cells slots) (hx : p.tables.exec = Jvm.exec) {x y : Int64} (hd : decode c.code pc = .ok (.lsub, 1))  (hp : pc + 1 = pc') (k : Wp p e s below C S Q T (mkF m pc' Ls (Value.long (x - y) :: st))) : Wp p e s below C S Q T (mkF m pc Ls (Value.long y :: Value.long x :: st)) := by
  subst hp
  exact Wp.via (fun _ h => XT.lsub X.here hx rfl hd rfl h) k
theorem w_lmul (X : Stand p l e R s m args below meth c T locs cells slots) (hx : p.tables.exec = Jvm.exec) {x y : Int64} (hd : decode c.code pc = .ok (.lmul, 1))  (hp : pc + 1 = pc') (k : Wp p e s below C S Q T (mkF m pc' Ls (Value.long (x * y) :: st))) : Wp p e s below C S Q T (mkF m pc Ls (Value.long y :: Value.long x :: st)) := by
  subst hp
  exact Wp.via (fun _ h => XT.lmul X.here hx rfl hd rfl h) k
theorem w_land (X : Stand p l e R s m args below meth c T locs cells slots) (hx : p.tables.exec = Jvm.exec) {x y : Int64} (hd : decode c.code pc = .ok (.land, 1))  (hp : pc + 1 = pc') (k : Wp p e s below C S Q T (mkF m pc' Ls (Value.long (x &&& y) :: st))) : Wp p e s below C S Q T (mkF m pc Ls (Value.long y :: Value.long x :: st)) := by
  subst hp
  exact Wp.via (fun _ h => XT.land X.here hx rfl hd rfl h) k
theorem w_lor (X : Stand p l e R s m args below meth c T locs cells slots) (hx : p.tables.exec = Jvm.exec) {x y : Int64} (hd : decode c.code pc = .ok (.lor, 1))  (hp : pc + 1 = pc') (k : Wp p e s below C S Q T (mkF m pc' Ls (Value.long (x ||| y) :: st))) : Wp p e s below C S Q T (mkF m pc Ls (Value.long y :: Value.long x :: st)) := by
  subst hp
  exact Wp.via (fun _ h => XT.lor X.here hx rfl hd rfl h) k
theorem w_lxor (X : Stand p l e R s m args below meth c T locs cells slots) (hx : p.tables.exec = Jvm.exec) {x y : Int64} (hd : decode c.code pc = .ok (.lxor, 1))  (hp : pc + 1 = pc') (k : Wp p e s below C S Q T (mkF m pc' Ls (Value.long (x ^^^ y) :: st))) : Wp p e s below C S Q T (mkF m pc Ls (Value.long y :: Value.long x :: st)) := by
  subst hp
  exact Wp.via (fun _ h => XT.lxor X.here hx rfl hd rfl h) k
theorem w_ldiv (X : Stand p l e R s m args below meth c T locs cells slots) (hx : p.tables.exec = Jvm.exec) {x y : Int64} (hd : decode c.code pc = .ok (.ldiv, 1)) (hy : y ≠ 0) (hp : pc + 1 = pc') (k : Wp p e s below C S Q T (mkF m pc' Ls (Value.long (x / y) :: st))) : Wp p e s below C S Q T (mkF m pc Ls (Value.long y :: Value.long x :: st)) := by
  subst hp
  exact Wp.via (fun _ h => XT.ldiv X.here hx rfl hd rfl hy h) k
theorem w_lrem (X : Stand p l e R s m args below meth c T locs cells slots) (hx : p.tables.exec = Jvm.exec) {x y : Int64} (hd : decode c.code pc = .ok (.lrem, 1)) (hy : y ≠ 0) (hp : pc + 1 = pc') (k : Wp p e s below C S Q T (mkF m pc' Ls (Value.long (x % y) :: st))) : Wp p e s below C S Q T (mkF m pc Ls (Value.long y :: Value.long x :: st)) := by
  subst hp
  exact Wp.via (fun _ h => XT.lrem X.here hx rfl hd rfl hy (by rw [lrem_mod]; exact h)) k
theorem w_lshl (X : Stand p l e R s m args below meth c T locs cells slots) (hx : p.tables.exec = Jvm.exec) {x : Int64} {y : Int32} (hd : decode c.code pc = .ok (.lshl, 1))  (hp : pc + 1 = pc') (k : Wp p e s below C S Q T (mkF m pc' Ls (Value.long (x <<< (y.toInt64 &&& 63)) :: st))) : Wp p e s below C S Q T (mkF m pc Ls (Value.int y :: Value.long x :: st)) := by
  subst hp
  exact Wp.via (fun _ h => XT.lshl X.here hx rfl hd rfl h) k
theorem w_lshr (X : Stand p l e R s m args below meth c T locs cells slots) (hx : p.tables.exec = Jvm.exec) {x : Int64} {y : Int32} (hd : decode c.code pc = .ok (.lshr, 1))  (hp : pc + 1 = pc') (k : Wp p e s below C S Q T (mkF m pc' Ls (Value.long (x >>> (y.toInt64 &&& 63)) :: st))) : Wp p e s below C S Q T (mkF m pc Ls (Value.int y :: Value.long x :: st)) := by
  subst hp
  exact Wp.via (fun _ h => XT.lshr X.here hx rfl hd rfl h) k
theorem w_lushr (X : Stand p l e R s m args below meth c T locs cells slots) (hx : p.tables.exec = Jvm.exec) {x : Int64} {y : Int32} (hd : decode c.code pc = .ok (.lushr, 1))  (hp : pc + 1 = pc') (k : Wp p e s below C S Q T (mkF m pc' Ls (Value.long (XT.ushrL x y) :: st))) : Wp p e s below C S Q T (mkF m pc Ls (Value.int y :: Value.long x :: st)) := by
  subst hp
  exact Wp.via (fun _ h => XT.lushr X.here hx rfl hd rfl h) k
theorem w_lcmp (X : Stand p l e R s m args below meth c T locs cells slots) (hx : p.tables.exec = Jvm.exec) {x y : Int64} (hd : decode c.code pc = .ok (.lcmp, 1))  (hp : pc + 1 = pc') (k : Wp p e s below C S Q T (mkF m pc' Ls (Value.int (XT.cmpL x y) :: st))) : Wp p e s below C S Q T (mkF m pc Ls (Value.long y :: Value.long x :: st)) := by
  subst hp
  exact Wp.via (fun _ h => XT.lcmp X.here hx rfl hd rfl h) k
theorem w_ineg (X : Stand p l e R s m args below meth c T locs cells slots) (hx : p.tables.exec = Jvm.exec) {x : Int32} (hd : decode c.code pc = .ok (.ineg, 1))  (hp : pc + 1 = pc') (k : Wp p e s below C S Q T (mkF m pc' Ls (Value.int (-x) :: st))) : Wp p e s below C S Q T (mkF m pc Ls (Value.int x :: st)) := by
  subst hp
  exact Wp.via (fun _ h => XS.ineg X.here hx rfl hd rfl h) k
theorem w_lneg (X : Stand p l e R s m args below meth c T locs cells slots) (hx : p.tables.exec = Jvm.exec) {x : Int64} (hd : decode c.code pc = .ok (.lneg, 1))  (hp : pc + 1 = pc') (k : Wp p e s below C S Q T (mkF m pc' Ls (Value.long (-x) :: st))) : Wp p e s below C S Q T (mkF m pc Ls (Value.long x :: st)) := by
  subst hp
  exact Wp.via (fun _ h => XT.lneg X.here hx rfl hd rfl h) k
theorem w_i2l (X : Stand p l e R s m args below meth c T locs cells slots) (hx : p.tables.exec = Jvm.exec) {x : Int32} (hd : decode c.code pc = .ok (.i2l, 1))  (hp : pc + 1 = pc') (k : Wp p e s below C S Q T (mkF m pc' Ls (Value.long x.toInt64 :: st))) : Wp p e s below C S Q T (mkF m pc Ls (Value.int x :: st)) := by
  subst hp
  exact Wp.via (fun _ h => XT.i2l X.here hx rfl hd rfl h) k
theorem w_l2i (X : Stand p l e R s m args below meth c T locs cells slots) (hx : p.tables.exec = Jvm.exec) {x : Int64} (hd : decode c.code pc = .ok (.l2i, 1))  (hp : pc + 1 = pc') (k : Wp p e s below C S Q T (mkF m pc' Ls (Value.int x.toInt32 :: st))) : Wp p e s below C S Q T (mkF m pc Ls (Value.long x :: st)) := by
  subst hp
  exact Wp.via (fun _ h => XT.l2i X.here hx rfl hd rfl h) k
theorem w_i2b (X : Stand p l e R s m args below meth c T locs cells slots) (hx : p.tables.exec = Jvm.exec) {x : Int32} (hd : decode c.code pc = .ok (.i2b, 1))  (hp : pc + 1 = pc') (k : Wp p e s below C S Q T (mkF m pc' Ls (Value.int x.toInt8.toInt32 :: st))) : Wp p e s below C S Q T (mkF m pc Ls (Value.int x :: st)) := by
  subst hp
  exact Wp.via (fun _ h => XT.i2b X.here hx rfl hd rfl h) k
theorem w_i2c (X : Stand p l e R s m args below meth c T locs cells slots) (hx : p.tables.exec = Jvm.exec) {x : Int32} (hd : decode c.code pc = .ok (.i2c, 1))  (hp : pc + 1 = pc') (k : Wp p e s below C S Q T (mkF m pc' Ls (Value.int x.toUInt32.toUInt16.toUInt32.toInt32 :: st))) : Wp p e s below C S Q T (mkF m pc Ls (Value.int x :: st)) := by
  subst hp
  exact Wp.via (fun _ h => XT.i2c X.here hx rfl hd rfl h) k
theorem w_iinc (X : Stand p l e R s m args below meth c T locs cells slots) (hx : p.tables.exec = Jvm.exec) {k : Nat} {cst : Int} {v : Int32} {l' : Array Slot} (hd : decode c.code pc = .ok (.iinc k cst, 3)) (hl : Ls[k]? = some (.val (.int v))) (hl' : storeLocals Ls k (.int (v + Int32.ofInt cst)) = some l') (hp : pc + 3 = pc') (k : Wp p e s below C S Q T (mkF m pc' l' (st))) : Wp p e s below C S Q T (mkF m pc Ls (st)) := by
  subst hp
  exact Wp.via (fun _ h => XS.iinc X.here hx rfl hd hl hl' h) k
theorem w_dup (X : Stand p l e R s m args below meth c T locs cells slots) (hx : p.tables.exec = Jvm.exec) {x : Value} (hd : decode c.code pc = .ok (.dup, 1)) (hc : x.category = 1) (hp : pc + 1 = pc') (k : Wp p e s below C S Q T (mkF m pc' Ls (x :: x :: st))) : Wp p e s below C S Q T (mkF m pc Ls (x :: st)) := by
  subst hp
  exact Wp.via (fun _ h => XS.dup X.here hx rfl hd rfl hc h) k
theorem w_dup2 (X : Stand p l e R s m args below meth c T locs cells slots) (hx : p.tables.exec = Jvm.exec) {x y : Value} (hd : decode c.code pc = .ok (.dup2, 1)) (hc : x.category = 1) (hc' : y.category = 1) (hp : pc + 1 = pc') (k : Wp p e s below C S Q T (mkF m pc' Ls (x :: y :: x :: y :: st))) : Wp p e s below C S Q T (mkF m pc Ls (x :: y :: st)) := by
  subst hp
  exact Wp.via (fun _ h => XT.dup2 X.here hx rfl hd rfl hc hc' h) k
theorem w_dup2L (X : Stand p l e R s m args below meth c T locs cells slots) (hx : p.tables.exec = Jvm.exec) {x : Int64} (hd : decode c.code pc = .ok (.dup2, 1))  (hp : pc + 1 = pc') (k : Wp p e s below C S Q T (mkF m pc' Ls (Value.long x :: Value.long x :: st))) : Wp p e s below C S Q T (mkF m pc Ls (Value.long x :: st)) := by
  subst hp
  exact Wp.via (fun _ h => XT.dup2L X.here hx rfl hd rfl h) k
theorem w_dupX1 (X : Stand p l e R s m args below meth c T locs cells slots) (hx : p.tables.exec = Jvm.exec) {x y : Value} (hd : decode c.code pc = .ok (.dup_x1, 1)) (hc : x.category = 1) (hc' : y.category = 1) (hp : pc + 1 = pc') (k : Wp p e s below C S Q T (mkF m pc' Ls (x :: y :: x :: st))) : Wp p e s below C S Q T (mkF m pc Ls (x :: y :: st)) := by
  subst hp
  exact Wp.via (fun _ h => XT.dupX1 X.here hx rfl hd rfl hc hc' h) k
theorem w_pop (X : Stand p l e R s m args below meth c T locs cells slots) (hx : p.tables.exec = Jvm.exec) {x : Value} (hd : decode c.code pc = .ok (.pop, 1)) (hc : x.category = 1) (hp : pc + 1 = pc') (k : Wp p e s below C S Q T (mkF m pc' Ls (st))) : Wp p e s below C S Q T (mkF m pc Ls (x :: st)) := by
  subst hp
  exact Wp.via (fun _ h => XT.pop X.here hx rfl hd rfl hc h) k
theorem w_goto (X : Stand p l e R s m args below meth c T locs cells slots) (hx : p.tables.exec = Jvm.exec) {o : Int} (hd : decode c.code pc = .ok (.goto o, 3)) (ho : 0 ≤ (pc : Int) + o) (hp : ((pc : Int) + o).toNat = pc') (k : Wp p e s below C S Q T (mkF m pc' Ls st)) : Wp p e s below C S Q T (mkF m pc Ls st) :=
  Wp.via (fun _ h => XS.goto X.here hx rfl (pc0 := pc) (pc' := pc') rfl hd ho hp h) k
theorem w_icmp_eq (X : Stand p l e R s m args below meth c T locs cells slots) (hx : p.tables.exec = Jvm.exec) {o : Int} {pcY : Nat} {x y : Int32} (hd : decode c.code pc = .ok (.if_icmp .eq o, 3)) (ho : 0 ≤ (pc : Int) + o) (hy : ((pc : Int) + o).toNat = pcY) (hp : pc + 3 = pc') (kY : x = y → Wp p e s below C S Q T (mkF m pcY Ls st)) (kN : ¬ x = y → Wp p e s below C S Q T (mkF m pc' Ls st)) : Wp p e s below C S Q T (mkF m pc Ls (Value.int y :: Value.int x :: st)) := by
  by_cases q : x = y
  · exact Wp.via (fun _ h => XS.icmpYes X.here hx rfl (pc0 := pc) (pc' := pcY) rfl hd rfl (teq q).1 ho hy h) (kY q)
  · exact Wp.via (fun _ h => XS.icmpNo X.here hx rfl hd rfl (feq (by simpa using q)).1 h) (by subst hp; exact kN (by simpa using q))
theorem w_if_eq (X : Stand p l e R s m args below meth c T locs cells slots) (hx : p.tables.exec = Jvm.exec) {o : Int} {pcY : Nat} {x : Int32} (hd : decode c.code pc = .ok (.ifCond .eq o, 3)) (ho : 0 ≤ (pc : Int) + o) (hy : ((pc : Int) + o).toNat = pcY) (hp : pc + 3 = pc') (kY : x = 0 → Wp p e s below C S Q T (mkF m pcY Ls st)) (kN : ¬ x = 0 → Wp p e s below C S Q T (mkF m pc' Ls st)) : Wp p e s below C S Q T (mkF m pc Ls (Value.int x :: st)) := by
  by_cases q : x = 0
  · exact Wp.via (fun _ h => XS.ifYes X.here hx rfl (pc0 := pc) (pc' := pcY) rfl hd rfl ((if0 _ _).trans (teq q).1) ho hy h) (kY q)
  · exact Wp.via (fun _ h => XS.ifNo X.here hx rfl hd rfl ((if0 _ _).trans (feq (by simpa using q)).1) h) (by subst hp; exact kN (by simpa using q))
theorem w_icmp_ne (X : Stand p l e R s m args below meth c T locs cells slots) (hx : p.tables.exec = Jvm.exec) {o : Int} {pcY : Nat} {x y : Int32} (hd : decode c.code pc = .ok (.if_icmp .ne o, 3)) (ho : 0 ≤ (pc : Int) + o) (hy : ((pc : Int) + o).toNat = pcY) (hp : pc + 3 = pc') (kY : ¬ x = y → Wp p e s below C S Q T (mkF m pcY Ls st)) (kN : x = y → Wp p e s below C S Q T (mkF m pc' Ls st)) : Wp p e s below C S Q T (mkF m pc Ls (Value.int y :: Value.int x :: st)) := by
  by_cases q : ¬ x = y
  · exact Wp.via (fun _ h => XS.icmpYes X.here hx rfl (pc0 := pc) (pc' := pcY) rfl hd rfl (feq q).2 ho hy h) (kY q)
  · exact Wp.via (fun _ h => XS.icmpNo X.here hx rfl hd rfl (teq (by simpa using q)).2 h) (by subst hp; exact kN (by simpa using q))
theorem w_if_ne (X : Stand p l e R s m args below meth c T locs cells slots) (hx : p.tables.exec = Jvm.exec) {o : Int} {pcY : Nat} {x : Int32} (hd : decode c.code pc = .ok (.ifCond .ne o, 3)) (ho : 0 ≤ (pc : Int) + o) (hy : ((pc : Int) + o).toNat = pcY) (hp : pc + 3 = pc') (kY : ¬ x = 0 → Wp p e s below C S Q T (mkF m pcY Ls st)) (kN : x = 0 → Wp p e s below C S Q T (mkF m pc' Ls st)) : Wp p e s below C S Q T (mkF m pc Ls (Value.int x :: st)) := by
  by_cases q : ¬ x = 0
  · exact Wp.via (fun _ h => XS.ifYes X.here hx rfl (pc0 := pc) (pc' := pcY) rfl hd rfl ((if0 _ _).trans (feq q).2) ho hy h) (kY q)
  · exact Wp.via (fun _ h => XS.ifNo X.here hx rfl hd rfl ((if0 _ _).trans (teq (by simpa using q)).2) h) (by subst hp; exact kN (by simpa using q))
theorem w_icmp_lt (X : Stand p l e R s m args below meth c T locs cells slots) (hx : p.tables.exec = Jvm.exec) {o : Int} {pcY : Nat} {x y : Int32} (hd : decode c.code pc = .ok (.if_icmp .lt o, 3)) (ho : 0 ≤ (pc : Int) + o) (hy : ((pc : Int) + o).toNat = pcY) (hp : pc + 3 = pc') (kY : x < y → Wp p e s below C S Q T (mkF m pcY Ls st)) (kN : ¬ x < y → Wp p e s below C S Q T (mkF m pc' Ls st)) : Wp p e s below C S Q T (mkF m pc Ls (Value.int y :: Value.int x :: st)) := by
  by_cases q : x < y
  · exact Wp.via (fun _ h => XS.icmpYes X.here hx rfl (pc0 := pc) (pc' := pcY) rfl hd rfl (tlt q).1 ho hy h) (kY q)
  · exact Wp.via (fun _ h => XS.icmpNo X.here hx rfl hd rfl (flt (by simpa using q)).1 h) (by subst hp; exact kN (by simpa using q))
theorem w_if_lt (X : Stand p l e R s m args below meth c T locs cells slots) (hx : p.tables.exec = Jvm.exec) {o : Int} {pcY : Nat} {x : Int32} (hd : decode c.code pc = .ok (.ifCond .lt o, 3)) (ho : 0 ≤ (pc : Int) + o) (hy : ((pc : Int) + o).toNat = pcY) (hp : pc + 3 = pc') (kY : x < 0 → Wp p e s below C S Q T (mkF m pcY Ls st)) (kN : ¬ x < 0 → Wp p e s below C S Q T (mkF m pc' Ls st)) : Wp p e s below C S Q T (mkF m pc Ls (Value.int x :: st)) := by
  by_cases q : x < 0
  · exact Wp.via (fun _ h => XS.ifYes X.here hx rfl (pc0 := pc) (pc' := pcY) rfl hd rfl ((if0 _ _).trans (tlt q).1) ho hy h) (kY q)
  · exact Wp.via (fun _ h => XS.ifNo X.here hx rfl hd rfl ((if0 _ _).trans (flt (by simpa using q)).1) h) (by subst hp; exact kN (by simpa using q))
theorem w_icmp_ge (X : Stand p l e R s m args below meth c T locs cells slots) (hx : p.tables.exec = Jvm.exec) {o : Int} {pcY : Nat} {x y : Int32} (hd : decode c.code pc = .ok (.if_icmp .ge o, 3)) (ho : 0 ≤ (pc : Int) + o) (hy : ((pc : Int) + o).toNat = pcY) (hp : pc + 3 = pc') (kY : ¬ x < y → Wp p e s below C S Q T (mkF m pcY Ls st)) (kN : x < y → Wp p e s below C S Q T (mkF m pc' Ls st)) : Wp p e s below C S Q T (mkF m pc Ls (Value.int y :: Value.int x :: st)) := by
  by_cases q : ¬ x < y
  · exact Wp.via (fun _ h => XS.icmpYes X.here hx rfl (pc0 := pc) (pc' := pcY) rfl hd rfl (flt q).2.1 ho hy h) (kY q)
  · exact Wp.via (fun _ h => XS.icmpNo X.here hx rfl hd rfl (tlt (by simpa using q)).2.1 h) (by subst hp; exact kN (by simpa using q))
theorem w_if_ge (X : Stand p l e R s m args below meth c T locs cells slots) (hx : p.tables.exec = Jvm.exec) {o : Int} {pcY : Nat} {x : Int32} (hd : decode c.code pc = .ok (.ifCond .ge o, 3)) (ho : 0 ≤ (pc : Int) + o) (hy : ((pc : Int) + o).toNat = pcY) (hp : pc + 3 = pc') (kY : ¬ x < 0 → Wp p e s below C S Q T (mkF m pcY Ls st)) (kN : x < 0 → Wp p e s below C S Q T (mkF m pc' Ls st)) : Wp p e s below C S Q T (mkF m pc Ls (Value.int x :: st)) := by
  by_cases q : ¬ x < 0
  · exact Wp.via (fun _ h => XS.ifYes X.here hx rfl (pc0 := pc) (pc' := pcY) rfl hd rfl ((if0 _ _).trans (flt q).2.1) ho hy h) (kY q)
  · exact Wp.via (fun _ h => XS.ifNo X.here hx rfl hd rfl ((if0 _ _).trans (tlt (by simpa using q)).2.1) h) (by subst hp; exact kN (by simpa using q))
theorem w_icmp_gt (X : Stand p l e R s m args below meth c T locs cells slots) (hx : p.tables.exec = Jvm.exec) {o : Int} {pcY : Nat} {x y : Int32} (hd : decode c.code pc = .ok (.if_icmp .gt o, 3)) (ho : 0 ≤ (pc : Int) + o) (hy : ((pc : Int) + o).toNat = pcY) (hp : pc + 3 = pc') (kY : y < x → Wp p e s below C S Q T (mkF m pcY Ls st)) (kN : ¬ y < x → Wp p e s below C S Q T (mkF m pc' Ls st)) : Wp p e s below C S Q T (mkF m pc Ls (Value.int y :: Value.int x :: st)) := by
  by_cases q : y < x
  · exact Wp.via (fun _ h => XS.icmpYes X.here hx rfl (pc0 := pc) (pc' := pcY) rfl hd rfl (tlt q).2.2.1 ho hy h) (kY q)
  · exact Wp.via (fun _ h => XS.icmpNo X.here hx rfl hd rfl (flt (by simpa using q)).2.2.1 h) (by subst hp; exact kN (by simpa using q))
theorem w_if_gt (X : Stand p l e R s m args below meth c T locs cells slots) (hx : p.tables.exec = Jvm.exec) {o : Int} {pcY : Nat} {x : Int32} (hd : decode c.code pc = .ok (.ifCond .gt o, 3)) (ho : 0 ≤ (pc : Int) + o) (hy : ((pc : Int) + o).toNat = pcY) (hp : pc + 3 = pc') (kY : 0 < x → Wp p e s below C S Q T (mkF m pcY Ls st)) (kN : ¬ 0 < x → Wp p e s below C S Q T (mkF m pc' Ls st)) : Wp p e s below C S Q T (mkF m pc Ls (Value.int x :: st)) := by
  by_cases q : 0 < x
  · exact Wp.via (fun _ h => XS.ifYes X.here hx rfl (pc0 := pc) (pc' := pcY) rfl hd rfl ((if0 _ _).trans (tlt q).2.2.1) ho hy h) (kY q)
  · exact Wp.via (fun _ h => XS.ifNo X.here hx rfl hd rfl ((if0 _ _).trans (flt (by simpa using q)).2.2.1) h) (by subst hp; exact kN (by simpa using q))
theorem w_icmp_le (X : Stand p l e R s m args below meth c T locs cells slots) (hx : p.tables.exec = Jvm.exec) {o : Int} {pcY : Nat} {x y : Int32} (hd : decode c.code pc = .ok (.if_icmp .le o, 3)) (ho : 0 ≤ (pc : Int) + o) (hy : ((pc : Int) + o).toNat = pcY) (hp : pc + 3 = pc') (kY : ¬ y < x → Wp p e s below C S Q T (mkF m pcY Ls st)) (kN : y < x → Wp p e s below C S Q T (mkF m pc' Ls st)) : Wp p e s below C S Q T (mkF m pc Ls (Value.int y :: Value.int x :: st)) := by
  by_cases q : ¬ y < x
  · exact Wp.via (fun _ h => XS.icmpYes X.here hx rfl (pc0 := pc) (pc' := pcY) rfl hd rfl (flt q).2.2.2 ho hy h) (kY q)
  · exact Wp.via (fun _ h => XS.icmpNo X.here hx rfl hd rfl (tlt (by simpa using q)).2.2.2 h) (by subst hp; exact kN (by simpa using q))
theorem w_if_le (X : Stand p l e R s m args below meth c T locs cells slots) (hx : p.tables.exec = Jvm.exec) {o : Int} {pcY : Nat} {x : Int32} (hd : decode c.code pc = .ok (.ifCond .le o, 3)) (ho : 0 ≤ (pc : Int) + o) (hy : ((pc : Int) + o).toNat = pcY) (hp : pc + 3 = pc') (kY : ¬ 0 < x → Wp p e s below C S Q T (mkF m pcY Ls st)) (kN : 0 < x → Wp p e s below C S Q T (mkF m pc' Ls st)) : Wp p e s below C S Q T (mkF m pc Ls (Value.int x :: st)) := by
  by_cases q : ¬ 0 < x
  · exact Wp.via (fun _ h => XS.ifYes X.here hx rfl (pc0 := pc) (pc' := pcY) rfl hd rfl ((if0 _ _).trans (flt q).2.2.2) ho hy h) (kY q)
  · exact Wp.via (fun _ h => XS.ifNo X.here hx rfl hd rfl ((if0 _ _).trans (tlt (by simpa using q)).2.2.2) h) (by subst hp; exact kN (by simpa using q))
theorem own_cl_lt (x y : Int64) : XT.cmpL x y < 0 ↔ x < y := by
  unfold XT.cmpL
  by_cases h1 : y < x
  · rw [if_pos h1]
    refine ⟨fun h => absurd h (by decide), fun h => absurd (Int64.lt_trans h1 h) Int64.lt_irrefl⟩
  · rw [if_neg h1]
    by_cases h2 : x = y
    · rw [if_pos h2]
      refine ⟨fun h => absurd h (by decide), fun h => absurd (h2 ▸ h) Int64.lt_irrefl⟩
    · rw [if_neg h2]
      refine ⟨fun _ => ?_, fun _ => by decide⟩
      rw [Int64.lt_iff_toInt_lt] at *
      have : x.toInt ≠ y.toInt := fun q => h2 (Int64.toInt_inj.mp q)
      omega
theorem own_cl_gt (x y : Int64) : 0 < XT.cmpL x y ↔ y < x := by
  unfold XT.cmpL
  by_cases h1 : y < x
  · rw [if_pos h1]
    exact ⟨fun _ => h1, fun _ => by decide⟩
  · rw [if_neg h1]
    by_cases h2 : x = y
    · rw [if_pos h2]
      exact ⟨fun h => absurd h (by decide), fun h => absurd h h1⟩
    · rw [if_neg h2]
      exact ⟨fun h => absurd h (by decide), fun h => absurd h h1⟩
theorem own_cl_eq (x y : Int64) : XT.cmpL x y = 0 ↔ x = y := by
  unfold XT.cmpL
  by_cases h1 : y < x
  · rw [if_pos h1]
    exact ⟨fun h => absurd h (by decide), fun h => absurd (h ▸ h1) Int64.lt_irrefl⟩
  · rw [if_neg h1]
    by_cases h2 : x = y
    · rw [if_pos h2]
      exact ⟨fun _ => h2, fun _ => rfl⟩
    · rw [if_neg h2]
      exact ⟨fun h => absurd h (by decide), fun h => absurd h h2⟩
theorem w_lcmp_eq (X : Stand p l e R s m args below meth c T locs cells slots) (hx : p.tables.exec = Jvm.exec) {o : Int} {pcY pc1 : Nat} {x y : Int64} (hd : decode c.code pc = .ok (.lcmp, 1)) (hp1 : pc + 1 = pc1) (hd1 : decode c.code pc1 = .ok (.ifCond .eq o, 3)) (ho : 0 ≤ (pc1 : Int) + o) (hy : ((pc1 : Int) + o).toNat = pcY) (hp : pc1 + 3 = pc') (kY : x = y → Wp p e s below C S Q T (mkF m pcY Ls st)) (kN : ¬ x = y → Wp p e s below C S Q T (mkF m pc' Ls st)) : Wp p e s below C S Q T (mkF m pc Ls (Value.long y :: Value.long x :: st)) :=
  w_lcmp X hx hd hp1 (w_if_eq X hx hd1 ho hy hp (fun q => kY ((own_cl_eq x y).mp q)) (fun q => kN fun r => q ((own_cl_eq x y).mpr r)))
theorem w_lcmp_ne (X : Stand p l e R s m args below meth c T locs cells slots) (hx : p.tables.exec = Jvm.exec) {o : Int} {pcY pc1 : Nat} {x y : Int64} (hd : decode c.code pc = .ok (.lcmp, 1)) (hp1 : pc + 1 = pc1) (hd1 : decode c.code pc1 = .ok (.ifCond .ne o, 3)) (ho : 0 ≤ (pc1 : Int) + o) (hy : ((pc1 : Int) + o).toNat = pcY) (hp : pc1 + 3 = pc') (kY : ¬ x = y → Wp p e s below C S Q T (mkF m pcY Ls st)) (kN : x = y → Wp p e s below C S Q T (mkF m pc' Ls st)) : Wp p e s below C S Q T (mkF m pc Ls (Value.long y :: Value.long x :: st)) :=
  w_lcmp X hx hd hp1 (w_if_ne X hx hd1 ho hy hp (fun q => kY fun r => q ((own_cl_eq x y).mpr r)) (fun q => kN ((own_cl_eq x y).mp q)))
theorem w_lcmp_lt (X : Stand p l e R s m args below meth c T locs cells slots) (hx : p.tables.exec = Jvm.exec) {o : Int} {pcY pc1 : Nat} {x y : Int64} (hd : decode c.code pc = .ok (.lcmp, 1)) (hp1 : pc + 1 = pc1) (hd1 : decode c.code pc1 = .ok (.ifCond .lt o, 3)) (ho : 0 ≤ (pc1 : Int) + o) (hy : ((pc1 : Int) + o).toNat = pcY) (hp : pc1 + 3 = pc') (kY : x < y → Wp p e s below C S Q T (mkF m pcY Ls st)) (kN : ¬ x < y → Wp p e s below C S Q T (mkF m pc' Ls st)) : Wp p e s below C S Q T (mkF m pc Ls (Value.long y :: Value.long x :: st)) :=
  w_lcmp X hx hd hp1 (w_if_lt X hx hd1 ho hy hp (fun q => kY ((own_cl_lt x y).mp q)) (fun q => kN fun r => q ((own_cl_lt x y).mpr r)))
theorem w_lcmp_ge (X : Stand p l e R s m args below meth c T locs cells slots) (hx : p.tables.exec = Jvm.exec) {o : Int} {pcY pc1 : Nat} {x y : Int64} (hd : decode c.code pc = .ok (.lcmp, 1)) (hp1 : pc + 1 = pc1) (hd1 : decode c.code pc1 = .ok (.ifCond .ge o, 3)) (ho : 0 ≤ (pc1 : Int) + o) (hy : ((pc1 : Int) + o).toNat = pcY) (hp : pc1 + 3 = pc') (kY : ¬ x < y → Wp p e s below C S Q T (mkF m pcY Ls st)) (kN : x < y → Wp p e s below C S Q T (mkF m pc' Ls st)) : Wp p e s below C S Q T (mkF m pc Ls (Value.long y :: Value.long x :: st)) :=
  w_lcmp X hx hd hp1 (w_if_ge X hx hd1 ho hy hp (fun q => kY fun r => q ((own_cl_lt x y).mpr r)) (fun q => kN ((own_cl_lt x y).mp q)))
theorem w_lcmp_gt (X : Stand p l e R s m args below meth c T locs cells slots) (hx : p.tables.exec = Jvm.exec) {o : Int} {pcY pc1 : Nat} {x y : Int64} (hd : decode c.code pc = .ok (.lcmp, 1)) (hp1 : pc + 1 = pc1) (hd1 : decode c.code pc1 = .ok (.ifCond .gt o, 3)) (ho : 0 ≤ (pc1 : Int) + o) (hy : ((pc1 : Int) + o).toNat = pcY) (hp : pc1 + 3 = pc') (kY : y < x → Wp p e s below C S Q T (mkF m pcY Ls st)) (kN : ¬ y < x → Wp p e s below C S Q T (mkF m pc' Ls st)) : Wp p e s below C S Q T (mkF m pc Ls (Value.long y :: Value.long x :: st)) :=
  w_lcmp X hx hd hp1 (w_if_gt X hx hd1 ho hy hp (fun q => kY ((own_cl_gt x y).mp q)) (fun q => kN fun r => q ((own_cl_gt x y).mpr r)))
theorem w_lcmp_le (X : Stand p l e R s m args below meth c T locs cells slots) (hx : p.tables.exec = Jvm.exec) {o : Int} {pcY pc1 : Nat} {x y : Int64} (hd : decode c.code pc = .ok (.lcmp, 1)) (hp1 : pc + 1 = pc1) (hd1 : decode c.code pc1 = .ok (.ifCond .le o, 3)) (ho : 0 ≤ (pc1 : Int) + o) (hy : ((pc1 : Int) + o).toNat = pcY) (hp : pc1 + 3 = pc') (kY : ¬ y < x → Wp p e s below C S Q T (mkF m pcY Ls st)) (kN : y < x → Wp p e s below C S Q T (mkF m pc' Ls st)) : Wp p e s below C S Q T (mkF m pc Ls (Value.long y :: Value.long x :: st)) :=
  w_lcmp X hx hd hp1 (w_if_le X hx hd1 ho hy hp (fun q => kY fun r => q ((own_cl_gt x y).mpr r)) (fun q => kN ((own_cl_gt x y).mp q)))
theorem w_eqI {x z : Int32} (h : x = z) (k : Wp p e s below C S Q T (mkF m pc Ls (Value.int z :: st))) : Wp p e s below C S Q T (mkF m pc Ls (Value.int x :: st)) := h ▸ k
theorem w_genI {x : Int32} (k : ∀ z, z = x → Wp p e s below C S Q T (mkF m pc Ls (Value.int z :: st))) : Wp p e s below C S Q T (mkF m pc Ls (Value.int x :: st)) := k x rfl
theorem w_eqJ {x z : Int64} (h : x = z) (k : Wp p e s below C S Q T (mkF m pc Ls (Value.long z :: st))) : Wp p e s below C S Q T (mkF m pc Ls (Value.long x :: st)) := h ▸ k
theorem w_genJ {x : Int64} (k : ∀ z, z = x → Wp p e s below C S Q T (mkF m pc Ls (Value.long z :: st))) : Wp p e s below C S Q T (mkF m pc Ls (Value.long x :: st)) := k x rfl
theorem w_iincE (X : Stand p l e R s m args below meth c T locs cells slots) (hx : p.tables.exec = Jvm.exec) {k : Nat} {cst : Int} {v z : Int32} {l' : Array Slot} (hd : decode c.code pc = .ok (.iinc k cst, 3)) (hl : Ls[k]? = some (.val (.int v))) (hz : v + Int32.ofInt cst = z) (hl' : storeLocals Ls k (.int z) = some l') (hp : pc + 3 = pc') (k : Wp p e s below C S Q T (mkF m pc' l' (st))) : Wp p e s below C S Q T (mkF m pc Ls (st)) := by
  subst hp
  exact Wp.via (fun _ h => XS.iinc X.here hx rfl hd hl (hz ▸ hl') h) k
theorem w_ifnullY (X : Stand p l e R s m args below meth c T locs cells slots) (hx : p.tables.exec = Jvm.exec) {o : Int}  (hd : decode c.code pc = .ok (.ifnull o, 3)) (ho : 0 ≤ (pc : Int) + o) (hp : ((pc : Int) + o).toNat = pc') (k : Wp p e s below C S Q T (mkF m pc' Ls st)) : Wp p e s below C S Q T (mkF m pc Ls (Value.null :: st)) :=
  Wp.via (fun _ h => XS.ifnullYes X.here hx rfl (pc0 := pc) (pc' := pc') rfl hd rfl ho hp h) k
theorem w_ifnonnullY (X : Stand p l e R s m args below meth c T locs cells slots) (hx : p.tables.exec = Jvm.exec) {o : Int} {b : Addr} (hd : decode c.code pc = .ok (.ifnonnull o, 3)) (ho : 0 ≤ (pc : Int) + o) (hp : ((pc : Int) + o).toNat = pc') (k : Wp p e s below C S Q T (mkF m pc' Ls st)) : Wp p e s below C S Q T (mkF m pc Ls (Value.ref b :: st)) :=
  Wp.via (fun _ h => XT.ifnonnullYes X.here hx rfl (pc0 := pc) (pc' := pc') rfl hd rfl ho hp h) k
theorem w_ifnullN (X : Stand p l e R s m args below meth c T locs cells slots) (hx : p.tables.exec = Jvm.exec) {o : Int} {b : Addr} (hd : decode c.code pc = .ok (.ifnull o, 3))  (hp : pc + 3 = pc') (k : Wp p e s below C S Q T (mkF m pc' Ls (st))) : Wp p e s below C S Q T (mkF m pc Ls (Value.ref b :: st)) := by
  subst hp
  exact Wp.via (fun _ h => XS.ifnullNo X.here hx rfl hd rfl h) k
theorem w_ifnonnullN (X : Stand p l e R s m args below meth c T locs cells slots) (hx : p.tables.exec = Jvm.exec) {o : Int} (hd : decode c.code pc = .ok (.ifnonnull o, 3))  (hp : pc + 3 = pc') (k : Wp p e s below C S Q T (mkF m pc' Ls (st))) : Wp p e s below C S Q T (mkF m pc Ls (Value.null :: st)) := by
  subst hp
  exact Wp.via (fun _ h => XT.ifnonnullNo X.here hx rfl hd rfl h) k
theorem own_out {fs : List Frame} {v : Option Value} {g : JFrame} (hs : Steps p.tables e below (T.setTop g) (T.setFrames fs)) (h1 : (T.setFrames fs).status = .running) (h2 : Ended (T.setFrames fs) below (.returned v)) (h3 : s.WarmedH (T.setFrames fs).vm) (h4 : s.sameButNew ({ T.setFrames fs with vm := s.vm } : State) locs cells slots)
    (hc : cells ≤ C) (hl : slots ≤ S) (hq : Q v T.heap locs) : Wp p e s below C S Q T g :=
  ⟨_, _, hs, h1, h2, _, _, rfl, hq, ⟨_, rfl⟩, h3, h4.mono hc hl⟩
theorem w_ret_i (X : Stand p l e R s m args below meth c T locs cells slots) (hx : p.tables.exec = Jvm.exec) {z : Int32} (hret : meth.sig.returnType = some .int) (hlk : meth.locks = false) (hd : decode c.code pc = .ok (.ireturn, 1)) (hc : cells ≤ C) (hl : slots ≤ S) (hq : Q (some (.int z)) T.heap locs) : Wp p e s below C S Q T (mkF m pc Ls (Value.int z :: st)) := by
  obtain ⟨fs, hr, h1, h2, h3, h4⟩ := X.leave (v := some (.int z)) (fun h => by rw [hret] at h; cases h) hlk
  exact own_out (retI X hx hret hd hr) h1 h2 h3 h4 hc hl hq
theorem w_ret_n (X : Stand p l e R s m args below meth c T locs cells slots) (hx : p.tables.exec = Jvm.exec) {z z' : Int32} {t : FieldType} (hret : meth.sig.returnType = some t) (hlk : meth.locks = false) (ht : t = .boolean ∨ t = .byte ∨ t = .char ∨ t = .short) (hd : decode c.code pc = .ok (.ireturn, 1)) (hz : nar t z = z') (hc : cells ≤ C) (hl : slots ≤ S) (hq : Q (some (.int z')) T.heap locs) : Wp p e s below C S Q T (mkF m pc Ls (Value.int z :: st)) := by
  subst hz
  obtain ⟨fs, hr, h1, h2, h3, h4⟩ := X.leave (v := some (.int (nar t z))) (fun h => by rw [hret] at h; cases h) hlk
  exact own_out (retN X hx hret ht hd hr) h1 h2 h3 h4 hc hl hq
theorem w_ret_l (X : Stand p l e R s m args below meth c T locs cells slots) (hx : p.tables.exec = Jvm.exec) {z : Int64} (hret : meth.sig.returnType = some .long) (hlk : meth.locks = false) (hd : decode c.code pc = .ok (.lreturn, 1)) (hc : cells ≤ C) (hl : slots ≤ S) (hq : Q (some (.long z)) T.heap locs) : Wp p e s below C S Q T (mkF m pc Ls [Value.long z]) := by
  obtain ⟨fs, hr, h1, h2, h3, h4⟩ := X.leave (v := some (.long z)) (fun h => by rw [hret] at h; cases h) hlk
  exact own_out (X.lreturnOut hx hret hd hr) h1 h2 h3 h4 hc hl hq
theorem w_ret_a (X : Stand p l e R s m args below meth c T locs cells slots) (hx : p.tables.exec = Jvm.exec) {w : Value} {t : FieldType} (hw : w.isRef = true) (hret : meth.sig.returnType = some t) (ht : t.isReference = true) (hlk : meth.locks = false) (hd : decode c.code pc = .ok (.areturn, 1)) (hc : cells ≤ C) (hl : slots ≤ S) (hq : Q (some w) T.heap locs) : Wp p e s below C S Q T (mkF m pc Ls [w]) := by
  obtain ⟨fs, hr, h1, h2, h3, h4⟩ := X.leave (v := some w) (fun h => by rw [hret] at h; cases h) hlk
  exact own_out (X.areturnOut hx hw hret ht hd hr) h1 h2 h3 h4 hc hl hq
theorem w_ret_v (X : Stand p l e R s m args below meth c T locs cells slots) (hx : p.tables.exec = Jvm.exec) (hret : meth.sig.returnType = none) (hlk : meth.locks = false) (hd : decode c.code pc = .ok (.return_, 1)) (hc : cells ≤ C) (hl : slots ≤ S) (hq : Q none T.heap locs) : Wp p e s below C S Q T (mkF m pc Ls []) := by
  obtain ⟨fs, hr, h1, h2, h3, h4⟩ := X.leave (v := none) (fun h => rfl) hlk
  exact own_out (X.returnOut hx hret hd hr) h1 h2 h3 h4 hc hl hq
theorem own_call (X : Stand p l e R s m args below meth c T locs cells slots) (hx : p.tables.exec = Jvm.exec) {Z : State} {a0 : Array Value} {h : Heap} (hZ : Z.Warmed39 s.vm) (eT : T.heap = h) {own : String} {i : Nat} {y : MethodName} {bytes : ByteArray} {maxL : Nat} {ret : Option FieldType} {rm : Room} {W : Nat} {as' : Array Value} {Qc : Option Value → Heap → List Loc → Prop}
    (hown : s.vm.findClass own = some m.cls) (hml : Ls.size = c.maxLocals) (w1 : (Jvm.Cond.methodLink own i y).before a0 Z = true) (w2 : (Jvm.Cond.static y).before a0 Z = true) (w3 : (Jvm.Cond.initialized y.cls).before a0 Z = true) (w4 : (Jvm.Cond.code y bytes maxL ret).before a0 Z = true)
    (hM : MetFree l y (head1 [Jvm.Cond.code y bytes maxL ret] rm) (fun a U => a = as' ∧ Z.Warmed39 U.vm ∧ U.heap = h) (fun _ _ _ _ _ => True) (fun _ U o U' => ∃ v L, o = .returned v ∧ Qc v U'.heap L ∧ FrameEnd U o U' L rm.cells rm.slots))
    (hy : y.cls ≠ "java/lang/invoke/MethodHandle" ∧ y.cls ≠ "java/lang/invoke/VarHandle") (hf : rm.frames + 1 ≤ R.frames) (hl : W + (maxL + 11) + rm.locals ≤ R.locals) (hc : cells + rm.cells ≤ R.cells) (hsl : slots + rm.slots ≤ R.slots)
    {argsL rest : List Value} {ps : List FieldType} {r : Option FieldType} (hpd : parseMethodDescriptor y.desc = some ⟨ps, r⟩) (hlen : argsL.length = ps.length) (has : argsL.toArray = as') (hst : st = argsL.reverse ++ rest) (hW : (rest.map fun v => v.category).sum ≤ W) (hd : decode c.code pc = .ok (.invokestatic i, 3)) (hp : pc + 3 = pc')
    (k : ∀ (v : Option Value) (T' : State) (L : List Loc), Stand p l e R s m args below meth c T' (locs ++ L) (cells + rm.cells) (slots + rm.slots) → Qc v T'.heap L → Wp p e s below C S Q T' (mkF m pc' Ls (v.toList ++ rest))) : Wp p e s below C S Q T (mkF m pc Ls st) := by
  obtain ⟨v, _, ⟨T1, L1, k1, n1⟩, -, X1, ⟨Lc1, hQ1, l1, y1, z1⟩, st1⟩ := Jvm.LawKit.callS X hx (y := y) hown (mvT hZ w1) (mvT hZ w2) (mvT hZ w3) (mvT hZ w4) hy (backOf (W := W) hM hZ w4 w3 hf hl) (g := mkF m pc Ls st) rfl hml (argsL := argsL) (rest := rest) (lenOf hpd hlen) hst (by show 2 * 0 + _ ≤ _; omega) hd (fun _ _ => ⟨has, eT, hc, hsl⟩)
  dsimp only [Pt.U, Pt.locs, Pt.cells, Pt.slots] at X1 l1 y1 z1 st1 hQ1
  subst l1 y1 z1
  subst hp
  exact Wp.via st1 (k v T1 Lc1 X1 hQ1)
theorem own_cast {g g' : JFrame} (q : g = g') (k : Wp p e s below C S Q T g') : Wp p e s below C S Q T g := q ▸ k
def PureQ (r : Value) (h0 : Heap) (v : Option Value) (h : Heap) (L : List Loc) : Prop := v = some r ∧ L = [] ∧ h = h0
theorem w_callP (X : Stand p l e R s m args below meth c T locs cells slots) (hx : p.tables.exec = Jvm.exec) {Z : State} {a0 : Array Value} {h : Heap} (hZ : Z.Warmed39 s.vm) (eT : T.heap = h) {own : String} {i : Nat} {y : MethodName} {bytes : ByteArray} {maxL : Nat} {ret : Option FieldType} {rm : Room} {W : Nat} {as' : Array Value} {r0 : Value}
    (hown : s.vm.findClass own = some m.cls) (hml : Ls.size = c.maxLocals) (w1 : (Jvm.Cond.methodLink own i y).before a0 Z = true) (w2 : (Jvm.Cond.static y).before a0 Z = true) (w3 : (Jvm.Cond.initialized y.cls).before a0 Z = true) (w4 : (Jvm.Cond.code y bytes maxL ret).before a0 Z = true)
    (hM : MetFree l y (head1 [Jvm.Cond.code y bytes maxL ret] rm) (fun a U => a = as' ∧ Z.Warmed39 U.vm ∧ U.heap = h) (fun _ _ _ _ _ => True) (fun _ U o U' => ∃ v L, o = .returned v ∧ PureQ r0 h v U'.heap L ∧ FrameEnd U o U' L rm.cells rm.slots))
    (hy : y.cls ≠ "java/lang/invoke/MethodHandle" ∧ y.cls ≠ "java/lang/invoke/VarHandle") (hf : rm.frames + 1 ≤ R.frames) (hl : W + (maxL + 11) + rm.locals ≤ R.locals) (hc : rm.cells = 0) (hsl : rm.slots = 0) (hc' : cells ≤ R.cells) (hsl' : slots ≤ R.slots)
    {argsL rest : List Value} {ps : List FieldType} {r : Option FieldType} (hpd : parseMethodDescriptor y.desc = some ⟨ps, r⟩) (hlen : argsL.length = ps.length) (has : argsL.toArray = as') (hst : st = argsL.reverse ++ rest) (hW : (rest.map fun v => v.category).sum ≤ W) (hd : decode c.code pc = .ok (.invokestatic i, 3)) (hp : pc + 3 = pc')
    (k : ∀ (T' : State), Stand p l e R s m args below meth c T' locs cells slots → T'.heap = h → Wp p e s below C S Q T' (mkF m pc' Ls (r0 :: rest))) : Wp p e s below C S Q T (mkF m pc Ls st) := by
  refine own_call X hx hZ eT hown hml w1 w2 w3 w4 hM hy hf hl (by omega) (by omega) hpd hlen has hst hW hd hp ?_
  intro v T' L X' hq
  obtain ⟨rfl, rfl, e1⟩ := hq
  rw [List.append_nil, hc, hsl] at X'
  exact k T' X' e1
def PureQV (h0 : Heap) (v : Option Value) (h : Heap) (L : List Loc) : Prop := v = none ∧ L = [] ∧ h = h0
theorem w_callPV (X : Stand p l e R s m args below meth c T locs cells slots) (hx : p.tables.exec = Jvm.exec) {Z : State} {a0 : Array Value} {h : Heap} (hZ : Z.Warmed39 s.vm) (eT : T.heap = h) {own : String} {i : Nat} {y : MethodName} {bytes : ByteArray} {maxL : Nat} {ret : Option FieldType} {rm : Room} {W : Nat} {as' : Array Value}
    (hown : s.vm.findClass own = some m.cls) (hml : Ls.size = c.maxLocals) (w1 : (Jvm.Cond.methodLink own i y).before a0 Z = true) (w2 : (Jvm.Cond.static y).before a0 Z = true) (w3 : (Jvm.Cond.initialized y.cls).before a0 Z = true) (w4 : (Jvm.Cond.code y bytes maxL ret).before a0 Z = true)
    (hM : MetFree l y (head1 [Jvm.Cond.code y bytes maxL ret] rm) (fun a U => a = as' ∧ Z.Warmed39 U.vm ∧ U.heap = h) (fun _ _ _ _ _ => True) (fun _ U o U' => ∃ v L, o = .returned v ∧ PureQV h v U'.heap L ∧ FrameEnd U o U' L rm.cells rm.slots))
    (hy : y.cls ≠ "java/lang/invoke/MethodHandle" ∧ y.cls ≠ "java/lang/invoke/VarHandle") (hf : rm.frames + 1 ≤ R.frames) (hl : W + (maxL + 11) + rm.locals ≤ R.locals) (hc : rm.cells = 0) (hsl : rm.slots = 0) (hc' : cells ≤ R.cells) (hsl' : slots ≤ R.slots)
    {argsL rest : List Value} {ps : List FieldType} {r : Option FieldType} (hpd : parseMethodDescriptor y.desc = some ⟨ps, r⟩) (hlen : argsL.length = ps.length) (has : argsL.toArray = as') (hst : st = argsL.reverse ++ rest) (hW : (rest.map fun v => v.category).sum ≤ W) (hd : decode c.code pc = .ok (.invokestatic i, 3)) (hp : pc + 3 = pc')
    (k : ∀ (T' : State), Stand p l e R s m args below meth c T' locs cells slots → T'.heap = h → Wp p e s below C S Q T' (mkF m pc' Ls rest)) : Wp p e s below C S Q T (mkF m pc Ls st) := by
  refine own_call X hx hZ eT hown hml w1 w2 w3 w4 hM hy hf hl (by omega) (by omega) hpd hlen has hst hW hd hp ?_
  intro v T' L X' hq
  obtain ⟨rfl, rfl, e1⟩ := hq
  rw [List.append_nil, hc, hsl] at X'
  exact k T' X' e1
theorem own_body {x : MethodName} {code : ByteArray} {maxL : Nat} {ret : Option FieldType} {ws : List Jvm.Cond} {rm : Room} {Z : State} {as : Array Value} {h0 : Heap} (hx : plainFor x = true)
    (body : ∀ (p : Program) (e : Env) (s : State) (m : MethodId) (below : List Frame) (meth : Method) (c : Code) (T : State), p.tables.exec = Jvm.exec → c.code = code → c.maxLocals = maxL → meth.sig.returnType = ret → meth.locks = false → s.vm.findClass x.cls = some m.cls → meth.name = x.name → Z.Warmed39 s.vm → Stand p l e rm s m as below meth c T [] 0 0 → T.heap = h0 → Wp p e s below rm.cells rm.slots Q T (entryFrame m as maxL)) :
    MetFree l x (head1 (Jvm.Cond.code x code maxL ret :: ws) rm) (fun a U => a = as ∧ Z.Warmed39 U.vm ∧ U.heap = h0) (fun _ _ _ _ _ => True) (fun _ U o U' => ∃ v L, o = .returned v ∧ Q v U'.heap L ∧ FrameEnd U o U' L rm.cells rm.slots) := by
  refine MetFree.of_bodySF hx hisR ?_
  intro p e s m args below meth c s₁ Bd hml0 hP hK
  obtain ⟨rfl, hZ, hh⟩ := hP
  exact body p e s m below meth c s₁ Bd.exec Bd.bytes hml0 Bd.returns Bd.notSynchronized (findClass_of_methodNamed Bd.named) (name_of_methodNamed Bd.named Bd.method).1 hZ (Stand.of_body Bd) (by rw [← hh, Bd.state]; rfl)
end OwnW
/-! cells made since the start: explicit -/
def HP (n0 : Nat) (h : Heap) (cs : List Cell) : Prop := h.size = n0 + cs.length ∧ ∀ (i : Nat) (c : Cell), cs[i]? = some c → h[n0 + i]? = some c
def IsA (Z : State) (k : ClassId) (ty : FieldType) : Prop := (∃ kc, Z.vm.classes[k]? = some kc ∧ ∃ comp, kc.kind = .array comp ty) ∧ Z.vm.findClass ("[" ++ ty.toString) = some k
def AC (k : ClassId) (vs : List Value) : Cell := { cls := k, slots := vs.toArray, vm := .none }
def FldC (Z : State) (cell : Cell) (C n d : String) (v : Value) : Prop := ∃ (cf : ClassId) (k : Class) (i : Nat) (f : Field), Z.fieldFound? C n d = some (cf, k, i, f) ∧ f.isStatic = false ∧ cell.vm ≠ .unknown ∧ cell.vm.isStatics = false ∧ Z.vm.assignable cell.cls cf = true ∧ cell.slots[f.slot]? = some v
def ExaC (Z : State) (cell : Cell) (C : String) : Prop := ∃ (k : Class), Z.vm.findClass C = some cell.cls ∧ Z.vm.classes[cell.cls]? = some k ∧ cell.vm.isStatics = false ∧ (k.kind = .ordinary → cell.slots.size = k.instanceTypes.size)
def ObjF (Z : State) (cell : Cell) (C : String) (fl : List (String × String)) (vs : List Value) : Prop := ExaC Z cell C ∧ vs.length = fl.length ∧ ∀ (j : Nat) (n d : String) (v : Value), fl[j]? = some (n, d) → vs[j]? = some v → FldC Z cell C n d v
def Dis (Z : State) (C : String) (fl : List (String × String)) : Prop := ∀ (i j : Nat) (a b : String × String), fl[i]? = some a → fl[j]? = some b → i ≠ j → Jvm.RoadKit.slotOf Z C a.1 a.2 ≠ Jvm.RoadKit.slotOf Z C b.1 b.2
section OwnHP
variable {Z : State} {h h' : Heap} {n0 : Nat} {cs : List Cell} {i sl : Nat} {cell : Cell} {v : Value} {k : ClassId} {vs : List Value} {ty : FieldType} {C : String} {fl : List (String × String)}
theorem HP.nil (h : Heap) : HP h.size h [] := ⟨by simp, fun i c q => by simp at q⟩
theorem HP.push (P : HP n0 h cs) (c : Cell) : HP n0 (h.push c) (cs ++ [c]) := by
  refine ⟨by simp [P.1]; omega, fun i c' q => ?_⟩
  by_cases hi : i < cs.length
  · rw [List.getElem?_append_left hi] at q
    have := P.2 i c' q
    rw [Array.getElem?_push_lt (by rw [P.1]; omega)]
    rw [Array.getElem?_eq_getElem (by rw [P.1]; omega)] at this
    exact this
  · have hl : i < (cs ++ [c]).length := (List.getElem?_eq_some_iff.mp q).1
    have e : i = cs.length := by simp at hl; omega
    subst e
    rw [List.getElem?_append_right (Nat.le_refl _)] at q
    simp at q
    subst q
    rw [← P.1]; simp
theorem HP.wr (P : HP n0 h cs) (W : Wr h h' (n0 + i) sl v) (q : cs[i]? = some cell) : HP n0 h' (cs.set i (cell.setSlot sl v)) := by
  obtain ⟨c0, h1, h2, h3, rfl⟩ := W
  cases h1.symm.trans (P.2 i cell q)
  refine ⟨by simp [P.1], fun j c' r => ?_⟩
  by_cases e : i = j
  · subst e
    have hl : i < cs.length := (List.getElem?_eq_some_iff.mp q).1
    rw [List.getElem?_set_self hl] at r
    cases r
    rw [Array.getElem?_setIfInBounds_self_of_lt (by rw [P.1]; omega)]
  · rw [List.getElem?_set_ne e] at r
    rw [Array.getElem?_setIfInBounds_ne (by omega)]
    exact P.2 j c' r
theorem HP.arr (P : HP n0 h cs) (q : cs[i]? = some (AC k vs)) (a : IsA Z k ty) : Arr Z h (n0 + i) (AC k vs) ty := ⟨P.2 _ _ q, ⟨fun _ => by simp [AC], a.1⟩, by simp [AC]⟩
theorem HP.exaA (P : HP n0 h cs) (q : cs[i]? = some (AC k vs)) (a : IsA Z k ty) {ad : String} (had : "[" ++ ty.toString = ad) : Exa Z h (n0 + i) ad := by
  obtain ⟨⟨kc, h1, comp, h2⟩, h3⟩ := a
  exact ⟨AC k vs, kc, P.2 _ _ q, by rw [← had]; exact h3, h1, rfl, fun z => by rw [h2] at z; cases z⟩
theorem HP.fld (P : HP n0 h cs) (q : cs[i]? = some cell) {n d : String} (F : FldC Z cell C n d v) : Fld Z h (n0 + i) C n d v := by
  obtain ⟨cf, k, j, f, r⟩ := F
  exact ⟨cell, cf, k, j, f, P.2 _ _ q, r⟩
theorem HP.exa (P : HP n0 h cs) (q : cs[i]? = some cell) (F : ExaC Z cell C) : Exa Z h (n0 + i) C := by
  obtain ⟨k, r⟩ := F
  exact ⟨cell, k, P.2 _ _ q, r⟩
theorem AC.set (k : ClassId) (vs : List Value) (j : Nat) (v : Value) : (AC k vs).setSlot j v = AC k (vs.set j v) := by simp [AC, Cell.setSlot]
theorem ExaC.set (F : ExaC Z cell C) (sl : Nat) (v : Value) : ExaC Z (cell.setSlot sl v) C := by
  obtain ⟨k, h1, h2, h3, h4⟩ := F
  exact ⟨k, h1, h2, h3, fun q => by rw [← h4 q]; simp [Cell.setSlot]⟩
theorem ObjF.set (F : ObjF Z cell C fl vs) (D : Dis Z C fl) {j : Nat} {n d : String} (hj : fl[j]? = some (n, d)) (v : Value) : ObjF Z (cell.setSlot (Jvm.RoadKit.slotOf Z C n d) v) C fl (vs.set j v) := by
  obtain ⟨E, hl, F⟩ := F
  refine ⟨E.set _ _, by simp [hl], fun i n' d' v' h1 h2 => ?_⟩
  have hjl : j < fl.length := (List.getElem?_eq_some_iff.mp hj).1
  by_cases e : j = i
  · subst e
    cases hj.symm.trans h1
    rw [List.getElem?_set_self (by omega)] at h2
    cases h2
    obtain ⟨cf, k, x, f, g1, g2, g3, g4, g5, g6⟩ := F j n d _ hj (List.getElem?_eq_getElem (by omega))
    have es : Jvm.RoadKit.slotOf Z C n d = f.slot := by simp [Jvm.RoadKit.slotOf, g1]
    refine ⟨cf, k, x, f, g1, g2, g3, g4, g5, ?_⟩
    rw [es]
    have := (Array.getElem?_eq_some_iff.mp g6).1
    simp [Cell.setSlot, this]
  · rw [List.getElem?_set_ne e] at h2
    obtain ⟨cf, k, x, f, g1, g2, g3, g4, g5, g6⟩ := F i n' d' v' h1 h2
    have es : Jvm.RoadKit.slotOf Z C n' d' = f.slot := by simp [Jvm.RoadKit.slotOf, g1]
    have ne := D j i _ _ hj h1 e
    refine ⟨cf, k, x, f, g1, g2, g3, g4, g5, ?_⟩
    show ((cell.slots.setIfInBounds _ _)[_]?) = _
    rw [Array.getElem?_setIfInBounds_ne (by rw [← es]; exact ne)]
    exact g6
theorem own_dis {a0 : Array Value} (hL : ∀ (j : Nat) (n d : String), fl[j]? = some (n, d) → Laid Z a0 C C n d ∧ ∃ t, parseFieldDescriptor d = some t) (hN : (fl.map Prod.fst).Nodup) : Dis Z C fl := by
  intro i j a b h1 h2 hne
  obtain ⟨L1, t1, p1⟩ := hL i a.1 a.2 h1
  obtain ⟨L2, t2, p2⟩ := hL j b.1 b.2 h2
  refine slot_ne L1 L2 (fun q => hne ?_) p1 p2
  have i1 := (List.getElem?_eq_some_iff.mp h1).1
  have i2 := (List.getElem?_eq_some_iff.mp h2).1
  have e1 : (fl.map Prod.fst)[i]? = some a.1 := by simp [h1]
  have e2 : (fl.map Prod.fst)[j]? = some b.1 := by simp [h2]
  exact (List.getElem?_inj (by simpa using i1) hN).mp (by rw [e1, e2, q])
theorem own_one {n0 : Nat} {L : List Loc} (N : Fr n0 L) (i sl : Nat) : Fr n0 (L ++ [⟨n0 + i, sl⟩]) := N.app fun y hy => by cases List.mem_singleton.mp hy; exact Nat.le_add_right _ _
theorem own_idx {j : Int32} {jn N : Nat} (hj : j.toInt = (jn : Int)) (hn : jn < N) : j.toNatClampNeg = jn ∧ ¬ (j < 0 ∨ N ≤ j.toNatClampNeg) := by
  have e : j.toNatClampNeg = jn := by simp [Int32.toNatClampNeg, hj]
  refine ⟨e, ?_⟩
  rw [e, Int32.lt_iff_toInt_lt, hj]
  simp
  omega
end OwnHP
theorem own_get {α : Type} {f : α → Value} {l : List α} {j : Nat} {d : α} (h : j < l.length) : (List.map f l)[j]? = some (f (l.getD j d)) := by
  simp [List.getD_eq_getElem?_getD, h]
theorem own_sl {α : Type} {l : List α} {i N : Nat} {x : α} (h : l.length = N) : (l.set i x).length = N := by simp [h]
theorem own_llt {α : Type} {l : List α} {j N : Nat} (h : l.length = N) (q : j < N) : j < l.length := by omega
theorem own_oN {n : Nat} (h : n < 2147483648) : (Int32.ofNat n).toInt = (n : Int) := Int32.toInt_ofNat_of_lt h
theorem own_oadd (a b : Nat) : Int32.ofNat a + Int32.ofNat b = Int32.ofNat (a + b) := (Int32.ofNat_add a b).symm
theorem own_osub {a b : Nat} (h : b ≤ a) : Int32.ofNat a - Int32.ofNat b = Int32.ofNat (a - b) := by
  have := own_oadd (a - b) b
  rw [Nat.sub_add_cancel h] at this
  rw [← this, Int32.add_sub_cancel]
theorem own_omul (a b : Nat) : Int32.ofNat a * Int32.ofNat b = Int32.ofNat (a * b) := (Int32.ofNat_mul a b).symm
theorem own_olt {a b : Nat} (ha : a < 2147483648) (hb : b < 2147483648) : Int32.ofNat a < Int32.ofNat b ↔ a < b := by
  rw [Int32.lt_iff_toInt_lt, own_oN ha, own_oN hb]; omega
theorem own_oeq {a b : Nat} (ha : a < 2147483648) (hb : b < 2147483648) : Int32.ofNat a = Int32.ofNat b ↔ a = b := by
  rw [← Int32.toInt_inj, own_oN ha, own_oN hb]; omega
theorem own_len {α : Type} {f : α → Value} {l : List α} {N : Nat} (h : l.length = N) : (List.map f l).length.toInt32 = Int32.ofNat N := by
  rw [List.length_map, h]
section OwnH
variable {p : Program} {l : Launch} {e : Env} {R : Room} {s : State} {m : MethodId} {args : Array Value} {below : List Frame} {meth : Method} {c : Code} {T : State} {locs : List Loc} {cells slots : Nat} {C S : Nat} {Q : Option Value → Heap → List Loc → Prop} {pc pc' : Nat} {Ls : Array Slot} {st : List Value}
  {Z : State} {a0 : Array Value} {n0 : Nat} {cs : List Cell}
theorem w_newarr (X : Stand p l e R s m args below meth c T locs cells slots) (hx : p.tables.exec = Jvm.exec) (hZ : Z.Warmed39 s.vm) (P : HP n0 T.heap cs) {aty : ArrayType} {ty : FieldType} (hty : newarray.typeOf aty = ty) (w : (Jvm.Cond.arrayClass ty).before a0 Z = true) (hd : decode c.code pc = .ok (.newarray aty, 2))
    {n : Int32} {N j : Nat} (hn : n.toInt = (N : Int)) (hN : N ≤ 1000) (hc : cells + 1 ≤ R.cells) (hl : slots + N ≤ R.slots) (hj : cs.length = j) (hp : pc + 2 = pc')
    (k : ∀ (T' : State) (kA : ClassId), Stand p l e R s m args below meth c T' locs (cells + 1) (slots + N) → IsA Z kA ty → HP n0 T'.heap (cs ++ [AC kA (List.replicate N (defaultValue ty))]) → Wp p e s below C S Q T' (mkF m pc' Ls (.ref (n0 + j) :: st))) :
    Wp p e s below C S Q T (mkF m pc Ls (.int n :: st)) := by
  subst hp hty hj
  have en : n.toNatClampNeg = N := by simp [Int32.toNatClampNeg, hn]
  have hcb : componentBytes (newarray.typeOf aty) ≤ 8 := by cases aty <;> decide
  obtain ⟨cA, kA, comp, h1, h2, h3, X', st1⟩ := X.newarrayPrim hx (mvA hZ w) (g := mkF m pc Ls (.int n :: st)) rfl hd rfl (by rw [Int32.lt_iff_toInt_lt, hn]; simp) (by rw [en]; exact Nat.le_trans (Nat.mul_le_mul hN hcb) (by decide)) hc (by rw [en]; exact hl)
  rw [en] at X' st1
  rw [hZ.alike.findClass] at h1
  obtain ⟨kZ, z1, -⟩ := Vm.findClass_spec h1
  obtain ⟨k', z2, z3⟩ := hZ.alike.2.2 _ _ z1
  cases h2.symm.trans z2
  rw [P.1] at st1
  have ec : ({ cls := cA, slots := Array.replicate N (defaultValue (newarray.typeOf aty)), vm := .none } : Cell) = AC cA (List.replicate N (defaultValue (newarray.typeOf aty))) := by simp [AC]
  rw [ec] at X' st1
  exact Wp.via st1 (k _ cA X' ⟨⟨kZ, z1, comp, by rw [← h3, z3]⟩, h1⟩ (P.push _))
theorem w_newarrC (X : Stand p l e R s m args below meth c T locs cells slots) (hx : p.tables.exec = Jvm.exec) (hZ : Z.Warmed39 s.vm) (P : HP n0 T.heap cs) {aty : ArrayType} {ty : FieldType} (hty : newarray.typeOf aty = ty) (w : (Jvm.Cond.arrayClass ty).before a0 Z = true) (hd : decode c.code pc = .ok (.newarray aty, 2))
    {n : Int32} {N j cap : Nat} (hcap : N ≤ cap) (hn : n.toInt = (N : Int)) (hN : N ≤ 1000) (hc : cells + 1 ≤ R.cells) (hl : slots + cap ≤ R.slots) (hj : cs.length = j) (hp : pc + 2 = pc')
    (k : ∀ (T' : State) (kA : ClassId), Stand p l e R s m args below meth c T' locs (cells + 1) (slots + cap) → IsA Z kA ty → HP n0 T'.heap (cs ++ [AC kA (List.replicate N (defaultValue ty))]) → Wp p e s below C S Q T' (mkF m pc' Ls (.ref (n0 + j) :: st))) :
    Wp p e s below C S Q T (mkF m pc Ls (.int n :: st)) := by
  subst hp hty hj
  have en : n.toNatClampNeg = N := by simp [Int32.toNatClampNeg, hn]
  have hcb : componentBytes (newarray.typeOf aty) ≤ 8 := by cases aty <;> decide
  obtain ⟨cA, kA, comp, h1, h2, h3, X', st1⟩ := X.newarrayPrim hx (mvA hZ w) (g := mkF m pc Ls (.int n :: st)) rfl hd rfl (by rw [Int32.lt_iff_toInt_lt, hn]; simp) (by rw [en]; exact Nat.le_trans (Nat.mul_le_mul hN hcb) (by decide)) hc (by rw [en]; omega)
  rw [en] at X' st1
  rw [hZ.alike.findClass] at h1
  obtain ⟨kZ, z1, -⟩ := Vm.findClass_spec h1
  obtain ⟨k', z2, z3⟩ := hZ.alike.2.2 _ _ z1
  cases h2.symm.trans z2
  rw [P.1] at st1
  have ec : ({ cls := cA, slots := Array.replicate N (defaultValue (newarray.typeOf aty)), vm := .none } : Cell) = AC cA (List.replicate N (defaultValue (newarray.typeOf aty))) := by simp [AC]
  rw [ec] at X' st1
  exact Wp.via st1 (k _ cA (X'.more (Nat.le_refl _) (by omega)) ⟨⟨kZ, z1, comp, by rw [← h3, z3]⟩, h1⟩ (P.push _))
theorem own_mr {n0 : Nat} {h : Heap} {cs : List Cell} {k : ClassId} {N : Nat} (P : HP n0 h (cs ++ [AC k (List.replicate N (Value.int 0))])) : HP n0 h (cs ++ [AC k (List.map Value.int (List.replicate N 0))]) := by rw [List.map_replicate]; exact P
theorem w_arrlen (X : Stand p l e R s m args below meth c T locs cells slots) (hx : p.tables.exec = Jvm.exec) (hZ : Z.Warmed39 s.vm) (P : HP n0 T.heap cs) {i : Nat} {kA : ClassId} {vs : List Value} {ty : FieldType} (q : cs[i]? = some (AC kA vs)) (hk : IsA Z kA ty) (hd : decode c.code pc = .ok (.arraylength, 1)) {z : Int32} (hz : vs.length.toInt32 = z) (hp : pc + 1 = pc')
    (k : Wp p e s below C S Q T (mkF m pc' Ls (.int z :: st))) : Wp p e s below C S Q T (mkF m pc Ls (.ref (n0 + i) :: st)) := by
  subst hp hz
  have A := P.arr q hk
  refine Wp.via (fun t ht => X.arraylength hx (cell := AC kA vs) A.1 (State.isArrayOf_alike hZ.alike A.2.1) (g := mkF m pc Ls (.ref (n0 + i) :: st)) rfl (rest := st) rfl hd _ ?_) k
  simpa [AC] using ht
theorem w_iaload (X : Stand p l e R s m args below meth c T locs cells slots) (hx : p.tables.exec = Jvm.exec) (hZ : Z.Warmed39 s.vm) (P : HP n0 T.heap cs) {i : Nat} {kA : ClassId} {vs : List Value} (q : cs[i]? = some (AC kA vs)) (hk : IsA Z kA .int) (hd : decode c.code pc = .ok (.iaload, 1)) {j : Int32} {jn : Nat} (hj : j.toInt = (jn : Int)) {v : Value} (hv : vs[jn]? = some v) (hp : pc + 1 = pc')
    (k : Wp p e s below C S Q T (mkF m pc' Ls (v :: st))) : Wp p e s below C S Q T (mkF m pc Ls (.int j :: .ref (n0 + i) :: st)) := by
  subst hp
  have A := P.arr q hk
  have hl : jn < (AC kA vs).slots.size := by simp [AC]; exact (List.getElem?_eq_some_iff.mp hv).1
  obtain ⟨e1, e2⟩ := own_idx hj hl
  exact Wp.via (fun t ht => X.iaload hx (j := j) (v := v) A.1 (State.isArrayOf_alike hZ.alike A.2.1) A.2.2 e2 (by rw [e1]; simpa [AC] using hv) (g := mkF m pc Ls (.int j :: .ref (n0 + i) :: st)) rfl rfl hd _ ht) k
theorem w_laload (X : Stand p l e R s m args below meth c T locs cells slots) (hx : p.tables.exec = Jvm.exec) (hZ : Z.Warmed39 s.vm) (P : HP n0 T.heap cs) {i : Nat} {kA : ClassId} {vs : List Value} (q : cs[i]? = some (AC kA vs)) (hk : IsA Z kA .long) (hd : decode c.code pc = .ok (.laload, 1)) {j : Int32} {jn : Nat} (hj : j.toInt = (jn : Int)) {v : Value} (hv : vs[jn]? = some v) (hp : pc + 1 = pc')
    (k : Wp p e s below C S Q T (mkF m pc' Ls (v :: st))) : Wp p e s below C S Q T (mkF m pc Ls (.int j :: .ref (n0 + i) :: st)) := by
  subst hp
  have A := P.arr q hk
  have hl : jn < (AC kA vs).slots.size := by simp [AC]; exact (List.getElem?_eq_some_iff.mp hv).1
  obtain ⟨e1, e2⟩ := own_idx hj hl
  exact Wp.via (fun t ht => X.laload hx (j := j) (v := v) A.1 (State.isArrayOf_alike hZ.alike A.2.1) A.2.2 e2 (by rw [e1]; simpa [AC] using hv) (g := mkF m pc Ls (.int j :: .ref (n0 + i) :: st)) rfl rfl hd _ ht) k
theorem w_baload (X : Stand p l e R s m args below meth c T locs cells slots) (hx : p.tables.exec = Jvm.exec) (hZ : Z.Warmed39 s.vm) (P : HP n0 T.heap cs) {i : Nat} {kA : ClassId} {vs : List Value} (q : cs[i]? = some (AC kA vs)) (hk : IsA Z kA .byte) (hd : decode c.code pc = .ok (.baload, 1)) {j : Int32} {jn : Nat} (hj : j.toInt = (jn : Int)) {v : Value} (hv : vs[jn]? = some v) (hp : pc + 1 = pc')
    (k : Wp p e s below C S Q T (mkF m pc' Ls (v :: st))) : Wp p e s below C S Q T (mkF m pc Ls (.int j :: .ref (n0 + i) :: st)) := by
  subst hp
  have A := P.arr q hk
  have hl : jn < (AC kA vs).slots.size := by simp [AC]; exact (List.getElem?_eq_some_iff.mp hv).1
  obtain ⟨e1, e2⟩ := own_idx hj hl
  exact Wp.via (fun t ht => X.baloadBytes hx (j := j) (v := v) A.1 (State.isArrayOf_alike hZ.alike A.2.1) A.2.2 e2 (by rw [e1]; simpa [AC] using hv) (g := mkF m pc Ls (.int j :: .ref (n0 + i) :: st)) rfl rfl hd _ ht) k
theorem w_caload (X : Stand p l e R s m args below meth c T locs cells slots) (hx : p.tables.exec = Jvm.exec) (hZ : Z.Warmed39 s.vm) (P : HP n0 T.heap cs) {i : Nat} {kA : ClassId} {vs : List Value} (q : cs[i]? = some (AC kA vs)) (hk : IsA Z kA .char) (hd : decode c.code pc = .ok (.caload, 1)) {j : Int32} {jn : Nat} (hj : j.toInt = (jn : Int)) {v : Value} (hv : vs[jn]? = some v) (hp : pc + 1 = pc')
    (k : Wp p e s below C S Q T (mkF m pc' Ls (v :: st))) : Wp p e s below C S Q T (mkF m pc Ls (.int j :: .ref (n0 + i) :: st)) := by
  subst hp
  have A := P.arr q hk
  have hl : jn < (AC kA vs).slots.size := by simp [AC]; exact (List.getElem?_eq_some_iff.mp hv).1
  obtain ⟨e1, e2⟩ := own_idx hj hl
  exact Wp.via (fun t ht => X.caload hx (j := j) (v := v) A.1 (State.isArrayOf_alike hZ.alike A.2.1) A.2.2 e2 (by rw [e1]; simpa [AC] using hv) (g := mkF m pc Ls (.int j :: .ref (n0 + i) :: st)) rfl rfl hd _ ht) k
theorem w_iastore (X : Stand p l e R s m args below meth c T locs cells slots) (hx : p.tables.exec = Jvm.exec) (hZ : Z.Warmed39 s.vm) (N : Fr n0 locs) (P : HP n0 T.heap cs) {i : Nat} {kA : ClassId} {vs : List Value} (q : cs[i]? = some (AC kA vs)) (hk : IsA Z kA .int) (hd : decode c.code pc = .ok (.iastore, 1)) {j : Int32} {x : Int32} {jn : Nat} (hj : j.toInt = (jn : Int)) (hl : jn < vs.length) (hp : pc + 1 = pc')
    (k : ∀ (T' : State) (L' : List Loc), Fr n0 L' → Stand p l e R s m args below meth c T' L' cells slots → HP n0 T'.heap (cs.set i (AC kA (vs.set jn (.int x)))) → Wp p e s below C S Q T' (mkF m pc' Ls st)) : Wp p e s below C S Q T (mkF m pc Ls (.int x :: .int j :: .ref (n0 + i) :: st)) := by
  subst hp
  have A := P.arr q hk
  obtain ⟨e1, e2⟩ := own_idx hj (N := (AC kA vs).slots.size) (by simpa [AC] using hl)
  obtain ⟨T', h', X', eh, W, st1⟩ := stI X hx hZ rfl A e2 (g := mkF m pc Ls (.int x :: .int j :: .ref (n0 + i) :: st)) rfl rfl hd
  rw [e1] at X' W
  subst eh
  have P' := P.wr W q
  rw [AC.set] at P'
  exact Wp.via st1 (k T' _ (own_one N _ _) X' P')
theorem w_lastore (X : Stand p l e R s m args below meth c T locs cells slots) (hx : p.tables.exec = Jvm.exec) (hZ : Z.Warmed39 s.vm) (N : Fr n0 locs) (P : HP n0 T.heap cs) {i : Nat} {kA : ClassId} {vs : List Value} (q : cs[i]? = some (AC kA vs)) (hk : IsA Z kA .long) (hd : decode c.code pc = .ok (.lastore, 1)) {j : Int32} {x : Int64} {jn : Nat} (hj : j.toInt = (jn : Int)) (hl : jn < vs.length) (hp : pc + 1 = pc')
    (k : ∀ (T' : State) (L' : List Loc), Fr n0 L' → Stand p l e R s m args below meth c T' L' cells slots → HP n0 T'.heap (cs.set i (AC kA (vs.set jn (.long x)))) → Wp p e s below C S Q T' (mkF m pc' Ls st)) : Wp p e s below C S Q T (mkF m pc Ls (.long x :: .int j :: .ref (n0 + i) :: st)) := by
  subst hp
  have A := P.arr q hk
  obtain ⟨e1, e2⟩ := own_idx hj (N := (AC kA vs).slots.size) (by simpa [AC] using hl)
  obtain ⟨T', h', X', eh, W, st1⟩ := stJ X hx hZ rfl A e2 (g := mkF m pc Ls (.long x :: .int j :: .ref (n0 + i) :: st)) rfl rfl hd
  rw [e1] at X' W
  subst eh
  have P' := P.wr W q
  rw [AC.set] at P'
  exact Wp.via st1 (k T' _ (own_one N _ _) X' P')
theorem w_bastore (X : Stand p l e R s m args below meth c T locs cells slots) (hx : p.tables.exec = Jvm.exec) (hZ : Z.Warmed39 s.vm) (N : Fr n0 locs) (P : HP n0 T.heap cs) {i : Nat} {kA : ClassId} {vs : List Value} (q : cs[i]? = some (AC kA vs)) (hk : IsA Z kA .byte) (hd : decode c.code pc = .ok (.bastore, 1)) {j : Int32} {x : Int32} {jn : Nat} (hj : j.toInt = (jn : Int)) (hl : jn < vs.length) (hp : pc + 1 = pc')
    (k : ∀ (T' : State) (L' : List Loc), Fr n0 L' → Stand p l e R s m args below meth c T' L' cells slots → HP n0 T'.heap (cs.set i (AC kA (vs.set jn (.int (nar .byte x))))) → Wp p e s below C S Q T' (mkF m pc' Ls st)) : Wp p e s below C S Q T (mkF m pc Ls (.int x :: .int j :: .ref (n0 + i) :: st)) := by
  subst hp
  have A := P.arr q hk
  obtain ⟨e1, e2⟩ := own_idx hj (N := (AC kA vs).slots.size) (by simpa [AC] using hl)
  obtain ⟨T', h', X', eh, W, st1⟩ := stB X hx hZ rfl A e2 (g := mkF m pc Ls (.int x :: .int j :: .ref (n0 + i) :: st)) rfl rfl hd
  rw [e1] at X' W
  subst eh
  have P' := P.wr W q
  rw [AC.set] at P'
  exact Wp.via st1 (k T' _ (own_one N _ _) X' P')
theorem w_bastoreE (X : Stand p l e R s m args below meth c T locs cells slots) (hx : p.tables.exec = Jvm.exec) (hZ : Z.Warmed39 s.vm) (N : Fr n0 locs) (P : HP n0 T.heap cs) {i : Nat} {kA : ClassId} {vs : List Value} (q : cs[i]? = some (AC kA vs)) (hk : IsA Z kA .byte) (hd : decode c.code pc = .ok (.bastore, 1)) {j : Int32} {x z : Int32} {jn : Nat} (hz : nar .byte x = z) (hj : j.toInt = (jn : Int)) (hl : jn < vs.length) (hp : pc + 1 = pc')
    (k : ∀ (T' : State) (L' : List Loc), Fr n0 L' → Stand p l e R s m args below meth c T' L' cells slots → HP n0 T'.heap (cs.set i (AC kA (vs.set jn (.int z)))) → Wp p e s below C S Q T' (mkF m pc' Ls st)) : Wp p e s below C S Q T (mkF m pc Ls (.int x :: .int j :: .ref (n0 + i) :: st)) := by
  subst hp hz
  have A := P.arr q hk
  obtain ⟨e1, e2⟩ := own_idx hj (N := (AC kA vs).slots.size) (by simpa [AC] using hl)
  obtain ⟨T', h', X', eh, W, st1⟩ := stB X hx hZ rfl A e2 (g := mkF m pc Ls (.int x :: .int j :: .ref (n0 + i) :: st)) rfl rfl hd
  rw [e1] at X' W
  subst eh
  have P' := P.wr W q
  rw [AC.set] at P'
  exact Wp.via st1 (k T' _ (own_one N _ _) X' P')
theorem w_getf (X : Stand p l e R s m args below meth c T locs cells slots) (hx : p.tables.exec = Jvm.exec) (hZ : Z.Warmed39 s.vm) {own O n d : String} {idx : Nat} (hown : s.vm.findClass own = some m.cls) (w : (Jvm.Cond.fieldLink own idx O n d).before a0 Z = true) (P : HP n0 T.heap cs) {i : Nat} {cell : Cell} (q : cs[i]? = some cell) {fl : List (String × String)} {vs : List Value} (F : ObjF Z cell O fl vs) (j : Nat) (hf : fl[j]? = some (n, d)) {v : Value} (hv : vs[j]? = some v) (hd : decode c.code pc = .ok (.getfield idx, 3)) (hp : pc + 3 = pc')
    (k : ∀ (T' : State), Stand p l e R s m args below meth c T' locs cells slots → HP n0 T'.heap cs → Wp p e s below C S Q T' (mkF m pc' Ls (v :: st))) : Wp p e s below C S Q T (mkF m pc Ls (.ref (n0 + i) :: st)) := by
  subst hp
  obtain ⟨T', X', eh, st1⟩ := getF X hx hZ hown (host := "") (Or.inl w) Via.refl rfl (P.fld q (F.2.2 j n d v hf hv)) (g := mkF m pc Ls (.ref (n0 + i) :: st)) rfl rfl hd
  exact Wp.via st1 (k T' X' (by rw [eh]; exact P))
theorem w_putf (X : Stand p l e R s m args below meth c T locs cells slots) (hx : p.tables.exec = Jvm.exec) (hZ : Z.Warmed39 s.vm) {own O n d : String} {idx kk : Nat} {ty : FieldType} (hown : s.vm.findClass own = some m.cls) (w : (Jvm.Cond.fieldLink own idx O n d).before a0 Z = true) (N : Fr n0 locs) (P : HP n0 T.heap cs) {i : Nat} {cell : Cell} (q : cs[i]? = some cell) {fl : List (String × String)} {vs : List Value} (F : ObjF Z cell O fl vs) (D : Dis Z O fl) (j : Nat) (hf : fl[j]? = some (n, d))
    (L : (Jvm.Cond.lays O O n d).before a0 Z = true ∨ ((Jvm.Cond.laysFinal O O n d).before a0 Z = true ∧ own = O ∧ meth.name = "<init>")) (wi : (Jvm.Cond.instantiable O kk).before a0 Z = true) (hty : parseFieldDescriptor d = some ty) {v : Value} (hn : narrow ty v = v) (hfit : fits ty v = true) (hd : decode c.code pc = .ok (.putfield idx, 3)) (hp : pc + 3 = pc')
    (k : ∀ (T' : State) (L' : List Loc) (cell' : Cell), Fr n0 L' → Stand p l e R s m args below meth c T' L' cells slots → HP n0 T'.heap (cs.set i cell') → ObjF Z cell' O fl (vs.set j v) → Wp p e s below C S Q T' (mkF m pc' Ls st)) : Wp p e s below C S Q T (mkF m pc Ls (v :: .ref (n0 + i) :: st)) := by
  subst hp
  have hjl : j < vs.length := by rw [F.2.1]; exact (List.getElem?_eq_some_iff.mp hf).1
  obtain ⟨T', h', X', eh, W, st1⟩ := putF X hx hZ hown (host := "") (Or.inl w) Via.refl rfl (P.fld q (F.2.2 j n d _ hf (List.getElem?_eq_getElem hjl))) (P.exa q F.1) L wi hty hn hfit (g := mkF m pc Ls (v :: .ref (n0 + i) :: st)) rfl rfl hd
  subst eh
  exact Wp.via st1 (k T' _ _ (own_one N _ _) X' (P.wr W q) (F.set D hf v))
theorem w_new (X : Stand p l e R s m args below meth c T locs cells slots) (hx : p.tables.exec = Jvm.exec) (hZ : Z.Warmed39 s.vm) {own K : String} {idx n j : Nat} (hown : s.vm.findClass own = some m.cls) (w : (Jvm.Cond.classLink own idx K).before a0 Z = true) (wi : (Jvm.Cond.instantiable K n).before a0 Z = true) (wz : (Jvm.Cond.initialized K).before a0 Z = true) (P : HP n0 T.heap cs)
    (fl : List (String × String)) (vs : List Value) (hfl : vs.length = fl.length) (hlay : ∀ (j : Nat) (n d : String) (v : Value), fl[j]? = some (n, d) → vs[j]? = some v → Laid Z a0 K K n d ∧ ∃ ty, parseFieldDescriptor d = some ty ∧ defaultValue ty = v) (hd : decode c.code pc = .ok (.new idx, 3)) (hc : cells + 1 ≤ R.cells) (hl : slots + n ≤ R.slots) (hj : cs.length = j) (hp : pc + 3 = pc')
    (k : ∀ (T' : State) (cell' : Cell), Stand p l e R s m args below meth c T' locs (cells + 1) (slots + n) → HP n0 T'.heap (cs ++ [cell']) → ObjF Z cell' K fl vs → Wp p e s below C S Q T' (mkF m pc' Ls (.ref (n0 + j) :: st))) : Wp p e s below C S Q T (mkF m pc Ls st) := by
  subst hp hj
  obtain ⟨vm', cC, kC, h1, h2, h3, h4, X', st1⟩ := X.newCold hx hown (mv hZ w) (mv hZ wi) (mv hZ wz) (g := mkF m pc Ls st) rfl hd hc hl
  rw [hZ.alike.findClass] at h1
  obtain ⟨kZ, z1, -⟩ := Vm.findClass_spec h1
  obtain ⟨k', z2, z3⟩ := hZ.alike.2.2 _ _ z1
  cases h2.symm.trans z2
  have ei : kC.instanceTypes = kZ.instanceTypes := by rw [z3]
  rw [P.1] at st1
  refine Wp.via st1 (k _ _ X' (P.push _) ⟨⟨kZ, h1, z1, rfl, fun _ => by simp [ei]⟩, hfl, fun j n d v a b => ?_⟩)
  obtain ⟨L, ty, ht, hv⟩ := hlay j n d v a b
  obtain ⟨c1, k1, cf, kf, i, f, a1, a2, a3, a4, a5, a6, -⟩ := L.spec
  cases h1.symm.trans a1
  cases z1.symm.trans a2
  exact ⟨cf, kf, i, f, a3, a4, by simp, rfl, a5, by simp [ei, a6, (State.fieldFound?_type a3 ht).2, hv]⟩
theorem w_initO (X : Stand p l e R s m args below meth c T locs cells slots) (hx : p.tables.exec = Jvm.exec) (hZ : Z.Warmed39 s.vm) {own : String} {idx : Nat} (hown : s.vm.findClass own = some m.cls) (hml : Ls.size = c.maxLocals) (w1 : (Jvm.Cond.methodLink own idx Lib.objectInit).before a0 Z = true) (w2 : (Jvm.Cond.instanceMethod Lib.objectInit).before a0 Z = true)
    (w3 : (Jvm.Cond.code Lib.objectInit ⟨#[0xb1]⟩ 1 none).before a0 Z = true) (P : HP n0 T.heap cs) {a : Addr} (hd : decode c.code pc = .ok (.invokespecial idx, 3)) (hf : 1 ≤ R.frames) {W : Nat} (hW : (st.map fun v => v.category).sum ≤ W) (hl : W + 12 ≤ R.locals) (hp : pc + 3 = pc')
    (k : ∀ (T' : State), Stand p l e R s m args below meth c T' locs cells slots → HP n0 T'.heap cs → Wp p e s below C S Q T' (mkF m pc' Ls st)) : Wp p e s below C S Q T (mkF m pc Ls (.ref a :: st)) := by
  subst hp
  obtain ⟨T', X', eh, st1⟩ := initO X hx hZ hown w1 w2 w3 rfl (g := mkF m pc Ls (.ref a :: st)) rfl hml (rest := st) rfl hd hf (W := W) (by show 2 * 0 + _ ≤ _; omega) hl
  exact Wp.via st1 (k T' X' (by rw [eh]; exact P))
theorem own_callI (X : Stand p l e R s m args below meth c T locs cells slots) (hx : p.tables.exec = Jvm.exec) {h : Heap} (hZ : Z.Warmed39 s.vm) (eT : T.heap = h) {own : String} {i : Nat} {y : MethodName} {bytes : ByteArray} {maxL : Nat} {rm : Room} {W : Nat} {as' : Array Value} {Qc : Option Value → Heap → List Loc → Prop} (hy1 : y.name = "<init>")
    (hown : s.vm.findClass own = some m.cls) (hml : Ls.size = c.maxLocals) (w1 : (Jvm.Cond.methodLink own i y).before a0 Z = true) (w2 : (Jvm.Cond.instanceMethod y).before a0 Z = true) (w3 : (Jvm.Cond.initialized y.cls).before a0 Z = true) (w4 : (Jvm.Cond.code y bytes maxL none).before a0 Z = true)
    (hM : MetFree l y (head1 [Jvm.Cond.code y bytes maxL none] rm) (fun a U => a = as' ∧ Z.Warmed39 U.vm ∧ U.heap = h) (fun _ _ _ _ _ => True) (fun _ U o U' => ∃ v L, o = .returned v ∧ Qc v U'.heap L ∧ FrameEnd U o U' L rm.cells rm.slots))
    (hy : y.cls ≠ "java/lang/invoke/MethodHandle" ∧ y.cls ≠ "java/lang/invoke/VarHandle") (hf : rm.frames + 1 ≤ R.frames) (hl : W + (maxL + 11) + rm.locals ≤ R.locals) (hc : cells + rm.cells ≤ R.cells) (hsl : slots + rm.slots ≤ R.slots)
    {a : Addr} {argsL rest : List Value} {ps : List FieldType} {r : Option FieldType} (hpd : parseMethodDescriptor y.desc = some ⟨ps, r⟩) (hlen : argsL.length = ps.length) (has : (.ref a :: argsL).toArray = as') (hst : st = argsL.reverse ++ .ref a :: rest) (hW : (rest.map fun v => v.category).sum ≤ W) (hd : decode c.code pc = .ok (.invokespecial i, 3)) (hp : pc + 3 = pc')
    (k : ∀ (v : Option Value) (T' : State) (L : List Loc), Stand p l e R s m args below meth c T' (locs ++ L) (cells + rm.cells) (slots + rm.slots) → Qc v T'.heap L → Wp p e s below C S Q T' (mkF m pc' Ls (v.toList ++ rest))) : Wp p e s below C S Q T (mkF m pc Ls st) := by
  obtain ⟨v, _, ⟨T1, L1, k1, n1⟩, -, X1, ⟨Lc1, hQ1, l1, y1, z1⟩, st1⟩ := X.specialBack hx (y := y) hy1 hown (mvT hZ w1) (mvT hZ w2) (mvT hZ w4) hy (backOf (W := W) hM hZ w4 w3 hf hl) (g := mkF m pc Ls st) rfl hml (Steps.refl _) (a := a) (argsL := argsL) (rest := rest) (lenOf hpd hlen) hst (by show 2 * 0 + _ ≤ _; omega) hd (fun _ _ => ⟨has, eT, hc, hsl⟩)
  dsimp only [Pt.U, Pt.locs, Pt.cells, Pt.slots] at X1 l1 y1 z1 st1 hQ1
  subst l1 y1 z1
  subst hp
  exact Wp.via (fun _ h => st1.trans h) (k v T1 Lc1 X1 hQ1)
theorem own_callV (X : Stand p l e R s m args below meth c T locs cells slots) (hx : p.tables.exec = Jvm.exec) {h : Heap} (hZ : Z.Warmed39 s.vm) (eT : T.heap = h) {own K : String} {i : Nat} {y : MethodName} {bytes : ByteArray} {maxL : Nat} {ret : Option FieldType} {rm : Room} {W : Nat} {as' : Array Value} {Qc : Option Value → Heap → List Loc → Prop}
    (hown : s.vm.findClass own = some m.cls) (hml : Ls.size = c.maxLocals) (w1 : (Jvm.Cond.methodLink own i y).before a0 Z = true) (w2 : (Jvm.Cond.declares y).before a0 Z = true) (w5 : (Jvm.Cond.selects K y y).before a0 Z = true) (w6 : (Jvm.Cond.instanceMethod y).before a0 Z = true) (w3 : (Jvm.Cond.initialized y.cls).before a0 Z = true) (w4 : (Jvm.Cond.code y bytes maxL ret).before a0 Z = true)
    (hM : MetFree l y (head1 [Jvm.Cond.code y bytes maxL ret] rm) (fun a U => a = as' ∧ Z.Warmed39 U.vm ∧ U.heap = h) (fun _ _ _ _ _ => True) (fun _ U o U' => ∃ v L, o = .returned v ∧ Qc v U'.heap L ∧ FrameEnd U o U' L rm.cells rm.slots))
    {a : Addr} (E : Exa Z h a K) (hy : y.cls ≠ "java/lang/invoke/MethodHandle" ∧ y.cls ≠ "java/lang/invoke/VarHandle") (hf : rm.frames + 1 ≤ R.frames) (hl : W + (maxL + 11) + rm.locals ≤ R.locals) (hc : cells + rm.cells ≤ R.cells) (hsl : slots + rm.slots ≤ R.slots)
    {argsL rest : List Value} {ps : List FieldType} {r : Option FieldType} (hpd : parseMethodDescriptor y.desc = some ⟨ps, r⟩) (hlen : argsL.length = ps.length) (has : (.ref a :: argsL).toArray = as') (hst : st = argsL.reverse ++ .ref a :: rest) (hW : (rest.map fun v => v.category).sum ≤ W) (hd : decode c.code pc = .ok (.invokevirtual i, 3)) (hp : pc + 3 = pc')
    (k : ∀ (v : Option Value) (T' : State) (L : List Loc), Stand p l e R s m args below meth c T' (locs ++ L) (cells + rm.cells) (slots + rm.slots) → Qc v T'.heap L → Wp p e s below C S Q T' (mkF m pc' Ls (v.toList ++ rest))) : Wp p e s below C S Q T (mkF m pc Ls st) := by
  obtain ⟨cq, kq, qa, qb, qc⟩ := isOf hZ eT E
  obtain ⟨v, _, ⟨T1, L1, k1, n1⟩, -, X1, ⟨Lc1, hQ1, l1, y1, z1⟩, st1⟩ := X.virtualBack hx (y := y) (z := y) hown (mvT hZ w1) (mvT hZ w2) (notFace_of_selects (args := #[]) (mvT hZ w5)) (mvT hZ w5) (mvT hZ w6) hy (backOf (W := W) hM hZ w4 w3 hf hl) qa qc (g := mkF m pc Ls st) rfl hml (Steps.refl _) (argsL := argsL) (rest := rest) (lenOf hpd hlen) hst (by show 2 * 0 + _ ≤ _; omega) hd (fun _ _ => ⟨has, eT, hc, hsl⟩)
  dsimp only [Pt.U, Pt.locs, Pt.cells, Pt.slots] at X1 l1 y1 z1 st1 hQ1
  subst l1 y1 z1
  subst hp
  exact Wp.via (fun _ h => st1.trans h) (k v T1 Lc1 X1 hQ1)
theorem w_clone (X : Stand p l e R s m args below meth c T locs cells slots) (hx : p.tables.exec = Jvm.exec) (hZ : Z.Warmed39 s.vm) {own ad : String} {idx : Nat} (hown : s.vm.findClass own = some m.cls) (hml : Ls.size = c.maxLocals)
    (w1 : (Jvm.Cond.methodLink own idx ⟨ad, "clone", "()Ljava/lang/Object;"⟩).before a0 Z = true) (w2 : (Jvm.Cond.sameMethod ad "java/lang/Object" "clone" "()Ljava/lang/Object;").before a0 Z = true) (w3 : (Jvm.Cond.native ⟨"java/lang/Object", "clone", "()Ljava/lang/Object;"⟩).before a0 Z = true)
    (w4 : (Jvm.Cond.instanceMethod ⟨"java/lang/Object", "clone", "()Ljava/lang/Object;"⟩).before a0 Z = true) (w5 : (Jvm.Cond.selects ad ⟨ad, "clone", "()Ljava/lang/Object;"⟩ ⟨"java/lang/Object", "clone", "()Ljava/lang/Object;"⟩).before a0 Z = true) (w6 : (Jvm.Cond.castable ad "java/lang/Cloneable").before a0 Z = true)
    (P : HP n0 T.heap cs) {i : Nat} {kA : ClassId} {vs : List Value} {ty : FieldType} (q : cs[i]? = some (AC kA vs)) (hk : IsA Z kA ty) (had : "[" ++ ty.toString = ad) (hfit : ∀ v ∈ vs, fits ty v = true) (hd : decode c.code pc = .ok (.invokevirtual idx, 3)) (hf : 1 ≤ R.frames) {W N j : Nat} (hW : (st.map fun v => v.category).sum ≤ W) (hl : W + 14 ≤ R.locals) (hN : vs.length = N) (hc : cells + 1 ≤ R.cells) (hsl : slots + N ≤ R.slots) (hj : cs.length = j) (hp : pc + 3 = pc')
    (k : ∀ (T' : State), Stand p l e R s m args below meth c T' locs (cells + 1) (slots + N) → HP n0 T'.heap (cs ++ [AC kA vs]) → Wp p e s below C S Q T' (mkF m pc' Ls (.ref (n0 + j) :: st))) : Wp p e s below C S Q T (mkF m pc Ls (.ref (n0 + i) :: st)) := by
  subst hp hj hN
  have A := P.arr q hk
  have E := P.exaA q hk had
  have F : FitC Z (AC kA vs) := fitC_of A fun i hi v hv => hfit v (by simp [AC] at hv; exact List.mem_of_getElem? hv)
  obtain ⟨c1, cC, g1, g2, g3⟩ := Cond.castable_spec w6
  have e2 : Z.vm.findClass ad = some (AC kA vs).cls := by rw [← had]; exact hk.2
  cases e2.symm.trans g1
  have hal : Z.vm.Alike T.vm := hZ.alike.trans X.warmed.alike
  obtain ⟨vm', X', st1⟩ := X.cloneArray hx hown (mv hZ w1) (mv hZ w2) (mv hZ w3) (mv hZ w4) (mv hZ w5) (a := n0 + i) A.1 A.2.1.1 A.2.2 (by rw [hZ.alike.findClass]; exact e2) (by rw [hZ.alike.findClass]; exact g2) (by rw [hZ.alike.assignable]; exact g3)
    (fun i v hv => by have q := F i v hv; rw [← State.fitsSlot_setVm hal] at q; exact q) (g := mkF m pc Ls (.ref (n0 + i) :: st)) rfl hml rfl hd hf (by show 2 * 0 + _ + 14 ≤ _; omega) hc (by simpa [AC] using hsl)
    (by obtain ⟨-, k2, hk2, comp, hkind⟩ := A.2.1; rw [hZ.alike.clonesLoader]; exact Vm.clonesLoader_of_array hk2 hkind)
  rw [P.1] at st1
  have es : (AC kA vs).slots.size = vs.length := by simp [AC]
  rw [es] at X'
  exact Wp.via st1 (k _ X' (P.push _))
theorem w_ccastA (X : Stand p l e R s m args below meth c T locs cells slots) (hx : p.tables.exec = Jvm.exec) (hZ : Z.Warmed39 s.vm) {own ad : String} {idx : Nat} (hown : s.vm.findClass own = some m.cls) (w : (Jvm.Cond.classLink own idx ad).before a0 Z = true) (P : HP n0 T.heap cs) {i : Nat} {kA : ClassId} {vs : List Value} {ty : FieldType} (q : cs[i]? = some (AC kA vs)) (hk : IsA Z kA ty) (had : "[" ++ ty.toString = ad) (hd : decode c.code pc = .ok (.checkcast idx, 3)) (hp : pc + 3 = pc')
    (k : ∀ (T' : State), Stand p l e R s m args below meth c T' locs cells slots → HP n0 T'.heap cs → Wp p e s below C S Q T' (mkF m pc' Ls (.ref (n0 + i) :: st))) : Wp p e s below C S Q T (mkF m pc Ls (.ref (n0 + i) :: st)) := by
  subst hp
  obtain ⟨T', X', eh, st1⟩ := castY X hx hZ hown w rfl (Ins.self (P.exaA q hk had)) (g := mkF m pc Ls (.ref (n0 + i) :: st)) rfl rfl hd
  exact Wp.via st1 (k T' X' (by rw [eh]; exact P))
theorem w_ialoadL (X : Stand p l e R s m args below meth c T locs cells slots) (hx : p.tables.exec = Jvm.exec) (hZ : Z.Warmed39 s.vm) (P : HP n0 T.heap cs) {i : Nat} {kA : ClassId} {ll : List Int32} (q : cs[i]? = some (AC kA (List.map Value.int ll))) (hk : IsA Z kA .int) (hd : decode c.code pc = .ok (.iaload, 1)) {j : Int32} {jn : Nat} (hj : j.toInt = (jn : Int)) (hl : jn < ll.length) (hp : pc + 1 = pc')
    (k : Wp p e s below C S Q T (mkF m pc' Ls (.int (ll.getD jn 0) :: st))) : Wp p e s below C S Q T (mkF m pc Ls (.int j :: .ref (n0 + i) :: st)) :=
  w_iaload X hx hZ P q hk hd hj (own_get hl) hp k
theorem w_laloadL (X : Stand p l e R s m args below meth c T locs cells slots) (hx : p.tables.exec = Jvm.exec) (hZ : Z.Warmed39 s.vm) (P : HP n0 T.heap cs) {i : Nat} {kA : ClassId} {ll : List Int64} (q : cs[i]? = some (AC kA (List.map Value.long ll))) (hk : IsA Z kA .long) (hd : decode c.code pc = .ok (.laload, 1)) {j : Int32} {jn : Nat} (hj : j.toInt = (jn : Int)) (hl : jn < ll.length) (hp : pc + 1 = pc')
    (k : Wp p e s below C S Q T (mkF m pc' Ls (.long (ll.getD jn 0) :: st))) : Wp p e s below C S Q T (mkF m pc Ls (.int j :: .ref (n0 + i) :: st)) :=
  w_laload X hx hZ P q hk hd hj (own_get hl) hp k
theorem w_baloadL (X : Stand p l e R s m args below meth c T locs cells slots) (hx : p.tables.exec = Jvm.exec) (hZ : Z.Warmed39 s.vm) (P : HP n0 T.heap cs) {i : Nat} {kA : ClassId} {ll : List Int32} (q : cs[i]? = some (AC kA (List.map Value.int ll))) (hk : IsA Z kA .byte) (hd : decode c.code pc = .ok (.baload, 1)) {j : Int32} {jn : Nat} (hj : j.toInt = (jn : Int)) (hl : jn < ll.length) (hp : pc + 1 = pc')
    (k : Wp p e s below C S Q T (mkF m pc' Ls (.int (ll.getD jn 0) :: st))) : Wp p e s below C S Q T (mkF m pc Ls (.int j :: .ref (n0 + i) :: st)) :=
  w_baload X hx hZ P q hk hd hj (own_get hl) hp k
theorem w_iastoreL (X : Stand p l e R s m args below meth c T locs cells slots) (hx : p.tables.exec = Jvm.exec) (hZ : Z.Warmed39 s.vm) (N : Fr n0 locs) (P : HP n0 T.heap cs) {i : Nat} {kA : ClassId} {ll : List Int32} (q : cs[i]? = some (AC kA (List.map Value.int ll))) (hk : IsA Z kA .int) (hd : decode c.code pc = .ok (.iastore, 1)) {j : Int32} {x : Int32} {jn : Nat} (hj : j.toInt = (jn : Int)) (hl : jn < ll.length) (hp : pc + 1 = pc')
    (k : ∀ (T' : State) (L' : List Loc), Fr n0 L' → Stand p l e R s m args below meth c T' L' cells slots → HP n0 T'.heap (cs.set i (AC kA (List.map Value.int (ll.set jn x)))) → Wp p e s below C S Q T' (mkF m pc' Ls st)) : Wp p e s below C S Q T (mkF m pc Ls (.int x :: .int j :: .ref (n0 + i) :: st)) :=
  w_iastore X hx hZ N P q hk hd hj (by simpa using hl) hp (fun T' L' N' X' P' => k T' L' N' X' (by rw [List.map_set]; exact P'))
theorem w_lastoreL (X : Stand p l e R s m args below meth c T locs cells slots) (hx : p.tables.exec = Jvm.exec) (hZ : Z.Warmed39 s.vm) (N : Fr n0 locs) (P : HP n0 T.heap cs) {i : Nat} {kA : ClassId} {ll : List Int64} (q : cs[i]? = some (AC kA (List.map Value.long ll))) (hk : IsA Z kA .long) (hd : decode c.code pc = .ok (.lastore, 1)) {j : Int32} {x : Int64} {jn : Nat} (hj : j.toInt = (jn : Int)) (hl : jn < ll.length) (hp : pc + 1 = pc')
    (k : ∀ (T' : State) (L' : List Loc), Fr n0 L' → Stand p l e R s m args below meth c T' L' cells slots → HP n0 T'.heap (cs.set i (AC kA (List.map Value.long (ll.set jn x)))) → Wp p e s below C S Q T' (mkF m pc' Ls st)) : Wp p e s below C S Q T (mkF m pc Ls (.long x :: .int j :: .ref (n0 + i) :: st)) :=
  w_lastore X hx hZ N P q hk hd hj (by simpa using hl) hp (fun T' L' N' X' P' => k T' L' N' X' (by rw [List.map_set]; exact P'))
theorem w_bastoreEL (X : Stand p l e R s m args below meth c T locs cells slots) (hx : p.tables.exec = Jvm.exec) (hZ : Z.Warmed39 s.vm) (N : Fr n0 locs) (P : HP n0 T.heap cs) {i : Nat} {kA : ClassId} {ll : List Int32} (q : cs[i]? = some (AC kA (List.map Value.int ll))) (hk : IsA Z kA .byte) (hd : decode c.code pc = .ok (.bastore, 1)) {j : Int32} {x : Int32} {z : Int32} (hz : nar .byte x = z) {jn : Nat} (hj : j.toInt = (jn : Int)) (hl : jn < ll.length) (hp : pc + 1 = pc')
    (k : ∀ (T' : State) (L' : List Loc), Fr n0 L' → Stand p l e R s m args below meth c T' L' cells slots → HP n0 T'.heap (cs.set i (AC kA (List.map Value.int (ll.set jn z)))) → Wp p e s below C S Q T' (mkF m pc' Ls st)) : Wp p e s below C S Q T (mkF m pc Ls (.int x :: .int j :: .ref (n0 + i) :: st)) :=
  w_bastoreE X hx hZ N P q hk hd hz hj (by simpa using hl) hp (fun T' L' N' X' P' => k T' L' N' X' (by rw [List.map_set]; exact P'))
end OwnH
/-! small numbers -/
theorem own_small {x : Int32} {n : Nat} (h0 : 0 ≤ x.toInt) (h1 : x.toInt < n) (hn : n ≤ 2147483648) : ∃ k : Nat, k < n ∧ x = Int32.ofNat k := by
  refine ⟨x.toInt.toNat, by omega, Int32.toInt_inj.mp ?_⟩
  rw [Int32.toInt_ofNat_of_lt (by omega)]
  omega
theorem own_mask (a : Int32) : 0 ≤ (a &&& 2147483647).toInt ∧ (a &&& 2147483647).toInt < 2147483648 := by
  have h := c_mask a 2147483647 31 (by decide) (by decide)
  omega
theorem own_rem (a d : Int32) (D : Nat) (hd : d.toInt = (D : Int)) (h0 : 0 < D) : ∃ k : Nat, k < D ∧ (a &&& 2147483647) % d = Int32.ofNat k := by
  have h := own_mask a
  have h2 := (c_irem (a &&& 2147483647) d D hd).1 h.1
  have h3 := Int.emod_nonneg (a &&& 2147483647).toInt (b := (D : Int)) (by omega)
  have h4 := Int.emod_lt_of_pos (a &&& 2147483647).toInt (b := (D : Int)) (by omega)
  have h5 := d.toInt_lt
  exact own_small (by omega) (by omega) (by omega)
theorem own_remP (y d : Int32) (D : Nat) (h0 : 0 ≤ y.toInt) (hd : d.toInt = (D : Int)) (h1 : 0 < D) : ∃ k : Nat, k < D ∧ y % d = Int32.ofNat k := by
  have h2 := (c_irem y d D hd).1 h0
  have h3 := Int.emod_nonneg y.toInt (b := (D : Int)) (by omega)
  have h4 := Int.emod_lt_of_pos y.toInt (b := (D : Int)) (by omega)
  have h5 := d.toInt_lt
  exact own_small (by omega) (by omega) (by omega)
theorem own_andk (a m : Int32) (M : Nat) (hm : m.toInt = (M : Int)) : ∃ k : Nat, k < M + 1 ∧ a &&& m = Int32.ofNat k := by
  have h := c_and a m (by omega)
  have h5 := m.toInt_lt
  exact own_small h.1 (by omega) (by omega)
theorem own_c1 {x : Int32} (h : ∃ k : Nat, k < 1 ∧ x = Int32.ofNat k) : x = 0 := by
  obtain ⟨k, hk, e⟩ := h
  obtain rfl : k = 0 := by omega
  exact e
theorem own_c2 {x : Int32} (h : ∃ k : Nat, k < 2 ∧ x = Int32.ofNat k) : x = 0 ∨ x = 1 := by
  obtain ⟨k, hk, e⟩ := h
  have q : k = 0 ∨ k = 1 := by omega
  rcases q with rfl | rfl
  · exact Or.inl e
  · exact Or.inr (e)
theorem own_c3 {x : Int32} (h : ∃ k : Nat, k < 3 ∧ x = Int32.ofNat k) : x = 0 ∨ x = 1 ∨ x = 2 := by
  obtain ⟨k, hk, e⟩ := h
  have q : k = 0 ∨ k = 1 ∨ k = 2 := by omega
  rcases q with rfl | rfl | rfl
  · exact Or.inl e
  · exact Or.inr (Or.inl e)
  · exact Or.inr (Or.inr (e))
theorem own_c4 {x : Int32} (h : ∃ k : Nat, k < 4 ∧ x = Int32.ofNat k) : x = 0 ∨ x = 1 ∨ x = 2 ∨ x = 3 := by
  obtain ⟨k, hk, e⟩ := h
  have q : k = 0 ∨ k = 1 ∨ k = 2 ∨ k = 3 := by omega
  rcases q with rfl | rfl | rfl | rfl
  · exact Or.inl e
  · exact Or.inr (Or.inl e)
  · exact Or.inr (Or.inr (Or.inl e))
  · exact Or.inr (Or.inr (Or.inr (e)))
theorem own_c5 {x : Int32} (h : ∃ k : Nat, k < 5 ∧ x = Int32.ofNat k) : x = 0 ∨ x = 1 ∨ x = 2 ∨ x = 3 ∨ x = 4 := by
  obtain ⟨k, hk, e⟩ := h
  have q : k = 0 ∨ k = 1 ∨ k = 2 ∨ k = 3 ∨ k = 4 := by omega
  rcases q with rfl | rfl | rfl | rfl | rfl
  · exact Or.inl e
  · exact Or.inr (Or.inl e)
  · exact Or.inr (Or.inr (Or.inl e))
  · exact Or.inr (Or.inr (Or.inr (Or.inl e)))
  · exact Or.inr (Or.inr (Or.inr (Or.inr (e))))
theorem own_c6 {x : Int32} (h : ∃ k : Nat, k < 6 ∧ x = Int32.ofNat k) : x = 0 ∨ x = 1 ∨ x = 2 ∨ x = 3 ∨ x = 4 ∨ x = 5 := by
  obtain ⟨k, hk, e⟩ := h
  have q : k = 0 ∨ k = 1 ∨ k = 2 ∨ k = 3 ∨ k = 4 ∨ k = 5 := by omega
  rcases q with rfl | rfl | rfl | rfl | rfl | rfl
  · exact Or.inl e
  · exact Or.inr (Or.inl e)
  · exact Or.inr (Or.inr (Or.inl e))
  · exact Or.inr (Or.inr (Or.inr (Or.inl e)))
  · exact Or.inr (Or.inr (Or.inr (Or.inr (Or.inl e))))
  · exact Or.inr (Or.inr (Or.inr (Or.inr (Or.inr (e)))))
theorem own_c7 {x : Int32} (h : ∃ k : Nat, k < 7 ∧ x = Int32.ofNat k) : x = 0 ∨ x = 1 ∨ x = 2 ∨ x = 3 ∨ x = 4 ∨ x = 5 ∨ x = 6 := by
  obtain ⟨k, hk, e⟩ := h
  have q : k = 0 ∨ k = 1 ∨ k = 2 ∨ k = 3 ∨ k = 4 ∨ k = 5 ∨ k = 6 := by omega
  rcases q with rfl | rfl | rfl | rfl | rfl | rfl | rfl
  · exact Or.inl e
  · exact Or.inr (Or.inl e)
  · exact Or.inr (Or.inr (Or.inl e))
  · exact Or.inr (Or.inr (Or.inr (Or.inl e)))
  · exact Or.inr (Or.inr (Or.inr (Or.inr (Or.inl e))))
  · exact Or.inr (Or.inr (Or.inr (Or.inr (Or.inr (Or.inl e)))))
  · exact Or.inr (Or.inr (Or.inr (Or.inr (Or.inr (Or.inr (e))))))
theorem own_c8 {x : Int32} (h : ∃ k : Nat, k < 8 ∧ x = Int32.ofNat k) : x = 0 ∨ x = 1 ∨ x = 2 ∨ x = 3 ∨ x = 4 ∨ x = 5 ∨ x = 6 ∨ x = 7 := by
  obtain ⟨k, hk, e⟩ := h
  have q : k = 0 ∨ k = 1 ∨ k = 2 ∨ k = 3 ∨ k = 4 ∨ k = 5 ∨ k = 6 ∨ k = 7 := by omega
  rcases q with rfl | rfl | rfl | rfl | rfl | rfl | rfl | rfl
  · exact Or.inl e
  · exact Or.inr (Or.inl e)
  · exact Or.inr (Or.inr (Or.inl e))
  · exact Or.inr (Or.inr (Or.inr (Or.inl e)))
  · exact Or.inr (Or.inr (Or.inr (Or.inr (Or.inl e))))
  · exact Or.inr (Or.inr (Or.inr (Or.inr (Or.inr (Or.inl e)))))
  · exact Or.inr (Or.inr (Or.inr (Or.inr (Or.inr (Or.inr (Or.inl e))))))
  · exact Or.inr (Or.inr (Or.inr (Or.inr (Or.inr (Or.inr (Or.inr (e)))))))
theorem own_c9 {x : Int32} (h : ∃ k : Nat, k < 9 ∧ x = Int32.ofNat k) : x = 0 ∨ x = 1 ∨ x = 2 ∨ x = 3 ∨ x = 4 ∨ x = 5 ∨ x = 6 ∨ x = 7 ∨ x = 8 := by
  obtain ⟨k, hk, e⟩ := h
  have q : k = 0 ∨ k = 1 ∨ k = 2 ∨ k = 3 ∨ k = 4 ∨ k = 5 ∨ k = 6 ∨ k = 7 ∨ k = 8 := by omega
  rcases q with rfl | rfl | rfl | rfl | rfl | rfl | rfl | rfl | rfl
  · exact Or.inl e
  · exact Or.inr (Or.inl e)
  · exact Or.inr (Or.inr (Or.inl e))
  · exact Or.inr (Or.inr (Or.inr (Or.inl e)))
  · exact Or.inr (Or.inr (Or.inr (Or.inr (Or.inl e))))
  · exact Or.inr (Or.inr (Or.inr (Or.inr (Or.inr (Or.inl e)))))
  · exact Or.inr (Or.inr (Or.inr (Or.inr (Or.inr (Or.inr (Or.inl e))))))
  · exact Or.inr (Or.inr (Or.inr (Or.inr (Or.inr (Or.inr (Or.inr (Or.inl e)))))))
  · exact Or.inr (Or.inr (Or.inr (Or.inr (Or.inr (Or.inr (Or.inr (Or.inr (e))))))))
theorem own_c10 {x : Int32} (h : ∃ k : Nat, k < 10 ∧ x = Int32.ofNat k) : x = 0 ∨ x = 1 ∨ x = 2 ∨ x = 3 ∨ x = 4 ∨ x = 5 ∨ x = 6 ∨ x = 7 ∨ x = 8 ∨ x = 9 := by
  obtain ⟨k, hk, e⟩ := h
  have q : k = 0 ∨ k = 1 ∨ k = 2 ∨ k = 3 ∨ k = 4 ∨ k = 5 ∨ k = 6 ∨ k = 7 ∨ k = 8 ∨ k = 9 := by omega
  rcases q with rfl | rfl | rfl | rfl | rfl | rfl | rfl | rfl | rfl | rfl
  · exact Or.inl e
  · exact Or.inr (Or.inl e)
  · exact Or.inr (Or.inr (Or.inl e))
  · exact Or.inr (Or.inr (Or.inr (Or.inl e)))
  · exact Or.inr (Or.inr (Or.inr (Or.inr (Or.inl e))))
  · exact Or.inr (Or.inr (Or.inr (Or.inr (Or.inr (Or.inl e)))))
  · exact Or.inr (Or.inr (Or.inr (Or.inr (Or.inr (Or.inr (Or.inl e))))))
  · exact Or.inr (Or.inr (Or.inr (Or.inr (Or.inr (Or.inr (Or.inr (Or.inl e)))))))
  · exact Or.inr (Or.inr (Or.inr (Or.inr (Or.inr (Or.inr (Or.inr (Or.inr (Or.inl e))))))))
  · exact Or.inr (Or.inr (Or.inr (Or.inr (Or.inr (Or.inr (Or.inr (Or.inr (Or.inr (e)))))))))
theorem own_c11 {x : Int32} (h : ∃ k : Nat, k < 11 ∧ x = Int32.ofNat k) : x = 0 ∨ x = 1 ∨ x = 2 ∨ x = 3 ∨ x = 4 ∨ x = 5 ∨ x = 6 ∨ x = 7 ∨ x = 8 ∨ x = 9 ∨ x = 10 := by
  obtain ⟨k, hk, e⟩ := h
  have q : k = 0 ∨ k = 1 ∨ k = 2 ∨ k = 3 ∨ k = 4 ∨ k = 5 ∨ k = 6 ∨ k = 7 ∨ k = 8 ∨ k = 9 ∨ k = 10 := by omega
  rcases q with rfl | rfl | rfl | rfl | rfl | rfl | rfl | rfl | rfl | rfl | rfl
  · exact Or.inl e
  · exact Or.inr (Or.inl e)
  · exact Or.inr (Or.inr (Or.inl e))
  · exact Or.inr (Or.inr (Or.inr (Or.inl e)))
  · exact Or.inr (Or.inr (Or.inr (Or.inr (Or.inl e))))
  · exact Or.inr (Or.inr (Or.inr (Or.inr (Or.inr (Or.inl e)))))
  · exact Or.inr (Or.inr (Or.inr (Or.inr (Or.inr (Or.inr (Or.inl e))))))
  · exact Or.inr (Or.inr (Or.inr (Or.inr (Or.inr (Or.inr (Or.inr (Or.inl e)))))))
  · exact Or.inr (Or.inr (Or.inr (Or.inr (Or.inr (Or.inr (Or.inr (Or.inr (Or.inl e))))))))
  · exact Or.inr (Or.inr (Or.inr (Or.inr (Or.inr (Or.inr (Or.inr (Or.inr (Or.inr (Or.inl e)))))))))
  · exact Or.inr (Or.inr (Or.inr (Or.inr (Or.inr (Or.inr (Or.inr (Or.inr (Or.inr (Or.inr (e))))))))))
theorem own_c12 {x : Int32} (h : ∃ k : Nat, k < 12 ∧ x = Int32.ofNat k) : x = 0 ∨ x = 1 ∨ x = 2 ∨ x = 3 ∨ x = 4 ∨ x = 5 ∨ x = 6 ∨ x = 7 ∨ x = 8 ∨ x = 9 ∨ x = 10 ∨ x = 11 := by
  obtain ⟨k, hk, e⟩ := h
  have q : k = 0 ∨ k = 1 ∨ k = 2 ∨ k = 3 ∨ k = 4 ∨ k = 5 ∨ k = 6 ∨ k = 7 ∨ k = 8 ∨ k = 9 ∨ k = 10 ∨ k = 11 := by omega
  rcases q with rfl | rfl | rfl | rfl | rfl | rfl | rfl | rfl | rfl | rfl | rfl | rfl
  · exact Or.inl e
  · exact Or.inr (Or.inl e)
  · exact Or.inr (Or.inr (Or.inl e))
  · exact Or.inr (Or.inr (Or.inr (Or.inl e)))
  · exact Or.inr (Or.inr (Or.inr (Or.inr (Or.inl e))))
  · exact Or.inr (Or.inr (Or.inr (Or.inr (Or.inr (Or.inl e)))))
  · exact Or.inr (Or.inr (Or.inr (Or.inr (Or.inr (Or.inr (Or.inl e))))))
  · exact Or.inr (Or.inr (Or.inr (Or.inr (Or.inr (Or.inr (Or.inr (Or.inl e)))))))
  · exact Or.inr (Or.inr (Or.inr (Or.inr (Or.inr (Or.inr (Or.inr (Or.inr (Or.inl e))))))))
  · exact Or.inr (Or.inr (Or.inr (Or.inr (Or.inr (Or.inr (Or.inr (Or.inr (Or.inr (Or.inl e)))))))))
  · exact Or.inr (Or.inr (Or.inr (Or.inr (Or.inr (Or.inr (Or.inr (Or.inr (Or.inr (Or.inr (Or.inl e))))))))))
  · exact Or.inr (Or.inr (Or.inr (Or.inr (Or.inr (Or.inr (Or.inr (Or.inr (Or.inr (Or.inr (Or.inr (e)))))))))))
theorem own_c13 {x : Int32} (h : ∃ k : Nat, k < 13 ∧ x = Int32.ofNat k) : x = 0 ∨ x = 1 ∨ x = 2 ∨ x = 3 ∨ x = 4 ∨ x = 5 ∨ x = 6 ∨ x = 7 ∨ x = 8 ∨ x = 9 ∨ x = 10 ∨ x = 11 ∨ x = 12 := by
  obtain ⟨k, hk, e⟩ := h
  have q : k = 0 ∨ k = 1 ∨ k = 2 ∨ k = 3 ∨ k = 4 ∨ k = 5 ∨ k = 6 ∨ k = 7 ∨ k = 8 ∨ k = 9 ∨ k = 10 ∨ k = 11 ∨ k = 12 := by omega
  rcases q with rfl | rfl | rfl | rfl | rfl | rfl | rfl | rfl | rfl | rfl | rfl | rfl | rfl
  · exact Or.inl e
  · exact Or.inr (Or.inl e)
  · exact Or.inr (Or.inr (Or.inl e))
  · exact Or.inr (Or.inr (Or.inr (Or.inl e)))
  · exact Or.inr (Or.inr (Or.inr (Or.inr (Or.inl e))))
  · exact Or.inr (Or.inr (Or.inr (Or.inr (Or.inr (Or.inl e)))))
  · exact Or.inr (Or.inr (Or.inr (Or.inr (Or.inr (Or.inr (Or.inl e))))))
  · exact Or.inr (Or.inr (Or.inr (Or.inr (Or.inr (Or.inr (Or.inr (Or.inl e)))))))
  · exact Or.inr (Or.inr (Or.inr (Or.inr (Or.inr (Or.inr (Or.inr (Or.inr (Or.inl e))))))))
  · exact Or.inr (Or.inr (Or.inr (Or.inr (Or.inr (Or.inr (Or.inr (Or.inr (Or.inr (Or.inl e)))))))))
  · exact Or.inr (Or.inr (Or.inr (Or.inr (Or.inr (Or.inr (Or.inr (Or.inr (Or.inr (Or.inr (Or.inl e))))))))))
  · exact Or.inr (Or.inr (Or.inr (Or.inr (Or.inr (Or.inr (Or.inr (Or.inr (Or.inr (Or.inr (Or.inr (Or.inl e)))))))))))
  · exact Or.inr (Or.inr (Or.inr (Or.inr (Or.inr (Or.inr (Or.inr (Or.inr (Or.inr (Or.inr (Or.inr (Or.inr (e))))))))))))
theorem own_c14 {x : Int32} (h : ∃ k : Nat, k < 14 ∧ x = Int32.ofNat k) : x = 0 ∨ x = 1 ∨ x = 2 ∨ x = 3 ∨ x = 4 ∨ x = 5 ∨ x = 6 ∨ x = 7 ∨ x = 8 ∨ x = 9 ∨ x = 10 ∨ x = 11 ∨ x = 12 ∨ x = 13 := by
  obtain ⟨k, hk, e⟩ := h
  have q : k = 0 ∨ k = 1 ∨ k = 2 ∨ k = 3 ∨ k = 4 ∨ k = 5 ∨ k = 6 ∨ k = 7 ∨ k = 8 ∨ k = 9 ∨ k = 10 ∨ k = 11 ∨ k = 12 ∨ k = 13 := by omega
  rcases q with rfl | rfl | rfl | rfl | rfl | rfl | rfl | rfl | rfl | rfl | rfl | rfl | rfl | rfl
  · exact Or.inl e
  · exact Or.inr (Or.inl e)
  · exact Or.inr (Or.inr (Or.inl e))
  · exact Or.inr (Or.inr (Or.inr (Or.inl e)))
  · exact Or.inr (Or.inr (Or.inr (Or.inr (Or.inl e))))
  · exact Or.inr (Or.inr (Or.inr (Or.inr (Or.inr (Or.inl e)))))
  · exact Or.inr (Or.inr (Or.inr (Or.inr (Or.inr (Or.inr (Or.inl e))))))
  · exact Or.inr (Or.inr (Or.inr (Or.inr (Or.inr (Or.inr (Or.inr (Or.inl e)))))))
  · exact Or.inr (Or.inr (Or.inr (Or.inr (Or.inr (Or.inr (Or.inr (Or.inr (Or.inl e))))))))
  · exact Or.inr (Or.inr (Or.inr (Or.inr (Or.inr (Or.inr (Or.inr (Or.inr (Or.inr (Or.inl e)))))))))
  · exact Or.inr (Or.inr (Or.inr (Or.inr (Or.inr (Or.inr (Or.inr (Or.inr (Or.inr (Or.inr (Or.inl e))))))))))
  · exact Or.inr (Or.inr (Or.inr (Or.inr (Or.inr (Or.inr (Or.inr (Or.inr (Or.inr (Or.inr (Or.inr (Or.inl e)))))))))))
  · exact Or.inr (Or.inr (Or.inr (Or.inr (Or.inr (Or.inr (Or.inr (Or.inr (Or.inr (Or.inr (Or.inr (Or.inr (Or.inl e))))))))))))
  · exact Or.inr (Or.inr (Or.inr (Or.inr (Or.inr (Or.inr (Or.inr (Or.inr (Or.inr (Or.inr (Or.inr (Or.inr (Or.inr (e)))))))))))))
theorem own_c15 {x : Int32} (h : ∃ k : Nat, k < 15 ∧ x = Int32.ofNat k) : x = 0 ∨ x = 1 ∨ x = 2 ∨ x = 3 ∨ x = 4 ∨ x = 5 ∨ x = 6 ∨ x = 7 ∨ x = 8 ∨ x = 9 ∨ x = 10 ∨ x = 11 ∨ x = 12 ∨ x = 13 ∨ x = 14 := by
  obtain ⟨k, hk, e⟩ := h
  have q : k = 0 ∨ k = 1 ∨ k = 2 ∨ k = 3 ∨ k = 4 ∨ k = 5 ∨ k = 6 ∨ k = 7 ∨ k = 8 ∨ k = 9 ∨ k = 10 ∨ k = 11 ∨ k = 12 ∨ k = 13 ∨ k = 14 := by omega
  rcases q with rfl | rfl | rfl | rfl | rfl | rfl | rfl | rfl | rfl | rfl | rfl | rfl | rfl | rfl | rfl
  · exact Or.inl e
  · exact Or.inr (Or.inl e)
  · exact Or.inr (Or.inr (Or.inl e))
  · exact Or.inr (Or.inr (Or.inr (Or.inl e)))
  · exact Or.inr (Or.inr (Or.inr (Or.inr (Or.inl e))))
  · exact Or.inr (Or.inr (Or.inr (Or.inr (Or.inr (Or.inl e)))))
  · exact Or.inr (Or.inr (Or.inr (Or.inr (Or.inr (Or.inr (Or.inl e))))))
  · exact Or.inr (Or.inr (Or.inr (Or.inr (Or.inr (Or.inr (Or.inr (Or.inl e)))))))
  · exact Or.inr (Or.inr (Or.inr (Or.inr (Or.inr (Or.inr (Or.inr (Or.inr (Or.inl e))))))))
  · exact Or.inr (Or.inr (Or.inr (Or.inr (Or.inr (Or.inr (Or.inr (Or.inr (Or.inr (Or.inl e)))))))))
  · exact Or.inr (Or.inr (Or.inr (Or.inr (Or.inr (Or.inr (Or.inr (Or.inr (Or.inr (Or.inr (Or.inl e))))))))))
  · exact Or.inr (Or.inr (Or.inr (Or.inr (Or.inr (Or.inr (Or.inr (Or.inr (Or.inr (Or.inr (Or.inr (Or.inl e)))))))))))
  · exact Or.inr (Or.inr (Or.inr (Or.inr (Or.inr (Or.inr (Or.inr (Or.inr (Or.inr (Or.inr (Or.inr (Or.inr (Or.inl e))))))))))))
  · exact Or.inr (Or.inr (Or.inr (Or.inr (Or.inr (Or.inr (Or.inr (Or.inr (Or.inr (Or.inr (Or.inr (Or.inr (Or.inr (Or.inl e)))))))))))))
  · exact Or.inr (Or.inr (Or.inr (Or.inr (Or.inr (Or.inr (Or.inr (Or.inr (Or.inr (Or.inr (Or.inr (Or.inr (Or.inr (Or.inr (e))))))))))))))
theorem own_c16 {x : Int32} (h : ∃ k : Nat, k < 16 ∧ x = Int32.ofNat k) : x = 0 ∨ x = 1 ∨ x = 2 ∨ x = 3 ∨ x = 4 ∨ x = 5 ∨ x = 6 ∨ x = 7 ∨ x = 8 ∨ x = 9 ∨ x = 10 ∨ x = 11 ∨ x = 12 ∨ x = 13 ∨ x = 14 ∨ x = 15 := by
  obtain ⟨k, hk, e⟩ := h
  have q : k = 0 ∨ k = 1 ∨ k = 2 ∨ k = 3 ∨ k = 4 ∨ k = 5 ∨ k = 6 ∨ k = 7 ∨ k = 8 ∨ k = 9 ∨ k = 10 ∨ k = 11 ∨ k = 12 ∨ k = 13 ∨ k = 14 ∨ k = 15 := by omega
  rcases q with rfl | rfl | rfl | rfl | rfl | rfl | rfl | rfl | rfl | rfl | rfl | rfl | rfl | rfl | rfl | rfl
  · exact Or.inl e
  · exact Or.inr (Or.inl e)
  · exact Or.inr (Or.inr (Or.inl e))
  · exact Or.inr (Or.inr (Or.inr (Or.inl e)))
  · exact Or.inr (Or.inr (Or.inr (Or.inr (Or.inl e))))
  · exact Or.inr (Or.inr (Or.inr (Or.inr (Or.inr (Or.inl e)))))
  · exact Or.inr (Or.inr (Or.inr (Or.inr (Or.inr (Or.inr (Or.inl e))))))
  · exact Or.inr (Or.inr (Or.inr (Or.inr (Or.inr (Or.inr (Or.inr (Or.inl e)))))))
  · exact Or.inr (Or.inr (Or.inr (Or.inr (Or.inr (Or.inr (Or.inr (Or.inr (Or.inl e))))))))
  · exact Or.inr (Or.inr (Or.inr (Or.inr (Or.inr (Or.inr (Or.inr (Or.inr (Or.inr (Or.inl e)))))))))
  · exact Or.inr (Or.inr (Or.inr (Or.inr (Or.inr (Or.inr (Or.inr (Or.inr (Or.inr (Or.inr (Or.inl e))))))))))
  · exact Or.inr (Or.inr (Or.inr (Or.inr (Or.inr (Or.inr (Or.inr (Or.inr (Or.inr (Or.inr (Or.inr (Or.inl e)))))))))))
  · exact Or.inr (Or.inr (Or.inr (Or.inr (Or.inr (Or.inr (Or.inr (Or.inr (Or.inr (Or.inr (Or.inr (Or.inr (Or.inl e))))))))))))
  · exact Or.inr (Or.inr (Or.inr (Or.inr (Or.inr (Or.inr (Or.inr (Or.inr (Or.inr (Or.inr (Or.inr (Or.inr (Or.inr (Or.inl e)))))))))))))
  · exact Or.inr (Or.inr (Or.inr (Or.inr (Or.inr (Or.inr (Or.inr (Or.inr (Or.inr (Or.inr (Or.inr (Or.inr (Or.inr (Or.inr (Or.inl e))))))))))))))
  · exact Or.inr (Or.inr (Or.inr (Or.inr (Or.inr (Or.inr (Or.inr (Or.inr (Or.inr (Or.inr (Or.inr (Or.inr (Or.inr (Or.inr (Or.inr (e)))))))))))))))
theorem own_c17 {x : Int32} (h : ∃ k : Nat, k < 17 ∧ x = Int32.ofNat k) : x = 0 ∨ x = 1 ∨ x = 2 ∨ x = 3 ∨ x = 4 ∨ x = 5 ∨ x = 6 ∨ x = 7 ∨ x = 8 ∨ x = 9 ∨ x = 10 ∨ x = 11 ∨ x = 12 ∨ x = 13 ∨ x = 14 ∨ x = 15 ∨ x = 16 := by
  obtain ⟨k, hk, e⟩ := h
  have q : k = 0 ∨ k = 1 ∨ k = 2 ∨ k = 3 ∨ k = 4 ∨ k = 5 ∨ k = 6 ∨ k = 7 ∨ k = 8 ∨ k = 9 ∨ k = 10 ∨ k = 11 ∨ k = 12 ∨ k = 13 ∨ k = 14 ∨ k = 15 ∨ k = 16 := by omega
  rcases q with rfl | rfl | rfl | rfl | rfl | rfl | rfl | rfl | rfl | rfl | rfl | rfl | rfl | rfl | rfl | rfl | rfl
  · exact Or.inl e
  · exact Or.inr (Or.inl e)
  · exact Or.inr (Or.inr (Or.inl e))
  · exact Or.inr (Or.inr (Or.inr (Or.inl e)))
  · exact Or.inr (Or.inr (Or.inr (Or.inr (Or.inl e))))
  · exact Or.inr (Or.inr (Or.inr (Or.inr (Or.inr (Or.inl e)))))
  · exact Or.inr (Or.inr (Or.inr (Or.inr (Or.inr (Or.inr (Or.inl e))))))
  · exact Or.inr (Or.inr (Or.inr (Or.inr (Or.inr (Or.inr (Or.inr (Or.inl e)))))))
  · exact Or.inr (Or.inr (Or.inr (Or.inr (Or.inr (Or.inr (Or.inr (Or.inr (Or.inl e))))))))
  · exact Or.inr (Or.inr (Or.inr (Or.inr (Or.inr (Or.inr (Or.inr (Or.inr (Or.inr (Or.inl e)))))))))
  · exact Or.inr (Or.inr (Or.inr (Or.inr (Or.inr (Or.inr (Or.inr (Or.inr (Or.inr (Or.inr (Or.inl e))))))))))
  · exact Or.inr (Or.inr (Or.inr (Or.inr (Or.inr (Or.inr (Or.inr (Or.inr (Or.inr (Or.inr (Or.inr (Or.inl e)))))))))))
  · exact Or.inr (Or.inr (Or.inr (Or.inr (Or.inr (Or.inr (Or.inr (Or.inr (Or.inr (Or.inr (Or.inr (Or.inr (Or.inl e))))))))))))
  · exact Or.inr (Or.inr (Or.inr (Or.inr (Or.inr (Or.inr (Or.inr (Or.inr (Or.inr (Or.inr (Or.inr (Or.inr (Or.inr (Or.inl e)))))))))))))
  · exact Or.inr (Or.inr (Or.inr (Or.inr (Or.inr (Or.inr (Or.inr (Or.inr (Or.inr (Or.inr (Or.inr (Or.inr (Or.inr (Or.inr (Or.inl e))))))))))))))
  · exact Or.inr (Or.inr (Or.inr (Or.inr (Or.inr (Or.inr (Or.inr (Or.inr (Or.inr (Or.inr (Or.inr (Or.inr (Or.inr (Or.inr (Or.inr (Or.inl e)))))))))))))))
  · exact Or.inr (Or.inr (Or.inr (Or.inr (Or.inr (Or.inr (Or.inr (Or.inr (Or.inr (Or.inr (Or.inr (Or.inr (Or.inr (Or.inr (Or.inr (Or.inr (e))))))))))))))))
theorem HP.setc {n0 : Nat} {h : Heap} {cs : List Cell} {j : Nat} {cell c' : Cell} (P : HP n0 h cs) (q : cs[j]? = some cell) : HP n0 (h.setIfInBounds (n0 + j) c') (cs.set j c') := by
  refine ⟨by simp [P.1], fun i c r => ?_⟩
  by_cases e : j = i
  · subst e
    have hl : j < cs.length := (List.getElem?_eq_some_iff.mp q).1
    rw [List.getElem?_set_self hl] at r
    cases r
    rw [Array.getElem?_setIfInBounds_self_of_lt (by rw [P.1]; omega)]
  · rw [List.getElem?_set_ne e] at r
    rw [Array.getElem?_setIfInBounds_ne (by omega)]
    exact P.2 i c r
theorem own_copied {kA kB : ClassId} {vs vd : List Value} {sn dn n : Nat} (h4 : sn + n ≤ vs.length) (h5 : dn + n ≤ vd.length) : (AC kB vd).storeRun dn ((AC kA vs).stretch sn n) = AC kB (vd.take dn ++ (vs.drop sn).take n ++ vd.drop (dn + n)) := by
  have f := Cell.storeRun_facts (AC kB vd) dn ((AC kA vs).stretch sn n)
  have hl : ((AC kA vs).stretch sn n).length = n := by simp [Cell.stretch]
  have hs : (AC kB vd).slots.size = vd.length := by simp [AC]
  have hd : ∀ j : Nat, (AC kB vd).slots[j]? = vd[j]? := fun j => by simp [AC]
  have g := fun j => Cell.storeRun_get (AC kB vd) dn ((AC kA vs).stretch sn n) j (by rw [hl, hs]; omega)
  generalize (AC kB vd).storeRun dn ((AC kA vs).stretch sn n) = c at f g ⊢
  obtain ⟨cls, slots, mon, hash, vm⟩ := c
  obtain ⟨f1, f2, f3, f4, f5⟩ := f
  dsimp only at f1 f2 f3 f4 f5 g
  subst f1 f2 f4 f5
  have e : slots = (vd.take dn ++ (vs.drop sn).take n ++ vd.drop (dn + n)).toArray := by
    apply Array.ext_getElem?
    intro j
    rw [g j, hl]
    rw [hd j, List.getElem?_toArray]
    by_cases c1 : j < dn
    · rw [if_neg (by omega), List.append_assoc, List.getElem?_append_left (by simp; omega), List.getElem?_take_of_lt c1]
    · by_cases c2 : j < dn + n
      · rw [if_pos (by omega), List.append_assoc, List.getElem?_append_right (by simp; omega), List.getElem?_append_left (by simp; omega)]
        have e1 : (vd.take dn).length = dn := by simp; omega
        rw [e1, List.getElem?_take_of_lt (by omega), List.getElem?_drop]
        have : ((AC kA vs).stretch sn n)[j - dn]? = some ((AC kA vs).slots.getD (sn + (j - dn)) .null) := by
          have hj : j - dn < n := by omega
          rw [Cell.stretch, List.getElem?_map, List.getElem?_range hj]
          rfl
        rw [this]
        have h6 : sn + (j - dn) < vs.length := by omega
        simp [AC, h6]
      · rw [if_neg (by omega), List.getElem?_append_right (by simp; omega)]
        have e1 : (vd.take dn ++ (vs.drop sn).take n).length = dn + n := by simp; omega
        rw [e1, List.getElem?_drop, Nat.add_sub_cancel' (by omega)]
  subst e
  rfl
section OwnAC
variable {p : Program} {l : Launch} {e : Env} {R : Room} {s : State} {m : MethodId} {args : Array Value} {below : List Frame} {meth : Method} {c : Code} {T : State} {locs : List Loc} {cells slots : Nat} {C S : Nat} {Q : Option Value → Heap → List Loc → Prop} {pc pc' : Nat} {Ls : Array Slot} {st : List Value}
  {Z : State} {a0 : Array Value} {n0 : Nat} {cs : List Cell}
theorem w_acopy (X : Stand p l e R s m args below meth c T locs cells slots) (hx : p.tables.exec = Jvm.exec) (hZ : Z.Warmed39 s.vm) {own : String} {idx : Nat} (hown : s.vm.findClass own = some m.cls) (hml : Ls.size = c.maxLocals)
    (w1 : (Jvm.Cond.methodLink own idx Jvm.Stand.acN).before a0 Z = true) (w2 : (Jvm.Cond.native Jvm.Stand.acN).before a0 Z = true) (w3 : (Jvm.Cond.static Jvm.Stand.acN).before a0 Z = true) (w4 : (Jvm.Cond.initialized "java/lang/System").before a0 Z = true)
    (N : Fr n0 locs) (P : HP n0 T.heap cs) {i j : Nat} {kA kB : ClassId} {vs vd : List Value} {ty : FieldType} (qi : cs[i]? = some (AC kA vs)) (qj : cs[j]? = some (AC kB vd)) (hA : IsA Z kA ty) (hB : IsA Z kB ty) (hty : refKind ty = false) (hfit : ∀ v ∈ vs, fits ty v = true)
    {sp dp nn : Int32} {sn dn n : Nat} (h1 : sp.toInt = (sn : Int)) (h2 : dp.toInt = (dn : Int)) (h3 : nn.toInt = (n : Int)) (h4 : sn + n ≤ vs.length) (h5 : dn + n ≤ vd.length) (hd : decode c.code pc = .ok (.invokestatic idx, 3)) (hf : 1 ≤ R.frames) {W : Nat} (hW : (st.map fun v => v.category).sum ≤ W) (hlo : W + (nativeFrameWords "java/lang/System" "arraycopy" 5 + 11) ≤ R.locals)
    {vd' : List Value} (hvd : vd.take dn ++ (vs.drop sn).take n ++ vd.drop (dn + n) = vd') (hp : pc + 3 = pc')
    (k : ∀ (T' : State) (L' : List Loc), Fr n0 L' → Stand p l e R s m args below meth c T' L' cells slots → HP n0 T'.heap (cs.set j (AC kB vd')) → Wp p e s below C S Q T' (mkF m pc' Ls st)) :
    Wp p e s below C S Q T (mkF m pc Ls (.int nn :: .int dp :: .ref (n0 + j) :: .int sp :: .ref (n0 + i) :: st)) := by
  subst hp hvd
  have A := P.arr qi hA
  have B := P.arr qj hB
  obtain ⟨os, ks, hks, sc, hsk⟩ := State.isArrayOf_alike hZ.alike A.2.1
  obtain ⟨od, kd, hkd, dc, hdk⟩ := State.isArrayOf_alike hZ.alike B.2.1
  have z : ∀ {x : Int32} {y : Nat}, x.toInt = (y : Int) → ¬ x < 0 ∧ x.toNatClampNeg = y := fun {x y} q => ⟨by rw [Int32.lt_iff_toInt_lt, q]; simp, by simp [Int32.toNatClampNeg, q]⟩
  obtain ⟨vm₁, hW₁, X', st1⟩ := X.arraycopyK hx hown (mvT hZ w1) (mvT hZ w2) (mvT hZ w3) (mvT hZ w4) A.1 B.1 os od A.2.2 B.2.2 hks hkd hsk hdk (by simp [hty]) (z h1).1 (z h2).1 (z h3).1 (by rw [h1, h3]; simp [AC]; omega) (by rw [h2, h3]; simp [AC]; omega)
    (fun vm₁ hw i hi => by
      rw [(z h3).2] at hi
      rw [(z h1).2]
      have hv : (AC kA vs).slots.getD (sn + i) .null ∈ vs := by
        have : sn + i < vs.length := by omega
        simp [AC, this]
      have q := hfit _ hv
      generalize (AC kA vs).slots.getD (sn + i) .null = u at q ⊢
      refine ⟨q, ?_⟩
      cases u <;> try trivial
      exact (prim_no_ref hty q).elim) (g := mkF m pc Ls (.int nn :: .int dp :: .ref (n0 + j) :: .int sp :: .ref (n0 + i) :: st)) rfl hml rfl hd hf (by show 2 * 0 + _ + _ ≤ _; omega)
  have ec : copied (AC kA vs) (AC kB vd) sp dp nn = AC kB (vd.take dn ++ (vs.drop sn).take n ++ vd.drop (dn + n)) := by
    show (AC kB vd).storeRun dp.toNatClampNeg ((AC kA vs).stretch sp.toNatClampNeg nn.toNatClampNeg) = _
    rw [(z h1).2, (z h2).2, (z h3).2]
    exact own_copied h4 h5
  rw [ec] at X' st1
  refine Wp.via st1 (k _ _ (Fr.app N fun y hy => ?_) X' (P.setc qj))
  rw [Jvm.Stand.copyLocs_base hy]
  exact Nat.le_add_right _ _
end OwnAC
theorem own_selP {s : State} {args : Array Value} {y y' : MethodName} (hyc : y'.cls = y.cls) (ws : (Jvm.Cond.selects y.cls y' y').before args s = true) (hpriv : s.PrivateAt y) (hinst : (Jvm.Cond.instanceMethod y).before args s = true) (hy : y.cls ≠ "java/lang/invoke/MethodHandle" ∧ y.cls ≠ "java/lang/invoke/VarHandle") : (Jvm.Cond.selects y.cls y y).before args s = true := by
  obtain ⟨c2, r2, m2, q1, q2, q3, q4, kP, hkP, hkPi⟩ := Cond.selects_spec ws
  have h1 := findClass_of_methodNamed q3
  rw [hyc] at h1
  exact Jvm.Stand.selects_self_of_private h1 hkP hkPi hpriv hinst hy
section OwnPr
variable {p : Program} {l : Launch} {e : Env} {R : Room} {s : State} {m : MethodId} {args : Array Value} {below : List Frame} {meth : Method} {c : Code} {T : State} {locs : List Loc} {cells slots : Nat} {C S : Nat} {Q : Option Value → Heap → List Loc → Prop} {pc pc' : Nat} {Ls : Array Slot} {st : List Value}
  {Z : State} {a0 : Array Value} {n0 : Nat} {cs : List Cell}
theorem own_callPr (X : Stand p l e R s m args below meth c T locs cells slots) (hx : p.tables.exec = Jvm.exec) {h : Heap} (hZ : Z.Warmed39 s.vm) (eT : T.heap = h) {own : String} {i : Nat} {y y' : MethodName} {bytes : ByteArray} {maxL : Nat} {ret : Option FieldType} {rm : Room} {W : Nat} {as' : Array Value} {Qc : Option Value → Heap → List Loc → Prop}
    (hown : s.vm.findClass own = some m.cls) (hml : Ls.size = c.maxLocals) (w1 : (Jvm.Cond.methodLink own i y).before a0 Z = true) (w5 : (Jvm.Cond.selects y.cls y' y').before a0 Z = true) (hyc : y'.cls = y.cls) (wp : (Jvm.Cond.privateMethod y).before a0 Z = true) (w6 : (Jvm.Cond.instanceMethod y).before a0 Z = true) (w3 : (Jvm.Cond.initialized y.cls).before a0 Z = true) (w4 : (Jvm.Cond.code y bytes maxL ret).before a0 Z = true)
    (hM : MetFree l y (head1 [Jvm.Cond.code y bytes maxL ret] rm) (fun a U => a = as' ∧ Z.Warmed39 U.vm ∧ U.heap = h) (fun _ _ _ _ _ => True) (fun _ U o U' => ∃ v L, o = .returned v ∧ Qc v U'.heap L ∧ FrameEnd U o U' L rm.cells rm.slots))
    {a : Addr} {K : String} (E : Exa Z h a K) (hy : y.cls ≠ "java/lang/invoke/MethodHandle" ∧ y.cls ≠ "java/lang/invoke/VarHandle") (hf : rm.frames + 1 ≤ R.frames) (hl : W + (maxL + 11) + rm.locals ≤ R.locals) (hc : cells + rm.cells ≤ R.cells) (hsl : slots + rm.slots ≤ R.slots)
    {argsL rest : List Value} {ps : List FieldType} {r : Option FieldType} (hpd : parseMethodDescriptor y.desc = some ⟨ps, r⟩) (hlen : argsL.length = ps.length) (has : (.ref a :: argsL).toArray = as') (hst : st = argsL.reverse ++ .ref a :: rest) (hW : (rest.map fun v => v.category).sum ≤ W) (hd : decode c.code pc = .ok (.invokevirtual i, 3)) (hp : pc + 3 = pc')
    (k : ∀ (v : Option Value) (T' : State) (L : List Loc), Stand p l e R s m args below meth c T' (locs ++ L) (cells + rm.cells) (slots + rm.slots) → Qc v T'.heap L → Wp p e s below C S Q T' (mkF m pc' Ls (v.toList ++ rest))) : Wp p e s below C S Q T (mkF m pc Ls st) := by
  obtain ⟨cc, qa, qb⟩ := Exa.cell E
  have hpr := Cond.privateMethod_at (mvP (args := args) hZ wp)
  obtain ⟨v, _, ⟨T1, L1, k1, n1⟩, -, X1, ⟨Lc1, hQ1, l1, y1, z1⟩, st1⟩ := X.privateBack hx (y := y) hown (mvT hZ w1) (mvT hZ w6) (own_selP hyc (mvT hZ w5) hpr (mvT hZ w6) hy) hpr (mvT hZ w4) hy (backOf (W := W) hM hZ w4 w3 hf hl) (g := mkF m pc Ls st) rfl hml (Steps.refl _) (a := a) (by rw [eT]; exact qa) qb (argsL := argsL) (rest := rest) (lenOf hpd hlen) hst (by show 2 * 0 + _ ≤ _; omega) hd (fun _ _ => ⟨has, eT, hc, hsl⟩)
  dsimp only [Pt.U, Pt.locs, Pt.cells, Pt.slots] at X1 l1 y1 z1 st1 hQ1
  subst l1 y1 z1
  subst hp
  exact Wp.via (fun _ h => st1.trans h) (k v T1 Lc1 X1 hQ1)
end OwnPr
theorem w_acmpeqN {p : Program} {l : Launch} {e : Env} {R : Room} {s : State} {m : MethodId} {args : Array Value} {below : List Frame} {meth : Method} {c : Code} {T : State} {locs : List Loc} {cells slots : Nat} {C S : Nat} {Q : Option Value → Heap → List Loc → Prop} {pc pc' : Nat} {Ls : Array Slot} {st : List Value} (X : Stand p l e R s m args below meth c T locs cells slots) (hx : p.tables.exec = Jvm.exec) {o : Int} {x y : Value} (hd : decode c.code pc = .ok (.if_acmp .eq o, 3)) (h1 : x.isRef = true) (h2 : y.isRef = true) (hne : x ≠ y) (hp : pc + 3 = pc') (k : Wp p e s below C S Q T (mkF m pc' Ls st)) : Wp p e s below C S Q T (mkF m pc Ls (y :: x :: st)) := by
  subst hp
  exact Wp.via (fun _ h => XT.acmpNo X.here hx rfl hd rfl h1 h2 (by simp [XT.acmp, hne]) h) k
theorem wd0 {Z : State} {a0 : Array Value} (hw : ∀ d ∈ tables_1, d.before a0 Z = true) : (Jvm.Cond.constantLong "com/example/dirichlet/dirichlet/index/ByteSinkToArrayPinLaw" (27 : Nat) (9223372036854775807 : Int64)).before a0 Z = true := hw _ (List.mem_of_getElem? (i := 0) rfl)
theorem wd1 {Z : State} {a0 : Array Value} (hw : ∀ d ∈ tables_1, d.before a0 Z = true) : (Jvm.Cond.classLink "com/example/dirichlet/dirichlet/index/ByteSinkToArrayPinLaw" (29 : Nat) "com/example/dirichlet/dirichlet/index/ByteSink").before a0 Z = true := hw _ (List.mem_of_getElem? (i := 1) rfl)
theorem wd2 {Z : State} {a0 : Array Value} (hw : ∀ d ∈ tables_1, d.before a0 Z = true) : (Jvm.Cond.instantiable "com/example/dirichlet/dirichlet/index/ByteSink" (2 : Nat)).before a0 Z = true := hw _ (List.mem_of_getElem? (i := 2) rfl)
theorem wd3 {Z : State} {a0 : Array Value} (hw : ∀ d ∈ tables_1, d.before a0 Z = true) : (Jvm.Cond.initialized "com/example/dirichlet/dirichlet/index/ByteSink").before a0 Z = true := hw _ (List.mem_of_getElem? (i := 3) rfl)
theorem wd4 {Z : State} {a0 : Array Value} (hw : ∀ d ∈ tables_1, d.before a0 Z = true) : (Jvm.Cond.methodLink "com/example/dirichlet/dirichlet/index/ByteSinkToArrayPinLaw" (31 : Nat) ({ cls := "com/example/dirichlet/dirichlet/index/ByteSink", name := "<init>", desc := "(I)V" } : Jvm.MethodName)).before a0 Z = true := hw _ (List.mem_of_getElem? (i := 4) rfl)
theorem wd5 {Z : State} {a0 : Array Value} (hw : ∀ d ∈ tables_1, d.before a0 Z = true) : (Jvm.Cond.instanceMethod ({ cls := "com/example/dirichlet/dirichlet/index/ByteSink", name := "<init>", desc := "(I)V" } : Jvm.MethodName)).before a0 Z = true := hw _ (List.mem_of_getElem? (i := 5) rfl)
theorem wd6 {Z : State} {a0 : Array Value} (hw : ∀ d ∈ tables_1, d.before a0 Z = true) : (Jvm.Cond.code ({ cls := "com/example/dirichlet/dirichlet/index/ByteSink", name := "<init>", desc := "(I)V" } : Jvm.MethodName) prog_17_method_1_code (2 : Nat) (Option.none : Option Jvm.ClassFile.FieldType)).before a0 Z = true := hw _ (List.mem_of_getElem? (i := 6) rfl)
theorem wd7 {Z : State} {a0 : Array Value} (hw : ∀ d ∈ tables_1, d.before a0 Z = true) : (Jvm.Cond.methodLink "com/example/dirichlet/dirichlet/index/ByteSink" (3 : Nat) ({ cls := "java/lang/Object", name := "<init>", desc := "()V" } : Jvm.MethodName)).before a0 Z = true := hw _ (List.mem_of_getElem? (i := 7) rfl)
theorem wd8 {Z : State} {a0 : Array Value} (hw : ∀ d ∈ tables_1, d.before a0 Z = true) : (Jvm.Cond.instanceMethod ({ cls := "java/lang/Object", name := "<init>", desc := "()V" } : Jvm.MethodName)).before a0 Z = true := hw _ (List.mem_of_getElem? (i := 8) rfl)
theorem wd9 {Z : State} {a0 : Array Value} (hw : ∀ d ∈ tables_1, d.before a0 Z = true) : (Jvm.Cond.code ({ cls := "java/lang/Object", name := "<init>", desc := "()V" } : Jvm.MethodName) object_method_1_code (1 : Nat) (Option.none : Option Jvm.ClassFile.FieldType)).before a0 Z = true := hw _ (List.mem_of_getElem? (i := 9) rfl)
theorem wd10 {Z : State} {a0 : Array Value} (hw : ∀ d ∈ tables_1, d.before a0 Z = true) : (Jvm.Cond.arrayClass Jvm.ClassFile.FieldType.byte).before a0 Z = true := hw _ (List.mem_of_getElem? (i := 10) rfl)
theorem wd11 {Z : State} {a0 : Array Value} (hw : ∀ d ∈ tables_1, d.before a0 Z = true) : (Jvm.Cond.fieldLink "com/example/dirichlet/dirichlet/index/ByteSink" (9 : Nat) "com/example/dirichlet/dirichlet/index/ByteSink" "bytes" "[B").before a0 Z = true := hw _ (List.mem_of_getElem? (i := 11) rfl)
theorem wd12 {Z : State} {a0 : Array Value} (hw : ∀ d ∈ tables_1, d.before a0 Z = true) : (Jvm.Cond.lays "com/example/dirichlet/dirichlet/index/ByteSink" "com/example/dirichlet/dirichlet/index/ByteSink" "bytes" "[B").before a0 Z = true := hw _ (List.mem_of_getElem? (i := 12) rfl)
theorem wd13 {Z : State} {a0 : Array Value} (hw : ∀ d ∈ tables_1, d.before a0 Z = true) : (Jvm.Cond.methodLink "com/example/dirichlet/dirichlet/index/ByteSinkToArrayPinLaw" (47 : Nat) ({ cls := "com/example/dirichlet/dirichlet/index/ByteSink", name := "toArray", desc := "()[B" } : Jvm.MethodName)).before a0 Z = true := hw _ (List.mem_of_getElem? (i := 13) rfl)
theorem wd14 {Z : State} {a0 : Array Value} (hw : ∀ d ∈ tables_1, d.before a0 Z = true) : (Jvm.Cond.declares ({ cls := "com/example/dirichlet/dirichlet/index/ByteSink", name := "toArray", desc := "()[B" } : Jvm.MethodName)).before a0 Z = true := hw _ (List.mem_of_getElem? (i := 14) rfl)
theorem wd15 {Z : State} {a0 : Array Value} (hw : ∀ d ∈ tables_1, d.before a0 Z = true) : (Jvm.Cond.instanceMethod ({ cls := "com/example/dirichlet/dirichlet/index/ByteSink", name := "toArray", desc := "()[B" } : Jvm.MethodName)).before a0 Z = true := hw _ (List.mem_of_getElem? (i := 15) rfl)
theorem wd16 {Z : State} {a0 : Array Value} (hw : ∀ d ∈ tables_1, d.before a0 Z = true) : (Jvm.Cond.selects "com/example/dirichlet/dirichlet/index/ByteSink" ({ cls := "com/example/dirichlet/dirichlet/index/ByteSink", name := "toArray", desc := "()[B" } : Jvm.MethodName) ({ cls := "com/example/dirichlet/dirichlet/index/ByteSink", name := "toArray", desc := "()[B" } : Jvm.MethodName)).before a0 Z = true := hw _ (List.mem_of_getElem? (i := 16) rfl)
theorem wd17 {Z : State} {a0 : Array Value} (hw : ∀ d ∈ tables_1, d.before a0 Z = true) : (Jvm.Cond.code ({ cls := "com/example/dirichlet/dirichlet/index/ByteSink", name := "toArray", desc := "()[B" } : Jvm.MethodName) prog_17_method_6_code (1 : Nat) (Option.some (Jvm.ClassFile.FieldType.array Jvm.ClassFile.FieldType.byte))).before a0 Z = true := hw _ (List.mem_of_getElem? (i := 17) rfl)
theorem wd18 {Z : State} {a0 : Array Value} (hw : ∀ d ∈ tables_1, d.before a0 Z = true) : (Jvm.Cond.fieldLink "com/example/dirichlet/dirichlet/index/ByteSink" (15 : Nat) "com/example/dirichlet/dirichlet/index/ByteSink" "size" "I").before a0 Z = true := hw _ (List.mem_of_getElem? (i := 18) rfl)
theorem wd19 {Z : State} {a0 : Array Value} (hw : ∀ d ∈ tables_1, d.before a0 Z = true) : (Jvm.Cond.lays "com/example/dirichlet/dirichlet/index/ByteSink" "com/example/dirichlet/dirichlet/index/ByteSink" "size" "I").before a0 Z = true := hw _ (List.mem_of_getElem? (i := 19) rfl)
theorem wd20 {Z : State} {a0 : Array Value} (hw : ∀ d ∈ tables_1, d.before a0 Z = true) : (Jvm.Cond.methodLink "com/example/dirichlet/dirichlet/index/ByteSink" (62 : Nat) ({ cls := "java/util/Arrays", name := "copyOf", desc := "([BI)[B" } : Jvm.MethodName)).before a0 Z = true := hw _ (List.mem_of_getElem? (i := 20) rfl)
theorem wd21 {Z : State} {a0 : Array Value} (hw : ∀ d ∈ tables_1, d.before a0 Z = true) : (Jvm.Cond.static ({ cls := "java/util/Arrays", name := "copyOf", desc := "([BI)[B" } : Jvm.MethodName)).before a0 Z = true := hw _ (List.mem_of_getElem? (i := 21) rfl)
theorem wd22 {Z : State} {a0 : Array Value} (hw : ∀ d ∈ tables_1, d.before a0 Z = true) : (Jvm.Cond.initialized "java/util/Arrays").before a0 Z = true := hw _ (List.mem_of_getElem? (i := 22) rfl)
theorem wd23 {Z : State} {a0 : Array Value} (hw : ∀ d ∈ tables_1, d.before a0 Z = true) : (Jvm.Cond.code ({ cls := "java/util/Arrays", name := "copyOf", desc := "([BI)[B" } : Jvm.MethodName) jdk_65_method_121_code (3 : Nat) (Option.some (Jvm.ClassFile.FieldType.array Jvm.ClassFile.FieldType.byte))).before a0 Z = true := hw _ (List.mem_of_getElem? (i := 23) rfl)
theorem wd24 {Z : State} {a0 : Array Value} (hw : ∀ d ∈ tables_1, d.before a0 Z = true) : (Jvm.Cond.methodLink "java/util/Arrays" (310 : Nat) ({ cls := "[B", name := "clone", desc := "()Ljava/lang/Object;" } : Jvm.MethodName)).before a0 Z = true := hw _ (List.mem_of_getElem? (i := 24) rfl)
theorem wd25 {Z : State} {a0 : Array Value} (hw : ∀ d ∈ tables_1, d.before a0 Z = true) : (Jvm.Cond.sameMethod "[B" "java/lang/Object" "clone" "()Ljava/lang/Object;").before a0 Z = true := hw _ (List.mem_of_getElem? (i := 25) rfl)
theorem wd26 {Z : State} {a0 : Array Value} (hw : ∀ d ∈ tables_1, d.before a0 Z = true) : (Jvm.Cond.declares ({ cls := "java/lang/Object", name := "clone", desc := "()Ljava/lang/Object;" } : Jvm.MethodName)).before a0 Z = true := hw _ (List.mem_of_getElem? (i := 26) rfl)
theorem wd27 {Z : State} {a0 : Array Value} (hw : ∀ d ∈ tables_1, d.before a0 Z = true) : (Jvm.Cond.instanceMethod ({ cls := "java/lang/Object", name := "clone", desc := "()Ljava/lang/Object;" } : Jvm.MethodName)).before a0 Z = true := hw _ (List.mem_of_getElem? (i := 27) rfl)
theorem wd28 {Z : State} {a0 : Array Value} (hw : ∀ d ∈ tables_1, d.before a0 Z = true) : (Jvm.Cond.selects "[B" ({ cls := "[B", name := "clone", desc := "()Ljava/lang/Object;" } : Jvm.MethodName) ({ cls := "java/lang/Object", name := "clone", desc := "()Ljava/lang/Object;" } : Jvm.MethodName)).before a0 Z = true := hw _ (List.mem_of_getElem? (i := 28) rfl)
theorem wd29 {Z : State} {a0 : Array Value} (hw : ∀ d ∈ tables_1, d.before a0 Z = true) : (Jvm.Cond.native ({ cls := "java/lang/Object", name := "clone", desc := "()Ljava/lang/Object;" } : Jvm.MethodName)).before a0 Z = true := hw _ (List.mem_of_getElem? (i := 29) rfl)
theorem wd30 {Z : State} {a0 : Array Value} (hw : ∀ d ∈ tables_1, d.before a0 Z = true) : (Jvm.Cond.castable "[B" "java/lang/Cloneable").before a0 Z = true := hw _ (List.mem_of_getElem? (i := 30) rfl)
theorem wd31 {Z : State} {a0 : Array Value} (hw : ∀ d ∈ tables_1, d.before a0 Z = true) : (Jvm.Cond.classLink "java/util/Arrays" (311 : Nat) "[B").before a0 Z = true := hw _ (List.mem_of_getElem? (i := 31) rfl)
theorem wd32 {Z : State} {a0 : Array Value} (hw : ∀ d ∈ tables_1, d.before a0 Z = true) : (Jvm.Cond.castable "[B" "[B").before a0 Z = true := hw _ (List.mem_of_getElem? (i := 32) rfl)
theorem wd33 {Z : State} {a0 : Array Value} (hw : ∀ d ∈ tables_1, d.before a0 Z = true) : (Jvm.Cond.methodLink "com/example/dirichlet/dirichlet/index/ByteSinkToArrayPinLaw" (51 : Nat) ({ cls := "com/example/dirichlet/dirichlet/index/ByteSink", name := "size", desc := "()I" } : Jvm.MethodName)).before a0 Z = true := hw _ (List.mem_of_getElem? (i := 33) rfl)
theorem wd34 {Z : State} {a0 : Array Value} (hw : ∀ d ∈ tables_1, d.before a0 Z = true) : (Jvm.Cond.declares ({ cls := "com/example/dirichlet/dirichlet/index/ByteSink", name := "size", desc := "()I" } : Jvm.MethodName)).before a0 Z = true := hw _ (List.mem_of_getElem? (i := 34) rfl)
theorem wd35 {Z : State} {a0 : Array Value} (hw : ∀ d ∈ tables_1, d.before a0 Z = true) : (Jvm.Cond.instanceMethod ({ cls := "com/example/dirichlet/dirichlet/index/ByteSink", name := "size", desc := "()I" } : Jvm.MethodName)).before a0 Z = true := hw _ (List.mem_of_getElem? (i := 35) rfl)
theorem wd36 {Z : State} {a0 : Array Value} (hw : ∀ d ∈ tables_1, d.before a0 Z = true) : (Jvm.Cond.selects "com/example/dirichlet/dirichlet/index/ByteSink" ({ cls := "com/example/dirichlet/dirichlet/index/ByteSink", name := "size", desc := "()I" } : Jvm.MethodName) ({ cls := "com/example/dirichlet/dirichlet/index/ByteSink", name := "size", desc := "()I" } : Jvm.MethodName)).before a0 Z = true := hw _ (List.mem_of_getElem? (i := 36) rfl)
theorem wd37 {Z : State} {a0 : Array Value} (hw : ∀ d ∈ tables_1, d.before a0 Z = true) : (Jvm.Cond.code ({ cls := "com/example/dirichlet/dirichlet/index/ByteSink", name := "size", desc := "()I" } : Jvm.MethodName) prog_17_method_2_code (1 : Nat) (Option.some Jvm.ClassFile.FieldType.int)).before a0 Z = true := hw _ (List.mem_of_getElem? (i := 37) rfl)
theorem wd38 {Z : State} {a0 : Array Value} (hw : ∀ d ∈ tables_1, d.before a0 Z = true) : (Jvm.Cond.methodLink "com/example/dirichlet/dirichlet/index/ByteSinkToArrayPinLaw" (34 : Nat) ({ cls := "com/example/dirichlet/dirichlet/index/ByteSink", name := "writeNumber", desc := "(J)V" } : Jvm.MethodName)).before a0 Z = true := hw _ (List.mem_of_getElem? (i := 38) rfl)
theorem wd39 {Z : State} {a0 : Array Value} (hw : ∀ d ∈ tables_1, d.before a0 Z = true) : (Jvm.Cond.declares ({ cls := "com/example/dirichlet/dirichlet/index/ByteSink", name := "writeNumber", desc := "(J)V" } : Jvm.MethodName)).before a0 Z = true := hw _ (List.mem_of_getElem? (i := 39) rfl)
theorem wd40 {Z : State} {a0 : Array Value} (hw : ∀ d ∈ tables_1, d.before a0 Z = true) : (Jvm.Cond.instanceMethod ({ cls := "com/example/dirichlet/dirichlet/index/ByteSink", name := "writeNumber", desc := "(J)V" } : Jvm.MethodName)).before a0 Z = true := hw _ (List.mem_of_getElem? (i := 40) rfl)
theorem wd41 {Z : State} {a0 : Array Value} (hw : ∀ d ∈ tables_1, d.before a0 Z = true) : (Jvm.Cond.selects "com/example/dirichlet/dirichlet/index/ByteSink" ({ cls := "com/example/dirichlet/dirichlet/index/ByteSink", name := "writeNumber", desc := "(J)V" } : Jvm.MethodName) ({ cls := "com/example/dirichlet/dirichlet/index/ByteSink", name := "writeNumber", desc := "(J)V" } : Jvm.MethodName)).before a0 Z = true := hw _ (List.mem_of_getElem? (i := 41) rfl)
theorem wd42 {Z : State} {a0 : Array Value} (hw : ∀ d ∈ tables_1, d.before a0 Z = true) : (Jvm.Cond.code ({ cls := "com/example/dirichlet/dirichlet/index/ByteSink", name := "writeNumber", desc := "(J)V" } : Jvm.MethodName) prog_17_method_3_code (5 : Nat) (Option.none : Option Jvm.ClassFile.FieldType)).before a0 Z = true := hw _ (List.mem_of_getElem? (i := 42) rfl)
theorem wd43 {Z : State} {a0 : Array Value} (hw : ∀ d ∈ tables_1, d.before a0 Z = true) : (Jvm.Cond.methodLink "com/example/dirichlet/dirichlet/index/ByteSink" (28 : Nat) ({ cls := "com/example/dirichlet/dirichlet/index/ByteSink", name := "ensure", desc := "(I)V" } : Jvm.MethodName)).before a0 Z = true := hw _ (List.mem_of_getElem? (i := 43) rfl)
theorem wd44 {Z : State} {a0 : Array Value} (hw : ∀ d ∈ tables_1, d.before a0 Z = true) : (Jvm.Cond.instanceMethod ({ cls := "com/example/dirichlet/dirichlet/index/ByteSink", name := "ensure", desc := "(I)V" } : Jvm.MethodName)).before a0 Z = true := hw _ (List.mem_of_getElem? (i := 44) rfl)
theorem wd45 {Z : State} {a0 : Array Value} (hw : ∀ d ∈ tables_1, d.before a0 Z = true) : (Jvm.Cond.privateMethod ({ cls := "com/example/dirichlet/dirichlet/index/ByteSink", name := "ensure", desc := "(I)V" } : Jvm.MethodName)).before a0 Z = true := hw _ (List.mem_of_getElem? (i := 45) rfl)
theorem wd46 {Z : State} {a0 : Array Value} (hw : ∀ d ∈ tables_1, d.before a0 Z = true) : (Jvm.Cond.code ({ cls := "com/example/dirichlet/dirichlet/index/ByteSink", name := "ensure", desc := "(I)V" } : Jvm.MethodName) prog_17_method_8_code (4 : Nat) (Option.none : Option Jvm.ClassFile.FieldType)).before a0 Z = true := hw _ (List.mem_of_getElem? (i := 46) rfl)
theorem wd47 {Z : State} {a0 : Array Value} (hw : ∀ d ∈ tables_1, d.before a0 Z = true) : (Jvm.Cond.constant "com/example/dirichlet/dirichlet/index/ByteSink" (68 : Nat) (2147483631 : Int32)).before a0 Z = true := hw _ (List.mem_of_getElem? (i := 47) rfl)
theorem wd48 {Z : State} {a0 : Array Value} (hw : ∀ d ∈ tables_1, d.before a0 Z = true) : (Jvm.Cond.constantLong "com/example/dirichlet/dirichlet/index/ByteSink" (32 : Nat) (128 : Int64)).before a0 Z = true := hw _ (List.mem_of_getElem? (i := 48) rfl)
theorem wd49 {Z : State} {a0 : Array Value} (hw : ∀ d ∈ tables_1, d.before a0 Z = true) : (Jvm.Cond.methodLink "com/example/dirichlet/dirichlet/index/ByteSinkToArrayPinLaw" (41 : Nat) ({ cls := "com/example/dirichlet/dirichlet/index/ByteSinkToArrayPinLaw", name := "len", desc := "(J)I" } : Jvm.MethodName)).before a0 Z = true := hw _ (List.mem_of_getElem? (i := 49) rfl)
theorem wd50 {Z : State} {a0 : Array Value} (hw : ∀ d ∈ tables_1, d.before a0 Z = true) : (Jvm.Cond.static ({ cls := "com/example/dirichlet/dirichlet/index/ByteSinkToArrayPinLaw", name := "len", desc := "(J)I" } : Jvm.MethodName)).before a0 Z = true := hw _ (List.mem_of_getElem? (i := 50) rfl)
theorem wd51 {Z : State} {a0 : Array Value} (hw : ∀ d ∈ tables_1, d.before a0 Z = true) : (Jvm.Cond.initialized "com/example/dirichlet/dirichlet/index/ByteSinkToArrayPinLaw").before a0 Z = true := hw _ (List.mem_of_getElem? (i := 51) rfl)
theorem wd52 {Z : State} {a0 : Array Value} (hw : ∀ d ∈ tables_1, d.before a0 Z = true) : (Jvm.Cond.code ({ cls := "com/example/dirichlet/dirichlet/index/ByteSinkToArrayPinLaw", name := "len", desc := "(J)I" } : Jvm.MethodName) method_2_code (2 : Nat) (Option.some Jvm.ClassFile.FieldType.int)).before a0 Z = true := hw _ (List.mem_of_getElem? (i := 52) rfl)
theorem wd53 {Z : State} {a0 : Array Value} (hw : ∀ d ∈ tables_1, d.before a0 Z = true) : (Jvm.Cond.constantLong "com/example/dirichlet/dirichlet/index/ByteSinkToArrayPinLaw" (7 : Nat) (128 : Int64)).before a0 Z = true := hw _ (List.mem_of_getElem? (i := 53) rfl)
theorem wd54 {Z : State} {a0 : Array Value} (hw : ∀ d ∈ tables_1, d.before a0 Z = true) : (Jvm.Cond.methodLink "java/util/Arrays" (304 : Nat) ({ cls := "java/lang/Math", name := "min", desc := "(II)I" } : Jvm.MethodName)).before a0 Z = true := hw _ (List.mem_of_getElem? (i := 54) rfl)
theorem wd55 {Z : State} {a0 : Array Value} (hw : ∀ d ∈ tables_1, d.before a0 Z = true) : (Jvm.Cond.static ({ cls := "java/lang/Math", name := "min", desc := "(II)I" } : Jvm.MethodName)).before a0 Z = true := hw _ (List.mem_of_getElem? (i := 55) rfl)
theorem wd56 {Z : State} {a0 : Array Value} (hw : ∀ d ∈ tables_1, d.before a0 Z = true) : (Jvm.Cond.initialized "java/lang/Math").before a0 Z = true := hw _ (List.mem_of_getElem? (i := 56) rfl)
theorem wd57 {Z : State} {a0 : Array Value} (hw : ∀ d ∈ tables_1, d.before a0 Z = true) : (Jvm.Cond.code ({ cls := "java/lang/Math", name := "min", desc := "(II)I" } : Jvm.MethodName) jdk_29_method_69_code (2 : Nat) (Option.some Jvm.ClassFile.FieldType.int)).before a0 Z = true := hw _ (List.mem_of_getElem? (i := 57) rfl)
theorem wd58 {Z : State} {a0 : Array Value} (hw : ∀ d ∈ tables_1, d.before a0 Z = true) : (Jvm.Cond.methodLink "java/util/Arrays" (150 : Nat) ({ cls := "java/lang/System", name := "arraycopy", desc := "(Ljava/lang/Object;ILjava/lang/Object;II)V" } : Jvm.MethodName)).before a0 Z = true := hw _ (List.mem_of_getElem? (i := 58) rfl)
theorem wd59 {Z : State} {a0 : Array Value} (hw : ∀ d ∈ tables_1, d.before a0 Z = true) : (Jvm.Cond.static ({ cls := "java/lang/System", name := "arraycopy", desc := "(Ljava/lang/Object;ILjava/lang/Object;II)V" } : Jvm.MethodName)).before a0 Z = true := hw _ (List.mem_of_getElem? (i := 59) rfl)
theorem wd60 {Z : State} {a0 : Array Value} (hw : ∀ d ∈ tables_1, d.before a0 Z = true) : (Jvm.Cond.initialized "java/lang/System").before a0 Z = true := hw _ (List.mem_of_getElem? (i := 60) rfl)
theorem wd61 {Z : State} {a0 : Array Value} (hw : ∀ d ∈ tables_1, d.before a0 Z = true) : (Jvm.Cond.native ({ cls := "java/lang/System", name := "arraycopy", desc := "(Ljava/lang/Object;ILjava/lang/Object;II)V" } : Jvm.MethodName)).before a0 Z = true := hw _ (List.mem_of_getElem? (i := 61) rfl)
theorem wd62 {Z : State} {a0 : Array Value} (hw : ∀ d ∈ tables_1, d.before a0 Z = true) : (Jvm.Cond.constant "com/example/dirichlet/dirichlet/index/ByteSinkToArrayPinLaw" (55 : Nat) (2147483647 : Int32)).before a0 Z = true := hw _ (List.mem_of_getElem? (i := 62) rfl)
theorem wd63 {Z : State} {a0 : Array Value} (hw : ∀ d ∈ tables_1, d.before a0 Z = true) : (Jvm.Cond.methodLink "com/example/dirichlet/dirichlet/index/ByteSinkToArrayPinLaw" (56 : Nat) ({ cls := "com/example/dirichlet/dirichlet/index/ByteSinkToArrayPinLaw", name := "enc", desc := "(JII)I" } : Jvm.MethodName)).before a0 Z = true := hw _ (List.mem_of_getElem? (i := 63) rfl)
theorem wd64 {Z : State} {a0 : Array Value} (hw : ∀ d ∈ tables_1, d.before a0 Z = true) : (Jvm.Cond.static ({ cls := "com/example/dirichlet/dirichlet/index/ByteSinkToArrayPinLaw", name := "enc", desc := "(JII)I" } : Jvm.MethodName)).before a0 Z = true := hw _ (List.mem_of_getElem? (i := 64) rfl)
theorem wd65 {Z : State} {a0 : Array Value} (hw : ∀ d ∈ tables_1, d.before a0 Z = true) : (Jvm.Cond.code ({ cls := "com/example/dirichlet/dirichlet/index/ByteSinkToArrayPinLaw", name := "enc", desc := "(JII)I" } : Jvm.MethodName) method_3_code (5 : Nat) (Option.some Jvm.ClassFile.FieldType.int)).before a0 Z = true := hw _ (List.mem_of_getElem? (i := 65) rfl)
theorem wd66 {Z : State} {a0 : Array Value} (hw : ∀ d ∈ tables_1, d.before a0 Z = true) : (Jvm.Cond.constantLong "com/example/dirichlet/dirichlet/index/ByteSinkToArrayPinLaw" (23 : Nat) (127 : Int64)).before a0 Z = true := hw _ (List.mem_of_getElem? (i := 66) rfl)
theorem wd67 {Z : State} {a0 : Array Value} (hw : ∀ d ∈ tables_1, d.before a0 Z = true) : (Jvm.Cond.methodLink "com/example/dirichlet/dirichlet/index/ByteSinkToArrayPinLaw" (38 : Nat) ({ cls := "com/example/dirichlet/dirichlet/index/ByteSink", name := "clear", desc := "()V" } : Jvm.MethodName)).before a0 Z = true := hw _ (List.mem_of_getElem? (i := 67) rfl)
theorem wd68 {Z : State} {a0 : Array Value} (hw : ∀ d ∈ tables_1, d.before a0 Z = true) : (Jvm.Cond.declares ({ cls := "com/example/dirichlet/dirichlet/index/ByteSink", name := "clear", desc := "()V" } : Jvm.MethodName)).before a0 Z = true := hw _ (List.mem_of_getElem? (i := 68) rfl)
theorem wd69 {Z : State} {a0 : Array Value} (hw : ∀ d ∈ tables_1, d.before a0 Z = true) : (Jvm.Cond.instanceMethod ({ cls := "com/example/dirichlet/dirichlet/index/ByteSink", name := "clear", desc := "()V" } : Jvm.MethodName)).before a0 Z = true := hw _ (List.mem_of_getElem? (i := 69) rfl)
theorem wd70 {Z : State} {a0 : Array Value} (hw : ∀ d ∈ tables_1, d.before a0 Z = true) : (Jvm.Cond.selects "com/example/dirichlet/dirichlet/index/ByteSink" ({ cls := "com/example/dirichlet/dirichlet/index/ByteSink", name := "clear", desc := "()V" } : Jvm.MethodName) ({ cls := "com/example/dirichlet/dirichlet/index/ByteSink", name := "clear", desc := "()V" } : Jvm.MethodName)).before a0 Z = true := hw _ (List.mem_of_getElem? (i := 70) rfl)
theorem wd71 {Z : State} {a0 : Array Value} (hw : ∀ d ∈ tables_1, d.before a0 Z = true) : (Jvm.Cond.code ({ cls := "com/example/dirichlet/dirichlet/index/ByteSink", name := "clear", desc := "()V" } : Jvm.MethodName) prog_17_method_7_code (1 : Nat) (Option.none : Option Jvm.ClassFile.FieldType)).before a0 Z = true := hw _ (List.mem_of_getElem? (i := 71) rfl)
theorem wd72 {Z : State} {a0 : Array Value} (hw : ∀ d ∈ tables_1, d.before a0 Z = true) : (Jvm.Cond.constantLong "com/example/dirichlet/dirichlet/index/ByteSink" (74 : Nat) (2 : Int64)).before a0 Z = true := hw _ (List.mem_of_getElem? (i := 72) rfl)
theorem wd73 {Z : State} {a0 : Array Value} (hw : ∀ d ∈ tables_1, d.before a0 Z = true) : (Jvm.Cond.methodLink "com/example/dirichlet/dirichlet/index/ByteSink" (76 : Nat) ({ cls := "java/lang/Math", name := "max", desc := "(JJ)J" } : Jvm.MethodName)).before a0 Z = true := hw _ (List.mem_of_getElem? (i := 73) rfl)
theorem wd74 {Z : State} {a0 : Array Value} (hw : ∀ d ∈ tables_1, d.before a0 Z = true) : (Jvm.Cond.static ({ cls := "java/lang/Math", name := "max", desc := "(JJ)J" } : Jvm.MethodName)).before a0 Z = true := hw _ (List.mem_of_getElem? (i := 74) rfl)
theorem wd75 {Z : State} {a0 : Array Value} (hw : ∀ d ∈ tables_1, d.before a0 Z = true) : (Jvm.Cond.code ({ cls := "java/lang/Math", name := "max", desc := "(JJ)J" } : Jvm.MethodName) jdk_29_method_66_code (4 : Nat) (Option.some Jvm.ClassFile.FieldType.long)).before a0 Z = true := hw _ (List.mem_of_getElem? (i := 75) rfl)
theorem wd76 {Z : State} {a0 : Array Value} (hw : ∀ d ∈ tables_1, d.before a0 Z = true) : (Jvm.Cond.constantLong "com/example/dirichlet/dirichlet/index/ByteSink" (82 : Nat) (2147483631 : Int64)).before a0 Z = true := hw _ (List.mem_of_getElem? (i := 76) rfl)
theorem wd77 {Z : State} {a0 : Array Value} (hw : ∀ d ∈ tables_1, d.before a0 Z = true) : (Jvm.Cond.methodLink "com/example/dirichlet/dirichlet/index/ByteSink" (84 : Nat) ({ cls := "java/lang/Math", name := "min", desc := "(JJ)J" } : Jvm.MethodName)).before a0 Z = true := hw _ (List.mem_of_getElem? (i := 77) rfl)
theorem wd78 {Z : State} {a0 : Array Value} (hw : ∀ d ∈ tables_1, d.before a0 Z = true) : (Jvm.Cond.static ({ cls := "java/lang/Math", name := "min", desc := "(JJ)J" } : Jvm.MethodName)).before a0 Z = true := hw _ (List.mem_of_getElem? (i := 78) rfl)
theorem wd79 {Z : State} {a0 : Array Value} (hw : ∀ d ∈ tables_1, d.before a0 Z = true) : (Jvm.Cond.code ({ cls := "java/lang/Math", name := "min", desc := "(JJ)J" } : Jvm.MethodName) jdk_29_method_70_code (4 : Nat) (Option.some Jvm.ClassFile.FieldType.long)).before a0 Z = true := hw _ (List.mem_of_getElem? (i := 79) rfl)
theorem wd80 {Z : State} {a0 : Array Value} (hw : ∀ d ∈ tables_1, d.before a0 Z = true) : (Jvm.Cond.constantLong "com/example/dirichlet/dirichlet/index/ByteSinkToArrayPinLaw" (9 : Nat) (16384 : Int64)).before a0 Z = true := hw _ (List.mem_of_getElem? (i := 80) rfl)
theorem wd81 {Z : State} {a0 : Array Value} (hw : ∀ d ∈ tables_1, d.before a0 Z = true) : (Jvm.Cond.constantLong "com/example/dirichlet/dirichlet/index/ByteSinkToArrayPinLaw" (11 : Nat) (2097152 : Int64)).before a0 Z = true := hw _ (List.mem_of_getElem? (i := 81) rfl)
theorem wd82 {Z : State} {a0 : Array Value} (hw : ∀ d ∈ tables_1, d.before a0 Z = true) : (Jvm.Cond.constantLong "com/example/dirichlet/dirichlet/index/ByteSinkToArrayPinLaw" (13 : Nat) (268435456 : Int64)).before a0 Z = true := hw _ (List.mem_of_getElem? (i := 82) rfl)
theorem wd83 {Z : State} {a0 : Array Value} (hw : ∀ d ∈ tables_1, d.before a0 Z = true) : (Jvm.Cond.constantLong "com/example/dirichlet/dirichlet/index/ByteSinkToArrayPinLaw" (15 : Nat) (34359738368 : Int64)).before a0 Z = true := hw _ (List.mem_of_getElem? (i := 83) rfl)
theorem wd84 {Z : State} {a0 : Array Value} (hw : ∀ d ∈ tables_1, d.before a0 Z = true) : (Jvm.Cond.constantLong "com/example/dirichlet/dirichlet/index/ByteSinkToArrayPinLaw" (17 : Nat) (4398046511104 : Int64)).before a0 Z = true := hw _ (List.mem_of_getElem? (i := 84) rfl)
theorem wd85 {Z : State} {a0 : Array Value} (hw : ∀ d ∈ tables_1, d.before a0 Z = true) : (Jvm.Cond.constantLong "com/example/dirichlet/dirichlet/index/ByteSinkToArrayPinLaw" (19 : Nat) (562949953421312 : Int64)).before a0 Z = true := hw _ (List.mem_of_getElem? (i := 85) rfl)
theorem wd86 {Z : State} {a0 : Array Value} (hw : ∀ d ∈ tables_1, d.before a0 Z = true) : (Jvm.Cond.constantLong "com/example/dirichlet/dirichlet/index/ByteSinkToArrayPinLaw" (21 : Nat) (72057594037927936 : Int64)).before a0 Z = true := hw _ (List.mem_of_getElem? (i := 86) rfl)
def fl_C0 : List (String × String) := [("bytes", "[B"), ("size", "I")]
def dv_C0 : List Value := [Value.null, Value.int 0]
theorem la_C0 {Z : State} {a0 : Array Value} (hw : ∀ d ∈ tables_1, d.before a0 Z = true) : ∀ (j : Nat) (n d : String), fl_C0[j]? = some (n, d) → Laid Z a0 "com/example/dirichlet/dirichlet/index/ByteSink" "com/example/dirichlet/dirichlet/index/ByteSink" n d ∧ ∃ t, parseFieldDescriptor d = some t
  | 0, n, d, h => by have h : some ("bytes", "[B") = some (n, d) := h; cases h; exact ⟨Or.inl (wd12 hw), (.array .byte), by decide⟩
  | 1, n, d, h => by have h : some ("size", "I") = some (n, d) := h; cases h; exact ⟨Or.inl (wd19 hw), .int, by decide⟩
  | j + 2, n, d, h => by have h : none = some (n, d) := h; cases h
theorem ly_C0 {Z : State} {a0 : Array Value} (hw : ∀ d ∈ tables_1, d.before a0 Z = true) : ∀ (j : Nat) (n d : String) (v : Value), fl_C0[j]? = some (n, d) → dv_C0[j]? = some v → Laid Z a0 "com/example/dirichlet/dirichlet/index/ByteSink" "com/example/dirichlet/dirichlet/index/ByteSink" n d ∧ ∃ ty, parseFieldDescriptor d = some ty ∧ defaultValue ty = v
  | 0, n, d, v, h, h' => by have h : some ("bytes", "[B") = some (n, d) := h; have h' : some _ = some v := h'; cases h; cases h'; exact ⟨Or.inl (wd12 hw), (.array .byte), by decide, rfl⟩
  | 1, n, d, v, h, h' => by have h : some ("size", "I") = some (n, d) := h; have h' : some _ = some v := h'; cases h; cases h'; exact ⟨Or.inl (wd19 hw), .int, by decide, rfl⟩
  | j + 2, n, d, v, h, h' => by have h : none = some (n, d) := h; cases h
theorem di_C0 {Z : State} {a0 : Array Value} (hw : ∀ d ∈ tables_1, d.before a0 Z = true) : Dis Z "com/example/dirichlet/dirichlet/index/ByteSink" fl_C0 := own_dis (la_C0 hw) (by decide +kernel)
theorem d8_0 : decode method_2_code 0 = .ok (.lload_n 0, 1) := by decide +kernel
theorem d8_1 : decode method_2_code 1 = .ok (.ldc2_w 7, 3) := by decide +kernel
theorem d8_4 : decode method_2_code 4 = .ok (.lcmp, 1) := by decide +kernel
theorem d8_5 : decode method_2_code 5 = .ok (.ifCond .ge 5, 3) := by decide +kernel
theorem d8_8 : decode method_2_code 8 = .ok (.iconst 1, 1) := by decide +kernel
theorem d8_9 : decode method_2_code 9 = .ok (.ireturn, 1) := by decide +kernel
theorem d8_10 : decode method_2_code 10 = .ok (.lload_n 0, 1) := by decide +kernel
theorem d8_11 : decode method_2_code 11 = .ok (.ldc2_w 9, 3) := by decide +kernel
theorem d8_14 : decode method_2_code 14 = .ok (.lcmp, 1) := by decide +kernel
theorem d8_15 : decode method_2_code 15 = .ok (.ifCond .ge 5, 3) := by decide +kernel
theorem d8_18 : decode method_2_code 18 = .ok (.iconst 2, 1) := by decide +kernel
theorem d8_19 : decode method_2_code 19 = .ok (.ireturn, 1) := by decide +kernel
theorem d8_20 : decode method_2_code 20 = .ok (.lload_n 0, 1) := by decide +kernel
theorem d8_21 : decode method_2_code 21 = .ok (.ldc2_w 11, 3) := by decide +kernel
theorem d8_24 : decode method_2_code 24 = .ok (.lcmp, 1) := by decide +kernel
theorem d8_25 : decode method_2_code 25 = .ok (.ifCond .ge 5, 3) := by decide +kernel
theorem d8_28 : decode method_2_code 28 = .ok (.iconst 3, 1) := by decide +kernel
theorem d8_29 : decode method_2_code 29 = .ok (.ireturn, 1) := by decide +kernel
theorem d8_30 : decode method_2_code 30 = .ok (.lload_n 0, 1) := by decide +kernel
theorem d8_31 : decode method_2_code 31 = .ok (.ldc2_w 13, 3) := by decide +kernel
theorem d8_34 : decode method_2_code 34 = .ok (.lcmp, 1) := by decide +kernel
theorem d8_35 : decode method_2_code 35 = .ok (.ifCond .ge 5, 3) := by decide +kernel
theorem d8_38 : decode method_2_code 38 = .ok (.iconst 4, 1) := by decide +kernel
theorem d8_39 : decode method_2_code 39 = .ok (.ireturn, 1) := by decide +kernel
theorem d8_40 : decode method_2_code 40 = .ok (.lload_n 0, 1) := by decide +kernel
theorem d8_41 : decode method_2_code 41 = .ok (.ldc2_w 15, 3) := by decide +kernel
theorem d8_44 : decode method_2_code 44 = .ok (.lcmp, 1) := by decide +kernel
theorem d8_45 : decode method_2_code 45 = .ok (.ifCond .ge 5, 3) := by decide +kernel
theorem d8_48 : decode method_2_code 48 = .ok (.iconst 5, 1) := by decide +kernel
theorem d8_49 : decode method_2_code 49 = .ok (.ireturn, 1) := by decide +kernel
theorem d8_50 : decode method_2_code 50 = .ok (.lload_n 0, 1) := by decide +kernel
theorem d8_51 : decode method_2_code 51 = .ok (.ldc2_w 17, 3) := by decide +kernel
theorem d8_54 : decode method_2_code 54 = .ok (.lcmp, 1) := by decide +kernel
theorem d8_55 : decode method_2_code 55 = .ok (.ifCond .ge 6, 3) := by decide +kernel
theorem d8_58 : decode method_2_code 58 = .ok (.bipush 6, 2) := by decide +kernel
theorem d8_60 : decode method_2_code 60 = .ok (.ireturn, 1) := by decide +kernel
theorem d8_61 : decode method_2_code 61 = .ok (.lload_n 0, 1) := by decide +kernel
theorem d8_62 : decode method_2_code 62 = .ok (.ldc2_w 19, 3) := by decide +kernel
theorem d8_65 : decode method_2_code 65 = .ok (.lcmp, 1) := by decide +kernel
theorem d8_66 : decode method_2_code 66 = .ok (.ifCond .ge 6, 3) := by decide +kernel
theorem d8_69 : decode method_2_code 69 = .ok (.bipush 7, 2) := by decide +kernel
theorem d8_71 : decode method_2_code 71 = .ok (.ireturn, 1) := by decide +kernel
theorem d8_72 : decode method_2_code 72 = .ok (.lload_n 0, 1) := by decide +kernel
theorem d8_73 : decode method_2_code 73 = .ok (.ldc2_w 21, 3) := by decide +kernel
theorem d8_76 : decode method_2_code 76 = .ok (.lcmp, 1) := by decide +kernel
theorem d8_77 : decode method_2_code 77 = .ok (.ifCond .ge 6, 3) := by decide +kernel
theorem d8_80 : decode method_2_code 80 = .ok (.bipush 8, 2) := by decide +kernel
theorem d8_82 : decode method_2_code 82 = .ok (.ireturn, 1) := by decide +kernel
theorem d8_83 : decode method_2_code 83 = .ok (.bipush 9, 2) := by decide +kernel
theorem d8_85 : decode method_2_code 85 = .ok (.ireturn, 1) := by decide +kernel
theorem pn8 : plainFor (⟨"com/example/dirichlet/dirichlet/index/ByteSinkToArrayPinLaw", "len", "(J)I"⟩ : MethodName) = true := plainFor_of_name (by first | (simp [plainName, overriddenIn]; done) | decide +kernel)
theorem pd8 : parseMethodDescriptor (⟨"com/example/dirichlet/dirichlet/index/ByteSinkToArrayPinLaw", "len", "(J)I"⟩ : MethodName).desc = some ⟨[.long], some .int⟩ := by decide +kernel
theorem ef8 (m : MethodId) (x0 : Int64) : entryFrame m #[Value.long x0] 2 = mkF m 0 #[.val (.long x0), .second] [] := by first | (simp [entryFrame, mkF, argsToLocals, Value.category]; done) | rfl
def sp8 (x0 : Int64) : Int32 := (if x0 < (128 : Int64) then (1 : Int32) else (if x0 < (16384 : Int64) then (2 : Int32) else (if x0 < (2097152 : Int64) then (3 : Int32) else (if x0 < (268435456 : Int64) then (4 : Int32) else (if x0 < (34359738368 : Int64) then (5 : Int32) else (if x0 < (4398046511104 : Int64) then (6 : Int32) else (if x0 < (562949953421312 : Int64) then (7 : Int32) else (if x0 < (72057594037927936 : Int64) then (8 : Int32) else (9 : Int32)))))))))
set_option maxRecDepth 65536 in
set_option maxHeartbeats 40000000 in
theorem rm8 (l : Launch) (Z : State) (a0 : Array Value) (hw : ∀ d ∈ tables_1, d.before a0 Z = true) (ws : List Jvm.Cond) (x0 : Int64) (hh : Heap) :
    MetFree l (⟨"com/example/dirichlet/dirichlet/index/ByteSinkToArrayPinLaw", "len", "(J)I"⟩ : MethodName) (head1 (Jvm.Cond.code (⟨"com/example/dirichlet/dirichlet/index/ByteSinkToArrayPinLaw", "len", "(J)I"⟩ : MethodName) method_2_code 2 (some .int) :: ws) ({ frames := 0, cells := 0, slots := 0, locals := 0 } : Room)) (fun aa U => aa = #[Value.long x0] ∧ Z.Warmed39 U.vm ∧ U.heap = hh) (fun _ _ _ _ _ => True) (fun _ U o U' => ∃ v L, o = .returned v ∧ PureQ (Value.int (sp8 x0)) hh v U'.heap L ∧ FrameEnd U o U' L ({ frames := 0, cells := 0, slots := 0, locals := 0 } : Room).cells ({ frames := 0, cells := 0, slots := 0, locals := 0 } : Room).slots) := by
  refine own_body pn8 ?_
  intro p e s m below meth c T0 hx hby hml hret hlk hown hnm hZ X0 e0
  refine own_cast (ef8 m x0) ?_
  refine w_lloadN X0 hx (hb hby d8_0) rfl (pc' := 1) rfl ?_
  refine w_ldc2 X0 hx (hb hby d8_1) hown (mvT hZ (wd53 hw)) (pc' := 4) rfl ?_
  refine w_lcmp_ge X0 hx (hb hby d8_4) rfl (hb hby d8_5) (by decide) (pcY := 10) (by decide) (pc' := 8) rfl (fun h0 => ?_) (fun h0 => ?_)
  · refine w_lloadN X0 hx (hb hby d8_10) rfl (pc' := 11) rfl ?_
    refine w_ldc2 X0 hx (hb hby d8_11) hown (mvT hZ (wd80 hw)) (pc' := 14) rfl ?_
    refine w_lcmp_ge X0 hx (hb hby d8_14) rfl (hb hby d8_15) (by decide) (pcY := 20) (by decide) (pc' := 18) rfl (fun h1 => ?_) (fun h1 => ?_)
    · refine w_lloadN X0 hx (hb hby d8_20) rfl (pc' := 21) rfl ?_
      refine w_ldc2 X0 hx (hb hby d8_21) hown (mvT hZ (wd81 hw)) (pc' := 24) rfl ?_
      refine w_lcmp_ge X0 hx (hb hby d8_24) rfl (hb hby d8_25) (by decide) (pcY := 30) (by decide) (pc' := 28) rfl (fun h2 => ?_) (fun h2 => ?_)
      · refine w_lloadN X0 hx (hb hby d8_30) rfl (pc' := 31) rfl ?_
        refine w_ldc2 X0 hx (hb hby d8_31) hown (mvT hZ (wd82 hw)) (pc' := 34) rfl ?_
        refine w_lcmp_ge X0 hx (hb hby d8_34) rfl (hb hby d8_35) (by decide) (pcY := 40) (by decide) (pc' := 38) rfl (fun h3 => ?_) (fun h3 => ?_)
        · refine w_lloadN X0 hx (hb hby d8_40) rfl (pc' := 41) rfl ?_
          refine w_ldc2 X0 hx (hb hby d8_41) hown (mvT hZ (wd83 hw)) (pc' := 44) rfl ?_
          refine w_lcmp_ge X0 hx (hb hby d8_44) rfl (hb hby d8_45) (by decide) (pcY := 50) (by decide) (pc' := 48) rfl (fun h4 => ?_) (fun h4 => ?_)
          · refine w_lloadN X0 hx (hb hby d8_50) rfl (pc' := 51) rfl ?_
            refine w_ldc2 X0 hx (hb hby d8_51) hown (mvT hZ (wd84 hw)) (pc' := 54) rfl ?_
            refine w_lcmp_ge X0 hx (hb hby d8_54) rfl (hb hby d8_55) (by decide) (pcY := 61) (by decide) (pc' := 58) rfl (fun h5 => ?_) (fun h5 => ?_)
            · refine w_lloadN X0 hx (hb hby d8_61) rfl (pc' := 62) rfl ?_
              refine w_ldc2 X0 hx (hb hby d8_62) hown (mvT hZ (wd85 hw)) (pc' := 65) rfl ?_
              refine w_lcmp_ge X0 hx (hb hby d8_65) rfl (hb hby d8_66) (by decide) (pcY := 72) (by decide) (pc' := 69) rfl (fun h6 => ?_) (fun h6 => ?_)
              · refine w_lloadN X0 hx (hb hby d8_72) rfl (pc' := 73) rfl ?_
                refine w_ldc2 X0 hx (hb hby d8_73) hown (mvT hZ (wd86 hw)) (pc' := 76) rfl ?_
                refine w_lcmp_ge X0 hx (hb hby d8_76) rfl (hb hby d8_77) (by decide) (pcY := 83) (by decide) (pc' := 80) rfl (fun h7 => ?_) (fun h7 => ?_)
                · refine w_bipush (v := (9 : Int32)) X0 hx (hb hby d8_83) rfl (pc' := 85) rfl ?_
                  exact w_ret_i X0 hx hret hlk (hb hby d8_85) (by decide) (by decide) ⟨(congrArg (fun q => some (Value.int q)) (show (9 : Int32) = sp8 x0 from by rw [sp8, if_neg h0, if_neg h1, if_neg h2, if_neg h3, if_neg h4, if_neg h5, if_neg h6, if_neg h7])), rfl, e0⟩
                · refine w_bipush (v := (8 : Int32)) X0 hx (hb hby d8_80) rfl (pc' := 82) rfl ?_
                  exact w_ret_i X0 hx hret hlk (hb hby d8_82) (by decide) (by decide) ⟨(congrArg (fun q => some (Value.int q)) (show (8 : Int32) = sp8 x0 from by rw [sp8, if_neg h0, if_neg h1, if_neg h2, if_neg h3, if_neg h4, if_neg h5, if_neg h6, if_pos h7])), rfl, e0⟩
              · refine w_bipush (v := (7 : Int32)) X0 hx (hb hby d8_69) rfl (pc' := 71) rfl ?_
                exact w_ret_i X0 hx hret hlk (hb hby d8_71) (by decide) (by decide) ⟨(congrArg (fun q => some (Value.int q)) (show (7 : Int32) = sp8 x0 from by rw [sp8, if_neg h0, if_neg h1, if_neg h2, if_neg h3, if_neg h4, if_neg h5, if_pos h6])), rfl, e0⟩
            · refine w_bipush (v := (6 : Int32)) X0 hx (hb hby d8_58) rfl (pc' := 60) rfl ?_
              exact w_ret_i X0 hx hret hlk (hb hby d8_60) (by decide) (by decide) ⟨(congrArg (fun q => some (Value.int q)) (show (6 : Int32) = sp8 x0 from by rw [sp8, if_neg h0, if_neg h1, if_neg h2, if_neg h3, if_neg h4, if_pos h5])), rfl, e0⟩
          · refine w_iconst (v := (5 : Int32)) X0 hx (hb hby d8_48) rfl (pc' := 49) rfl ?_
            exact w_ret_i X0 hx hret hlk (hb hby d8_49) (by decide) (by decide) ⟨(congrArg (fun q => some (Value.int q)) (show (5 : Int32) = sp8 x0 from by rw [sp8, if_neg h0, if_neg h1, if_neg h2, if_neg h3, if_pos h4])), rfl, e0⟩
        · refine w_iconst (v := (4 : Int32)) X0 hx (hb hby d8_38) rfl (pc' := 39) rfl ?_
          exact w_ret_i X0 hx hret hlk (hb hby d8_39) (by decide) (by decide) ⟨(congrArg (fun q => some (Value.int q)) (show (4 : Int32) = sp8 x0 from by rw [sp8, if_neg h0, if_neg h1, if_neg h2, if_pos h3])), rfl, e0⟩
      · refine w_iconst (v := (3 : Int32)) X0 hx (hb hby d8_28) rfl (pc' := 29) rfl ?_
        exact w_ret_i X0 hx hret hlk (hb hby d8_29) (by decide) (by decide) ⟨(congrArg (fun q => some (Value.int q)) (show (3 : Int32) = sp8 x0 from by rw [sp8, if_neg h0, if_neg h1, if_pos h2])), rfl, e0⟩
    · refine w_iconst (v := (2 : Int32)) X0 hx (hb hby d8_18) rfl (pc' := 19) rfl ?_
      exact w_ret_i X0 hx hret hlk (hb hby d8_19) (by decide) (by decide) ⟨(congrArg (fun q => some (Value.int q)) (show (2 : Int32) = sp8 x0 from by rw [sp8, if_neg h0, if_pos h1])), rfl, e0⟩
  · refine w_iconst (v := (1 : Int32)) X0 hx (hb hby d8_8) rfl (pc' := 9) rfl ?_
    exact w_ret_i X0 hx hret hlk (hb hby d8_9) (by decide) (by decide) ⟨(congrArg (fun q => some (Value.int q)) (show (1 : Int32) = sp8 x0 from by rw [sp8, if_pos h0])), rfl, e0⟩
theorem d9_0 : decode jdk_29_method_69_code 0 = .ok (.iload_n 0, 1) := by decide +kernel
theorem d9_1 : decode jdk_29_method_69_code 1 = .ok (.iload_n 1, 1) := by decide +kernel
theorem d9_2 : decode jdk_29_method_69_code 2 = .ok (.if_icmp .gt 7, 3) := by decide +kernel
theorem d9_5 : decode jdk_29_method_69_code 5 = .ok (.iload_n 0, 1) := by decide +kernel
theorem d9_6 : decode jdk_29_method_69_code 6 = .ok (.goto 4, 3) := by decide +kernel
theorem d9_9 : decode jdk_29_method_69_code 9 = .ok (.iload_n 1, 1) := by decide +kernel
theorem d9_10 : decode jdk_29_method_69_code 10 = .ok (.ireturn, 1) := by decide +kernel
theorem pn9 : plainFor (⟨"java/lang/Math", "min", "(II)I"⟩ : MethodName) = true := Jvm.Free.JP.mathPlain rfl (by decide +kernel)
theorem pd9 : parseMethodDescriptor (⟨"java/lang/Math", "min", "(II)I"⟩ : MethodName).desc = some ⟨[.int, .int], some .int⟩ := by decide +kernel
theorem ef9 (m : MethodId) (x0 : Int32) (x1 : Int32) : entryFrame m #[Value.int x0, Value.int x1] 2 = mkF m 0 #[.val (.int x0), .val (.int x1)] [] := by first | (simp [entryFrame, mkF, argsToLocals, Value.category]; done) | rfl
def sp9 (x0 : Int32) (x1 : Int32) : Int32 := (if x1 < x0 then x1 else x0)
set_option maxRecDepth 65536 in
set_option maxHeartbeats 40000000 in
theorem rm9 (l : Launch) (Z : State) (a0 : Array Value) (hw : ∀ d ∈ tables_1, d.before a0 Z = true) (ws : List Jvm.Cond) (x0 : Int32) (x1 : Int32) (hh : Heap) :
    MetFree l (⟨"java/lang/Math", "min", "(II)I"⟩ : MethodName) (head1 (Jvm.Cond.code (⟨"java/lang/Math", "min", "(II)I"⟩ : MethodName) jdk_29_method_69_code 2 (some .int) :: ws) ({ frames := 0, cells := 0, slots := 0, locals := 0 } : Room)) (fun aa U => aa = #[Value.int x0, Value.int x1] ∧ Z.Warmed39 U.vm ∧ U.heap = hh) (fun _ _ _ _ _ => True) (fun _ U o U' => ∃ v L, o = .returned v ∧ PureQ (Value.int (sp9 x0 x1)) hh v U'.heap L ∧ FrameEnd U o U' L ({ frames := 0, cells := 0, slots := 0, locals := 0 } : Room).cells ({ frames := 0, cells := 0, slots := 0, locals := 0 } : Room).slots) := by
  refine own_body pn9 ?_
  intro p e s m below meth c T0 hx hby hml hret hlk hown hnm hZ X0 e0
  refine own_cast (ef9 m x0 x1) ?_
  refine w_iloadN X0 hx (hb hby d9_0) rfl (pc' := 1) rfl ?_
  refine w_iloadN X0 hx (hb hby d9_1) rfl (pc' := 2) rfl ?_
  refine w_icmp_gt X0 hx (hb hby d9_2) (by decide) (pcY := 9) (by decide) (pc' := 5) rfl (fun h0 => ?_) (fun h0 => ?_)
  · refine w_iloadN X0 hx (hb hby d9_9) rfl (pc' := 10) rfl ?_
    exact w_ret_i X0 hx hret hlk (hb hby d9_10) (by decide) (by decide) ⟨(congrArg (fun q => some (Value.int q)) (show x1 = sp9 x0 x1 from by rw [sp9, if_pos h0])), rfl, e0⟩
  · refine w_iloadN X0 hx (hb hby d9_5) rfl (pc' := 6) rfl ?_
    refine w_goto X0 hx (hb hby d9_6) (by decide) (pc' := 10) (by decide) ?_
    exact w_ret_i X0 hx hret hlk (hb hby d9_10) (by decide) (by decide) ⟨(congrArg (fun q => some (Value.int q)) (show x0 = sp9 x0 x1 from by rw [sp9, if_neg h0])), rfl, e0⟩
theorem d10_0 : decode method_3_code 0 = .ok (.lload_n 0, 1) := by decide +kernel
theorem d10_1 : decode method_3_code 1 = .ok (.bipush 7, 2) := by decide +kernel
theorem d10_3 : decode method_3_code 3 = .ok (.iload_n 2, 1) := by decide +kernel
theorem d10_4 : decode method_3_code 4 = .ok (.imul, 1) := by decide +kernel
theorem d10_5 : decode method_3_code 5 = .ok (.lushr, 1) := by decide +kernel
theorem d10_6 : decode method_3_code 6 = .ok (.ldc2_w 23, 3) := by decide +kernel
theorem d10_9 : decode method_3_code 9 = .ok (.land, 1) := by decide +kernel
theorem d10_10 : decode method_3_code 10 = .ok (.l2i, 1) := by decide +kernel
theorem d10_11 : decode method_3_code 11 = .ok (.istore 4, 2) := by decide +kernel
theorem d10_13 : decode method_3_code 13 = .ok (.iload_n 2, 1) := by decide +kernel
theorem d10_14 : decode method_3_code 14 = .ok (.iload_n 3, 1) := by decide +kernel
theorem d10_15 : decode method_3_code 15 = .ok (.iconst 1, 1) := by decide +kernel
theorem d10_16 : decode method_3_code 16 = .ok (.isub, 1) := by decide +kernel
theorem d10_17 : decode method_3_code 17 = .ok (.if_icmp .ge 12, 3) := by decide +kernel
theorem d10_20 : decode method_3_code 20 = .ok (.iload 4, 2) := by decide +kernel
theorem d10_22 : decode method_3_code 22 = .ok (.sipush 128, 3) := by decide +kernel
theorem d10_25 : decode method_3_code 25 = .ok (.ior, 1) := by decide +kernel
theorem d10_26 : decode method_3_code 26 = .ok (.goto 5, 3) := by decide +kernel
theorem d10_29 : decode method_3_code 29 = .ok (.iload 4, 2) := by decide +kernel
theorem d10_31 : decode method_3_code 31 = .ok (.ireturn, 1) := by decide +kernel
theorem pn10 : plainFor (⟨"com/example/dirichlet/dirichlet/index/ByteSinkToArrayPinLaw", "enc", "(JII)I"⟩ : MethodName) = true := plainFor_of_name (by first | (simp [plainName, overriddenIn]; done) | decide +kernel)
theorem pd10 : parseMethodDescriptor (⟨"com/example/dirichlet/dirichlet/index/ByteSinkToArrayPinLaw", "enc", "(JII)I"⟩ : MethodName).desc = some ⟨[.long, .int, .int], some .int⟩ := by decide +kernel
theorem ef10 (m : MethodId) (x0 : Int64) (x1 : Int32) (x2 : Int32) : entryFrame m #[Value.long x0, Value.int x1, Value.int x2] 5 = mkF m 0 #[.val (.long x0), .second, .val (.int x1), .val (.int x2), .unset] [] := by first | (simp [entryFrame, mkF, argsToLocals, Value.category]; done) | rfl
def sp10 (x0 : Int64) (x1 : Int32) (x2 : Int32) : Int32 := (if x1 < (x2 - (1 : Int32)) then ((Int64.toInt32 ((XT.ushrL x0 ((7 : Int32) * x1)) &&& (127 : Int64))) ||| (128 : Int32)) else (Int64.toInt32 ((XT.ushrL x0 ((7 : Int32) * x1)) &&& (127 : Int64))))
set_option maxRecDepth 65536 in
set_option maxHeartbeats 40000000 in
theorem rm10 (l : Launch) (Z : State) (a0 : Array Value) (hw : ∀ d ∈ tables_1, d.before a0 Z = true) (ws : List Jvm.Cond) (x0 : Int64) (x1 : Int32) (x2 : Int32) (hh : Heap) :
    MetFree l (⟨"com/example/dirichlet/dirichlet/index/ByteSinkToArrayPinLaw", "enc", "(JII)I"⟩ : MethodName) (head1 (Jvm.Cond.code (⟨"com/example/dirichlet/dirichlet/index/ByteSinkToArrayPinLaw", "enc", "(JII)I"⟩ : MethodName) method_3_code 5 (some .int) :: ws) ({ frames := 0, cells := 0, slots := 0, locals := 0 } : Room)) (fun aa U => aa = #[Value.long x0, Value.int x1, Value.int x2] ∧ Z.Warmed39 U.vm ∧ U.heap = hh) (fun _ _ _ _ _ => True) (fun _ U o U' => ∃ v L, o = .returned v ∧ PureQ (Value.int (sp10 x0 x1 x2)) hh v U'.heap L ∧ FrameEnd U o U' L ({ frames := 0, cells := 0, slots := 0, locals := 0 } : Room).cells ({ frames := 0, cells := 0, slots := 0, locals := 0 } : Room).slots) := by
  refine own_body pn10 ?_
  intro p e s m below meth c T0 hx hby hml hret hlk hown hnm hZ X0 e0
  refine own_cast (ef10 m x0 x1 x2) ?_
  refine w_lloadN X0 hx (hb hby d10_0) rfl (pc' := 1) rfl ?_
  refine w_bipush (v := (7 : Int32)) X0 hx (hb hby d10_1) rfl (pc' := 3) rfl ?_
  refine w_iloadN X0 hx (hb hby d10_3) rfl (pc' := 4) rfl ?_
  refine w_imul X0 hx (hb hby d10_4) (pc' := 5) rfl ?_
  refine w_lushr X0 hx (hb hby d10_5) (pc' := 6) rfl ?_
  refine w_ldc2 X0 hx (hb hby d10_6) hown (mvT hZ (wd66 hw)) (pc' := 9) rfl ?_
  refine w_land X0 hx (hb hby d10_9) (pc' := 10) rfl ?_
  refine w_l2i X0 hx (hb hby d10_10) (pc' := 11) rfl ?_
  refine w_istore (l' := #[.val (.long x0), .second, .val (.int x1), .val (.int x2), .val (.int (Int64.toInt32 ((XT.ushrL x0 ((7 : Int32) * x1)) &&& (127 : Int64))))]) X0 hx (hb hby d10_11) rfl (pc' := 13) rfl ?_
  refine w_iloadN X0 hx (hb hby d10_13) rfl (pc' := 14) rfl ?_
  refine w_iloadN X0 hx (hb hby d10_14) rfl (pc' := 15) rfl ?_
  refine w_iconst (v := (1 : Int32)) X0 hx (hb hby d10_15) rfl (pc' := 16) rfl ?_
  refine w_isub X0 hx (hb hby d10_16) (pc' := 17) rfl ?_
  refine w_icmp_ge X0 hx (hb hby d10_17) (by decide) (pcY := 29) (by decide) (pc' := 20) rfl (fun h0 => ?_) (fun h0 => ?_)
  · refine w_iload X0 hx (hb hby d10_29) rfl (pc' := 31) rfl ?_
    exact w_ret_i X0 hx hret hlk (hb hby d10_31) (by decide) (by decide) ⟨(congrArg (fun q => some (Value.int q)) (show (Int64.toInt32 ((XT.ushrL x0 ((7 : Int32) * x1)) &&& (127 : Int64))) = sp10 x0 x1 x2 from by rw [sp10, if_neg h0])), rfl, e0⟩
  · refine w_iload X0 hx (hb hby d10_20) rfl (pc' := 22) rfl ?_
    refine w_sipush (v := (128 : Int32)) X0 hx (hb hby d10_22) rfl (pc' := 25) rfl ?_
    refine w_ior X0 hx (hb hby d10_25) (pc' := 26) rfl ?_
    refine w_goto X0 hx (hb hby d10_26) (by decide) (pc' := 31) (by decide) ?_
    exact w_ret_i X0 hx hret hlk (hb hby d10_31) (by decide) (by decide) ⟨(congrArg (fun q => some (Value.int q)) (show ((Int64.toInt32 ((XT.ushrL x0 ((7 : Int32) * x1)) &&& (127 : Int64))) ||| (128 : Int32)) = sp10 x0 x1 x2 from by rw [sp10, if_pos h0])), rfl, e0⟩
theorem d12_0 : decode jdk_29_method_66_code 0 = .ok (.lload_n 0, 1) := by decide +kernel
theorem d12_1 : decode jdk_29_method_66_code 1 = .ok (.lload_n 2, 1) := by decide +kernel
theorem d12_2 : decode jdk_29_method_66_code 2 = .ok (.lcmp, 1) := by decide +kernel
theorem d12_3 : decode jdk_29_method_66_code 3 = .ok (.ifCond .lt 7, 3) := by decide +kernel
theorem d12_6 : decode jdk_29_method_66_code 6 = .ok (.lload_n 0, 1) := by decide +kernel
theorem d12_7 : decode jdk_29_method_66_code 7 = .ok (.goto 4, 3) := by decide +kernel
theorem d12_10 : decode jdk_29_method_66_code 10 = .ok (.lload_n 2, 1) := by decide +kernel
theorem d12_11 : decode jdk_29_method_66_code 11 = .ok (.lreturn, 1) := by decide +kernel
theorem pn12 : plainFor (⟨"java/lang/Math", "max", "(JJ)J"⟩ : MethodName) = true := Jvm.Free.JP.mathPlain rfl (by decide +kernel)
theorem pd12 : parseMethodDescriptor (⟨"java/lang/Math", "max", "(JJ)J"⟩ : MethodName).desc = some ⟨[.long, .long], some .long⟩ := by decide +kernel
theorem ef12 (m : MethodId) (x0 : Int64) (x1 : Int64) : entryFrame m #[Value.long x0, Value.long x1] 4 = mkF m 0 #[.val (.long x0), .second, .val (.long x1), .second] [] := by first | (simp [entryFrame, mkF, argsToLocals, Value.category]; done) | rfl
def sp12 (x0 : Int64) (x1 : Int64) : Int64 := (if x0 < x1 then x1 else x0)
set_option maxRecDepth 65536 in
set_option maxHeartbeats 40000000 in
theorem rm12 (l : Launch) (Z : State) (a0 : Array Value) (hw : ∀ d ∈ tables_1, d.before a0 Z = true) (ws : List Jvm.Cond) (x0 : Int64) (x1 : Int64) (hh : Heap) :
    MetFree l (⟨"java/lang/Math", "max", "(JJ)J"⟩ : MethodName) (head1 (Jvm.Cond.code (⟨"java/lang/Math", "max", "(JJ)J"⟩ : MethodName) jdk_29_method_66_code 4 (some .long) :: ws) ({ frames := 0, cells := 0, slots := 0, locals := 0 } : Room)) (fun aa U => aa = #[Value.long x0, Value.long x1] ∧ Z.Warmed39 U.vm ∧ U.heap = hh) (fun _ _ _ _ _ => True) (fun _ U o U' => ∃ v L, o = .returned v ∧ PureQ (Value.long (sp12 x0 x1)) hh v U'.heap L ∧ FrameEnd U o U' L ({ frames := 0, cells := 0, slots := 0, locals := 0 } : Room).cells ({ frames := 0, cells := 0, slots := 0, locals := 0 } : Room).slots) := by
  refine own_body pn12 ?_
  intro p e s m below meth c T0 hx hby hml hret hlk hown hnm hZ X0 e0
  refine own_cast (ef12 m x0 x1) ?_
  refine w_lloadN X0 hx (hb hby d12_0) rfl (pc' := 1) rfl ?_
  refine w_lloadN X0 hx (hb hby d12_1) rfl (pc' := 2) rfl ?_
  refine w_lcmp_lt X0 hx (hb hby d12_2) rfl (hb hby d12_3) (by decide) (pcY := 10) (by decide) (pc' := 6) rfl (fun h0 => ?_) (fun h0 => ?_)
  · refine w_lloadN X0 hx (hb hby d12_10) rfl (pc' := 11) rfl ?_
    exact w_ret_l X0 hx hret hlk (hb hby d12_11) (by decide) (by decide) ⟨(congrArg (fun q => some (Value.long q)) (show x1 = sp12 x0 x1 from by rw [sp12, if_pos h0])), rfl, e0⟩
  · refine w_lloadN X0 hx (hb hby d12_6) rfl (pc' := 7) rfl ?_
    refine w_goto X0 hx (hb hby d12_7) (by decide) (pc' := 11) (by decide) ?_
    exact w_ret_l X0 hx hret hlk (hb hby d12_11) (by decide) (by decide) ⟨(congrArg (fun q => some (Value.long q)) (show x0 = sp12 x0 x1 from by rw [sp12, if_neg h0])), rfl, e0⟩
theorem d13_0 : decode jdk_29_method_70_code 0 = .ok (.lload_n 0, 1) := by decide +kernel
theorem d13_1 : decode jdk_29_method_70_code 1 = .ok (.lload_n 2, 1) := by decide +kernel
theorem d13_2 : decode jdk_29_method_70_code 2 = .ok (.lcmp, 1) := by decide +kernel
theorem d13_3 : decode jdk_29_method_70_code 3 = .ok (.ifCond .gt 7, 3) := by decide +kernel
theorem d13_6 : decode jdk_29_method_70_code 6 = .ok (.lload_n 0, 1) := by decide +kernel
theorem d13_7 : decode jdk_29_method_70_code 7 = .ok (.goto 4, 3) := by decide +kernel
theorem d13_10 : decode jdk_29_method_70_code 10 = .ok (.lload_n 2, 1) := by decide +kernel
theorem d13_11 : decode jdk_29_method_70_code 11 = .ok (.lreturn, 1) := by decide +kernel
theorem pn13 : plainFor (⟨"java/lang/Math", "min", "(JJ)J"⟩ : MethodName) = true := Jvm.Free.JP.mathPlain rfl (by decide +kernel)
theorem pd13 : parseMethodDescriptor (⟨"java/lang/Math", "min", "(JJ)J"⟩ : MethodName).desc = some ⟨[.long, .long], some .long⟩ := by decide +kernel
theorem ef13 (m : MethodId) (x0 : Int64) (x1 : Int64) : entryFrame m #[Value.long x0, Value.long x1] 4 = mkF m 0 #[.val (.long x0), .second, .val (.long x1), .second] [] := by first | (simp [entryFrame, mkF, argsToLocals, Value.category]; done) | rfl
def sp13 (x0 : Int64) (x1 : Int64) : Int64 := (if x1 < x0 then x1 else x0)
set_option maxRecDepth 65536 in
set_option maxHeartbeats 40000000 in
theorem rm13 (l : Launch) (Z : State) (a0 : Array Value) (hw : ∀ d ∈ tables_1, d.before a0 Z = true) (ws : List Jvm.Cond) (x0 : Int64) (x1 : Int64) (hh : Heap) :
    MetFree l (⟨"java/lang/Math", "min", "(JJ)J"⟩ : MethodName) (head1 (Jvm.Cond.code (⟨"java/lang/Math", "min", "(JJ)J"⟩ : MethodName) jdk_29_method_70_code 4 (some .long) :: ws) ({ frames := 0, cells := 0, slots := 0, locals := 0 } : Room)) (fun aa U => aa = #[Value.long x0, Value.long x1] ∧ Z.Warmed39 U.vm ∧ U.heap = hh) (fun _ _ _ _ _ => True) (fun _ U o U' => ∃ v L, o = .returned v ∧ PureQ (Value.long (sp13 x0 x1)) hh v U'.heap L ∧ FrameEnd U o U' L ({ frames := 0, cells := 0, slots := 0, locals := 0 } : Room).cells ({ frames := 0, cells := 0, slots := 0, locals := 0 } : Room).slots) := by
  refine own_body pn13 ?_
  intro p e s m below meth c T0 hx hby hml hret hlk hown hnm hZ X0 e0
  refine own_cast (ef13 m x0 x1) ?_
  refine w_lloadN X0 hx (hb hby d13_0) rfl (pc' := 1) rfl ?_
  refine w_lloadN X0 hx (hb hby d13_1) rfl (pc' := 2) rfl ?_
  refine w_lcmp_gt X0 hx (hb hby d13_2) rfl (hb hby d13_3) (by decide) (pcY := 10) (by decide) (pc' := 6) rfl (fun h0 => ?_) (fun h0 => ?_)
  · refine w_lloadN X0 hx (hb hby d13_10) rfl (pc' := 11) rfl ?_
    exact w_ret_l X0 hx hret hlk (hb hby d13_11) (by decide) (by decide) ⟨(congrArg (fun q => some (Value.long q)) (show x1 = sp13 x0 x1 from by rw [sp13, if_pos h0])), rfl, e0⟩
  · refine w_lloadN X0 hx (hb hby d13_6) rfl (pc' := 7) rfl ?_
    refine w_goto X0 hx (hb hby d13_7) (by decide) (pc' := 11) (by decide) ?_
    exact w_ret_l X0 hx hret hlk (hb hby d13_11) (by decide) (by decide) ⟨(congrArg (fun q => some (Value.long q)) (show x0 = sp13 x0 x1 from by rw [sp13, if_neg h0])), rfl, e0⟩
theorem own_gs (l : List Int32) (i j : Nat) (x : Int32) : (l.set i x).getD j 0 = if i = j ∧ j < l.length then x else l.getD j 0 := by
  simp only [List.getD_eq_getElem?_getD, List.getElem?_set]
  by_cases h : i = j
  · subst h
    by_cases h2 : i < l.length
    · simp [h2]
    · simp [h2]
  · simp [h]
theorem own_nz {n : Nat} (h : 0 < n) (h2 : n < 2147483648) : Int32.ofNat n ≠ 0 := fun q => by
  have := (own_oeq (a := n) (b := 0) h2 (by omega)).mp q
  omega
theorem own_mx (a b : Nat) : ∃ M, a ≤ M ∧ b ≤ M ∧ (M = a ∨ M = b) := by
  by_cases h : a ≤ b
  · exact ⟨b, h, Nat.le_refl b, Or.inr rfl⟩
  · exact ⟨a, Nat.le_refl a, by omega, Or.inl rfl⟩
theorem own_jN {n : Nat} (h : n < 9223372036854775808) : (Int64.ofNat n).toInt = (n : Int) := Int64.toInt_ofNat_of_lt h
theorem own_jlt {a b : Nat} {c : Int64} (hc : Int64.ofNat b = c) (ha : a < 9223372036854775808) (hb : b < 9223372036854775808) : Int64.ofNat a < c ↔ a < b := by
  subst hc
  rw [Int64.lt_iff_toInt_lt, own_jN ha, own_jN hb]; omega
theorem own_jmask (a : Int64) : ∃ n : Nat, n < 9223372036854775808 ∧ a &&& (9223372036854775807 : Int64) = Int64.ofNat n := by
  have h := c_maskL a 9223372036854775807 63 (by decide) (by decide)
  have e : ((2 ^ 63 : Nat) : Int) = 9223372036854775808 := by decide
  rw [e] at h
  refine ⟨(a &&& 9223372036854775807).toInt.toNat, by omega, Int64.toInt_inj.mp ?_⟩
  rw [own_jN (by omega)]
  omega
theorem own_jshq {n K : Nat} (q : Int32) (hn : n < 9223372036854775808) (hq : (q.toInt64.toUInt64 &&& Int64.toUInt64 63) = (q &&& 0x3f).toInt64.toUInt64) (hk : q.toBitVec.toNat % 64 = K) (h0 : 0 < K) {P : Nat} (hP : 2 ^ K = P) : XT.ushrL (Int64.ofNat n) q = Int64.ofNat (n / P) := by
  have a := c_lushr (Int64.ofNat n) q K hk h0
  have e : XT.ushrL (Int64.ofNat n) q = ((Int64.ofNat n).toUInt64 >>> (q &&& 0x3f).toInt64.toUInt64).toInt64 := by unfold XT.ushrL; rw [hq]
  rw [← e, hP, own_jN hn] at a
  have hle : n / P ≤ n := Nat.div_le_self n P
  apply Int64.toInt_inj.mp
  rw [a, own_jN (by omega), Int.emod_eq_of_lt (by omega) (by omega)]
  first | rfl | exact (Int.natCast_ediv n P).symm | simp
theorem own_jshr {n : Nat} (hn : n < 9223372036854775808) : XT.ushrL (Int64.ofNat n) (7 : Int32) = Int64.ofNat (n / 128) := own_jshq 7 hn (by decide) (K := 7) (by decide) (by decide) (by decide)
theorem own_ush0 (x : Int64) : XT.ushrL x 0 = x := by
  unfold XT.ushrL
  have : ((0 : Int32).toInt64.toUInt64 &&& Int64.toUInt64 63) = 0 := by decide
  rw [this]; simp
theorem own_ushj {n j : Nat} (hn : n < 9223372036854775808) (hj : j < 9) : XT.ushrL (Int64.ofNat n) ((7 : Int32) * Int32.ofNat j) = Int64.ofNat (n / 128 ^ j) := by
  obtain rfl | rfl | rfl | rfl | rfl | rfl | rfl | rfl | rfl : j = 0 ∨ j = 1 ∨ j = 2 ∨ j = 3 ∨ j = 4 ∨ j = 5 ∨ j = 6 ∨ j = 7 ∨ j = 8 := by omega
  · rw [show (7 : Int32) * Int32.ofNat 0 = 0 from by decide, own_ush0, Nat.pow_zero, Nat.div_one]
  · exact own_jshq _ hn (by decide) (K := 7) (by decide) (by decide) (by decide)
  · exact own_jshq _ hn (by decide) (K := 14) (by decide) (by decide) (by decide)
  · exact own_jshq _ hn (by decide) (K := 21) (by decide) (by decide) (by decide)
  · exact own_jshq _ hn (by decide) (K := 28) (by decide) (by decide) (by decide)
  · exact own_jshq _ hn (by decide) (K := 35) (by decide) (by decide) (by decide)
  · exact own_jshq _ hn (by decide) (K := 42) (by decide) (by decide) (by decide)
  · exact own_jshq _ hn (by decide) (K := 49) (by decide) (by decide) (by decide)
  · exact own_jshq _ hn (by decide) (K := 56) (by decide) (by decide) (by decide)
def own_hi (n : Nat) : Int32 := nar .byte (Int8.toInt32 (Int32.toInt8 (Int64.toInt32 ((Int64.ofNat n) ||| (128 : Int64)))))
def own_lo (n : Nat) : Int32 := nar .byte (Int8.toInt32 (Int32.toInt8 (Int64.toInt32 (Int64.ofNat n))))
theorem own_nb (y : Int32) : nar .byte (Int8.toInt32 (Int32.toInt8 y)) &&& 255 = y &&& 255 := by
  have c := c_i2b y
  have d := c_i2b (y.toInt8.toInt32)
  have hn : nar .byte y.toInt8.toInt32 = y.toInt8.toInt32.toInt8.toInt32 := rfl
  have g1 := c_mask (nar .byte y.toInt8.toInt32) 255 8 (by decide) (by decide)
  have g2 := c_mask y 255 8 (by decide) (by decide)
  have e : ((2 ^ 8 : Nat) : Int) = 256 := by decide
  rw [e] at g1 g2
  apply Int32.toInt_inj.mp
  rw [g1, g2, hn]
  omega
theorem own_lm (w : Int64) : (Int64.toInt32 w) &&& 255 = Int64.toInt32 (w &&& 255) := by
  have a := c_l2i w
  have b := c_l2i (w &&& 255)
  have g1 := c_mask (Int64.toInt32 w) 255 8 (by decide) (by decide)
  have g2 := c_maskL w 255 8 (by decide) (by decide)
  have e : ((2 ^ 8 : Nat) : Int) = 256 := by decide
  rw [e] at g1 g2
  have h1 := (Int64.toInt32 (w &&& 255)).toInt_lt
  have h2 := (Int64.toInt32 (w &&& 255)).le_toInt
  apply Int32.toInt_inj.mp
  rw [g1]
  omega
theorem own_bits (w : Int64) : (w ||| 128) &&& 255 = (w &&& 127) ||| 128 := by
  apply Int64.toBitVec_inj.mp
  rw [Int64.toBitVec_and, Int64.toBitVec_or, Int64.toBitVec_or, Int64.toBitVec_and]
  apply BitVec.eq_of_getLsbD_eq
  intro i hi
  rw [BitVec.getLsbD_and, BitVec.getLsbD_or, BitVec.getLsbD_or, BitVec.getLsbD_and]
  have h : ∀ i < 64, (255 : Int64).toBitVec.getLsbD i = ((127 : Int64).toBitVec.getLsbD i || (128 : Int64).toBitVec.getLsbD i) := by decide +kernel
  rw [h i hi]
  cases w.toBitVec.getLsbD i <;> cases (127 : Int64).toBitVec.getLsbD i <;> cases (128 : Int64).toBitVec.getLsbD i <;> rfl
theorem own_or32 (u : Int64) (h0 : 0 ≤ u.toInt) (h1 : u.toInt < 128) : Int64.toInt32 (u ||| 128) = Int64.toInt32 u ||| 128 := by
  have a := c_orL' u 128 7 (by decide) 128 (by decide) (by decide) h0 h1
  have b := c_l2i u
  have c := c_l2i (u ||| 128)
  have hu : (Int64.toInt32 u).toInt = u.toInt := by
    have := (Int64.toInt32 u).toInt_lt
    have := (Int64.toInt32 u).le_toInt
    omega
  have d := c_or 128 (Int64.toInt32 u) 7 (by decide) 128 (by decide) (by decide) (by omega) (by omega)
  rw [Int32.or_comm] at d
  have e1 : (128 : Int64).toInt = 128 := by decide
  have e2 : (128 : Int32).toInt = 128 := by decide
  have f1 := (Int64.toInt32 (u ||| 128)).toInt_lt
  have f2 := (Int64.toInt32 (u ||| 128)).le_toInt
  have f3 := (Int64.toInt32 u ||| 128).toInt_lt
  have f4 := (Int64.toInt32 u ||| 128).le_toInt
  have f5 := (u ||| 128).toInt_lt
  have f6 := (u ||| 128).le_toInt
  apply Int32.toInt_inj.mp
  omega
theorem own_hiE (n : Nat) : own_hi n &&& 255 = (Int64.toInt32 ((Int64.ofNat n) &&& (127 : Int64))) ||| (128 : Int32) := by
  unfold own_hi
  have g := c_maskL (Int64.ofNat n) 127 7 (by decide) (by decide)
  have e : ((2 ^ 7 : Nat) : Int) = 128 := by decide
  rw [e] at g
  rw [own_nb, own_lm, own_bits, own_or32 _ (by omega) (by omega)]
theorem own_loE {n : Nat} (h : n < 128) : own_lo n &&& 255 = Int64.toInt32 ((Int64.ofNat n) &&& (127 : Int64)) := by
  revert h; revert n; decide +kernel
def own_bytes : Nat → Nat → List Int32
  | 0, n => [own_lo n]
  | f + 1, n => if Int64.ofNat n < 128 then [own_lo n] else own_hi n :: own_bytes f (n / 128)
theorem own_bS (f n : Nat) : own_bytes (f + 1) n = if Int64.ofNat n < 128 then [own_lo n] else own_hi n :: own_bytes f (n / 128) := rfl
theorem own_b0 (n : Nat) : own_bytes 0 n = [own_lo n] := rfl
theorem own_bpos : ∀ f n, 1 ≤ (own_bytes f n).length
  | 0, n => by rw [own_b0]; exact Nat.le_refl 1
  | f + 1, n => by
    rw [own_bS]
    by_cases h : Int64.ofNat n < 128
    · rw [if_pos h]; exact Nat.le_refl 1
    · rw [if_neg h, List.length_cons]; omega
theorem own_ble : ∀ f n, (own_bytes f n).length ≤ f + 1
  | 0, n => by rw [own_b0]; exact Nat.le_refl 1
  | f + 1, n => by
    rw [own_bS]
    by_cases h : Int64.ofNat n < 128
    · rw [if_pos h, List.length_singleton]; omega
    · rw [if_neg h, List.length_cons]; exact Nat.succ_le_succ (own_ble f (n / 128))
theorem own_bg : ∀ (f n j : Nat), n < 128 ^ (f + 1) → n < 9223372036854775808 → j < (own_bytes f n).length → (own_bytes f n).getD j 0 &&& 255 = if j + 1 < (own_bytes f n).length then Int64.toInt32 (Int64.ofNat (n / 128 ^ j) &&& 127) ||| 128 else Int64.toInt32 (Int64.ofNat (n / 128 ^ j) &&& 127)
  | 0, n, j, h, hn, hj => by
    rw [own_b0] at hj ⊢
    rw [List.length_singleton] at hj ⊢
    have e : j = 0 := by omega
    subst e
    rw [if_neg (by omega), Nat.pow_zero, Nat.div_one]
    rw [Nat.zero_add, Nat.pow_one] at h
    exact own_loE h
  | f + 1, n, j, h, hn, hj => by
    rw [own_bS] at hj ⊢
    by_cases c : Int64.ofNat n < 128
    · rw [if_pos c] at hj ⊢
      rw [List.length_singleton] at hj ⊢
      have e : j = 0 := by omega
      subst e
      rw [if_neg (by omega), Nat.pow_zero, Nat.div_one]
      exact own_loE ((own_jlt (b := 128) rfl hn (by decide)).mp c)
    · rw [if_neg c] at hj ⊢
      rw [List.length_cons] at hj ⊢
      have hp := own_bpos f (n / 128)
      rcases j with _ | j
      · rw [if_pos (by omega), Nat.pow_zero, Nat.div_one]
        exact own_hiE n
      · have ih := own_bg f (n / 128) j (by rw [Nat.pow_succ] at h; omega) (by omega) (by omega)
        have e : n / 128 / 128 ^ j = n / 128 ^ (j + 1) := by rw [Nat.div_div_eq_div_mul, Nat.pow_succ, Nat.mul_comm]
        rw [e] at ih
        show (own_bytes f (n / 128)).getD j 0 &&& 255 = _
        rw [ih]
        by_cases q : j + 1 < (own_bytes f (n / 128)).length
        · rw [if_pos q, if_pos (by omega)]
        · rw [if_neg q, if_neg (by omega)]
theorem own_encE {n l j : Nat} (hn : n < 9223372036854775808) (hl : (own_bytes 8 n).length = l) (hj : j < l) : (own_bytes 8 n).getD j 0 &&& 255 = sp10 (Int64.ofNat n) (Int32.ofNat j) (Int32.ofNat l) := by
  have hb := own_ble 8 n
  rw [own_bg 8 n j (Nat.lt_of_lt_of_le hn (by decide)) hn (by omega), hl]
  unfold sp10
  have e : Int32.ofNat l - (1 : Int32) = Int32.ofNat (l - 1) := own_osub (a := l) (b := 1) (by omega)
  rw [own_ushj hn (by omega), e]
  by_cases q : j + 1 < l
  · rw [if_pos q, if_pos ((own_olt (by omega) (by omega)).mpr (by omega))]
  · rw [if_neg q, if_neg fun z => q (by have := (own_olt (by omega) (by omega)).mp z; omega)]
def own_puts : List Int32 → Nat → List Int32 → List Int32
  | A, _, [] => A
  | A, z, b :: bs => own_puts (A.set z b) (z + 1) bs
theorem own_pl : ∀ (B A : List Int32) (z : Nat), (own_puts A z B).length = A.length
  | [], A, z => rfl
  | b :: bs, A, z => by
    show (own_puts (A.set z b) (z + 1) bs).length = _
    rw [own_pl bs, List.length_set]
theorem own_plo : ∀ (B A : List Int32) (z j : Nat), j < z → (own_puts A z B).getD j 0 = A.getD j 0
  | [], A, z, j, h => rfl
  | b :: bs, A, z, j, h => by
    show (own_puts (A.set z b) (z + 1) bs).getD j 0 = _
    rw [own_plo bs _ _ _ (by omega), own_gs, if_neg (by omega)]
theorem own_phi : ∀ (B A : List Int32) (z j : Nat), j < B.length → z + B.length ≤ A.length → (own_puts A z B).getD (z + j) 0 = B.getD j 0
  | [], A, z, j, h, _ => absurd h (Nat.not_lt_zero _)
  | b :: bs, A, z, j, h, h2 => by
    show (own_puts (A.set z b) (z + 1) bs).getD (z + j) 0 = _
    rw [List.length_cons] at h h2
    rcases j with _ | j
    · rw [own_plo bs _ _ _ (by omega), own_gs, if_pos ⟨by omega, by omega⟩]; rfl
    · have ih := own_phi bs (A.set z b) (z + 1) j (by omega) (by rw [List.length_set]; omega)
      rw [show z + (j + 1) = z + 1 + j from by omega, ih]; rfl
def own_B (l : List Int32) : Prop := ∀ v ∈ List.map Value.int l, fits .byte v = true
theorem own_Bx (x : Int32) : fits .byte (Value.int (nar .byte x)) = true := by
  have c := c_i2b x
  show (decide ((-128 : Int32) ≤ x.toInt8.toInt32) && decide (x.toInt8.toInt32 ≤ (127 : Int32))) = true
  simp only [Bool.and_eq_true, decide_eq_true_eq, Int32.le_iff_toInt_le]
  have e1 : (-128 : Int32).toInt = -128 := by decide
  have e2 : (127 : Int32).toInt = 127 := by decide
  rw [e1, e2]; omega
theorem own_Br (n : Nat) : own_B (List.replicate n 0) := by
  intro v hv
  rw [List.map_replicate] at hv
  have := List.eq_of_mem_replicate hv
  subst this
  decide
theorem own_Bset {l : List Int32} {i : Nat} {x : Int32} (h : own_B l) (hx : fits .byte (Value.int x) = true) : own_B (l.set i x) := by
  intro v hv
  rw [List.map_set] at hv
  rcases List.mem_or_eq_of_mem_set hv with q | q
  · exact h v q
  · subst q; exact hx
theorem own_Bput : ∀ (B A : List Int32) (z : Nat), own_B A → own_B B → own_B (own_puts A z B)
  | [], A, z, h, _ => h
  | b :: bs, A, z, h, hB => own_Bput bs (A.set z b) (z + 1) (own_Bset h (hB _ (List.Mem.head _))) (fun v hv => hB v (List.Mem.tail _ hv))
theorem own_Bc {b : Int32} {bs : List Int32} (h : fits .byte (Value.int b) = true) (hs : own_B bs) : own_B (b :: bs) := by
  intro v hv
  rcases List.mem_cons.mp hv with q | q
  · subst q; exact h
  · exact hs v q
theorem own_Bb : ∀ f n, own_B (own_bytes f n)
  | 0, n => own_Bc (own_Bx _) (fun v hv => absurd hv (List.not_mem_nil))
  | f + 1, n => by
    rw [own_bS]
    by_cases h : Int64.ofNat n < 128
    · rw [if_pos h]; exact own_Bc (own_Bx _) (fun v hv => absurd hv (List.not_mem_nil))
    · rw [if_neg h]; exact own_Bc (own_Bx _) (own_Bb f _)
theorem own_Bapp {A : List Int32} {n : Nat} (h : own_B A) : own_B (A ++ List.replicate n 0) := by
  intro v hv
  rw [List.map_append] at hv
  rcases List.mem_append.mp hv with q | q
  · exact h v q
  · exact own_Br n v q
def own_W (A : List Int32) (z : Nat) (A' B : List Int32) : Prop := (∀ j, j < z → A'.getD j 0 = A.getD j 0) ∧ ∀ j, j < B.length → A'.getD (z + j) 0 = B.getD j 0
theorem own_W1 {A B : List Int32} {z : Nat} (h : z + B.length ≤ A.length) : own_W A z (own_puts A z B) B := ⟨fun j q => own_plo B A z j q, fun j q => own_phi B A z j q h⟩
theorem own_W2 {A R B : List Int32} {z : Nat} (h1 : z ≤ A.length) (h : z + B.length ≤ (A ++ R).length) : own_W A z (own_puts (A ++ R) z B) B := by
  refine ⟨fun j q => ?_, fun j q => own_phi B (A ++ R) z j q h⟩
  rw [own_plo B _ z j q, List.getD_eq_getElem?_getD, List.getD_eq_getElem?_getD, List.getElem?_append_left (by omega)]
theorem own_ca {A A' : List Int32} {n l : Nat} (hn : n < 9223372036854775808) (hl : (own_bytes 8 n).length = l) (W : own_W A 0 A' (own_bytes 8 n)) : ∀ j, j < l → A'.getD j 0 &&& 255 = sp10 (Int64.ofNat n) (Int32.ofNat j) (Int32.ofNat l) := fun j h => by
  have q := W.2 j (by omega)
  rw [Nat.zero_add] at q
  rw [q]; exact own_encE hn hl h
theorem own_cab {A A' A2 B : List Int32} {n l : Nat} (hn : n < 9223372036854775808) (hl : (own_bytes 8 n).length = l) (W : own_W A 0 A' (own_bytes 8 n)) (W2 : own_W A' l A2 B) : ∀ j, j < l → A2.getD j 0 &&& 255 = sp10 (Int64.ofNat n) (Int32.ofNat j) (Int32.ofNat l) := fun j h => by
  rw [W2.1 j h]; exact own_ca hn hl W j h
theorem own_cb {A A' : List Int32} {n l z : Nat} (hn : n < 9223372036854775808) (hl : (own_bytes 8 n).length = l) (W : own_W A z A' (own_bytes 8 n)) : ∀ i, z ≤ i → i < z + l → A'.getD i 0 &&& 255 = sp10 (Int64.ofNat n) (Int32.ofNat (i - z)) (Int32.ofNat l) := fun i h1 h2 => by
  have q := W.2 (i - z) (by omega)
  rw [show z + (i - z) = i from by omega] at q
  rw [q]; exact own_encE hn hl (by omega)
theorem own_cpG {A : List Int32} {N M : Nat} (h : A.length = N) : (List.map Value.int (List.replicate M 0)).take 0 ++ ((List.map Value.int A).drop 0).take N ++ (List.map Value.int (List.replicate M 0)).drop (0 + N) = List.map Value.int (A ++ List.replicate (M - N) 0) := by
  rw [List.take_zero, List.drop_zero, List.nil_append, List.take_of_length_le (by simp [h]), Nat.zero_add, List.map_append, List.map_replicate, List.map_replicate, List.drop_replicate]
theorem own_cpT {A : List Int32} {m : Nat} : (List.map Value.int (List.replicate m 0)).take 0 ++ ((List.map Value.int A).drop 0).take m ++ (List.map Value.int (List.replicate m 0)).drop (0 + m) = List.map Value.int (A.take m) := by
  rw [List.take_zero, List.drop_zero, List.nil_append, Nat.zero_add, List.map_replicate, List.drop_replicate, Nat.sub_self, List.replicate_zero, List.append_nil, List.map_take]
theorem own_cgl {A : List Int32} {N M : Nat} (h : A.length = N) (q : N ≤ M) : (A ++ List.replicate (M - N) 0).length = M := by rw [List.length_append, List.length_replicate]; omega
theorem own_tk {A : List Int32} {N m : Nat} (h : A.length = N) (q : m ≤ N) : (A.take m).length = m := by rw [List.length_take]; omega
theorem own_tkg {A : List Int32} {m j : Nat} (h : j < m) : (A.take m).getD j 0 = A.getD j 0 := by
  rw [List.getD_eq_getElem?_getD, List.getD_eq_getElem?_getD, List.getElem?_take_of_lt h]
theorem own_minL {a b : Nat} (ha : a < 2147483648) (hb : b < 2147483648) (h : a ≤ b) : sp9 (Int32.ofNat a) (Int32.ofNat b) = Int32.ofNat a := by
  unfold sp9; rw [if_neg fun q => by have := (own_olt hb ha).mp q; omega]
theorem own_minR {a b : Nat} (ha : a < 2147483648) (hb : b < 2147483648) (h : b ≤ a) : sp9 (Int32.ofNat a) (Int32.ofNat b) = Int32.ofNat b := by
  unfold sp9
  by_cases q : Int32.ofNat b < Int32.ofNat a
  · rw [if_pos q]
  · rw [if_neg q]
    have e : a = b := by
      have h9 : ¬ b < a := fun z => q ((own_olt hb ha).mpr z)
      omega
    rw [e]
theorem own_maxJ {a b M : Nat} (hM : M < 9223372036854775808) (h1 : a ≤ M) (h2 : b ≤ M) (h3 : M = a ∨ M = b) : sp12 (Int64.ofNat a) (Int64.ofNat b) = Int64.ofNat M := by
  unfold sp12
  by_cases q : a < b
  · rw [if_pos ((own_jlt rfl (by omega) (by omega)).mpr q), show b = M from by omega]
  · rw [if_neg fun z => q ((own_jlt rfl (by omega) (by omega)).mp z), show a = M from by omega]
theorem own_minJ {M : Nat} (hM : M < 2147483631) : sp13 (Int64.ofNat M) (2147483631 : Int64) = Int64.ofNat M := by
  unfold sp13
  rw [if_neg fun z => by
    rw [Int64.lt_iff_toInt_lt, own_jN (by omega), show (2147483631 : Int64).toInt = 2147483631 from by decide] at z
    omega]
theorem own_i2lN {a : Nat} (h : a < 2147483648) : Int32.toInt64 (Int32.ofNat a) = Int64.ofNat a := Int64.toInt_inj.mp (by rw [c_i2l, own_oN h, own_jN (by omega)])
theorem own_l2 {a : Nat} (h : a < 2147483648) : (2 : Int64) * Int32.toInt64 (Int32.ofNat a) = Int64.ofNat (2 * a) := by
  rw [own_i2lN h]; exact (Int64.ofNat_mul 2 a).symm
theorem own_la {a : Nat} (h : a < 2147483648) : Int32.toInt64 (Int32.ofNat a) + (10 : Int64) = Int64.ofNat (a + 10) := by
  rw [own_i2lN h]; exact (Int64.ofNat_add a 10).symm
theorem own_l2iN {a : Nat} (h : a < 2147483648) : Int64.toInt32 (Int64.ofNat a) = Int32.ofNat a := by
  have b := c_l2i (Int64.ofNat a)
  rw [own_jN (by omega)] at b
  have h1 := (Int64.toInt32 (Int64.ofNat a)).toInt_lt
  have h2 := (Int64.toInt32 (Int64.ofNat a)).le_toInt
  apply Int32.toInt_inj.mp
  rw [own_oN h]
  omega
theorem own_lenE {n : Nat} (hn : n < 9223372036854775808) : sp8 (Int64.ofNat n) = Int32.ofNat (own_bytes 8 n).length := by
  unfold sp8
  by_cases h0 : n < 128
  · rw [if_pos ((own_jlt (b := 128) (c := 128) rfl (by omega) (by decide)).mpr (by omega)), own_bS, if_pos ((own_jlt (b := 128) (c := 128) rfl (by omega) (by decide)).mpr (by omega))]; rfl
  · rw [if_neg (fun q => absurd ((own_jlt (a := n) (b := 128) (c := 128) rfl (by omega) (by decide)).mp q) (by omega)), own_bS, if_neg (fun q => absurd ((own_jlt (a := n) (b := 128) (c := 128) rfl (by omega) (by decide)).mp q) (by omega))]
    by_cases h1 : n / 128 < 128
    · rw [if_pos ((own_jlt (b := 16384) (c := 16384) rfl (by omega) (by decide)).mpr (by omega)), own_bS, if_pos ((own_jlt (b := 128) (c := 128) rfl (by omega) (by decide)).mpr (by omega))]; rfl
    · rw [if_neg (fun q => absurd ((own_jlt (a := n) (b := 16384) (c := 16384) rfl (by omega) (by decide)).mp q) (by omega)), own_bS, if_neg (fun q => absurd ((own_jlt (a := n / 128) (b := 128) (c := 128) rfl (by omega) (by decide)).mp q) (by omega))]
      by_cases h2 : n / 128 / 128 < 128
      · rw [if_pos ((own_jlt (b := 2097152) (c := 2097152) rfl (by omega) (by decide)).mpr (by omega)), own_bS, if_pos ((own_jlt (b := 128) (c := 128) rfl (by omega) (by decide)).mpr (by omega))]; rfl
      · rw [if_neg (fun q => absurd ((own_jlt (a := n) (b := 2097152) (c := 2097152) rfl (by omega) (by decide)).mp q) (by omega)), own_bS, if_neg (fun q => absurd ((own_jlt (a := n / 128 / 128) (b := 128) (c := 128) rfl (by omega) (by decide)).mp q) (by omega))]
        by_cases h3 : n / 128 / 128 / 128 < 128
        · rw [if_pos ((own_jlt (b := 268435456) (c := 268435456) rfl (by omega) (by decide)).mpr (by omega)), own_bS, if_pos ((own_jlt (b := 128) (c := 128) rfl (by omega) (by decide)).mpr (by omega))]; rfl
        · rw [if_neg (fun q => absurd ((own_jlt (a := n) (b := 268435456) (c := 268435456) rfl (by omega) (by decide)).mp q) (by omega)), own_bS, if_neg (fun q => absurd ((own_jlt (a := n / 128 / 128 / 128) (b := 128) (c := 128) rfl (by omega) (by decide)).mp q) (by omega))]
          by_cases h4 : n / 128 / 128 / 128 / 128 < 128
          · rw [if_pos ((own_jlt (b := 34359738368) (c := 34359738368) rfl (by omega) (by decide)).mpr (by omega)), own_bS, if_pos ((own_jlt (b := 128) (c := 128) rfl (by omega) (by decide)).mpr (by omega))]; rfl
          · rw [if_neg (fun q => absurd ((own_jlt (a := n) (b := 34359738368) (c := 34359738368) rfl (by omega) (by decide)).mp q) (by omega)), own_bS, if_neg (fun q => absurd ((own_jlt (a := n / 128 / 128 / 128 / 128) (b := 128) (c := 128) rfl (by omega) (by decide)).mp q) (by omega))]
            by_cases h5 : n / 128 / 128 / 128 / 128 / 128 < 128
            · rw [if_pos ((own_jlt (b := 4398046511104) (c := 4398046511104) rfl (by omega) (by decide)).mpr (by omega)), own_bS, if_pos ((own_jlt (b := 128) (c := 128) rfl (by omega) (by decide)).mpr (by omega))]; rfl
            · rw [if_neg (fun q => absurd ((own_jlt (a := n) (b := 4398046511104) (c := 4398046511104) rfl (by omega) (by decide)).mp q) (by omega)), own_bS, if_neg (fun q => absurd ((own_jlt (a := n / 128 / 128 / 128 / 128 / 128) (b := 128) (c := 128) rfl (by omega) (by decide)).mp q) (by omega))]
              by_cases h6 : n / 128 / 128 / 128 / 128 / 128 / 128 < 128
              · rw [if_pos ((own_jlt (b := 562949953421312) (c := 562949953421312) rfl (by omega) (by decide)).mpr (by omega)), own_bS, if_pos ((own_jlt (b := 128) (c := 128) rfl (by omega) (by decide)).mpr (by omega))]; rfl
              · rw [if_neg (fun q => absurd ((own_jlt (a := n) (b := 562949953421312) (c := 562949953421312) rfl (by omega) (by decide)).mp q) (by omega)), own_bS, if_neg (fun q => absurd ((own_jlt (a := n / 128 / 128 / 128 / 128 / 128 / 128) (b := 128) (c := 128) rfl (by omega) (by decide)).mp q) (by omega))]
                by_cases h7 : n / 128 / 128 / 128 / 128 / 128 / 128 / 128 < 128
                · rw [if_pos ((own_jlt (b := 72057594037927936) (c := 72057594037927936) rfl (by omega) (by decide)).mpr (by omega)), own_bS, if_pos ((own_jlt (b := 128) (c := 128) rfl (by omega) (by decide)).mpr (by omega))]; rfl
                · rw [if_neg (fun q => absurd ((own_jlt (a := n) (b := 72057594037927936) (c := 72057594037927936) rfl (by omega) (by decide)).mp q) (by omega)), own_bS, if_neg (fun q => absurd ((own_jlt (a := n / 128 / 128 / 128 / 128 / 128 / 128 / 128) (b := 128) (c := 128) rfl (by omega) (by decide)).mp q) (by omega))]
                  rfl
theorem d1_0 : decode prog_17_method_1_code 0 = .ok (.aload_n 0, 1) := by decide +kernel
theorem d1_1 : decode prog_17_method_1_code 1 = .ok (.invokespecial 3, 3) := by decide +kernel
theorem d1_4 : decode prog_17_method_1_code 4 = .ok (.aload_n 0, 1) := by decide +kernel
theorem d1_5 : decode prog_17_method_1_code 5 = .ok (.iload_n 1, 1) := by decide +kernel
theorem d1_6 : decode prog_17_method_1_code 6 = .ok (.newarray .byte, 2) := by decide +kernel
theorem d1_8 : decode prog_17_method_1_code 8 = .ok (.putfield 9, 3) := by decide +kernel
theorem d1_11 : decode prog_17_method_1_code 11 = .ok (.return_, 1) := by decide +kernel
theorem pn1 : plainFor (⟨"com/example/dirichlet/dirichlet/index/ByteSink", "<init>", "(I)V"⟩ : MethodName) = true := plainFor_of_name (by first | (simp [plainName, overriddenIn]; done) | decide +kernel)
theorem pd1 : parseMethodDescriptor (⟨"com/example/dirichlet/dirichlet/index/ByteSink", "<init>", "(I)V"⟩ : MethodName).desc = some ⟨[.int], none⟩ := by decide +kernel
theorem ef_init (m : MethodId) (n0 : Nat) (pN : Nat) : entryFrame m #[.ref (n0 + 0), .int (Int32.ofNat pN)] 2 = mkF m 0 #[.val (.ref (n0 + 0)), .val (.int (Int32.ofNat pN))] [] := by first | (simp [entryFrame, mkF, argsToLocals, Value.category]; done) | rfl
def Q_init (Z : State) (n0 : Nat) (o0 : Jvm.Cell) (pN : Nat) (v : Option Value) (h : Heap) (L : List Loc) : Prop := v = none ∧ Fr n0 L ∧ ∃ c2 : Jvm.Cell, ObjF Z c2 "com/example/dirichlet/dirichlet/index/ByteSink" fl_C0 [.ref (n0 + 1), .int (0 : Int32)] ∧ ∃ kA1 : ClassId, IsA Z kA1 .byte ∧ HP n0 h [c2, AC kA1 (List.map Value.int (List.replicate pN 0))]
set_option maxRecDepth 65536 in
set_option maxHeartbeats 40000000 in
theorem rm_init (l : Launch) (Z : State) (a0 : Array Value) (hw : ∀ d ∈ tables_1, d.before a0 Z = true) (ws : List Jvm.Cond) (n0 : Nat) (o0 : Jvm.Cell) (pN : Nat) (h0 : Heap) (P0 : HP n0 h0 [o0]) (Fo0 : ObjF Z o0 "com/example/dirichlet/dirichlet/index/ByteSink" fl_C0 [.null, .int (0 : Int32)]) (hpN : pN ≤ 15) :
    MetFree l (⟨"com/example/dirichlet/dirichlet/index/ByteSink", "<init>", "(I)V"⟩ : MethodName) (head1 (Jvm.Cond.code (⟨"com/example/dirichlet/dirichlet/index/ByteSink", "<init>", "(I)V"⟩ : MethodName) prog_17_method_1_code 2 none :: ws) ({ frames := 1, cells := 1, slots := 15, locals := 12 } : Room)) (fun aa U => aa = #[.ref (n0 + 0), .int (Int32.ofNat pN)] ∧ Z.Warmed39 U.vm ∧ U.heap = h0) (fun _ _ _ _ _ => True) (fun _ U o U' => ∃ v L, o = .returned v ∧ Q_init Z n0 o0 pN v U'.heap L ∧ FrameEnd U o U' L ({ frames := 1, cells := 1, slots := 15, locals := 12 } : Room).cells ({ frames := 1, cells := 1, slots := 15, locals := 12 } : Room).slots) := by
  refine own_body pn1 ?_
  intro p e s m below meth c T0 hx hby hml hret hlk hown hnm hZ X0 e0
  subst e0
  have N0 : Fr n0 [] := Fr.nil n0
  refine own_cast (ef_init m n0 pN) ?_
  refine w_aloadN X0 hx (hb hby d1_0) rfl rfl (pc' := 1) rfl ?_
  refine w_initO (W := 0) X0 hx hZ hown (by rw [hml]; rfl) (wd7 hw) (wd8 hw) (wd9 hw) P0 (hb hby d1_1) (by decide) (Nat.le_of_eq rfl) (by decide) (pc' := 4) rfl ?_
  intro T1 X1 P1
  refine w_aloadN X1 hx (hb hby d1_4) rfl rfl (pc' := 5) rfl ?_
  refine w_iloadN X1 hx (hb hby d1_5) rfl (pc' := 6) rfl ?_
  refine w_newarrC (N := pN) (cap := 15) (j := 1) X1 hx hZ P1 (ty := .byte) rfl (wd10 hw) (hb hby d1_6) (by omega) (own_oN (by omega)) (by omega) (by decide) (by decide) rfl (pc' := 8) rfl ?_
  intro T2 kA1 X2 hkA1 P2
  replace P2 := own_mr P2
  replace P2 : HP n0 T2.heap [o0, AC kA1 (List.map Value.int (List.replicate pN 0))] := P2
  refine w_putf (i := 0) (ty := (.array .byte)) X2 hx hZ hown (wd11 hw) N0 P2 rfl Fo0 (di_C0 hw) 0 rfl (Or.inl (wd12 hw)) (wd2 hw) (by decide) rfl rfl (hb hby d1_8) (pc' := 11) rfl ?_
  intro T3 L1 c2 N1 X3 P3 F2
  replace P3 : HP n0 T3.heap [c2, AC kA1 (List.map Value.int (List.replicate pN 0))] := P3
  replace F2 : ObjF Z c2 "com/example/dirichlet/dirichlet/index/ByteSink" fl_C0 [.ref (n0 + 1), .int (0 : Int32)] := F2
  exact w_ret_v X3 hx hret hlk (hb hby d1_11) (by decide) (by decide) ⟨rfl, N1, c2, F2, kA1, hkA1, P3⟩
theorem d5_0 : decode prog_17_method_2_code 0 = .ok (.aload_n 0, 1) := by decide +kernel
theorem d5_1 : decode prog_17_method_2_code 1 = .ok (.getfield 15, 3) := by decide +kernel
theorem d5_4 : decode prog_17_method_2_code 4 = .ok (.ireturn, 1) := by decide +kernel
theorem pn5 : plainFor (⟨"com/example/dirichlet/dirichlet/index/ByteSink", "size", "()I"⟩ : MethodName) = true := plainFor_of_name (by first | (simp [plainName, overriddenIn]; done) | decide +kernel)
theorem pd5 : parseMethodDescriptor (⟨"com/example/dirichlet/dirichlet/index/ByteSink", "size", "()I"⟩ : MethodName).desc = some ⟨[], some .int⟩ := by decide +kernel
theorem ef_size (m : MethodId) (n0 : Nat) (pv : Int32) : entryFrame m #[.ref (n0 + 0)] 1 = mkF m 0 #[.val (.ref (n0 + 0))] [] := by first | (simp [entryFrame, mkF, argsToLocals, Value.category]; done) | rfl
def Q_size (Z : State) (n0 : Nat) (o0 : Jvm.Cell) (ar0 : Addr) (pv : Int32) (cr : List Jvm.Cell) (v : Option Value) (h : Heap) (L : List Loc) : Prop := v = some (.int pv) ∧ Fr n0 L ∧ HP n0 h (o0 :: cr)
set_option maxRecDepth 65536 in
set_option maxHeartbeats 40000000 in
theorem rm_size (l : Launch) (Z : State) (a0 : Array Value) (hw : ∀ d ∈ tables_1, d.before a0 Z = true) (ws : List Jvm.Cond) (n0 : Nat) (o0 : Jvm.Cell) (ar0 : Addr) (pv : Int32) (cr : List Jvm.Cell) (h0 : Heap) (P0 : HP n0 h0 (o0 :: cr)) (Fo0 : ObjF Z o0 "com/example/dirichlet/dirichlet/index/ByteSink" fl_C0 [.ref ar0, .int pv]) :
    MetFree l (⟨"com/example/dirichlet/dirichlet/index/ByteSink", "size", "()I"⟩ : MethodName) (head1 (Jvm.Cond.code (⟨"com/example/dirichlet/dirichlet/index/ByteSink", "size", "()I"⟩ : MethodName) prog_17_method_2_code 1 (some .int) :: ws) ({ frames := 0, cells := 0, slots := 0, locals := 0 } : Room)) (fun aa U => aa = #[.ref (n0 + 0)] ∧ Z.Warmed39 U.vm ∧ U.heap = h0) (fun _ _ _ _ _ => True) (fun _ U o U' => ∃ v L, o = .returned v ∧ Q_size Z n0 o0 ar0 pv cr v U'.heap L ∧ FrameEnd U o U' L ({ frames := 0, cells := 0, slots := 0, locals := 0 } : Room).cells ({ frames := 0, cells := 0, slots := 0, locals := 0 } : Room).slots) := by
  refine own_body pn5 ?_
  intro p e s m below meth c T0 hx hby hml hret hlk hown hnm hZ X0 e0
  subst e0
  have N0 : Fr n0 [] := Fr.nil n0
  refine own_cast (ef_size m n0 pv) ?_
  refine w_aloadN X0 hx (hb hby d5_0) rfl rfl (pc' := 1) rfl ?_
  refine w_getf (i := 0) (v := .int pv) X0 hx hZ hown (wd18 hw) P0 rfl Fo0 1 rfl rfl (hb hby d5_1) (pc' := 4) rfl ?_
  intro T1 X1 P1
  exact w_ret_i X1 hx hret hlk (hb hby d5_4) (by decide) (by decide) ⟨rfl, N0, P1⟩
theorem d11_0 : decode prog_17_method_7_code 0 = .ok (.aload_n 0, 1) := by decide +kernel
theorem d11_1 : decode prog_17_method_7_code 1 = .ok (.iconst 0, 1) := by decide +kernel
theorem d11_2 : decode prog_17_method_7_code 2 = .ok (.putfield 15, 3) := by decide +kernel
theorem d11_5 : decode prog_17_method_7_code 5 = .ok (.return_, 1) := by decide +kernel
theorem pn11 : plainFor (⟨"com/example/dirichlet/dirichlet/index/ByteSink", "clear", "()V"⟩ : MethodName) = true := plainFor_of_name (by first | (simp [plainName, overriddenIn]; done) | decide +kernel)
theorem pd11 : parseMethodDescriptor (⟨"com/example/dirichlet/dirichlet/index/ByteSink", "clear", "()V"⟩ : MethodName).desc = some ⟨[], none⟩ := by decide +kernel
theorem ef_clear (m : MethodId) (n0 : Nat) (pv : Int32) : entryFrame m #[.ref (n0 + 0)] 1 = mkF m 0 #[.val (.ref (n0 + 0))] [] := by first | (simp [entryFrame, mkF, argsToLocals, Value.category]; done) | rfl
def Q_clear (Z : State) (n0 : Nat) (o0 : Jvm.Cell) (ar0 : Addr) (pv : Int32) (cr : List Jvm.Cell) (v : Option Value) (h : Heap) (L : List Loc) : Prop := v = none ∧ Fr n0 L ∧ ∃ c1 : Jvm.Cell, ObjF Z c1 "com/example/dirichlet/dirichlet/index/ByteSink" fl_C0 [.ref ar0, .int (0 : Int32)] ∧ HP n0 h (c1 :: cr)
set_option maxRecDepth 65536 in
set_option maxHeartbeats 40000000 in
theorem rm_clear (l : Launch) (Z : State) (a0 : Array Value) (hw : ∀ d ∈ tables_1, d.before a0 Z = true) (ws : List Jvm.Cond) (n0 : Nat) (o0 : Jvm.Cell) (ar0 : Addr) (pv : Int32) (cr : List Jvm.Cell) (h0 : Heap) (P0 : HP n0 h0 (o0 :: cr)) (Fo0 : ObjF Z o0 "com/example/dirichlet/dirichlet/index/ByteSink" fl_C0 [.ref ar0, .int pv]) :
    MetFree l (⟨"com/example/dirichlet/dirichlet/index/ByteSink", "clear", "()V"⟩ : MethodName) (head1 (Jvm.Cond.code (⟨"com/example/dirichlet/dirichlet/index/ByteSink", "clear", "()V"⟩ : MethodName) prog_17_method_7_code 1 none :: ws) ({ frames := 0, cells := 0, slots := 0, locals := 0 } : Room)) (fun aa U => aa = #[.ref (n0 + 0)] ∧ Z.Warmed39 U.vm ∧ U.heap = h0) (fun _ _ _ _ _ => True) (fun _ U o U' => ∃ v L, o = .returned v ∧ Q_clear Z n0 o0 ar0 pv cr v U'.heap L ∧ FrameEnd U o U' L ({ frames := 0, cells := 0, slots := 0, locals := 0 } : Room).cells ({ frames := 0, cells := 0, slots := 0, locals := 0 } : Room).slots) := by
  refine own_body pn11 ?_
  intro p e s m below meth c T0 hx hby hml hret hlk hown hnm hZ X0 e0
  subst e0
  have N0 : Fr n0 [] := Fr.nil n0
  refine own_cast (ef_clear m n0 pv) ?_
  refine w_aloadN X0 hx (hb hby d11_0) rfl rfl (pc' := 1) rfl ?_
  refine w_iconst (v := (0 : Int32)) X0 hx (hb hby d11_1) rfl (pc' := 2) rfl ?_
  refine w_putf (i := 0) (ty := .int) X0 hx hZ hown (wd18 hw) N0 P0 rfl Fo0 (di_C0 hw) 1 rfl (Or.inl (wd19 hw)) (wd2 hw) (by decide) rfl rfl (hb hby d11_2) (pc' := 5) rfl ?_
  intro T1 L1 c1 N1 X1 P1 F1
  replace P1 : HP n0 T1.heap (c1 :: cr) := P1
  replace F1 : ObjF Z c1 "com/example/dirichlet/dirichlet/index/ByteSink" fl_C0 [.ref ar0, .int (0 : Int32)] := F1
  exact w_ret_v X1 hx hret hlk (hb hby d11_5) (by decide) (by decide) ⟨rfl, N1, c1, F1, P1⟩
theorem d4_0 : decode jdk_65_method_121_code 0 = .ok (.iload_n 1, 1) := by decide +kernel
theorem d4_1 : decode jdk_65_method_121_code 1 = .ok (.aload_n 0, 1) := by decide +kernel
theorem d4_2 : decode jdk_65_method_121_code 2 = .ok (.arraylength, 1) := by decide +kernel
theorem d4_3 : decode jdk_65_method_121_code 3 = .ok (.if_icmp .ne 11, 3) := by decide +kernel
theorem d4_6 : decode jdk_65_method_121_code 6 = .ok (.aload_n 0, 1) := by decide +kernel
theorem d4_7 : decode jdk_65_method_121_code 7 = .ok (.invokevirtual 310, 3) := by decide +kernel
theorem d4_10 : decode jdk_65_method_121_code 10 = .ok (.checkcast 311, 3) := by decide +kernel
theorem d4_13 : decode jdk_65_method_121_code 13 = .ok (.areturn, 1) := by decide +kernel
theorem d4_14 : decode jdk_65_method_121_code 14 = .ok (.iload_n 1, 1) := by decide +kernel
theorem d4_15 : decode jdk_65_method_121_code 15 = .ok (.newarray .byte, 2) := by decide +kernel
theorem d4_17 : decode jdk_65_method_121_code 17 = .ok (.astore_n 2, 1) := by decide +kernel
theorem d4_18 : decode jdk_65_method_121_code 18 = .ok (.aload_n 0, 1) := by decide +kernel
theorem d4_19 : decode jdk_65_method_121_code 19 = .ok (.iconst 0, 1) := by decide +kernel
theorem d4_20 : decode jdk_65_method_121_code 20 = .ok (.aload_n 2, 1) := by decide +kernel
theorem d4_21 : decode jdk_65_method_121_code 21 = .ok (.iconst 0, 1) := by decide +kernel
theorem d4_22 : decode jdk_65_method_121_code 22 = .ok (.aload_n 0, 1) := by decide +kernel
theorem d4_23 : decode jdk_65_method_121_code 23 = .ok (.arraylength, 1) := by decide +kernel
theorem d4_24 : decode jdk_65_method_121_code 24 = .ok (.iload_n 1, 1) := by decide +kernel
theorem d4_25 : decode jdk_65_method_121_code 25 = .ok (.invokestatic 304, 3) := by decide +kernel
theorem d4_28 : decode jdk_65_method_121_code 28 = .ok (.invokestatic 150, 3) := by decide +kernel
theorem d4_31 : decode jdk_65_method_121_code 31 = .ok (.aload_n 2, 1) := by decide +kernel
theorem d4_32 : decode jdk_65_method_121_code 32 = .ok (.areturn, 1) := by decide +kernel
theorem pn4 : plainFor (⟨"java/util/Arrays", "copyOf", "([BI)[B"⟩ : MethodName) = true := plainFor_of_name (by first | (simp [plainName, overriddenIn]; done) | decide +kernel)
theorem pd4 : parseMethodDescriptor (⟨"java/util/Arrays", "copyOf", "([BI)[B"⟩ : MethodName).desc = some ⟨[(.array .byte), .int], some (.array .byte)⟩ := by decide +kernel
theorem ef_cpG1 (m : MethodId) (n0 : Nat) (pN : Nat) (pM : Nat) : entryFrame m #[.ref (n0 + 1), .int (Int32.ofNat pM)] 3 = mkF m 0 #[.val (.ref (n0 + 1)), .val (.int (Int32.ofNat pM)), .unset] [] := by first | (simp [entryFrame, mkF, argsToLocals, Value.category]; done) | rfl
def Q_cpG1 (Z : State) (n0 : Nat) (o0 : Jvm.Cell) (kk : ClassId) (pA : List Int32) (pN : Nat) (pM : Nat) (v : Option Value) (h : Heap) (L : List Loc) : Prop := v = some (.ref (n0 + 2)) ∧ Fr n0 L ∧ ∃ kA1 : ClassId, IsA Z kA1 .byte ∧ HP n0 h [o0, AC kk (List.map Value.int pA), AC kA1 (List.map Value.int (pA ++ List.replicate (pM - pN) 0))]
set_option maxRecDepth 65536 in
set_option maxHeartbeats 40000000 in
theorem rm_cpG1 (l : Launch) (Z : State) (a0 : Array Value) (hw : ∀ d ∈ tables_1, d.before a0 Z = true) (ws : List Jvm.Cond) (n0 : Nat) (o0 : Jvm.Cell) (kk : ClassId) (pA : List Int32) (pN : Nat) (pM : Nat) (h0 : Heap) (P0 : HP n0 h0 [o0, AC kk (List.map Value.int pA)]) (hkk : IsA Z kk .byte) (hpA : pA.length = pN) (hB : own_B pA) (hpM : pN < pM) (hpM2 : pM ≤ 36) :
    MetFree l (⟨"java/util/Arrays", "copyOf", "([BI)[B"⟩ : MethodName) (head1 (Jvm.Cond.code (⟨"java/util/Arrays", "copyOf", "([BI)[B"⟩ : MethodName) jdk_65_method_121_code 3 (some (.array .byte)) :: ws) ({ frames := 1, cells := 1, slots := 36, locals := 18 } : Room)) (fun aa U => aa = #[.ref (n0 + 1), .int (Int32.ofNat pM)] ∧ Z.Warmed39 U.vm ∧ U.heap = h0) (fun _ _ _ _ _ => True) (fun _ U o U' => ∃ v L, o = .returned v ∧ Q_cpG1 Z n0 o0 kk pA pN pM v U'.heap L ∧ FrameEnd U o U' L ({ frames := 1, cells := 1, slots := 36, locals := 18 } : Room).cells ({ frames := 1, cells := 1, slots := 36, locals := 18 } : Room).slots) := by
  refine own_body pn4 ?_
  intro p e s m below meth c T0 hx hby hml hret hlk hown hnm hZ X0 e0
  subst e0
  have N0 : Fr n0 [] := Fr.nil n0
  refine own_cast (ef_cpG1 m n0 pN pM) ?_
  refine w_iloadN X0 hx (hb hby d4_0) rfl (pc' := 1) rfl ?_
  refine w_aloadN X0 hx (hb hby d4_1) rfl rfl (pc' := 2) rfl ?_
  refine w_arrlen (i := 1) X0 hx hZ P0 rfl hkk (hb hby d4_2) (z := (Int32.ofNat pN)) (own_len hpA) (pc' := 3) rfl ?_
  refine w_icmp_ne X0 hx (hb hby d4_3) (by decide) (pcY := 14) (by decide) (pc' := 6) rfl (fun h0 => ?_) (fun h0 => absurd ((own_oeq (a := pM) (b := pN) (by omega) (by omega)).mp h0) (by omega))
  refine w_iloadN X0 hx (hb hby d4_14) rfl (pc' := 15) rfl ?_
  refine w_newarrC (N := pM) (cap := 36) (j := 2) X0 hx hZ P0 (ty := .byte) rfl (wd10 hw) (hb hby d4_15) (by omega) (own_oN (by omega)) (by omega) (by decide) (by decide) rfl (pc' := 17) rfl ?_
  intro T1 kA1 X1 hkA1 P1
  replace P1 := own_mr P1
  replace P1 : HP n0 T1.heap [o0, AC kk (List.map Value.int pA), AC kA1 (List.map Value.int (List.replicate pM 0))] := P1
  refine w_astoreN (l' := #[.val (.ref (n0 + 1)), .val (.int (Int32.ofNat pM)), .val (.ref (n0 + 2))]) X1 hx (hb hby d4_17) rfl rfl (pc' := 18) rfl ?_
  refine w_aloadN X1 hx (hb hby d4_18) rfl rfl (pc' := 19) rfl ?_
  refine w_iconst (v := (0 : Int32)) X1 hx (hb hby d4_19) rfl (pc' := 20) rfl ?_
  refine w_aloadN X1 hx (hb hby d4_20) rfl rfl (pc' := 21) rfl ?_
  refine w_iconst (v := (0 : Int32)) X1 hx (hb hby d4_21) rfl (pc' := 22) rfl ?_
  refine w_aloadN X1 hx (hb hby d4_22) rfl rfl (pc' := 23) rfl ?_
  refine w_arrlen (i := 1) X1 hx hZ P1 rfl hkk (hb hby d4_23) (z := (Int32.ofNat pN)) (own_len hpA) (pc' := 24) rfl ?_
  refine w_iloadN X1 hx (hb hby d4_24) rfl (pc' := 25) rfl ?_
  refine w_callP (W := 4) X1 hx hZ rfl hown hml.symm (wd54 hw) (wd55 hw) (wd56 hw) (wd57 hw) (rm9 l Z a0 hw [] (Int32.ofNat pN) (Int32.ofNat pM) _) (by decide) (by decide) (by decide) rfl rfl (by decide) (by decide) (argsL := [.int (Int32.ofNat pN), .int (Int32.ofNat pM)]) (rest := [.int (0 : Int32), .ref (n0 + 2), .int (0 : Int32), .ref (n0 + 1)]) pd9 rfl rfl rfl (Nat.le_of_eq rfl) (hb hby d4_25) (pc' := 28) rfl ?_
  intro T2 X2 e2
  have P2 : HP n0 T2.heap [o0, AC kk (List.map Value.int pA), AC kA1 (List.map Value.int (List.replicate pM 0))] := by rw [e2]; exact P1
  refine w_eqI (z := (Int32.ofNat pN)) (own_minL (by omega) (by omega) (by omega)) ?_
  refine w_acopy (W := 0) (i := 1) (j := 2) (sn := 0) (dn := 0) (n := pN) (vd' := (List.map Value.int (pA ++ List.replicate (pM - pN) 0))) X2 hx hZ hown (by rw [hml]; rfl) (wd58 hw) (wd61 hw) (wd59 hw) (wd60 hw) N0 P2 rfl rfl hkk hkA1 rfl hB (by decide) (by decide) (own_oN (by omega)) (by rw [List.length_map, hpA]; omega) (by rw [List.length_map, List.length_replicate]; omega) (hb hby d4_28) (by decide) (Nat.le_of_eq rfl) (by decide) (own_cpG hpA) (pc' := 31) rfl ?_
  intro T3 L1 N1 X3 P3
  replace P3 : HP n0 T3.heap [o0, AC kk (List.map Value.int pA), AC kA1 (List.map Value.int (pA ++ List.replicate (pM - pN) 0))] := P3
  refine w_aloadN X3 hx (hb hby d4_31) rfl rfl (pc' := 32) rfl ?_
  exact w_ret_a X3 hx rfl hret rfl hlk (hb hby d4_32) (by decide) (by decide) ⟨rfl, N1, kA1, hkA1, P3⟩
theorem ef_cpG2 (m : MethodId) (n0 : Nat) (pN : Nat) (pM : Nat) : entryFrame m #[.ref (n0 + 2), .int (Int32.ofNat pM)] 3 = mkF m 0 #[.val (.ref (n0 + 2)), .val (.int (Int32.ofNat pM)), .unset] [] := by first | (simp [entryFrame, mkF, argsToLocals, Value.category]; done) | rfl
def Q_cpG2 (Z : State) (n0 : Nat) (o0 : Jvm.Cell) (q1 : Jvm.Cell) (kk : ClassId) (pA : List Int32) (pN : Nat) (pM : Nat) (v : Option Value) (h : Heap) (L : List Loc) : Prop := v = some (.ref (n0 + 3)) ∧ Fr n0 L ∧ ∃ kA1 : ClassId, IsA Z kA1 .byte ∧ HP n0 h [o0, q1, AC kk (List.map Value.int pA), AC kA1 (List.map Value.int (pA ++ List.replicate (pM - pN) 0))]
set_option maxRecDepth 65536 in
set_option maxHeartbeats 40000000 in
theorem rm_cpG2 (l : Launch) (Z : State) (a0 : Array Value) (hw : ∀ d ∈ tables_1, d.before a0 Z = true) (ws : List Jvm.Cond) (n0 : Nat) (o0 : Jvm.Cell) (q1 : Jvm.Cell) (kk : ClassId) (pA : List Int32) (pN : Nat) (pM : Nat) (h0 : Heap) (P0 : HP n0 h0 [o0, q1, AC kk (List.map Value.int pA)]) (hkk : IsA Z kk .byte) (hpA : pA.length = pN) (hB : own_B pA) (hpM : pN < pM) (hpM2 : pM ≤ 36) :
    MetFree l (⟨"java/util/Arrays", "copyOf", "([BI)[B"⟩ : MethodName) (head1 (Jvm.Cond.code (⟨"java/util/Arrays", "copyOf", "([BI)[B"⟩ : MethodName) jdk_65_method_121_code 3 (some (.array .byte)) :: ws) ({ frames := 1, cells := 1, slots := 36, locals := 18 } : Room)) (fun aa U => aa = #[.ref (n0 + 2), .int (Int32.ofNat pM)] ∧ Z.Warmed39 U.vm ∧ U.heap = h0) (fun _ _ _ _ _ => True) (fun _ U o U' => ∃ v L, o = .returned v ∧ Q_cpG2 Z n0 o0 q1 kk pA pN pM v U'.heap L ∧ FrameEnd U o U' L ({ frames := 1, cells := 1, slots := 36, locals := 18 } : Room).cells ({ frames := 1, cells := 1, slots := 36, locals := 18 } : Room).slots) := by
  refine own_body pn4 ?_
  intro p e s m below meth c T0 hx hby hml hret hlk hown hnm hZ X0 e0
  subst e0
  have N0 : Fr n0 [] := Fr.nil n0
  refine own_cast (ef_cpG2 m n0 pN pM) ?_
  refine w_iloadN X0 hx (hb hby d4_0) rfl (pc' := 1) rfl ?_
  refine w_aloadN X0 hx (hb hby d4_1) rfl rfl (pc' := 2) rfl ?_
  refine w_arrlen (i := 2) X0 hx hZ P0 rfl hkk (hb hby d4_2) (z := (Int32.ofNat pN)) (own_len hpA) (pc' := 3) rfl ?_
  refine w_icmp_ne X0 hx (hb hby d4_3) (by decide) (pcY := 14) (by decide) (pc' := 6) rfl (fun h0 => ?_) (fun h0 => absurd ((own_oeq (a := pM) (b := pN) (by omega) (by omega)).mp h0) (by omega))
  refine w_iloadN X0 hx (hb hby d4_14) rfl (pc' := 15) rfl ?_
  refine w_newarrC (N := pM) (cap := 36) (j := 3) X0 hx hZ P0 (ty := .byte) rfl (wd10 hw) (hb hby d4_15) (by omega) (own_oN (by omega)) (by omega) (by decide) (by decide) rfl (pc' := 17) rfl ?_
  intro T1 kA1 X1 hkA1 P1
  replace P1 := own_mr P1
  replace P1 : HP n0 T1.heap [o0, q1, AC kk (List.map Value.int pA), AC kA1 (List.map Value.int (List.replicate pM 0))] := P1
  refine w_astoreN (l' := #[.val (.ref (n0 + 2)), .val (.int (Int32.ofNat pM)), .val (.ref (n0 + 3))]) X1 hx (hb hby d4_17) rfl rfl (pc' := 18) rfl ?_
  refine w_aloadN X1 hx (hb hby d4_18) rfl rfl (pc' := 19) rfl ?_
  refine w_iconst (v := (0 : Int32)) X1 hx (hb hby d4_19) rfl (pc' := 20) rfl ?_
  refine w_aloadN X1 hx (hb hby d4_20) rfl rfl (pc' := 21) rfl ?_
  refine w_iconst (v := (0 : Int32)) X1 hx (hb hby d4_21) rfl (pc' := 22) rfl ?_
  refine w_aloadN X1 hx (hb hby d4_22) rfl rfl (pc' := 23) rfl ?_
  refine w_arrlen (i := 2) X1 hx hZ P1 rfl hkk (hb hby d4_23) (z := (Int32.ofNat pN)) (own_len hpA) (pc' := 24) rfl ?_
  refine w_iloadN X1 hx (hb hby d4_24) rfl (pc' := 25) rfl ?_
  refine w_callP (W := 4) X1 hx hZ rfl hown hml.symm (wd54 hw) (wd55 hw) (wd56 hw) (wd57 hw) (rm9 l Z a0 hw [] (Int32.ofNat pN) (Int32.ofNat pM) _) (by decide) (by decide) (by decide) rfl rfl (by decide) (by decide) (argsL := [.int (Int32.ofNat pN), .int (Int32.ofNat pM)]) (rest := [.int (0 : Int32), .ref (n0 + 3), .int (0 : Int32), .ref (n0 + 2)]) pd9 rfl rfl rfl (Nat.le_of_eq rfl) (hb hby d4_25) (pc' := 28) rfl ?_
  intro T2 X2 e2
  have P2 : HP n0 T2.heap [o0, q1, AC kk (List.map Value.int pA), AC kA1 (List.map Value.int (List.replicate pM 0))] := by rw [e2]; exact P1
  refine w_eqI (z := (Int32.ofNat pN)) (own_minL (by omega) (by omega) (by omega)) ?_
  refine w_acopy (W := 0) (i := 2) (j := 3) (sn := 0) (dn := 0) (n := pN) (vd' := (List.map Value.int (pA ++ List.replicate (pM - pN) 0))) X2 hx hZ hown (by rw [hml]; rfl) (wd58 hw) (wd61 hw) (wd59 hw) (wd60 hw) N0 P2 rfl rfl hkk hkA1 rfl hB (by decide) (by decide) (own_oN (by omega)) (by rw [List.length_map, hpA]; omega) (by rw [List.length_map, List.length_replicate]; omega) (hb hby d4_28) (by decide) (Nat.le_of_eq rfl) (by decide) (own_cpG hpA) (pc' := 31) rfl ?_
  intro T3 L1 N1 X3 P3
  replace P3 : HP n0 T3.heap [o0, q1, AC kk (List.map Value.int pA), AC kA1 (List.map Value.int (pA ++ List.replicate (pM - pN) 0))] := P3
  refine w_aloadN X3 hx (hb hby d4_31) rfl rfl (pc' := 32) rfl ?_
  exact w_ret_a X3 hx rfl hret rfl hlk (hb hby d4_32) (by decide) (by decide) ⟨rfl, N1, kA1, hkA1, P3⟩
theorem ef_cpT10 (m : MethodId) (n0 : Nat) (pN : Nat) (pm : Nat) : entryFrame m #[.ref (n0 + 1), .int (Int32.ofNat pm)] 3 = mkF m 0 #[.val (.ref (n0 + 1)), .val (.int (Int32.ofNat pm)), .unset] [] := by first | (simp [entryFrame, mkF, argsToLocals, Value.category]; done) | rfl
def Q_cpT10 (Z : State) (n0 : Nat) (o0 : Jvm.Cell) (kk : ClassId) (pA : List Int32) (pN : Nat) (pm : Nat) (v : Option Value) (h : Heap) (L : List Loc) : Prop := v = some (.ref (n0 + 2)) ∧ Fr n0 L ∧ ∃ kR : ClassId, IsA Z kR .byte ∧ HP n0 h [o0, AC kk (List.map Value.int pA), AC kR (List.map Value.int (List.take pm pA))]
set_option maxRecDepth 65536 in
set_option maxHeartbeats 40000000 in
theorem rm_cpT10 (l : Launch) (Z : State) (a0 : Array Value) (hw : ∀ d ∈ tables_1, d.before a0 Z = true) (ws : List Jvm.Cond) (n0 : Nat) (o0 : Jvm.Cell) (kk : ClassId) (pA : List Int32) (pN : Nat) (pm : Nat) (h0 : Heap) (P0 : HP n0 h0 [o0, AC kk (List.map Value.int pA)]) (hkk : IsA Z kk .byte) (hpA : pA.length = pN) (hB : own_B pA) (hpm : pm ≤ pN) (hpm0 : pm = pN → pN = 0) (hpm18 : pm ≤ 18) (hpN : pN ≤ 36) :
    MetFree l (⟨"java/util/Arrays", "copyOf", "([BI)[B"⟩ : MethodName) (head1 (Jvm.Cond.code (⟨"java/util/Arrays", "copyOf", "([BI)[B"⟩ : MethodName) jdk_65_method_121_code 3 (some (.array .byte)) :: ws) ({ frames := 1, cells := 1, slots := 18, locals := 18 } : Room)) (fun aa U => aa = #[.ref (n0 + 1), .int (Int32.ofNat pm)] ∧ Z.Warmed39 U.vm ∧ U.heap = h0) (fun _ _ _ _ _ => True) (fun _ U o U' => ∃ v L, o = .returned v ∧ Q_cpT10 Z n0 o0 kk pA pN pm v U'.heap L ∧ FrameEnd U o U' L ({ frames := 1, cells := 1, slots := 18, locals := 18 } : Room).cells ({ frames := 1, cells := 1, slots := 18, locals := 18 } : Room).slots) := by
  refine own_body pn4 ?_
  intro p e s m below meth c T0 hx hby hml hret hlk hown hnm hZ X0 e0
  subst e0
  have N0 : Fr n0 [] := Fr.nil n0
  refine own_cast (ef_cpT10 m n0 pN pm) ?_
  refine w_iloadN X0 hx (hb hby d4_0) rfl (pc' := 1) rfl ?_
  refine w_aloadN X0 hx (hb hby d4_1) rfl rfl (pc' := 2) rfl ?_
  refine w_arrlen (i := 1) X0 hx hZ P0 rfl hkk (hb hby d4_2) (z := (Int32.ofNat pN)) (own_len hpA) (pc' := 3) rfl ?_
  refine w_icmp_ne X0 hx (hb hby d4_3) (by decide) (pcY := 14) (by decide) (pc' := 6) rfl (fun h0 => ?_) (fun h0 => ?_)
  · have h0n : ¬ pm = pN := fun q => h0 ((own_oeq (a := pm) (b := pN) (by omega) (by omega)).mpr q)
    refine w_iloadN X0 hx (hb hby d4_14) rfl (pc' := 15) rfl ?_
    refine w_newarrC (N := pm) (cap := 18) (j := 2) X0 hx hZ P0 (ty := .byte) rfl (wd10 hw) (hb hby d4_15) (by omega) (own_oN (by omega)) (by omega) (by decide) (by decide) rfl (pc' := 17) rfl ?_
    intro T1 kA1 X1 hkA1 P1
    replace P1 := own_mr P1
    replace P1 : HP n0 T1.heap [o0, AC kk (List.map Value.int pA), AC kA1 (List.map Value.int (List.replicate pm 0))] := P1
    refine w_astoreN (l' := #[.val (.ref (n0 + 1)), .val (.int (Int32.ofNat pm)), .val (.ref (n0 + 2))]) X1 hx (hb hby d4_17) rfl rfl (pc' := 18) rfl ?_
    refine w_aloadN X1 hx (hb hby d4_18) rfl rfl (pc' := 19) rfl ?_
    refine w_iconst (v := (0 : Int32)) X1 hx (hb hby d4_19) rfl (pc' := 20) rfl ?_
    refine w_aloadN X1 hx (hb hby d4_20) rfl rfl (pc' := 21) rfl ?_
    refine w_iconst (v := (0 : Int32)) X1 hx (hb hby d4_21) rfl (pc' := 22) rfl ?_
    refine w_aloadN X1 hx (hb hby d4_22) rfl rfl (pc' := 23) rfl ?_
    refine w_arrlen (i := 1) X1 hx hZ P1 rfl hkk (hb hby d4_23) (z := (Int32.ofNat pN)) (own_len hpA) (pc' := 24) rfl ?_
    refine w_iloadN X1 hx (hb hby d4_24) rfl (pc' := 25) rfl ?_
    refine w_callP (W := 4) X1 hx hZ rfl hown hml.symm (wd54 hw) (wd55 hw) (wd56 hw) (wd57 hw) (rm9 l Z a0 hw [] (Int32.ofNat pN) (Int32.ofNat pm) _) (by decide) (by decide) (by decide) rfl rfl (by decide) (by decide) (argsL := [.int (Int32.ofNat pN), .int (Int32.ofNat pm)]) (rest := [.int (0 : Int32), .ref (n0 + 2), .int (0 : Int32), .ref (n0 + 1)]) pd9 rfl rfl rfl (Nat.le_of_eq rfl) (hb hby d4_25) (pc' := 28) rfl ?_
    intro T2 X2 e2
    have P2 : HP n0 T2.heap [o0, AC kk (List.map Value.int pA), AC kA1 (List.map Value.int (List.replicate pm 0))] := by rw [e2]; exact P1
    refine w_eqI (z := (Int32.ofNat pm)) (own_minR (by omega) (by omega) (by omega)) ?_
    refine w_acopy (W := 0) (i := 1) (j := 2) (sn := 0) (dn := 0) (n := pm) (vd' := (List.map Value.int (List.take pm pA))) X2 hx hZ hown (by rw [hml]; rfl) (wd58 hw) (wd61 hw) (wd59 hw) (wd60 hw) N0 P2 rfl rfl hkk hkA1 rfl hB (by decide) (by decide) (own_oN (by omega)) (by rw [List.length_map, hpA]; omega) (by rw [List.length_map, List.length_replicate]; omega) (hb hby d4_28) (by decide) (Nat.le_of_eq rfl) (by decide) own_cpT (pc' := 31) rfl ?_
    intro T3 L1 N1 X3 P3
    replace P3 : HP n0 T3.heap [o0, AC kk (List.map Value.int pA), AC kA1 (List.map Value.int (List.take pm pA))] := P3
    refine w_aloadN X3 hx (hb hby d4_31) rfl rfl (pc' := 32) rfl ?_
    exact w_ret_a X3 hx rfl hret rfl hlk (hb hby d4_32) (by decide) (by decide) ⟨rfl, N1, kA1, hkA1, P3⟩
  · have h0n : pm = pN := (own_oeq (a := pm) (b := pN) (by omega) (by omega)).mp h0
    obtain rfl : pA = [] := List.eq_nil_of_length_eq_zero (by omega)
    replace P0 : HP n0 T0.heap [o0, AC kk []] := P0
    refine w_aloadN X0 hx (hb hby d4_6) rfl rfl (pc' := 7) rfl ?_
    refine w_clone (W := 0) (N := 0) (j := 2) (i := 1) X0 hx hZ hown (by rw [hml]; rfl) (wd24 hw) (wd25 hw) (wd29 hw) (wd27 hw) (wd28 hw) (wd30 hw) P0 rfl hkk rfl (by simp [fits]) (hb hby d4_7) (by decide) (Nat.le_of_eq rfl) (by decide) rfl (by decide) (by decide) rfl (pc' := 10) rfl ?_
    intro T4 X4 P4
    replace P4 : HP n0 T4.heap [o0, AC kk [], AC kk []] := P4
    refine w_ccastA (i := 2) X4 hx hZ hown (wd31 hw) P4 rfl hkk rfl (hb hby d4_10) (pc' := 13) rfl ?_
    intro T5 X5 P5
    exact w_ret_a X5 hx rfl hret rfl hlk (hb hby d4_13) (by decide) (by decide) ⟨rfl, N0, kk, hkk, by rw [List.take_nil]; exact P5⟩
theorem d3_0 : decode prog_17_method_6_code 0 = .ok (.aload_n 0, 1) := by decide +kernel
theorem d3_1 : decode prog_17_method_6_code 1 = .ok (.getfield 9, 3) := by decide +kernel
theorem d3_4 : decode prog_17_method_6_code 4 = .ok (.aload_n 0, 1) := by decide +kernel
theorem d3_5 : decode prog_17_method_6_code 5 = .ok (.getfield 15, 3) := by decide +kernel
theorem d3_8 : decode prog_17_method_6_code 8 = .ok (.invokestatic 62, 3) := by decide +kernel
theorem d3_11 : decode prog_17_method_6_code 11 = .ok (.areturn, 1) := by decide +kernel
theorem pn3 : plainFor (⟨"com/example/dirichlet/dirichlet/index/ByteSink", "toArray", "()[B"⟩ : MethodName) = true := plainFor_of_name (by first | (simp [plainName, overriddenIn]; done) | decide +kernel)
theorem pd3 : parseMethodDescriptor (⟨"com/example/dirichlet/dirichlet/index/ByteSink", "toArray", "()[B"⟩ : MethodName).desc = some ⟨[], some (.array .byte)⟩ := by decide +kernel
theorem ef_toA10 (m : MethodId) (n0 : Nat) (pN : Nat) (pm : Nat) : entryFrame m #[.ref (n0 + 0)] 1 = mkF m 0 #[.val (.ref (n0 + 0))] [] := by first | (simp [entryFrame, mkF, argsToLocals, Value.category]; done) | rfl
def Q_toA10 (Z : State) (n0 : Nat) (o0 : Jvm.Cell) (kk : ClassId) (pA : List Int32) (pN : Nat) (pm : Nat) (v : Option Value) (h : Heap) (L : List Loc) : Prop := v = some (.ref (n0 + 2)) ∧ Fr n0 L ∧ ∃ kA1 : ClassId, IsA Z kA1 .byte ∧ HP n0 h [o0, AC kk (List.map Value.int pA), AC kA1 (List.map Value.int (List.take pm pA))]
set_option maxRecDepth 65536 in
set_option maxHeartbeats 40000000 in
theorem rm_toA10 (l : Launch) (Z : State) (a0 : Array Value) (hw : ∀ d ∈ tables_1, d.before a0 Z = true) (ws : List Jvm.Cond) (n0 : Nat) (o0 : Jvm.Cell) (kk : ClassId) (pA : List Int32) (pN : Nat) (pm : Nat) (h0 : Heap) (P0 : HP n0 h0 [o0, AC kk (List.map Value.int pA)]) (hkk : IsA Z kk .byte) (hpA : pA.length = pN) (Fo0 : ObjF Z o0 "com/example/dirichlet/dirichlet/index/ByteSink" fl_C0 [.ref (n0 + 1), .int (Int32.ofNat pm)]) (hB : own_B pA) (hpm : pm ≤ pN) (hpm0 : pm = pN → pN = 0) (hpm18 : pm ≤ 18) (hpN : pN ≤ 36) :
    MetFree l (⟨"com/example/dirichlet/dirichlet/index/ByteSink", "toArray", "()[B"⟩ : MethodName) (head1 (Jvm.Cond.code (⟨"com/example/dirichlet/dirichlet/index/ByteSink", "toArray", "()[B"⟩ : MethodName) prog_17_method_6_code 1 (some (.array .byte)) :: ws) ({ frames := 2, cells := 1, slots := 18, locals := 32 } : Room)) (fun aa U => aa = #[.ref (n0 + 0)] ∧ Z.Warmed39 U.vm ∧ U.heap = h0) (fun _ _ _ _ _ => True) (fun _ U o U' => ∃ v L, o = .returned v ∧ Q_toA10 Z n0 o0 kk pA pN pm v U'.heap L ∧ FrameEnd U o U' L ({ frames := 2, cells := 1, slots := 18, locals := 32 } : Room).cells ({ frames := 2, cells := 1, slots := 18, locals := 32 } : Room).slots) := by
  refine own_body pn3 ?_
  intro p e s m below meth c T0 hx hby hml hret hlk hown hnm hZ X0 e0
  subst e0
  have N0 : Fr n0 [] := Fr.nil n0
  refine own_cast (ef_toA10 m n0 pN pm) ?_
  refine w_aloadN X0 hx (hb hby d3_0) rfl rfl (pc' := 1) rfl ?_
  refine w_getf (i := 0) (v := .ref (n0 + 1)) X0 hx hZ hown (wd11 hw) P0 rfl Fo0 0 rfl rfl (hb hby d3_1) (pc' := 4) rfl ?_
  intro T1 X1 P1
  refine w_aloadN X1 hx (hb hby d3_4) rfl rfl (pc' := 5) rfl ?_
  refine w_getf (i := 0) (v := .int (Int32.ofNat pm)) X1 hx hZ hown (wd18 hw) P1 rfl Fo0 1 rfl rfl (hb hby d3_5) (pc' := 8) rfl ?_
  intro T2 X2 P2
  refine own_call (W := 0) X2 hx hZ rfl hown hml.symm (wd20 hw) (wd21 hw) (wd22 hw) (wd23 hw) (rm_cpT10 l Z a0 hw [] n0 o0 kk pA pN pm _ P2 hkk hpA hB hpm hpm0 hpm18 hpN) (by decide) (by decide) (by decide) (by decide) (by decide) (argsL := [.ref (n0 + 1), .int (Int32.ofNat pm)]) (rest := []) pd4 rfl rfl rfl (Nat.le_of_eq rfl) (hb hby d3_8) (pc' := 11) rfl ?_
  intro v3 T3 L1 X3 hq
  obtain ⟨rfl, N1, kA1, hkA1, P3⟩ := hq
  replace N1 := Fr.app N0 N1
  replace P3 : HP n0 T3.heap [o0, AC kk (List.map Value.int pA), AC kA1 (List.map Value.int (List.take pm pA))] := P3
  exact w_ret_a X3 hx rfl hret rfl hlk (hb hby d3_11) (by decide) (by decide) ⟨rfl, N1, kA1, hkA1, P3⟩
theorem ef_cpT11 (m : MethodId) (n0 : Nat) (pN : Nat) (pm : Nat) : entryFrame m #[.ref (n0 + 1), .int (Int32.ofNat pm)] 3 = mkF m 0 #[.val (.ref (n0 + 1)), .val (.int (Int32.ofNat pm)), .unset] [] := by first | (simp [entryFrame, mkF, argsToLocals, Value.category]; done) | rfl
def Q_cpT11 (Z : State) (n0 : Nat) (o0 : Jvm.Cell) (q2 : Jvm.Cell) (kk : ClassId) (pA : List Int32) (pN : Nat) (pm : Nat) (v : Option Value) (h : Heap) (L : List Loc) : Prop := v = some (.ref (n0 + 3)) ∧ Fr n0 L ∧ ∃ kR : ClassId, IsA Z kR .byte ∧ HP n0 h [o0, AC kk (List.map Value.int pA), q2, AC kR (List.map Value.int (List.take pm pA))]
set_option maxRecDepth 65536 in
set_option maxHeartbeats 40000000 in
theorem rm_cpT11 (l : Launch) (Z : State) (a0 : Array Value) (hw : ∀ d ∈ tables_1, d.before a0 Z = true) (ws : List Jvm.Cond) (n0 : Nat) (o0 : Jvm.Cell) (q2 : Jvm.Cell) (kk : ClassId) (pA : List Int32) (pN : Nat) (pm : Nat) (h0 : Heap) (P0 : HP n0 h0 [o0, AC kk (List.map Value.int pA), q2]) (hkk : IsA Z kk .byte) (hpA : pA.length = pN) (hB : own_B pA) (hpm : pm ≤ pN) (hpm0 : pm = pN → pN = 0) (hpm18 : pm ≤ 18) (hpN : pN ≤ 36) :
    MetFree l (⟨"java/util/Arrays", "copyOf", "([BI)[B"⟩ : MethodName) (head1 (Jvm.Cond.code (⟨"java/util/Arrays", "copyOf", "([BI)[B"⟩ : MethodName) jdk_65_method_121_code 3 (some (.array .byte)) :: ws) ({ frames := 1, cells := 1, slots := 18, locals := 18 } : Room)) (fun aa U => aa = #[.ref (n0 + 1), .int (Int32.ofNat pm)] ∧ Z.Warmed39 U.vm ∧ U.heap = h0) (fun _ _ _ _ _ => True) (fun _ U o U' => ∃ v L, o = .returned v ∧ Q_cpT11 Z n0 o0 q2 kk pA pN pm v U'.heap L ∧ FrameEnd U o U' L ({ frames := 1, cells := 1, slots := 18, locals := 18 } : Room).cells ({ frames := 1, cells := 1, slots := 18, locals := 18 } : Room).slots) := by
  refine own_body pn4 ?_
  intro p e s m below meth c T0 hx hby hml hret hlk hown hnm hZ X0 e0
  subst e0
  have N0 : Fr n0 [] := Fr.nil n0
  refine own_cast (ef_cpT11 m n0 pN pm) ?_
  refine w_iloadN X0 hx (hb hby d4_0) rfl (pc' := 1) rfl ?_
  refine w_aloadN X0 hx (hb hby d4_1) rfl rfl (pc' := 2) rfl ?_
  refine w_arrlen (i := 1) X0 hx hZ P0 rfl hkk (hb hby d4_2) (z := (Int32.ofNat pN)) (own_len hpA) (pc' := 3) rfl ?_
  refine w_icmp_ne X0 hx (hb hby d4_3) (by decide) (pcY := 14) (by decide) (pc' := 6) rfl (fun h0 => ?_) (fun h0 => ?_)
  · have h0n : ¬ pm = pN := fun q => h0 ((own_oeq (a := pm) (b := pN) (by omega) (by omega)).mpr q)
    refine w_iloadN X0 hx (hb hby d4_14) rfl (pc' := 15) rfl ?_
    refine w_newarrC (N := pm) (cap := 18) (j := 3) X0 hx hZ P0 (ty := .byte) rfl (wd10 hw) (hb hby d4_15) (by omega) (own_oN (by omega)) (by omega) (by decide) (by decide) rfl (pc' := 17) rfl ?_
    intro T1 kA1 X1 hkA1 P1
    replace P1 := own_mr P1
    replace P1 : HP n0 T1.heap [o0, AC kk (List.map Value.int pA), q2, AC kA1 (List.map Value.int (List.replicate pm 0))] := P1
    refine w_astoreN (l' := #[.val (.ref (n0 + 1)), .val (.int (Int32.ofNat pm)), .val (.ref (n0 + 3))]) X1 hx (hb hby d4_17) rfl rfl (pc' := 18) rfl ?_
    refine w_aloadN X1 hx (hb hby d4_18) rfl rfl (pc' := 19) rfl ?_
    refine w_iconst (v := (0 : Int32)) X1 hx (hb hby d4_19) rfl (pc' := 20) rfl ?_
    refine w_aloadN X1 hx (hb hby d4_20) rfl rfl (pc' := 21) rfl ?_
    refine w_iconst (v := (0 : Int32)) X1 hx (hb hby d4_21) rfl (pc' := 22) rfl ?_
    refine w_aloadN X1 hx (hb hby d4_22) rfl rfl (pc' := 23) rfl ?_
    refine w_arrlen (i := 1) X1 hx hZ P1 rfl hkk (hb hby d4_23) (z := (Int32.ofNat pN)) (own_len hpA) (pc' := 24) rfl ?_
    refine w_iloadN X1 hx (hb hby d4_24) rfl (pc' := 25) rfl ?_
    refine w_callP (W := 4) X1 hx hZ rfl hown hml.symm (wd54 hw) (wd55 hw) (wd56 hw) (wd57 hw) (rm9 l Z a0 hw [] (Int32.ofNat pN) (Int32.ofNat pm) _) (by decide) (by decide) (by decide) rfl rfl (by decide) (by decide) (argsL := [.int (Int32.ofNat pN), .int (Int32.ofNat pm)]) (rest := [.int (0 : Int32), .ref (n0 + 3), .int (0 : Int32), .ref (n0 + 1)]) pd9 rfl rfl rfl (Nat.le_of_eq rfl) (hb hby d4_25) (pc' := 28) rfl ?_
    intro T2 X2 e2
    have P2 : HP n0 T2.heap [o0, AC kk (List.map Value.int pA), q2, AC kA1 (List.map Value.int (List.replicate pm 0))] := by rw [e2]; exact P1
    refine w_eqI (z := (Int32.ofNat pm)) (own_minR (by omega) (by omega) (by omega)) ?_
    refine w_acopy (W := 0) (i := 1) (j := 3) (sn := 0) (dn := 0) (n := pm) (vd' := (List.map Value.int (List.take pm pA))) X2 hx hZ hown (by rw [hml]; rfl) (wd58 hw) (wd61 hw) (wd59 hw) (wd60 hw) N0 P2 rfl rfl hkk hkA1 rfl hB (by decide) (by decide) (own_oN (by omega)) (by rw [List.length_map, hpA]; omega) (by rw [List.length_map, List.length_replicate]; omega) (hb hby d4_28) (by decide) (Nat.le_of_eq rfl) (by decide) own_cpT (pc' := 31) rfl ?_
    intro T3 L1 N1 X3 P3
    replace P3 : HP n0 T3.heap [o0, AC kk (List.map Value.int pA), q2, AC kA1 (List.map Value.int (List.take pm pA))] := P3
    refine w_aloadN X3 hx (hb hby d4_31) rfl rfl (pc' := 32) rfl ?_
    exact w_ret_a X3 hx rfl hret rfl hlk (hb hby d4_32) (by decide) (by decide) ⟨rfl, N1, kA1, hkA1, P3⟩
  · have h0n : pm = pN := (own_oeq (a := pm) (b := pN) (by omega) (by omega)).mp h0
    obtain rfl : pA = [] := List.eq_nil_of_length_eq_zero (by omega)
    replace P0 : HP n0 T0.heap [o0, AC kk [], q2] := P0
    refine w_aloadN X0 hx (hb hby d4_6) rfl rfl (pc' := 7) rfl ?_
    refine w_clone (W := 0) (N := 0) (j := 3) (i := 1) X0 hx hZ hown (by rw [hml]; rfl) (wd24 hw) (wd25 hw) (wd29 hw) (wd27 hw) (wd28 hw) (wd30 hw) P0 rfl hkk rfl (by simp [fits]) (hb hby d4_7) (by decide) (Nat.le_of_eq rfl) (by decide) rfl (by decide) (by decide) rfl (pc' := 10) rfl ?_
    intro T4 X4 P4
    replace P4 : HP n0 T4.heap [o0, AC kk [], q2, AC kk []] := P4
    refine w_ccastA (i := 3) X4 hx hZ hown (wd31 hw) P4 rfl hkk rfl (hb hby d4_10) (pc' := 13) rfl ?_
    intro T5 X5 P5
    exact w_ret_a X5 hx rfl hret rfl hlk (hb hby d4_13) (by decide) (by decide) ⟨rfl, N0, kk, hkk, by rw [List.take_nil]; exact P5⟩
theorem ef_toA11 (m : MethodId) (n0 : Nat) (pN : Nat) (pm : Nat) : entryFrame m #[.ref (n0 + 0)] 1 = mkF m 0 #[.val (.ref (n0 + 0))] [] := by first | (simp [entryFrame, mkF, argsToLocals, Value.category]; done) | rfl
def Q_toA11 (Z : State) (n0 : Nat) (o0 : Jvm.Cell) (q2 : Jvm.Cell) (kk : ClassId) (pA : List Int32) (pN : Nat) (pm : Nat) (v : Option Value) (h : Heap) (L : List Loc) : Prop := v = some (.ref (n0 + 3)) ∧ Fr n0 L ∧ ∃ kA1 : ClassId, IsA Z kA1 .byte ∧ HP n0 h [o0, AC kk (List.map Value.int pA), q2, AC kA1 (List.map Value.int (List.take pm pA))]
set_option maxRecDepth 65536 in
set_option maxHeartbeats 40000000 in
theorem rm_toA11 (l : Launch) (Z : State) (a0 : Array Value) (hw : ∀ d ∈ tables_1, d.before a0 Z = true) (ws : List Jvm.Cond) (n0 : Nat) (o0 : Jvm.Cell) (q2 : Jvm.Cell) (kk : ClassId) (pA : List Int32) (pN : Nat) (pm : Nat) (h0 : Heap) (P0 : HP n0 h0 [o0, AC kk (List.map Value.int pA), q2]) (hkk : IsA Z kk .byte) (hpA : pA.length = pN) (Fo0 : ObjF Z o0 "com/example/dirichlet/dirichlet/index/ByteSink" fl_C0 [.ref (n0 + 1), .int (Int32.ofNat pm)]) (hB : own_B pA) (hpm : pm ≤ pN) (hpm0 : pm = pN → pN = 0) (hpm18 : pm ≤ 18) (hpN : pN ≤ 36) :
    MetFree l (⟨"com/example/dirichlet/dirichlet/index/ByteSink", "toArray", "()[B"⟩ : MethodName) (head1 (Jvm.Cond.code (⟨"com/example/dirichlet/dirichlet/index/ByteSink", "toArray", "()[B"⟩ : MethodName) prog_17_method_6_code 1 (some (.array .byte)) :: ws) ({ frames := 2, cells := 1, slots := 18, locals := 32 } : Room)) (fun aa U => aa = #[.ref (n0 + 0)] ∧ Z.Warmed39 U.vm ∧ U.heap = h0) (fun _ _ _ _ _ => True) (fun _ U o U' => ∃ v L, o = .returned v ∧ Q_toA11 Z n0 o0 q2 kk pA pN pm v U'.heap L ∧ FrameEnd U o U' L ({ frames := 2, cells := 1, slots := 18, locals := 32 } : Room).cells ({ frames := 2, cells := 1, slots := 18, locals := 32 } : Room).slots) := by
  refine own_body pn3 ?_
  intro p e s m below meth c T0 hx hby hml hret hlk hown hnm hZ X0 e0
  subst e0
  have N0 : Fr n0 [] := Fr.nil n0
  refine own_cast (ef_toA11 m n0 pN pm) ?_
  refine w_aloadN X0 hx (hb hby d3_0) rfl rfl (pc' := 1) rfl ?_
  refine w_getf (i := 0) (v := .ref (n0 + 1)) X0 hx hZ hown (wd11 hw) P0 rfl Fo0 0 rfl rfl (hb hby d3_1) (pc' := 4) rfl ?_
  intro T1 X1 P1
  refine w_aloadN X1 hx (hb hby d3_4) rfl rfl (pc' := 5) rfl ?_
  refine w_getf (i := 0) (v := .int (Int32.ofNat pm)) X1 hx hZ hown (wd18 hw) P1 rfl Fo0 1 rfl rfl (hb hby d3_5) (pc' := 8) rfl ?_
  intro T2 X2 P2
  refine own_call (W := 0) X2 hx hZ rfl hown hml.symm (wd20 hw) (wd21 hw) (wd22 hw) (wd23 hw) (rm_cpT11 l Z a0 hw [] n0 o0 q2 kk pA pN pm _ P2 hkk hpA hB hpm hpm0 hpm18 hpN) (by decide) (by decide) (by decide) (by decide) (by decide) (argsL := [.ref (n0 + 1), .int (Int32.ofNat pm)]) (rest := []) pd4 rfl rfl rfl (Nat.le_of_eq rfl) (hb hby d3_8) (pc' := 11) rfl ?_
  intro v3 T3 L1 X3 hq
  obtain ⟨rfl, N1, kA1, hkA1, P3⟩ := hq
  replace N1 := Fr.app N0 N1
  replace P3 : HP n0 T3.heap [o0, AC kk (List.map Value.int pA), q2, AC kA1 (List.map Value.int (List.take pm pA))] := P3
  exact w_ret_a X3 hx rfl hret rfl hlk (hb hby d3_11) (by decide) (by decide) ⟨rfl, N1, kA1, hkA1, P3⟩
theorem ef_cpT20 (m : MethodId) (n0 : Nat) (pN : Nat) (pm : Nat) : entryFrame m #[.ref (n0 + 2), .int (Int32.ofNat pm)] 3 = mkF m 0 #[.val (.ref (n0 + 2)), .val (.int (Int32.ofNat pm)), .unset] [] := by first | (simp [entryFrame, mkF, argsToLocals, Value.category]; done) | rfl
def Q_cpT20 (Z : State) (n0 : Nat) (o0 : Jvm.Cell) (q1 : Jvm.Cell) (kk : ClassId) (pA : List Int32) (pN : Nat) (pm : Nat) (v : Option Value) (h : Heap) (L : List Loc) : Prop := v = some (.ref (n0 + 3)) ∧ Fr n0 L ∧ ∃ kR : ClassId, IsA Z kR .byte ∧ HP n0 h [o0, q1, AC kk (List.map Value.int pA), AC kR (List.map Value.int (List.take pm pA))]
set_option maxRecDepth 65536 in
set_option maxHeartbeats 40000000 in
theorem rm_cpT20 (l : Launch) (Z : State) (a0 : Array Value) (hw : ∀ d ∈ tables_1, d.before a0 Z = true) (ws : List Jvm.Cond) (n0 : Nat) (o0 : Jvm.Cell) (q1 : Jvm.Cell) (kk : ClassId) (pA : List Int32) (pN : Nat) (pm : Nat) (h0 : Heap) (P0 : HP n0 h0 [o0, q1, AC kk (List.map Value.int pA)]) (hkk : IsA Z kk .byte) (hpA : pA.length = pN) (hB : own_B pA) (hpm : pm ≤ pN) (hpm0 : pm = pN → pN = 0) (hpm18 : pm ≤ 18) (hpN : pN ≤ 36) :
    MetFree l (⟨"java/util/Arrays", "copyOf", "([BI)[B"⟩ : MethodName) (head1 (Jvm.Cond.code (⟨"java/util/Arrays", "copyOf", "([BI)[B"⟩ : MethodName) jdk_65_method_121_code 3 (some (.array .byte)) :: ws) ({ frames := 1, cells := 1, slots := 18, locals := 18 } : Room)) (fun aa U => aa = #[.ref (n0 + 2), .int (Int32.ofNat pm)] ∧ Z.Warmed39 U.vm ∧ U.heap = h0) (fun _ _ _ _ _ => True) (fun _ U o U' => ∃ v L, o = .returned v ∧ Q_cpT20 Z n0 o0 q1 kk pA pN pm v U'.heap L ∧ FrameEnd U o U' L ({ frames := 1, cells := 1, slots := 18, locals := 18 } : Room).cells ({ frames := 1, cells := 1, slots := 18, locals := 18 } : Room).slots) := by
  refine own_body pn4 ?_
  intro p e s m below meth c T0 hx hby hml hret hlk hown hnm hZ X0 e0
  subst e0
  have N0 : Fr n0 [] := Fr.nil n0
  refine own_cast (ef_cpT20 m n0 pN pm) ?_
  refine w_iloadN X0 hx (hb hby d4_0) rfl (pc' := 1) rfl ?_
  refine w_aloadN X0 hx (hb hby d4_1) rfl rfl (pc' := 2) rfl ?_
  refine w_arrlen (i := 2) X0 hx hZ P0 rfl hkk (hb hby d4_2) (z := (Int32.ofNat pN)) (own_len hpA) (pc' := 3) rfl ?_
  refine w_icmp_ne X0 hx (hb hby d4_3) (by decide) (pcY := 14) (by decide) (pc' := 6) rfl (fun h0 => ?_) (fun h0 => ?_)
  · have h0n : ¬ pm = pN := fun q => h0 ((own_oeq (a := pm) (b := pN) (by omega) (by omega)).mpr q)
    refine w_iloadN X0 hx (hb hby d4_14) rfl (pc' := 15) rfl ?_
    refine w_newarrC (N := pm) (cap := 18) (j := 3) X0 hx hZ P0 (ty := .byte) rfl (wd10 hw) (hb hby d4_15) (by omega) (own_oN (by omega)) (by omega) (by decide) (by decide) rfl (pc' := 17) rfl ?_
    intro T1 kA1 X1 hkA1 P1
    replace P1 := own_mr P1
    replace P1 : HP n0 T1.heap [o0, q1, AC kk (List.map Value.int pA), AC kA1 (List.map Value.int (List.replicate pm 0))] := P1
    refine w_astoreN (l' := #[.val (.ref (n0 + 2)), .val (.int (Int32.ofNat pm)), .val (.ref (n0 + 3))]) X1 hx (hb hby d4_17) rfl rfl (pc' := 18) rfl ?_
    refine w_aloadN X1 hx (hb hby d4_18) rfl rfl (pc' := 19) rfl ?_
    refine w_iconst (v := (0 : Int32)) X1 hx (hb hby d4_19) rfl (pc' := 20) rfl ?_
    refine w_aloadN X1 hx (hb hby d4_20) rfl rfl (pc' := 21) rfl ?_
    refine w_iconst (v := (0 : Int32)) X1 hx (hb hby d4_21) rfl (pc' := 22) rfl ?_
    refine w_aloadN X1 hx (hb hby d4_22) rfl rfl (pc' := 23) rfl ?_
    refine w_arrlen (i := 2) X1 hx hZ P1 rfl hkk (hb hby d4_23) (z := (Int32.ofNat pN)) (own_len hpA) (pc' := 24) rfl ?_
    refine w_iloadN X1 hx (hb hby d4_24) rfl (pc' := 25) rfl ?_
    refine w_callP (W := 4) X1 hx hZ rfl hown hml.symm (wd54 hw) (wd55 hw) (wd56 hw) (wd57 hw) (rm9 l Z a0 hw [] (Int32.ofNat pN) (Int32.ofNat pm) _) (by decide) (by decide) (by decide) rfl rfl (by decide) (by decide) (argsL := [.int (Int32.ofNat pN), .int (Int32.ofNat pm)]) (rest := [.int (0 : Int32), .ref (n0 + 3), .int (0 : Int32), .ref (n0 + 2)]) pd9 rfl rfl rfl (Nat.le_of_eq rfl) (hb hby d4_25) (pc' := 28) rfl ?_
    intro T2 X2 e2
    have P2 : HP n0 T2.heap [o0, q1, AC kk (List.map Value.int pA), AC kA1 (List.map Value.int (List.replicate pm 0))] := by rw [e2]; exact P1
    refine w_eqI (z := (Int32.ofNat pm)) (own_minR (by omega) (by omega) (by omega)) ?_
    refine w_acopy (W := 0) (i := 2) (j := 3) (sn := 0) (dn := 0) (n := pm) (vd' := (List.map Value.int (List.take pm pA))) X2 hx hZ hown (by rw [hml]; rfl) (wd58 hw) (wd61 hw) (wd59 hw) (wd60 hw) N0 P2 rfl rfl hkk hkA1 rfl hB (by decide) (by decide) (own_oN (by omega)) (by rw [List.length_map, hpA]; omega) (by rw [List.length_map, List.length_replicate]; omega) (hb hby d4_28) (by decide) (Nat.le_of_eq rfl) (by decide) own_cpT (pc' := 31) rfl ?_
    intro T3 L1 N1 X3 P3
    replace P3 : HP n0 T3.heap [o0, q1, AC kk (List.map Value.int pA), AC kA1 (List.map Value.int (List.take pm pA))] := P3
    refine w_aloadN X3 hx (hb hby d4_31) rfl rfl (pc' := 32) rfl ?_
    exact w_ret_a X3 hx rfl hret rfl hlk (hb hby d4_32) (by decide) (by decide) ⟨rfl, N1, kA1, hkA1, P3⟩
  · have h0n : pm = pN := (own_oeq (a := pm) (b := pN) (by omega) (by omega)).mp h0
    obtain rfl : pA = [] := List.eq_nil_of_length_eq_zero (by omega)
    replace P0 : HP n0 T0.heap [o0, q1, AC kk []] := P0
    refine w_aloadN X0 hx (hb hby d4_6) rfl rfl (pc' := 7) rfl ?_
    refine w_clone (W := 0) (N := 0) (j := 3) (i := 2) X0 hx hZ hown (by rw [hml]; rfl) (wd24 hw) (wd25 hw) (wd29 hw) (wd27 hw) (wd28 hw) (wd30 hw) P0 rfl hkk rfl (by simp [fits]) (hb hby d4_7) (by decide) (Nat.le_of_eq rfl) (by decide) rfl (by decide) (by decide) rfl (pc' := 10) rfl ?_
    intro T4 X4 P4
    replace P4 : HP n0 T4.heap [o0, q1, AC kk [], AC kk []] := P4
    refine w_ccastA (i := 3) X4 hx hZ hown (wd31 hw) P4 rfl hkk rfl (hb hby d4_10) (pc' := 13) rfl ?_
    intro T5 X5 P5
    exact w_ret_a X5 hx rfl hret rfl hlk (hb hby d4_13) (by decide) (by decide) ⟨rfl, N0, kk, hkk, by rw [List.take_nil]; exact P5⟩
theorem ef_toA20 (m : MethodId) (n0 : Nat) (pN : Nat) (pm : Nat) : entryFrame m #[.ref (n0 + 0)] 1 = mkF m 0 #[.val (.ref (n0 + 0))] [] := by first | (simp [entryFrame, mkF, argsToLocals, Value.category]; done) | rfl
def Q_toA20 (Z : State) (n0 : Nat) (o0 : Jvm.Cell) (q1 : Jvm.Cell) (kk : ClassId) (pA : List Int32) (pN : Nat) (pm : Nat) (v : Option Value) (h : Heap) (L : List Loc) : Prop := v = some (.ref (n0 + 3)) ∧ Fr n0 L ∧ ∃ kA1 : ClassId, IsA Z kA1 .byte ∧ HP n0 h [o0, q1, AC kk (List.map Value.int pA), AC kA1 (List.map Value.int (List.take pm pA))]
set_option maxRecDepth 65536 in
set_option maxHeartbeats 40000000 in
theorem rm_toA20 (l : Launch) (Z : State) (a0 : Array Value) (hw : ∀ d ∈ tables_1, d.before a0 Z = true) (ws : List Jvm.Cond) (n0 : Nat) (o0 : Jvm.Cell) (q1 : Jvm.Cell) (kk : ClassId) (pA : List Int32) (pN : Nat) (pm : Nat) (h0 : Heap) (P0 : HP n0 h0 [o0, q1, AC kk (List.map Value.int pA)]) (hkk : IsA Z kk .byte) (hpA : pA.length = pN) (Fo0 : ObjF Z o0 "com/example/dirichlet/dirichlet/index/ByteSink" fl_C0 [.ref (n0 + 2), .int (Int32.ofNat pm)]) (hB : own_B pA) (hpm : pm ≤ pN) (hpm0 : pm = pN → pN = 0) (hpm18 : pm ≤ 18) (hpN : pN ≤ 36) :
    MetFree l (⟨"com/example/dirichlet/dirichlet/index/ByteSink", "toArray", "()[B"⟩ : MethodName) (head1 (Jvm.Cond.code (⟨"com/example/dirichlet/dirichlet/index/ByteSink", "toArray", "()[B"⟩ : MethodName) prog_17_method_6_code 1 (some (.array .byte)) :: ws) ({ frames := 2, cells := 1, slots := 18, locals := 32 } : Room)) (fun aa U => aa = #[.ref (n0 + 0)] ∧ Z.Warmed39 U.vm ∧ U.heap = h0) (fun _ _ _ _ _ => True) (fun _ U o U' => ∃ v L, o = .returned v ∧ Q_toA20 Z n0 o0 q1 kk pA pN pm v U'.heap L ∧ FrameEnd U o U' L ({ frames := 2, cells := 1, slots := 18, locals := 32 } : Room).cells ({ frames := 2, cells := 1, slots := 18, locals := 32 } : Room).slots) := by
  refine own_body pn3 ?_
  intro p e s m below meth c T0 hx hby hml hret hlk hown hnm hZ X0 e0
  subst e0
  have N0 : Fr n0 [] := Fr.nil n0
  refine own_cast (ef_toA20 m n0 pN pm) ?_
  refine w_aloadN X0 hx (hb hby d3_0) rfl rfl (pc' := 1) rfl ?_
  refine w_getf (i := 0) (v := .ref (n0 + 2)) X0 hx hZ hown (wd11 hw) P0 rfl Fo0 0 rfl rfl (hb hby d3_1) (pc' := 4) rfl ?_
  intro T1 X1 P1
  refine w_aloadN X1 hx (hb hby d3_4) rfl rfl (pc' := 5) rfl ?_
  refine w_getf (i := 0) (v := .int (Int32.ofNat pm)) X1 hx hZ hown (wd18 hw) P1 rfl Fo0 1 rfl rfl (hb hby d3_5) (pc' := 8) rfl ?_
  intro T2 X2 P2
  refine own_call (W := 0) X2 hx hZ rfl hown hml.symm (wd20 hw) (wd21 hw) (wd22 hw) (wd23 hw) (rm_cpT20 l Z a0 hw [] n0 o0 q1 kk pA pN pm _ P2 hkk hpA hB hpm hpm0 hpm18 hpN) (by decide) (by decide) (by decide) (by decide) (by decide) (argsL := [.ref (n0 + 2), .int (Int32.ofNat pm)]) (rest := []) pd4 rfl rfl rfl (Nat.le_of_eq rfl) (hb hby d3_8) (pc' := 11) rfl ?_
  intro v3 T3 L1 X3 hq
  obtain ⟨rfl, N1, kA1, hkA1, P3⟩ := hq
  replace N1 := Fr.app N0 N1
  replace P3 : HP n0 T3.heap [o0, q1, AC kk (List.map Value.int pA), AC kA1 (List.map Value.int (List.take pm pA))] := P3
  exact w_ret_a X3 hx rfl hret rfl hlk (hb hby d3_11) (by decide) (by decide) ⟨rfl, N1, kA1, hkA1, P3⟩
theorem ef_cpT21 (m : MethodId) (n0 : Nat) (pN : Nat) (pm : Nat) : entryFrame m #[.ref (n0 + 2), .int (Int32.ofNat pm)] 3 = mkF m 0 #[.val (.ref (n0 + 2)), .val (.int (Int32.ofNat pm)), .unset] [] := by first | (simp [entryFrame, mkF, argsToLocals, Value.category]; done) | rfl
def Q_cpT21 (Z : State) (n0 : Nat) (o0 : Jvm.Cell) (q1 : Jvm.Cell) (q3 : Jvm.Cell) (kk : ClassId) (pA : List Int32) (pN : Nat) (pm : Nat) (v : Option Value) (h : Heap) (L : List Loc) : Prop := v = some (.ref (n0 + 4)) ∧ Fr n0 L ∧ ∃ kR : ClassId, IsA Z kR .byte ∧ HP n0 h [o0, q1, AC kk (List.map Value.int pA), q3, AC kR (List.map Value.int (List.take pm pA))]
set_option maxRecDepth 65536 in
set_option maxHeartbeats 40000000 in
theorem rm_cpT21 (l : Launch) (Z : State) (a0 : Array Value) (hw : ∀ d ∈ tables_1, d.before a0 Z = true) (ws : List Jvm.Cond) (n0 : Nat) (o0 : Jvm.Cell) (q1 : Jvm.Cell) (q3 : Jvm.Cell) (kk : ClassId) (pA : List Int32) (pN : Nat) (pm : Nat) (h0 : Heap) (P0 : HP n0 h0 [o0, q1, AC kk (List.map Value.int pA), q3]) (hkk : IsA Z kk .byte) (hpA : pA.length = pN) (hB : own_B pA) (hpm : pm ≤ pN) (hpm0 : pm = pN → pN = 0) (hpm18 : pm ≤ 18) (hpN : pN ≤ 36) :
    MetFree l (⟨"java/util/Arrays", "copyOf", "([BI)[B"⟩ : MethodName) (head1 (Jvm.Cond.code (⟨"java/util/Arrays", "copyOf", "([BI)[B"⟩ : MethodName) jdk_65_method_121_code 3 (some (.array .byte)) :: ws) ({ frames := 1, cells := 1, slots := 18, locals := 18 } : Room)) (fun aa U => aa = #[.ref (n0 + 2), .int (Int32.ofNat pm)] ∧ Z.Warmed39 U.vm ∧ U.heap = h0) (fun _ _ _ _ _ => True) (fun _ U o U' => ∃ v L, o = .returned v ∧ Q_cpT21 Z n0 o0 q1 q3 kk pA pN pm v U'.heap L ∧ FrameEnd U o U' L ({ frames := 1, cells := 1, slots := 18, locals := 18 } : Room).cells ({ frames := 1, cells := 1, slots := 18, locals := 18 } : Room).slots) := by
  refine own_body pn4 ?_
  intro p e s m below meth c T0 hx hby hml hret hlk hown hnm hZ X0 e0
  subst e0
  have N0 : Fr n0 [] := Fr.nil n0
  refine own_cast (ef_cpT21 m n0 pN pm) ?_
  refine w_iloadN X0 hx (hb hby d4_0) rfl (pc' := 1) rfl ?_
  refine w_aloadN X0 hx (hb hby d4_1) rfl rfl (pc' := 2) rfl ?_
  refine w_arrlen (i := 2) X0 hx hZ P0 rfl hkk (hb hby d4_2) (z := (Int32.ofNat pN)) (own_len hpA) (pc' := 3) rfl ?_
  refine w_icmp_ne X0 hx (hb hby d4_3) (by decide) (pcY := 14) (by decide) (pc' := 6) rfl (fun h0 => ?_) (fun h0 => ?_)
  · have h0n : ¬ pm = pN := fun q => h0 ((own_oeq (a := pm) (b := pN) (by omega) (by omega)).mpr q)
    refine w_iloadN X0 hx (hb hby d4_14) rfl (pc' := 15) rfl ?_
    refine w_newarrC (N := pm) (cap := 18) (j := 4) X0 hx hZ P0 (ty := .byte) rfl (wd10 hw) (hb hby d4_15) (by omega) (own_oN (by omega)) (by omega) (by decide) (by decide) rfl (pc' := 17) rfl ?_
    intro T1 kA1 X1 hkA1 P1
    replace P1 := own_mr P1
    replace P1 : HP n0 T1.heap [o0, q1, AC kk (List.map Value.int pA), q3, AC kA1 (List.map Value.int (List.replicate pm 0))] := P1
    refine w_astoreN (l' := #[.val (.ref (n0 + 2)), .val (.int (Int32.ofNat pm)), .val (.ref (n0 + 4))]) X1 hx (hb hby d4_17) rfl rfl (pc' := 18) rfl ?_
    refine w_aloadN X1 hx (hb hby d4_18) rfl rfl (pc' := 19) rfl ?_
    refine w_iconst (v := (0 : Int32)) X1 hx (hb hby d4_19) rfl (pc' := 20) rfl ?_
    refine w_aloadN X1 hx (hb hby d4_20) rfl rfl (pc' := 21) rfl ?_
    refine w_iconst (v := (0 : Int32)) X1 hx (hb hby d4_21) rfl (pc' := 22) rfl ?_
    refine w_aloadN X1 hx (hb hby d4_22) rfl rfl (pc' := 23) rfl ?_
    refine w_arrlen (i := 2) X1 hx hZ P1 rfl hkk (hb hby d4_23) (z := (Int32.ofNat pN)) (own_len hpA) (pc' := 24) rfl ?_
    refine w_iloadN X1 hx (hb hby d4_24) rfl (pc' := 25) rfl ?_
    refine w_callP (W := 4) X1 hx hZ rfl hown hml.symm (wd54 hw) (wd55 hw) (wd56 hw) (wd57 hw) (rm9 l Z a0 hw [] (Int32.ofNat pN) (Int32.ofNat pm) _) (by decide) (by decide) (by decide) rfl rfl (by decide) (by decide) (argsL := [.int (Int32.ofNat pN), .int (Int32.ofNat pm)]) (rest := [.int (0 : Int32), .ref (n0 + 4), .int (0 : Int32), .ref (n0 + 2)]) pd9 rfl rfl rfl (Nat.le_of_eq rfl) (hb hby d4_25) (pc' := 28) rfl ?_
    intro T2 X2 e2
    have P2 : HP n0 T2.heap [o0, q1, AC kk (List.map Value.int pA), q3, AC kA1 (List.map Value.int (List.replicate pm 0))] := by rw [e2]; exact P1
    refine w_eqI (z := (Int32.ofNat pm)) (own_minR (by omega) (by omega) (by omega)) ?_
    refine w_acopy (W := 0) (i := 2) (j := 4) (sn := 0) (dn := 0) (n := pm) (vd' := (List.map Value.int (List.take pm pA))) X2 hx hZ hown (by rw [hml]; rfl) (wd58 hw) (wd61 hw) (wd59 hw) (wd60 hw) N0 P2 rfl rfl hkk hkA1 rfl hB (by decide) (by decide) (own_oN (by omega)) (by rw [List.length_map, hpA]; omega) (by rw [List.length_map, List.length_replicate]; omega) (hb hby d4_28) (by decide) (Nat.le_of_eq rfl) (by decide) own_cpT (pc' := 31) rfl ?_
    intro T3 L1 N1 X3 P3
    replace P3 : HP n0 T3.heap [o0, q1, AC kk (List.map Value.int pA), q3, AC kA1 (List.map Value.int (List.take pm pA))] := P3
    refine w_aloadN X3 hx (hb hby d4_31) rfl rfl (pc' := 32) rfl ?_
    exact w_ret_a X3 hx rfl hret rfl hlk (hb hby d4_32) (by decide) (by decide) ⟨rfl, N1, kA1, hkA1, P3⟩
  · have h0n : pm = pN := (own_oeq (a := pm) (b := pN) (by omega) (by omega)).mp h0
    obtain rfl : pA = [] := List.eq_nil_of_length_eq_zero (by omega)
    replace P0 : HP n0 T0.heap [o0, q1, AC kk [], q3] := P0
    refine w_aloadN X0 hx (hb hby d4_6) rfl rfl (pc' := 7) rfl ?_
    refine w_clone (W := 0) (N := 0) (j := 4) (i := 2) X0 hx hZ hown (by rw [hml]; rfl) (wd24 hw) (wd25 hw) (wd29 hw) (wd27 hw) (wd28 hw) (wd30 hw) P0 rfl hkk rfl (by simp [fits]) (hb hby d4_7) (by decide) (Nat.le_of_eq rfl) (by decide) rfl (by decide) (by decide) rfl (pc' := 10) rfl ?_
    intro T4 X4 P4
    replace P4 : HP n0 T4.heap [o0, q1, AC kk [], q3, AC kk []] := P4
    refine w_ccastA (i := 4) X4 hx hZ hown (wd31 hw) P4 rfl hkk rfl (hb hby d4_10) (pc' := 13) rfl ?_
    intro T5 X5 P5
    exact w_ret_a X5 hx rfl hret rfl hlk (hb hby d4_13) (by decide) (by decide) ⟨rfl, N0, kk, hkk, by rw [List.take_nil]; exact P5⟩
theorem ef_toA21 (m : MethodId) (n0 : Nat) (pN : Nat) (pm : Nat) : entryFrame m #[.ref (n0 + 0)] 1 = mkF m 0 #[.val (.ref (n0 + 0))] [] := by first | (simp [entryFrame, mkF, argsToLocals, Value.category]; done) | rfl
def Q_toA21 (Z : State) (n0 : Nat) (o0 : Jvm.Cell) (q1 : Jvm.Cell) (q3 : Jvm.Cell) (kk : ClassId) (pA : List Int32) (pN : Nat) (pm : Nat) (v : Option Value) (h : Heap) (L : List Loc) : Prop := v = some (.ref (n0 + 4)) ∧ Fr n0 L ∧ ∃ kA1 : ClassId, IsA Z kA1 .byte ∧ HP n0 h [o0, q1, AC kk (List.map Value.int pA), q3, AC kA1 (List.map Value.int (List.take pm pA))]
set_option maxRecDepth 65536 in
set_option maxHeartbeats 40000000 in
theorem rm_toA21 (l : Launch) (Z : State) (a0 : Array Value) (hw : ∀ d ∈ tables_1, d.before a0 Z = true) (ws : List Jvm.Cond) (n0 : Nat) (o0 : Jvm.Cell) (q1 : Jvm.Cell) (q3 : Jvm.Cell) (kk : ClassId) (pA : List Int32) (pN : Nat) (pm : Nat) (h0 : Heap) (P0 : HP n0 h0 [o0, q1, AC kk (List.map Value.int pA), q3]) (hkk : IsA Z kk .byte) (hpA : pA.length = pN) (Fo0 : ObjF Z o0 "com/example/dirichlet/dirichlet/index/ByteSink" fl_C0 [.ref (n0 + 2), .int (Int32.ofNat pm)]) (hB : own_B pA) (hpm : pm ≤ pN) (hpm0 : pm = pN → pN = 0) (hpm18 : pm ≤ 18) (hpN : pN ≤ 36) :
    MetFree l (⟨"com/example/dirichlet/dirichlet/index/ByteSink", "toArray", "()[B"⟩ : MethodName) (head1 (Jvm.Cond.code (⟨"com/example/dirichlet/dirichlet/index/ByteSink", "toArray", "()[B"⟩ : MethodName) prog_17_method_6_code 1 (some (.array .byte)) :: ws) ({ frames := 2, cells := 1, slots := 18, locals := 32 } : Room)) (fun aa U => aa = #[.ref (n0 + 0)] ∧ Z.Warmed39 U.vm ∧ U.heap = h0) (fun _ _ _ _ _ => True) (fun _ U o U' => ∃ v L, o = .returned v ∧ Q_toA21 Z n0 o0 q1 q3 kk pA pN pm v U'.heap L ∧ FrameEnd U o U' L ({ frames := 2, cells := 1, slots := 18, locals := 32 } : Room).cells ({ frames := 2, cells := 1, slots := 18, locals := 32 } : Room).slots) := by
  refine own_body pn3 ?_
  intro p e s m below meth c T0 hx hby hml hret hlk hown hnm hZ X0 e0
  subst e0
  have N0 : Fr n0 [] := Fr.nil n0
  refine own_cast (ef_toA21 m n0 pN pm) ?_
  refine w_aloadN X0 hx (hb hby d3_0) rfl rfl (pc' := 1) rfl ?_
  refine w_getf (i := 0) (v := .ref (n0 + 2)) X0 hx hZ hown (wd11 hw) P0 rfl Fo0 0 rfl rfl (hb hby d3_1) (pc' := 4) rfl ?_
  intro T1 X1 P1
  refine w_aloadN X1 hx (hb hby d3_4) rfl rfl (pc' := 5) rfl ?_
  refine w_getf (i := 0) (v := .int (Int32.ofNat pm)) X1 hx hZ hown (wd18 hw) P1 rfl Fo0 1 rfl rfl (hb hby d3_5) (pc' := 8) rfl ?_
  intro T2 X2 P2
  refine own_call (W := 0) X2 hx hZ rfl hown hml.symm (wd20 hw) (wd21 hw) (wd22 hw) (wd23 hw) (rm_cpT21 l Z a0 hw [] n0 o0 q1 q3 kk pA pN pm _ P2 hkk hpA hB hpm hpm0 hpm18 hpN) (by decide) (by decide) (by decide) (by decide) (by decide) (argsL := [.ref (n0 + 2), .int (Int32.ofNat pm)]) (rest := []) pd4 rfl rfl rfl (Nat.le_of_eq rfl) (hb hby d3_8) (pc' := 11) rfl ?_
  intro v3 T3 L1 X3 hq
  obtain ⟨rfl, N1, kA1, hkA1, P3⟩ := hq
  replace N1 := Fr.app N0 N1
  replace P3 : HP n0 T3.heap [o0, q1, AC kk (List.map Value.int pA), q3, AC kA1 (List.map Value.int (List.take pm pA))] := P3
  exact w_ret_a X3 hx rfl hret rfl hlk (hb hby d3_11) (by decide) (by decide) ⟨rfl, N1, kA1, hkA1, P3⟩
theorem ef_cpT30 (m : MethodId) (n0 : Nat) (pN : Nat) (pm : Nat) : entryFrame m #[.ref (n0 + 3), .int (Int32.ofNat pm)] 3 = mkF m 0 #[.val (.ref (n0 + 3)), .val (.int (Int32.ofNat pm)), .unset] [] := by first | (simp [entryFrame, mkF, argsToLocals, Value.category]; done) | rfl
def Q_cpT30 (Z : State) (n0 : Nat) (o0 : Jvm.Cell) (q1 : Jvm.Cell) (q2 : Jvm.Cell) (kk : ClassId) (pA : List Int32) (pN : Nat) (pm : Nat) (v : Option Value) (h : Heap) (L : List Loc) : Prop := v = some (.ref (n0 + 4)) ∧ Fr n0 L ∧ ∃ kR : ClassId, IsA Z kR .byte ∧ HP n0 h [o0, q1, q2, AC kk (List.map Value.int pA), AC kR (List.map Value.int (List.take pm pA))]
set_option maxRecDepth 65536 in
set_option maxHeartbeats 40000000 in
theorem rm_cpT30 (l : Launch) (Z : State) (a0 : Array Value) (hw : ∀ d ∈ tables_1, d.before a0 Z = true) (ws : List Jvm.Cond) (n0 : Nat) (o0 : Jvm.Cell) (q1 : Jvm.Cell) (q2 : Jvm.Cell) (kk : ClassId) (pA : List Int32) (pN : Nat) (pm : Nat) (h0 : Heap) (P0 : HP n0 h0 [o0, q1, q2, AC kk (List.map Value.int pA)]) (hkk : IsA Z kk .byte) (hpA : pA.length = pN) (hB : own_B pA) (hpm : pm ≤ pN) (hpm0 : pm = pN → pN = 0) (hpm18 : pm ≤ 18) (hpN : pN ≤ 36) :
    MetFree l (⟨"java/util/Arrays", "copyOf", "([BI)[B"⟩ : MethodName) (head1 (Jvm.Cond.code (⟨"java/util/Arrays", "copyOf", "([BI)[B"⟩ : MethodName) jdk_65_method_121_code 3 (some (.array .byte)) :: ws) ({ frames := 1, cells := 1, slots := 18, locals := 18 } : Room)) (fun aa U => aa = #[.ref (n0 + 3), .int (Int32.ofNat pm)] ∧ Z.Warmed39 U.vm ∧ U.heap = h0) (fun _ _ _ _ _ => True) (fun _ U o U' => ∃ v L, o = .returned v ∧ Q_cpT30 Z n0 o0 q1 q2 kk pA pN pm v U'.heap L ∧ FrameEnd U o U' L ({ frames := 1, cells := 1, slots := 18, locals := 18 } : Room).cells ({ frames := 1, cells := 1, slots := 18, locals := 18 } : Room).slots) := by
  refine own_body pn4 ?_
  intro p e s m below meth c T0 hx hby hml hret hlk hown hnm hZ X0 e0
  subst e0
  have N0 : Fr n0 [] := Fr.nil n0
  refine own_cast (ef_cpT30 m n0 pN pm) ?_
  refine w_iloadN X0 hx (hb hby d4_0) rfl (pc' := 1) rfl ?_
  refine w_aloadN X0 hx (hb hby d4_1) rfl rfl (pc' := 2) rfl ?_
  refine w_arrlen (i := 3) X0 hx hZ P0 rfl hkk (hb hby d4_2) (z := (Int32.ofNat pN)) (own_len hpA) (pc' := 3) rfl ?_
  refine w_icmp_ne X0 hx (hb hby d4_3) (by decide) (pcY := 14) (by decide) (pc' := 6) rfl (fun h0 => ?_) (fun h0 => ?_)
  · have h0n : ¬ pm = pN := fun q => h0 ((own_oeq (a := pm) (b := pN) (by omega) (by omega)).mpr q)
    refine w_iloadN X0 hx (hb hby d4_14) rfl (pc' := 15) rfl ?_
    refine w_newarrC (N := pm) (cap := 18) (j := 4) X0 hx hZ P0 (ty := .byte) rfl (wd10 hw) (hb hby d4_15) (by omega) (own_oN (by omega)) (by omega) (by decide) (by decide) rfl (pc' := 17) rfl ?_
    intro T1 kA1 X1 hkA1 P1
    replace P1 := own_mr P1
    replace P1 : HP n0 T1.heap [o0, q1, q2, AC kk (List.map Value.int pA), AC kA1 (List.map Value.int (List.replicate pm 0))] := P1
    refine w_astoreN (l' := #[.val (.ref (n0 + 3)), .val (.int (Int32.ofNat pm)), .val (.ref (n0 + 4))]) X1 hx (hb hby d4_17) rfl rfl (pc' := 18) rfl ?_
    refine w_aloadN X1 hx (hb hby d4_18) rfl rfl (pc' := 19) rfl ?_
    refine w_iconst (v := (0 : Int32)) X1 hx (hb hby d4_19) rfl (pc' := 20) rfl ?_
    refine w_aloadN X1 hx (hb hby d4_20) rfl rfl (pc' := 21) rfl ?_
    refine w_iconst (v := (0 : Int32)) X1 hx (hb hby d4_21) rfl (pc' := 22) rfl ?_
    refine w_aloadN X1 hx (hb hby d4_22) rfl rfl (pc' := 23) rfl ?_
    refine w_arrlen (i := 3) X1 hx hZ P1 rfl hkk (hb hby d4_23) (z := (Int32.ofNat pN)) (own_len hpA) (pc' := 24) rfl ?_
    refine w_iloadN X1 hx (hb hby d4_24) rfl (pc' := 25) rfl ?_
    refine w_callP (W := 4) X1 hx hZ rfl hown hml.symm (wd54 hw) (wd55 hw) (wd56 hw) (wd57 hw) (rm9 l Z a0 hw [] (Int32.ofNat pN) (Int32.ofNat pm) _) (by decide) (by decide) (by decide) rfl rfl (by decide) (by decide) (argsL := [.int (Int32.ofNat pN), .int (Int32.ofNat pm)]) (rest := [.int (0 : Int32), .ref (n0 + 4), .int (0 : Int32), .ref (n0 + 3)]) pd9 rfl rfl rfl (Nat.le_of_eq rfl) (hb hby d4_25) (pc' := 28) rfl ?_
    intro T2 X2 e2
    have P2 : HP n0 T2.heap [o0, q1, q2, AC kk (List.map Value.int pA), AC kA1 (List.map Value.int (List.replicate pm 0))] := by rw [e2]; exact P1
    refine w_eqI (z := (Int32.ofNat pm)) (own_minR (by omega) (by omega) (by omega)) ?_
    refine w_acopy (W := 0) (i := 3) (j := 4) (sn := 0) (dn := 0) (n := pm) (vd' := (List.map Value.int (List.take pm pA))) X2 hx hZ hown (by rw [hml]; rfl) (wd58 hw) (wd61 hw) (wd59 hw) (wd60 hw) N0 P2 rfl rfl hkk hkA1 rfl hB (by decide) (by decide) (own_oN (by omega)) (by rw [List.length_map, hpA]; omega) (by rw [List.length_map, List.length_replicate]; omega) (hb hby d4_28) (by decide) (Nat.le_of_eq rfl) (by decide) own_cpT (pc' := 31) rfl ?_
    intro T3 L1 N1 X3 P3
    replace P3 : HP n0 T3.heap [o0, q1, q2, AC kk (List.map Value.int pA), AC kA1 (List.map Value.int (List.take pm pA))] := P3
    refine w_aloadN X3 hx (hb hby d4_31) rfl rfl (pc' := 32) rfl ?_
    exact w_ret_a X3 hx rfl hret rfl hlk (hb hby d4_32) (by decide) (by decide) ⟨rfl, N1, kA1, hkA1, P3⟩
  · have h0n : pm = pN := (own_oeq (a := pm) (b := pN) (by omega) (by omega)).mp h0
    obtain rfl : pA = [] := List.eq_nil_of_length_eq_zero (by omega)
    replace P0 : HP n0 T0.heap [o0, q1, q2, AC kk []] := P0
    refine w_aloadN X0 hx (hb hby d4_6) rfl rfl (pc' := 7) rfl ?_
    refine w_clone (W := 0) (N := 0) (j := 4) (i := 3) X0 hx hZ hown (by rw [hml]; rfl) (wd24 hw) (wd25 hw) (wd29 hw) (wd27 hw) (wd28 hw) (wd30 hw) P0 rfl hkk rfl (by simp [fits]) (hb hby d4_7) (by decide) (Nat.le_of_eq rfl) (by decide) rfl (by decide) (by decide) rfl (pc' := 10) rfl ?_
    intro T4 X4 P4
    replace P4 : HP n0 T4.heap [o0, q1, q2, AC kk [], AC kk []] := P4
    refine w_ccastA (i := 4) X4 hx hZ hown (wd31 hw) P4 rfl hkk rfl (hb hby d4_10) (pc' := 13) rfl ?_
    intro T5 X5 P5
    exact w_ret_a X5 hx rfl hret rfl hlk (hb hby d4_13) (by decide) (by decide) ⟨rfl, N0, kk, hkk, by rw [List.take_nil]; exact P5⟩
theorem ef_toA30 (m : MethodId) (n0 : Nat) (pN : Nat) (pm : Nat) : entryFrame m #[.ref (n0 + 0)] 1 = mkF m 0 #[.val (.ref (n0 + 0))] [] := by first | (simp [entryFrame, mkF, argsToLocals, Value.category]; done) | rfl
def Q_toA30 (Z : State) (n0 : Nat) (o0 : Jvm.Cell) (q1 : Jvm.Cell) (q2 : Jvm.Cell) (kk : ClassId) (pA : List Int32) (pN : Nat) (pm : Nat) (v : Option Value) (h : Heap) (L : List Loc) : Prop := v = some (.ref (n0 + 4)) ∧ Fr n0 L ∧ ∃ kA1 : ClassId, IsA Z kA1 .byte ∧ HP n0 h [o0, q1, q2, AC kk (List.map Value.int pA), AC kA1 (List.map Value.int (List.take pm pA))]
set_option maxRecDepth 65536 in
set_option maxHeartbeats 40000000 in
theorem rm_toA30 (l : Launch) (Z : State) (a0 : Array Value) (hw : ∀ d ∈ tables_1, d.before a0 Z = true) (ws : List Jvm.Cond) (n0 : Nat) (o0 : Jvm.Cell) (q1 : Jvm.Cell) (q2 : Jvm.Cell) (kk : ClassId) (pA : List Int32) (pN : Nat) (pm : Nat) (h0 : Heap) (P0 : HP n0 h0 [o0, q1, q2, AC kk (List.map Value.int pA)]) (hkk : IsA Z kk .byte) (hpA : pA.length = pN) (Fo0 : ObjF Z o0 "com/example/dirichlet/dirichlet/index/ByteSink" fl_C0 [.ref (n0 + 3), .int (Int32.ofNat pm)]) (hB : own_B pA) (hpm : pm ≤ pN) (hpm0 : pm = pN → pN = 0) (hpm18 : pm ≤ 18) (hpN : pN ≤ 36) :
    MetFree l (⟨"com/example/dirichlet/dirichlet/index/ByteSink", "toArray", "()[B"⟩ : MethodName) (head1 (Jvm.Cond.code (⟨"com/example/dirichlet/dirichlet/index/ByteSink", "toArray", "()[B"⟩ : MethodName) prog_17_method_6_code 1 (some (.array .byte)) :: ws) ({ frames := 2, cells := 1, slots := 18, locals := 32 } : Room)) (fun aa U => aa = #[.ref (n0 + 0)] ∧ Z.Warmed39 U.vm ∧ U.heap = h0) (fun _ _ _ _ _ => True) (fun _ U o U' => ∃ v L, o = .returned v ∧ Q_toA30 Z n0 o0 q1 q2 kk pA pN pm v U'.heap L ∧ FrameEnd U o U' L ({ frames := 2, cells := 1, slots := 18, locals := 32 } : Room).cells ({ frames := 2, cells := 1, slots := 18, locals := 32 } : Room).slots) := by
  refine own_body pn3 ?_
  intro p e s m below meth c T0 hx hby hml hret hlk hown hnm hZ X0 e0
  subst e0
  have N0 : Fr n0 [] := Fr.nil n0
  refine own_cast (ef_toA30 m n0 pN pm) ?_
  refine w_aloadN X0 hx (hb hby d3_0) rfl rfl (pc' := 1) rfl ?_
  refine w_getf (i := 0) (v := .ref (n0 + 3)) X0 hx hZ hown (wd11 hw) P0 rfl Fo0 0 rfl rfl (hb hby d3_1) (pc' := 4) rfl ?_
  intro T1 X1 P1
  refine w_aloadN X1 hx (hb hby d3_4) rfl rfl (pc' := 5) rfl ?_
  refine w_getf (i := 0) (v := .int (Int32.ofNat pm)) X1 hx hZ hown (wd18 hw) P1 rfl Fo0 1 rfl rfl (hb hby d3_5) (pc' := 8) rfl ?_
  intro T2 X2 P2
  refine own_call (W := 0) X2 hx hZ rfl hown hml.symm (wd20 hw) (wd21 hw) (wd22 hw) (wd23 hw) (rm_cpT30 l Z a0 hw [] n0 o0 q1 q2 kk pA pN pm _ P2 hkk hpA hB hpm hpm0 hpm18 hpN) (by decide) (by decide) (by decide) (by decide) (by decide) (argsL := [.ref (n0 + 3), .int (Int32.ofNat pm)]) (rest := []) pd4 rfl rfl rfl (Nat.le_of_eq rfl) (hb hby d3_8) (pc' := 11) rfl ?_
  intro v3 T3 L1 X3 hq
  obtain ⟨rfl, N1, kA1, hkA1, P3⟩ := hq
  replace N1 := Fr.app N0 N1
  replace P3 : HP n0 T3.heap [o0, q1, q2, AC kk (List.map Value.int pA), AC kA1 (List.map Value.int (List.take pm pA))] := P3
  exact w_ret_a X3 hx rfl hret rfl hlk (hb hby d3_11) (by decide) (by decide) ⟨rfl, N1, kA1, hkA1, P3⟩
theorem ef_cpT31 (m : MethodId) (n0 : Nat) (pN : Nat) (pm : Nat) : entryFrame m #[.ref (n0 + 3), .int (Int32.ofNat pm)] 3 = mkF m 0 #[.val (.ref (n0 + 3)), .val (.int (Int32.ofNat pm)), .unset] [] := by first | (simp [entryFrame, mkF, argsToLocals, Value.category]; done) | rfl
def Q_cpT31 (Z : State) (n0 : Nat) (o0 : Jvm.Cell) (q1 : Jvm.Cell) (q2 : Jvm.Cell) (q4 : Jvm.Cell) (kk : ClassId) (pA : List Int32) (pN : Nat) (pm : Nat) (v : Option Value) (h : Heap) (L : List Loc) : Prop := v = some (.ref (n0 + 5)) ∧ Fr n0 L ∧ ∃ kR : ClassId, IsA Z kR .byte ∧ HP n0 h [o0, q1, q2, AC kk (List.map Value.int pA), q4, AC kR (List.map Value.int (List.take pm pA))]
set_option maxRecDepth 65536 in
set_option maxHeartbeats 40000000 in
theorem rm_cpT31 (l : Launch) (Z : State) (a0 : Array Value) (hw : ∀ d ∈ tables_1, d.before a0 Z = true) (ws : List Jvm.Cond) (n0 : Nat) (o0 : Jvm.Cell) (q1 : Jvm.Cell) (q2 : Jvm.Cell) (q4 : Jvm.Cell) (kk : ClassId) (pA : List Int32) (pN : Nat) (pm : Nat) (h0 : Heap) (P0 : HP n0 h0 [o0, q1, q2, AC kk (List.map Value.int pA), q4]) (hkk : IsA Z kk .byte) (hpA : pA.length = pN) (hB : own_B pA) (hpm : pm ≤ pN) (hpm0 : pm = pN → pN = 0) (hpm18 : pm ≤ 18) (hpN : pN ≤ 36) :
    MetFree l (⟨"java/util/Arrays", "copyOf", "([BI)[B"⟩ : MethodName) (head1 (Jvm.Cond.code (⟨"java/util/Arrays", "copyOf", "([BI)[B"⟩ : MethodName) jdk_65_method_121_code 3 (some (.array .byte)) :: ws) ({ frames := 1, cells := 1, slots := 18, locals := 18 } : Room)) (fun aa U => aa = #[.ref (n0 + 3), .int (Int32.ofNat pm)] ∧ Z.Warmed39 U.vm ∧ U.heap = h0) (fun _ _ _ _ _ => True) (fun _ U o U' => ∃ v L, o = .returned v ∧ Q_cpT31 Z n0 o0 q1 q2 q4 kk pA pN pm v U'.heap L ∧ FrameEnd U o U' L ({ frames := 1, cells := 1, slots := 18, locals := 18 } : Room).cells ({ frames := 1, cells := 1, slots := 18, locals := 18 } : Room).slots) := by
  refine own_body pn4 ?_
  intro p e s m below meth c T0 hx hby hml hret hlk hown hnm hZ X0 e0
  subst e0
  have N0 : Fr n0 [] := Fr.nil n0
  refine own_cast (ef_cpT31 m n0 pN pm) ?_
  refine w_iloadN X0 hx (hb hby d4_0) rfl (pc' := 1) rfl ?_
  refine w_aloadN X0 hx (hb hby d4_1) rfl rfl (pc' := 2) rfl ?_
  refine w_arrlen (i := 3) X0 hx hZ P0 rfl hkk (hb hby d4_2) (z := (Int32.ofNat pN)) (own_len hpA) (pc' := 3) rfl ?_
  refine w_icmp_ne X0 hx (hb hby d4_3) (by decide) (pcY := 14) (by decide) (pc' := 6) rfl (fun h0 => ?_) (fun h0 => ?_)
  · have h0n : ¬ pm = pN := fun q => h0 ((own_oeq (a := pm) (b := pN) (by omega) (by omega)).mpr q)
    refine w_iloadN X0 hx (hb hby d4_14) rfl (pc' := 15) rfl ?_
    refine w_newarrC (N := pm) (cap := 18) (j := 5) X0 hx hZ P0 (ty := .byte) rfl (wd10 hw) (hb hby d4_15) (by omega) (own_oN (by omega)) (by omega) (by decide) (by decide) rfl (pc' := 17) rfl ?_
    intro T1 kA1 X1 hkA1 P1
    replace P1 := own_mr P1
    replace P1 : HP n0 T1.heap [o0, q1, q2, AC kk (List.map Value.int pA), q4, AC kA1 (List.map Value.int (List.replicate pm 0))] := P1
    refine w_astoreN (l' := #[.val (.ref (n0 + 3)), .val (.int (Int32.ofNat pm)), .val (.ref (n0 + 5))]) X1 hx (hb hby d4_17) rfl rfl (pc' := 18) rfl ?_
    refine w_aloadN X1 hx (hb hby d4_18) rfl rfl (pc' := 19) rfl ?_
    refine w_iconst (v := (0 : Int32)) X1 hx (hb hby d4_19) rfl (pc' := 20) rfl ?_
    refine w_aloadN X1 hx (hb hby d4_20) rfl rfl (pc' := 21) rfl ?_
    refine w_iconst (v := (0 : Int32)) X1 hx (hb hby d4_21) rfl (pc' := 22) rfl ?_
    refine w_aloadN X1 hx (hb hby d4_22) rfl rfl (pc' := 23) rfl ?_
    refine w_arrlen (i := 3) X1 hx hZ P1 rfl hkk (hb hby d4_23) (z := (Int32.ofNat pN)) (own_len hpA) (pc' := 24) rfl ?_
    refine w_iloadN X1 hx (hb hby d4_24) rfl (pc' := 25) rfl ?_
    refine w_callP (W := 4) X1 hx hZ rfl hown hml.symm (wd54 hw) (wd55 hw) (wd56 hw) (wd57 hw) (rm9 l Z a0 hw [] (Int32.ofNat pN) (Int32.ofNat pm) _) (by decide) (by decide) (by decide) rfl rfl (by decide) (by decide) (argsL := [.int (Int32.ofNat pN), .int (Int32.ofNat pm)]) (rest := [.int (0 : Int32), .ref (n0 + 5), .int (0 : Int32), .ref (n0 + 3)]) pd9 rfl rfl rfl (Nat.le_of_eq rfl) (hb hby d4_25) (pc' := 28) rfl ?_
    intro T2 X2 e2
    have P2 : HP n0 T2.heap [o0, q1, q2, AC kk (List.map Value.int pA), q4, AC kA1 (List.map Value.int (List.replicate pm 0))] := by rw [e2]; exact P1
    refine w_eqI (z := (Int32.ofNat pm)) (own_minR (by omega) (by omega) (by omega)) ?_
    refine w_acopy (W := 0) (i := 3) (j := 5) (sn := 0) (dn := 0) (n := pm) (vd' := (List.map Value.int (List.take pm pA))) X2 hx hZ hown (by rw [hml]; rfl) (wd58 hw) (wd61 hw) (wd59 hw) (wd60 hw) N0 P2 rfl rfl hkk hkA1 rfl hB (by decide) (by decide) (own_oN (by omega)) (by rw [List.length_map, hpA]; omega) (by rw [List.length_map, List.length_replicate]; omega) (hb hby d4_28) (by decide) (Nat.le_of_eq rfl) (by decide) own_cpT (pc' := 31) rfl ?_
    intro T3 L1 N1 X3 P3
    replace P3 : HP n0 T3.heap [o0, q1, q2, AC kk (List.map Value.int pA), q4, AC kA1 (List.map Value.int (List.take pm pA))] := P3
    refine w_aloadN X3 hx (hb hby d4_31) rfl rfl (pc' := 32) rfl ?_
    exact w_ret_a X3 hx rfl hret rfl hlk (hb hby d4_32) (by decide) (by decide) ⟨rfl, N1, kA1, hkA1, P3⟩
  · have h0n : pm = pN := (own_oeq (a := pm) (b := pN) (by omega) (by omega)).mp h0
    obtain rfl : pA = [] := List.eq_nil_of_length_eq_zero (by omega)
    replace P0 : HP n0 T0.heap [o0, q1, q2, AC kk [], q4] := P0
    refine w_aloadN X0 hx (hb hby d4_6) rfl rfl (pc' := 7) rfl ?_
    refine w_clone (W := 0) (N := 0) (j := 5) (i := 3) X0 hx hZ hown (by rw [hml]; rfl) (wd24 hw) (wd25 hw) (wd29 hw) (wd27 hw) (wd28 hw) (wd30 hw) P0 rfl hkk rfl (by simp [fits]) (hb hby d4_7) (by decide) (Nat.le_of_eq rfl) (by decide) rfl (by decide) (by decide) rfl (pc' := 10) rfl ?_
    intro T4 X4 P4
    replace P4 : HP n0 T4.heap [o0, q1, q2, AC kk [], q4, AC kk []] := P4
    refine w_ccastA (i := 5) X4 hx hZ hown (wd31 hw) P4 rfl hkk rfl (hb hby d4_10) (pc' := 13) rfl ?_
    intro T5 X5 P5
    exact w_ret_a X5 hx rfl hret rfl hlk (hb hby d4_13) (by decide) (by decide) ⟨rfl, N0, kk, hkk, by rw [List.take_nil]; exact P5⟩
theorem ef_toA31 (m : MethodId) (n0 : Nat) (pN : Nat) (pm : Nat) : entryFrame m #[.ref (n0 + 0)] 1 = mkF m 0 #[.val (.ref (n0 + 0))] [] := by first | (simp [entryFrame, mkF, argsToLocals, Value.category]; done) | rfl
def Q_toA31 (Z : State) (n0 : Nat) (o0 : Jvm.Cell) (q1 : Jvm.Cell) (q2 : Jvm.Cell) (q4 : Jvm.Cell) (kk : ClassId) (pA : List Int32) (pN : Nat) (pm : Nat) (v : Option Value) (h : Heap) (L : List Loc) : Prop := v = some (.ref (n0 + 5)) ∧ Fr n0 L ∧ ∃ kA1 : ClassId, IsA Z kA1 .byte ∧ HP n0 h [o0, q1, q2, AC kk (List.map Value.int pA), q4, AC kA1 (List.map Value.int (List.take pm pA))]
set_option maxRecDepth 65536 in
set_option maxHeartbeats 40000000 in
theorem rm_toA31 (l : Launch) (Z : State) (a0 : Array Value) (hw : ∀ d ∈ tables_1, d.before a0 Z = true) (ws : List Jvm.Cond) (n0 : Nat) (o0 : Jvm.Cell) (q1 : Jvm.Cell) (q2 : Jvm.Cell) (q4 : Jvm.Cell) (kk : ClassId) (pA : List Int32) (pN : Nat) (pm : Nat) (h0 : Heap) (P0 : HP n0 h0 [o0, q1, q2, AC kk (List.map Value.int pA), q4]) (hkk : IsA Z kk .byte) (hpA : pA.length = pN) (Fo0 : ObjF Z o0 "com/example/dirichlet/dirichlet/index/ByteSink" fl_C0 [.ref (n0 + 3), .int (Int32.ofNat pm)]) (hB : own_B pA) (hpm : pm ≤ pN) (hpm0 : pm = pN → pN = 0) (hpm18 : pm ≤ 18) (hpN : pN ≤ 36) :
    MetFree l (⟨"com/example/dirichlet/dirichlet/index/ByteSink", "toArray", "()[B"⟩ : MethodName) (head1 (Jvm.Cond.code (⟨"com/example/dirichlet/dirichlet/index/ByteSink", "toArray", "()[B"⟩ : MethodName) prog_17_method_6_code 1 (some (.array .byte)) :: ws) ({ frames := 2, cells := 1, slots := 18, locals := 32 } : Room)) (fun aa U => aa = #[.ref (n0 + 0)] ∧ Z.Warmed39 U.vm ∧ U.heap = h0) (fun _ _ _ _ _ => True) (fun _ U o U' => ∃ v L, o = .returned v ∧ Q_toA31 Z n0 o0 q1 q2 q4 kk pA pN pm v U'.heap L ∧ FrameEnd U o U' L ({ frames := 2, cells := 1, slots := 18, locals := 32 } : Room).cells ({ frames := 2, cells := 1, slots := 18, locals := 32 } : Room).slots) := by
  refine own_body pn3 ?_
  intro p e s m below meth c T0 hx hby hml hret hlk hown hnm hZ X0 e0
  subst e0
  have N0 : Fr n0 [] := Fr.nil n0
  refine own_cast (ef_toA31 m n0 pN pm) ?_
  refine w_aloadN X0 hx (hb hby d3_0) rfl rfl (pc' := 1) rfl ?_
  refine w_getf (i := 0) (v := .ref (n0 + 3)) X0 hx hZ hown (wd11 hw) P0 rfl Fo0 0 rfl rfl (hb hby d3_1) (pc' := 4) rfl ?_
  intro T1 X1 P1
  refine w_aloadN X1 hx (hb hby d3_4) rfl rfl (pc' := 5) rfl ?_
  refine w_getf (i := 0) (v := .int (Int32.ofNat pm)) X1 hx hZ hown (wd18 hw) P1 rfl Fo0 1 rfl rfl (hb hby d3_5) (pc' := 8) rfl ?_
  intro T2 X2 P2
  refine own_call (W := 0) X2 hx hZ rfl hown hml.symm (wd20 hw) (wd21 hw) (wd22 hw) (wd23 hw) (rm_cpT31 l Z a0 hw [] n0 o0 q1 q2 q4 kk pA pN pm _ P2 hkk hpA hB hpm hpm0 hpm18 hpN) (by decide) (by decide) (by decide) (by decide) (by decide) (argsL := [.ref (n0 + 3), .int (Int32.ofNat pm)]) (rest := []) pd4 rfl rfl rfl (Nat.le_of_eq rfl) (hb hby d3_8) (pc' := 11) rfl ?_
  intro v3 T3 L1 X3 hq
  obtain ⟨rfl, N1, kA1, hkA1, P3⟩ := hq
  replace N1 := Fr.app N0 N1
  replace P3 : HP n0 T3.heap [o0, q1, q2, AC kk (List.map Value.int pA), q4, AC kA1 (List.map Value.int (List.take pm pA))] := P3
  exact w_ret_a X3 hx rfl hret rfl hlk (hb hby d3_11) (by decide) (by decide) ⟨rfl, N1, kA1, hkA1, P3⟩
theorem d7_0 : decode prog_17_method_8_code 0 = .ok (.iload_n 1, 1) := by decide +kernel
theorem d7_1 : decode prog_17_method_8_code 1 = .ok (.ldc 68, 2) := by decide +kernel
theorem d7_3 : decode prog_17_method_8_code 3 = .ok (.aload_n 0, 1) := by decide +kernel
theorem d7_4 : decode prog_17_method_8_code 4 = .ok (.getfield 15, 3) := by decide +kernel
theorem d7_7 : decode prog_17_method_8_code 7 = .ok (.isub, 1) := by decide +kernel
theorem d7_8 : decode prog_17_method_8_code 8 = .ok (.if_icmp .le 13, 3) := by decide +kernel
theorem d7_11 : decode prog_17_method_8_code 11 = .ok (.new 69, 3) := by decide +kernel
theorem d7_14 : decode prog_17_method_8_code 14 = .ok (.dup, 1) := by decide +kernel
theorem d7_15 : decode prog_17_method_8_code 15 = .ok (.ldc 71, 2) := by decide +kernel
theorem d7_17 : decode prog_17_method_8_code 17 = .ok (.invokespecial 73, 3) := by decide +kernel
theorem d7_20 : decode prog_17_method_8_code 20 = .ok (.athrow, 1) := by decide +kernel
theorem d7_21 : decode prog_17_method_8_code 21 = .ok (.aload_n 0, 1) := by decide +kernel
theorem d7_22 : decode prog_17_method_8_code 22 = .ok (.getfield 15, 3) := by decide +kernel
theorem d7_25 : decode prog_17_method_8_code 25 = .ok (.iload_n 1, 1) := by decide +kernel
theorem d7_26 : decode prog_17_method_8_code 26 = .ok (.iadd, 1) := by decide +kernel
theorem d7_27 : decode prog_17_method_8_code 27 = .ok (.aload_n 0, 1) := by decide +kernel
theorem d7_28 : decode prog_17_method_8_code 28 = .ok (.getfield 9, 3) := by decide +kernel
theorem d7_31 : decode prog_17_method_8_code 31 = .ok (.arraylength, 1) := by decide +kernel
theorem d7_32 : decode prog_17_method_8_code 32 = .ok (.if_icmp .le 44, 3) := by decide +kernel
theorem d7_35 : decode prog_17_method_8_code 35 = .ok (.ldc2_w 74, 3) := by decide +kernel
theorem d7_38 : decode prog_17_method_8_code 38 = .ok (.aload_n 0, 1) := by decide +kernel
theorem d7_39 : decode prog_17_method_8_code 39 = .ok (.getfield 9, 3) := by decide +kernel
theorem d7_42 : decode prog_17_method_8_code 42 = .ok (.arraylength, 1) := by decide +kernel
theorem d7_43 : decode prog_17_method_8_code 43 = .ok (.i2l, 1) := by decide +kernel
theorem d7_44 : decode prog_17_method_8_code 44 = .ok (.lmul, 1) := by decide +kernel
theorem d7_45 : decode prog_17_method_8_code 45 = .ok (.aload_n 0, 1) := by decide +kernel
theorem d7_46 : decode prog_17_method_8_code 46 = .ok (.getfield 15, 3) := by decide +kernel
theorem d7_49 : decode prog_17_method_8_code 49 = .ok (.i2l, 1) := by decide +kernel
theorem d7_50 : decode prog_17_method_8_code 50 = .ok (.iload_n 1, 1) := by decide +kernel
theorem d7_51 : decode prog_17_method_8_code 51 = .ok (.i2l, 1) := by decide +kernel
theorem d7_52 : decode prog_17_method_8_code 52 = .ok (.ladd, 1) := by decide +kernel
theorem d7_53 : decode prog_17_method_8_code 53 = .ok (.invokestatic 76, 3) := by decide +kernel
theorem d7_56 : decode prog_17_method_8_code 56 = .ok (.lstore_n 2, 1) := by decide +kernel
theorem d7_57 : decode prog_17_method_8_code 57 = .ok (.aload_n 0, 1) := by decide +kernel
theorem d7_58 : decode prog_17_method_8_code 58 = .ok (.aload_n 0, 1) := by decide +kernel
theorem d7_59 : decode prog_17_method_8_code 59 = .ok (.getfield 9, 3) := by decide +kernel
theorem d7_62 : decode prog_17_method_8_code 62 = .ok (.lload_n 2, 1) := by decide +kernel
theorem d7_63 : decode prog_17_method_8_code 63 = .ok (.ldc2_w 82, 3) := by decide +kernel
theorem d7_66 : decode prog_17_method_8_code 66 = .ok (.invokestatic 84, 3) := by decide +kernel
theorem d7_69 : decode prog_17_method_8_code 69 = .ok (.l2i, 1) := by decide +kernel
theorem d7_70 : decode prog_17_method_8_code 70 = .ok (.invokestatic 62, 3) := by decide +kernel
theorem d7_73 : decode prog_17_method_8_code 73 = .ok (.putfield 9, 3) := by decide +kernel
theorem d7_76 : decode prog_17_method_8_code 76 = .ok (.return_, 1) := by decide +kernel
theorem pn7 : plainFor (⟨"com/example/dirichlet/dirichlet/index/ByteSink", "ensure", "(I)V"⟩ : MethodName) = true := plainFor_of_name (by first | (simp [plainName, overriddenIn]; done) | decide +kernel)
theorem pd7 : parseMethodDescriptor (⟨"com/example/dirichlet/dirichlet/index/ByteSink", "ensure", "(I)V"⟩ : MethodName).desc = some ⟨[.int], none⟩ := by decide +kernel
theorem ef_ens1 (m : MethodId) (n0 : Nat) (pN : Nat) (pz : Nat) (pM : Nat) : entryFrame m #[.ref (n0 + 0), .int (10 : Int32)] 4 = mkF m 0 #[.val (.ref (n0 + 0)), .val (.int (10 : Int32)), .unset, .unset] [] := by first | (simp [entryFrame, mkF, argsToLocals, Value.category]; done) | rfl
def Q_ens1 (Z : State) (n0 : Nat) (o0 : Jvm.Cell) (kk : ClassId) (pA : List Int32) (pN : Nat) (pz : Nat) (pM : Nat) (v : Option Value) (h : Heap) (L : List Loc) : Prop := v = none ∧ Fr n0 L ∧ ((¬ pN < pz + 10 ∧ HP n0 h [o0, AC kk (List.map Value.int pA)]) ∨ (pN < pz + 10 ∧ ∃ c2 : Jvm.Cell, ObjF Z c2 "com/example/dirichlet/dirichlet/index/ByteSink" fl_C0 [.ref (n0 + 2), .int (Int32.ofNat pz)] ∧ ∃ kA1 : ClassId, IsA Z kA1 .byte ∧ HP n0 h [c2, AC kk (List.map Value.int pA), AC kA1 (List.map Value.int (pA ++ List.replicate (pM - pN) 0))]))
set_option maxRecDepth 65536 in
set_option maxHeartbeats 40000000 in
theorem rm_ens1 (l : Launch) (Z : State) (a0 : Array Value) (hw : ∀ d ∈ tables_1, d.before a0 Z = true) (ws : List Jvm.Cond) (n0 : Nat) (o0 : Jvm.Cell) (kk : ClassId) (pA : List Int32) (pN : Nat) (pz : Nat) (pM : Nat) (h0 : Heap) (P0 : HP n0 h0 [o0, AC kk (List.map Value.int pA)]) (hkk : IsA Z kk .byte) (hpA : pA.length = pN) (Fo0 : ObjF Z o0 "com/example/dirichlet/dirichlet/index/ByteSink" fl_C0 [.ref (n0 + 1), .int (Int32.ofNat pz)]) (hB : own_B pA) (hpz : pz ≤ 9) (hpN : pN ≤ 18) (hM1 : 2 * pN ≤ pM) (hM2 : pz + 10 ≤ pM) (hM3 : pM = 2 * pN ∨ pM = pz + 10) :
    MetFree l (⟨"com/example/dirichlet/dirichlet/index/ByteSink", "ensure", "(I)V"⟩ : MethodName) (head1 (Jvm.Cond.code (⟨"com/example/dirichlet/dirichlet/index/ByteSink", "ensure", "(I)V"⟩ : MethodName) prog_17_method_8_code 4 none :: ws) ({ frames := 2, cells := 1, slots := 36, locals := 33 } : Room)) (fun aa U => aa = #[.ref (n0 + 0), .int (10 : Int32)] ∧ Z.Warmed39 U.vm ∧ U.heap = h0) (fun _ _ _ _ _ => True) (fun _ U o U' => ∃ v L, o = .returned v ∧ Q_ens1 Z n0 o0 kk pA pN pz pM v U'.heap L ∧ FrameEnd U o U' L ({ frames := 2, cells := 1, slots := 36, locals := 33 } : Room).cells ({ frames := 2, cells := 1, slots := 36, locals := 33 } : Room).slots) := by
  refine own_body pn7 ?_
  intro p e s m below meth c T0 hx hby hml hret hlk hown hnm hZ X0 e0
  subst e0
  have N0 : Fr n0 [] := Fr.nil n0
  refine own_cast (ef_ens1 m n0 pN pz pM) ?_
  refine w_iloadN X0 hx (hb hby d7_0) rfl (pc' := 1) rfl ?_
  refine w_ldc X0 hx (hb hby d7_1) hown (mvT hZ (wd47 hw)) (pc' := 3) rfl ?_
  refine w_aloadN X0 hx (hb hby d7_3) rfl rfl (pc' := 4) rfl ?_
  refine w_getf (i := 0) (v := .int (Int32.ofNat pz)) X0 hx hZ hown (wd18 hw) P0 rfl Fo0 1 rfl rfl (hb hby d7_4) (pc' := 7) rfl ?_
  intro T1 X1 P1
  refine w_isub X1 hx (hb hby d7_7) (pc' := 8) rfl ?_
  refine w_eqI (z := (Int32.ofNat (2147483631 - pz))) (own_osub (a := 2147483631) (b := pz) (by omega)) ?_
  refine w_icmp_le X1 hx (hb hby d7_8) (by decide) (pcY := 21) (by decide) (pc' := 11) rfl (fun h0 => ?_) (fun h0 => absurd ((own_olt (a := 2147483631 - pz) (b := 10) (by omega) (by omega)).mp h0) (by omega))
  refine w_aloadN X1 hx (hb hby d7_21) rfl rfl (pc' := 22) rfl ?_
  refine w_getf (i := 0) (v := .int (Int32.ofNat pz)) X1 hx hZ hown (wd18 hw) P1 rfl Fo0 1 rfl rfl (hb hby d7_22) (pc' := 25) rfl ?_
  intro T2 X2 P2
  refine w_iloadN X2 hx (hb hby d7_25) rfl (pc' := 26) rfl ?_
  refine w_iadd X2 hx (hb hby d7_26) (pc' := 27) rfl ?_
  refine w_eqI (z := (Int32.ofNat (pz + 10))) (own_oadd pz 10) ?_
  refine w_aloadN X2 hx (hb hby d7_27) rfl rfl (pc' := 28) rfl ?_
  refine w_getf (i := 0) (v := .ref (n0 + 1)) X2 hx hZ hown (wd11 hw) P2 rfl Fo0 0 rfl rfl (hb hby d7_28) (pc' := 31) rfl ?_
  intro T3 X3 P3
  refine w_arrlen (i := 1) X3 hx hZ P3 rfl hkk (hb hby d7_31) (z := (Int32.ofNat pN)) (own_len hpA) (pc' := 32) rfl ?_
  refine w_icmp_le X3 hx (hb hby d7_32) (by decide) (pcY := 76) (by decide) (pc' := 35) rfl (fun h1 => ?_) (fun h1 => ?_)
  · have h1n : ¬ pN < (pz + 10) := fun q => h1 ((own_olt (a := pN) (b := (pz + 10)) (by omega) (by omega)).mpr q)
    exact w_ret_v X3 hx hret hlk (hb hby d7_76) (by decide) (by decide) ⟨rfl, N0, Or.inl ⟨h1n, P3⟩⟩
  · have h1n : pN < (pz + 10) := (own_olt (a := pN) (b := (pz + 10)) (by omega) (by omega)).mp h1
    refine w_ldc2 X3 hx (hb hby d7_35) hown (mvT hZ (wd72 hw)) (pc' := 38) rfl ?_
    refine w_aloadN X3 hx (hb hby d7_38) rfl rfl (pc' := 39) rfl ?_
    refine w_getf (i := 0) (v := .ref (n0 + 1)) X3 hx hZ hown (wd11 hw) P3 rfl Fo0 0 rfl rfl (hb hby d7_39) (pc' := 42) rfl ?_
    intro T4 X4 P4
    refine w_arrlen (i := 1) X4 hx hZ P4 rfl hkk (hb hby d7_42) (z := (Int32.ofNat pN)) (own_len hpA) (pc' := 43) rfl ?_
    refine w_i2l X4 hx (hb hby d7_43) (pc' := 44) rfl ?_
    refine w_lmul X4 hx (hb hby d7_44) (pc' := 45) rfl ?_
    refine w_eqJ (z := (Int64.ofNat (2 * pN))) (own_l2 (by omega)) ?_
    refine w_aloadN X4 hx (hb hby d7_45) rfl rfl (pc' := 46) rfl ?_
    refine w_getf (i := 0) (v := .int (Int32.ofNat pz)) X4 hx hZ hown (wd18 hw) P4 rfl Fo0 1 rfl rfl (hb hby d7_46) (pc' := 49) rfl ?_
    intro T5 X5 P5
    refine w_i2l X5 hx (hb hby d7_49) (pc' := 50) rfl ?_
    refine w_iloadN X5 hx (hb hby d7_50) rfl (pc' := 51) rfl ?_
    refine w_i2l X5 hx (hb hby d7_51) (pc' := 52) rfl ?_
    refine w_eqJ (z := (10 : Int64)) (by decide) ?_
    refine w_ladd X5 hx (hb hby d7_52) (pc' := 53) rfl ?_
    refine w_eqJ (z := (Int64.ofNat (pz + 10))) (own_la (by omega)) ?_
    refine w_callP (W := 0) X5 hx hZ rfl hown hml.symm (wd73 hw) (wd74 hw) (wd56 hw) (wd75 hw) (rm12 l Z a0 hw [] (Int64.ofNat (2 * pN)) (Int64.ofNat (pz + 10)) _) (by decide) (by decide) (by decide) rfl rfl (by decide) (by decide) (argsL := [.long (Int64.ofNat (2 * pN)), .long (Int64.ofNat (pz + 10))]) (rest := []) pd12 rfl rfl rfl (Nat.le_of_eq rfl) (hb hby d7_53) (pc' := 56) rfl ?_
    intro T6 X6 e6
    have P6 : HP n0 T6.heap [o0, AC kk (List.map Value.int pA)] := by rw [e6]; exact P5
    refine w_eqJ (z := (Int64.ofNat pM)) (own_maxJ (by omega) hM1 hM2 hM3) ?_
    refine w_lstoreN (l' := #[.val (.ref (n0 + 0)), .val (.int (10 : Int32)), .val (.long (Int64.ofNat pM)), .second]) X6 hx (hb hby d7_56) rfl (pc' := 57) rfl ?_
    refine w_aloadN X6 hx (hb hby d7_57) rfl rfl (pc' := 58) rfl ?_
    refine w_aloadN X6 hx (hb hby d7_58) rfl rfl (pc' := 59) rfl ?_
    refine w_getf (i := 0) (v := .ref (n0 + 1)) X6 hx hZ hown (wd11 hw) P6 rfl Fo0 0 rfl rfl (hb hby d7_59) (pc' := 62) rfl ?_
    intro T7 X7 P7
    refine w_lloadN X7 hx (hb hby d7_62) rfl (pc' := 63) rfl ?_
    refine w_ldc2 X7 hx (hb hby d7_63) hown (mvT hZ (wd76 hw)) (pc' := 66) rfl ?_
    refine w_callP (W := 2) X7 hx hZ rfl hown hml.symm (wd77 hw) (wd78 hw) (wd56 hw) (wd79 hw) (rm13 l Z a0 hw [] (Int64.ofNat pM) (2147483631 : Int64) _) (by decide) (by decide) (by decide) rfl rfl (by decide) (by decide) (argsL := [.long (Int64.ofNat pM), .long (2147483631 : Int64)]) (rest := [.ref (n0 + 1), .ref (n0 + 0)]) pd13 rfl rfl rfl (Nat.le_of_eq rfl) (hb hby d7_66) (pc' := 69) rfl ?_
    intro T8 X8 e8
    have P8 : HP n0 T8.heap [o0, AC kk (List.map Value.int pA)] := by rw [e8]; exact P7
    refine w_eqJ (z := (Int64.ofNat pM)) (own_minJ (by omega)) ?_
    refine w_l2i X8 hx (hb hby d7_69) (pc' := 70) rfl ?_
    refine w_eqI (z := (Int32.ofNat pM)) (own_l2iN (by omega)) ?_
    refine own_call (W := 1) X8 hx hZ rfl hown hml.symm (wd20 hw) (wd21 hw) (wd22 hw) (wd23 hw) (rm_cpG1 l Z a0 hw [] n0 o0 kk pA pN pM _ P8 hkk hpA hB (by omega) (by omega)) (by decide) (by decide) (by decide) (by decide) (by decide) (argsL := [.ref (n0 + 1), .int (Int32.ofNat pM)]) (rest := [.ref (n0 + 0)]) pd4 rfl rfl rfl (Nat.le_of_eq rfl) (hb hby d7_70) (pc' := 73) rfl ?_
    intro v9 T9 L1 X9 hq
    obtain ⟨rfl, N1, kA1, hkA1, P9⟩ := hq
    replace N1 := Fr.app N0 N1
    replace P9 : HP n0 T9.heap [o0, AC kk (List.map Value.int pA), AC kA1 (List.map Value.int (pA ++ List.replicate (pM - pN) 0))] := P9
    refine w_putf (i := 0) (ty := (.array .byte)) X9 hx hZ hown (wd11 hw) N1 P9 rfl Fo0 (di_C0 hw) 0 rfl (Or.inl (wd12 hw)) (wd2 hw) (by decide) rfl rfl (hb hby d7_73) (pc' := 76) rfl ?_
    intro T10 L2 c2 N2 X10 P10 F2
    replace P10 : HP n0 T10.heap [c2, AC kk (List.map Value.int pA), AC kA1 (List.map Value.int (pA ++ List.replicate (pM - pN) 0))] := P10
    replace F2 : ObjF Z c2 "com/example/dirichlet/dirichlet/index/ByteSink" fl_C0 [.ref (n0 + 2), .int (Int32.ofNat pz)] := F2
    exact w_ret_v X10 hx hret hlk (hb hby d7_76) (by decide) (by decide) ⟨rfl, N2, Or.inr ⟨h1n, c2, F2, kA1, hkA1, P10⟩⟩
theorem ef_ens2 (m : MethodId) (n0 : Nat) (pN : Nat) (pz : Nat) (pM : Nat) : entryFrame m #[.ref (n0 + 0), .int (10 : Int32)] 4 = mkF m 0 #[.val (.ref (n0 + 0)), .val (.int (10 : Int32)), .unset, .unset] [] := by first | (simp [entryFrame, mkF, argsToLocals, Value.category]; done) | rfl
def Q_ens2 (Z : State) (n0 : Nat) (o0 : Jvm.Cell) (q1 : Jvm.Cell) (kk : ClassId) (pA : List Int32) (pN : Nat) (pz : Nat) (pM : Nat) (v : Option Value) (h : Heap) (L : List Loc) : Prop := v = none ∧ Fr n0 L ∧ ((¬ pN < pz + 10 ∧ HP n0 h [o0, q1, AC kk (List.map Value.int pA)]) ∨ (pN < pz + 10 ∧ ∃ c2 : Jvm.Cell, ObjF Z c2 "com/example/dirichlet/dirichlet/index/ByteSink" fl_C0 [.ref (n0 + 3), .int (Int32.ofNat pz)] ∧ ∃ kA1 : ClassId, IsA Z kA1 .byte ∧ HP n0 h [c2, q1, AC kk (List.map Value.int pA), AC kA1 (List.map Value.int (pA ++ List.replicate (pM - pN) 0))]))
set_option maxRecDepth 65536 in
set_option maxHeartbeats 40000000 in
theorem rm_ens2 (l : Launch) (Z : State) (a0 : Array Value) (hw : ∀ d ∈ tables_1, d.before a0 Z = true) (ws : List Jvm.Cond) (n0 : Nat) (o0 : Jvm.Cell) (q1 : Jvm.Cell) (kk : ClassId) (pA : List Int32) (pN : Nat) (pz : Nat) (pM : Nat) (h0 : Heap) (P0 : HP n0 h0 [o0, q1, AC kk (List.map Value.int pA)]) (hkk : IsA Z kk .byte) (hpA : pA.length = pN) (Fo0 : ObjF Z o0 "com/example/dirichlet/dirichlet/index/ByteSink" fl_C0 [.ref (n0 + 2), .int (Int32.ofNat pz)]) (hB : own_B pA) (hpz : pz ≤ 9) (hpN : pN ≤ 18) (hM1 : 2 * pN ≤ pM) (hM2 : pz + 10 ≤ pM) (hM3 : pM = 2 * pN ∨ pM = pz + 10) :
    MetFree l (⟨"com/example/dirichlet/dirichlet/index/ByteSink", "ensure", "(I)V"⟩ : MethodName) (head1 (Jvm.Cond.code (⟨"com/example/dirichlet/dirichlet/index/ByteSink", "ensure", "(I)V"⟩ : MethodName) prog_17_method_8_code 4 none :: ws) ({ frames := 2, cells := 1, slots := 36, locals := 33 } : Room)) (fun aa U => aa = #[.ref (n0 + 0), .int (10 : Int32)] ∧ Z.Warmed39 U.vm ∧ U.heap = h0) (fun _ _ _ _ _ => True) (fun _ U o U' => ∃ v L, o = .returned v ∧ Q_ens2 Z n0 o0 q1 kk pA pN pz pM v U'.heap L ∧ FrameEnd U o U' L ({ frames := 2, cells := 1, slots := 36, locals := 33 } : Room).cells ({ frames := 2, cells := 1, slots := 36, locals := 33 } : Room).slots) := by
  refine own_body pn7 ?_
  intro p e s m below meth c T0 hx hby hml hret hlk hown hnm hZ X0 e0
  subst e0
  have N0 : Fr n0 [] := Fr.nil n0
  refine own_cast (ef_ens2 m n0 pN pz pM) ?_
  refine w_iloadN X0 hx (hb hby d7_0) rfl (pc' := 1) rfl ?_
  refine w_ldc X0 hx (hb hby d7_1) hown (mvT hZ (wd47 hw)) (pc' := 3) rfl ?_
  refine w_aloadN X0 hx (hb hby d7_3) rfl rfl (pc' := 4) rfl ?_
  refine w_getf (i := 0) (v := .int (Int32.ofNat pz)) X0 hx hZ hown (wd18 hw) P0 rfl Fo0 1 rfl rfl (hb hby d7_4) (pc' := 7) rfl ?_
  intro T1 X1 P1
  refine w_isub X1 hx (hb hby d7_7) (pc' := 8) rfl ?_
  refine w_eqI (z := (Int32.ofNat (2147483631 - pz))) (own_osub (a := 2147483631) (b := pz) (by omega)) ?_
  refine w_icmp_le X1 hx (hb hby d7_8) (by decide) (pcY := 21) (by decide) (pc' := 11) rfl (fun h0 => ?_) (fun h0 => absurd ((own_olt (a := 2147483631 - pz) (b := 10) (by omega) (by omega)).mp h0) (by omega))
  refine w_aloadN X1 hx (hb hby d7_21) rfl rfl (pc' := 22) rfl ?_
  refine w_getf (i := 0) (v := .int (Int32.ofNat pz)) X1 hx hZ hown (wd18 hw) P1 rfl Fo0 1 rfl rfl (hb hby d7_22) (pc' := 25) rfl ?_
  intro T2 X2 P2
  refine w_iloadN X2 hx (hb hby d7_25) rfl (pc' := 26) rfl ?_
  refine w_iadd X2 hx (hb hby d7_26) (pc' := 27) rfl ?_
  refine w_eqI (z := (Int32.ofNat (pz + 10))) (own_oadd pz 10) ?_
  refine w_aloadN X2 hx (hb hby d7_27) rfl rfl (pc' := 28) rfl ?_
  refine w_getf (i := 0) (v := .ref (n0 + 2)) X2 hx hZ hown (wd11 hw) P2 rfl Fo0 0 rfl rfl (hb hby d7_28) (pc' := 31) rfl ?_
  intro T3 X3 P3
  refine w_arrlen (i := 2) X3 hx hZ P3 rfl hkk (hb hby d7_31) (z := (Int32.ofNat pN)) (own_len hpA) (pc' := 32) rfl ?_
  refine w_icmp_le X3 hx (hb hby d7_32) (by decide) (pcY := 76) (by decide) (pc' := 35) rfl (fun h1 => ?_) (fun h1 => ?_)
  · have h1n : ¬ pN < (pz + 10) := fun q => h1 ((own_olt (a := pN) (b := (pz + 10)) (by omega) (by omega)).mpr q)
    exact w_ret_v X3 hx hret hlk (hb hby d7_76) (by decide) (by decide) ⟨rfl, N0, Or.inl ⟨h1n, P3⟩⟩
  · have h1n : pN < (pz + 10) := (own_olt (a := pN) (b := (pz + 10)) (by omega) (by omega)).mp h1
    refine w_ldc2 X3 hx (hb hby d7_35) hown (mvT hZ (wd72 hw)) (pc' := 38) rfl ?_
    refine w_aloadN X3 hx (hb hby d7_38) rfl rfl (pc' := 39) rfl ?_
    refine w_getf (i := 0) (v := .ref (n0 + 2)) X3 hx hZ hown (wd11 hw) P3 rfl Fo0 0 rfl rfl (hb hby d7_39) (pc' := 42) rfl ?_
    intro T4 X4 P4
    refine w_arrlen (i := 2) X4 hx hZ P4 rfl hkk (hb hby d7_42) (z := (Int32.ofNat pN)) (own_len hpA) (pc' := 43) rfl ?_
    refine w_i2l X4 hx (hb hby d7_43) (pc' := 44) rfl ?_
    refine w_lmul X4 hx (hb hby d7_44) (pc' := 45) rfl ?_
    refine w_eqJ (z := (Int64.ofNat (2 * pN))) (own_l2 (by omega)) ?_
    refine w_aloadN X4 hx (hb hby d7_45) rfl rfl (pc' := 46) rfl ?_
    refine w_getf (i := 0) (v := .int (Int32.ofNat pz)) X4 hx hZ hown (wd18 hw) P4 rfl Fo0 1 rfl rfl (hb hby d7_46) (pc' := 49) rfl ?_
    intro T5 X5 P5
    refine w_i2l X5 hx (hb hby d7_49) (pc' := 50) rfl ?_
    refine w_iloadN X5 hx (hb hby d7_50) rfl (pc' := 51) rfl ?_
    refine w_i2l X5 hx (hb hby d7_51) (pc' := 52) rfl ?_
    refine w_eqJ (z := (10 : Int64)) (by decide) ?_
    refine w_ladd X5 hx (hb hby d7_52) (pc' := 53) rfl ?_
    refine w_eqJ (z := (Int64.ofNat (pz + 10))) (own_la (by omega)) ?_
    refine w_callP (W := 0) X5 hx hZ rfl hown hml.symm (wd73 hw) (wd74 hw) (wd56 hw) (wd75 hw) (rm12 l Z a0 hw [] (Int64.ofNat (2 * pN)) (Int64.ofNat (pz + 10)) _) (by decide) (by decide) (by decide) rfl rfl (by decide) (by decide) (argsL := [.long (Int64.ofNat (2 * pN)), .long (Int64.ofNat (pz + 10))]) (rest := []) pd12 rfl rfl rfl (Nat.le_of_eq rfl) (hb hby d7_53) (pc' := 56) rfl ?_
    intro T6 X6 e6
    have P6 : HP n0 T6.heap [o0, q1, AC kk (List.map Value.int pA)] := by rw [e6]; exact P5
    refine w_eqJ (z := (Int64.ofNat pM)) (own_maxJ (by omega) hM1 hM2 hM3) ?_
    refine w_lstoreN (l' := #[.val (.ref (n0 + 0)), .val (.int (10 : Int32)), .val (.long (Int64.ofNat pM)), .second]) X6 hx (hb hby d7_56) rfl (pc' := 57) rfl ?_
    refine w_aloadN X6 hx (hb hby d7_57) rfl rfl (pc' := 58) rfl ?_
    refine w_aloadN X6 hx (hb hby d7_58) rfl rfl (pc' := 59) rfl ?_
    refine w_getf (i := 0) (v := .ref (n0 + 2)) X6 hx hZ hown (wd11 hw) P6 rfl Fo0 0 rfl rfl (hb hby d7_59) (pc' := 62) rfl ?_
    intro T7 X7 P7
    refine w_lloadN X7 hx (hb hby d7_62) rfl (pc' := 63) rfl ?_
    refine w_ldc2 X7 hx (hb hby d7_63) hown (mvT hZ (wd76 hw)) (pc' := 66) rfl ?_
    refine w_callP (W := 2) X7 hx hZ rfl hown hml.symm (wd77 hw) (wd78 hw) (wd56 hw) (wd79 hw) (rm13 l Z a0 hw [] (Int64.ofNat pM) (2147483631 : Int64) _) (by decide) (by decide) (by decide) rfl rfl (by decide) (by decide) (argsL := [.long (Int64.ofNat pM), .long (2147483631 : Int64)]) (rest := [.ref (n0 + 2), .ref (n0 + 0)]) pd13 rfl rfl rfl (Nat.le_of_eq rfl) (hb hby d7_66) (pc' := 69) rfl ?_
    intro T8 X8 e8
    have P8 : HP n0 T8.heap [o0, q1, AC kk (List.map Value.int pA)] := by rw [e8]; exact P7
    refine w_eqJ (z := (Int64.ofNat pM)) (own_minJ (by omega)) ?_
    refine w_l2i X8 hx (hb hby d7_69) (pc' := 70) rfl ?_
    refine w_eqI (z := (Int32.ofNat pM)) (own_l2iN (by omega)) ?_
    refine own_call (W := 1) X8 hx hZ rfl hown hml.symm (wd20 hw) (wd21 hw) (wd22 hw) (wd23 hw) (rm_cpG2 l Z a0 hw [] n0 o0 q1 kk pA pN pM _ P8 hkk hpA hB (by omega) (by omega)) (by decide) (by decide) (by decide) (by decide) (by decide) (argsL := [.ref (n0 + 2), .int (Int32.ofNat pM)]) (rest := [.ref (n0 + 0)]) pd4 rfl rfl rfl (Nat.le_of_eq rfl) (hb hby d7_70) (pc' := 73) rfl ?_
    intro v9 T9 L1 X9 hq
    obtain ⟨rfl, N1, kA1, hkA1, P9⟩ := hq
    replace N1 := Fr.app N0 N1
    replace P9 : HP n0 T9.heap [o0, q1, AC kk (List.map Value.int pA), AC kA1 (List.map Value.int (pA ++ List.replicate (pM - pN) 0))] := P9
    refine w_putf (i := 0) (ty := (.array .byte)) X9 hx hZ hown (wd11 hw) N1 P9 rfl Fo0 (di_C0 hw) 0 rfl (Or.inl (wd12 hw)) (wd2 hw) (by decide) rfl rfl (hb hby d7_73) (pc' := 76) rfl ?_
    intro T10 L2 c2 N2 X10 P10 F2
    replace P10 : HP n0 T10.heap [c2, q1, AC kk (List.map Value.int pA), AC kA1 (List.map Value.int (pA ++ List.replicate (pM - pN) 0))] := P10
    replace F2 : ObjF Z c2 "com/example/dirichlet/dirichlet/index/ByteSink" fl_C0 [.ref (n0 + 3), .int (Int32.ofNat pz)] := F2
    exact w_ret_v X10 hx hret hlk (hb hby d7_76) (by decide) (by decide) ⟨rfl, N2, Or.inr ⟨h1n, c2, F2, kA1, hkA1, P10⟩⟩
theorem d6_0 : decode prog_17_method_3_code 0 = .ok (.lload_n 1, 1) := by decide +kernel
theorem d6_1 : decode prog_17_method_3_code 1 = .ok (.lconst 0, 1) := by decide +kernel
theorem d6_2 : decode prog_17_method_3_code 2 = .ok (.lcmp, 1) := by decide +kernel
theorem d6_3 : decode prog_17_method_3_code 3 = .ok (.ifCond .ge 17, 3) := by decide +kernel
theorem d6_6 : decode prog_17_method_3_code 6 = .ok (.new 19, 3) := by decide +kernel
theorem d6_9 : decode prog_17_method_3_code 9 = .ok (.dup, 1) := by decide +kernel
theorem d6_10 : decode prog_17_method_3_code 10 = .ok (.lload_n 1, 1) := by decide +kernel
theorem d6_11 : decode prog_17_method_3_code 11 = .ok (.invokedynamic 21, 5) := by decide +kernel
theorem d6_16 : decode prog_17_method_3_code 16 = .ok (.invokespecial 25, 3) := by decide +kernel
theorem d6_19 : decode prog_17_method_3_code 19 = .ok (.athrow, 1) := by decide +kernel
theorem d6_20 : decode prog_17_method_3_code 20 = .ok (.aload_n 0, 1) := by decide +kernel
theorem d6_21 : decode prog_17_method_3_code 21 = .ok (.bipush 10, 2) := by decide +kernel
theorem d6_23 : decode prog_17_method_3_code 23 = .ok (.invokevirtual 28, 3) := by decide +kernel
theorem d6_26 : decode prog_17_method_3_code 26 = .ok (.lload_n 1, 1) := by decide +kernel
theorem d6_27 : decode prog_17_method_3_code 27 = .ok (.lstore_n 3, 1) := by decide +kernel
theorem d6_28 : decode prog_17_method_3_code 28 = .ok (.lload_n 3, 1) := by decide +kernel
theorem d6_29 : decode prog_17_method_3_code 29 = .ok (.ldc2_w 32, 3) := by decide +kernel
theorem d6_32 : decode prog_17_method_3_code 32 = .ok (.lcmp, 1) := by decide +kernel
theorem d6_33 : decode prog_17_method_3_code 33 = .ok (.ifCond .lt 34, 3) := by decide +kernel
theorem d6_36 : decode prog_17_method_3_code 36 = .ok (.aload_n 0, 1) := by decide +kernel
theorem d6_37 : decode prog_17_method_3_code 37 = .ok (.getfield 9, 3) := by decide +kernel
theorem d6_40 : decode prog_17_method_3_code 40 = .ok (.aload_n 0, 1) := by decide +kernel
theorem d6_41 : decode prog_17_method_3_code 41 = .ok (.dup, 1) := by decide +kernel
theorem d6_42 : decode prog_17_method_3_code 42 = .ok (.getfield 15, 3) := by decide +kernel
theorem d6_45 : decode prog_17_method_3_code 45 = .ok (.dup_x1, 1) := by decide +kernel
theorem d6_46 : decode prog_17_method_3_code 46 = .ok (.iconst 1, 1) := by decide +kernel
theorem d6_47 : decode prog_17_method_3_code 47 = .ok (.iadd, 1) := by decide +kernel
theorem d6_48 : decode prog_17_method_3_code 48 = .ok (.putfield 15, 3) := by decide +kernel
theorem d6_51 : decode prog_17_method_3_code 51 = .ok (.lload_n 3, 1) := by decide +kernel
theorem d6_52 : decode prog_17_method_3_code 52 = .ok (.ldc2_w 32, 3) := by decide +kernel
theorem d6_55 : decode prog_17_method_3_code 55 = .ok (.lor, 1) := by decide +kernel
theorem d6_56 : decode prog_17_method_3_code 56 = .ok (.l2i, 1) := by decide +kernel
theorem d6_57 : decode prog_17_method_3_code 57 = .ok (.i2b, 1) := by decide +kernel
theorem d6_58 : decode prog_17_method_3_code 58 = .ok (.bastore, 1) := by decide +kernel
theorem d6_59 : decode prog_17_method_3_code 59 = .ok (.lload_n 3, 1) := by decide +kernel
theorem d6_60 : decode prog_17_method_3_code 60 = .ok (.bipush 7, 2) := by decide +kernel
theorem d6_62 : decode prog_17_method_3_code 62 = .ok (.lushr, 1) := by decide +kernel
theorem d6_63 : decode prog_17_method_3_code 63 = .ok (.lstore_n 3, 1) := by decide +kernel
theorem d6_64 : decode prog_17_method_3_code 64 = .ok (.goto (-36), 3) := by decide +kernel
theorem d6_67 : decode prog_17_method_3_code 67 = .ok (.aload_n 0, 1) := by decide +kernel
theorem d6_68 : decode prog_17_method_3_code 68 = .ok (.getfield 9, 3) := by decide +kernel
theorem d6_71 : decode prog_17_method_3_code 71 = .ok (.aload_n 0, 1) := by decide +kernel
theorem d6_72 : decode prog_17_method_3_code 72 = .ok (.dup, 1) := by decide +kernel
theorem d6_73 : decode prog_17_method_3_code 73 = .ok (.getfield 15, 3) := by decide +kernel
theorem d6_76 : decode prog_17_method_3_code 76 = .ok (.dup_x1, 1) := by decide +kernel
theorem d6_77 : decode prog_17_method_3_code 77 = .ok (.iconst 1, 1) := by decide +kernel
theorem d6_78 : decode prog_17_method_3_code 78 = .ok (.iadd, 1) := by decide +kernel
theorem d6_79 : decode prog_17_method_3_code 79 = .ok (.putfield 15, 3) := by decide +kernel
theorem d6_82 : decode prog_17_method_3_code 82 = .ok (.lload_n 3, 1) := by decide +kernel
theorem d6_83 : decode prog_17_method_3_code 83 = .ok (.l2i, 1) := by decide +kernel
theorem d6_84 : decode prog_17_method_3_code 84 = .ok (.i2b, 1) := by decide +kernel
theorem d6_85 : decode prog_17_method_3_code 85 = .ok (.bastore, 1) := by decide +kernel
theorem d6_86 : decode prog_17_method_3_code 86 = .ok (.return_, 1) := by decide +kernel
theorem pn6 : plainFor (⟨"com/example/dirichlet/dirichlet/index/ByteSink", "writeNumber", "(J)V"⟩ : MethodName) = true := plainFor_of_name (by first | (simp [plainName, overriddenIn]; done) | decide +kernel)
theorem pd6 : parseMethodDescriptor (⟨"com/example/dirichlet/dirichlet/index/ByteSink", "writeNumber", "(J)V"⟩ : MethodName).desc = some ⟨[.long], none⟩ := by decide +kernel
theorem ef_wr1 (m : MethodId) (n0 : Nat) (pN : Nat) (pz : Nat) (pM : Nat) (pn : Nat) (pl : Nat) (pe : Nat) : entryFrame m #[.ref (n0 + 0), .long (Int64.ofNat pn)] 5 = mkF m 0 #[.val (.ref (n0 + 0)), .val (.long (Int64.ofNat pn)), .second, .unset, .unset] [] := by first | (simp [entryFrame, mkF, argsToLocals, Value.category]; done) | rfl
def Q_wr1 (Z : State) (n0 : Nat) (o0 : Jvm.Cell) (kk : ClassId) (pA : List Int32) (pN : Nat) (pz : Nat) (pM : Nat) (pn : Nat) (pl : Nat) (pe : Nat) (v : Option Value) (h : Heap) (L : List Loc) : Prop := v = none ∧ Fr n0 L ∧ ((¬ pN < pz + 10 ∧ ∃ A1 : List Int32, A1.length = pN ∧ own_B A1 ∧ own_W pA pz A1 (own_bytes 8 pn) ∧ ∃ o1 : Jvm.Cell, ObjF Z o1 "com/example/dirichlet/dirichlet/index/ByteSink" fl_C0 [.ref (n0 + 1), .int (Int32.ofNat pe)] ∧ HP n0 h [o1, AC kk (List.map Value.int A1)]) ∨ (pN < pz + 10 ∧ ∃ kB : ClassId, IsA Z kB .byte ∧ ∃ A1 : List Int32, A1.length = pM ∧ own_B A1 ∧ own_W pA pz A1 (own_bytes 8 pn) ∧ ∃ o1 : Jvm.Cell, ObjF Z o1 "com/example/dirichlet/dirichlet/index/ByteSink" fl_C0 [.ref (n0 + 2), .int (Int32.ofNat pe)] ∧ HP n0 h [o1, AC kk (List.map Value.int pA), AC kB (List.map Value.int A1)]))
set_option maxRecDepth 65536 in
set_option maxHeartbeats 40000000 in
theorem rm_wr1 (l : Launch) (Z : State) (a0 : Array Value) (hw : ∀ d ∈ tables_1, d.before a0 Z = true) (ws : List Jvm.Cond) (n0 : Nat) (o0 : Jvm.Cell) (kk : ClassId) (pA : List Int32) (pN : Nat) (pz : Nat) (pM : Nat) (pn : Nat) (pl : Nat) (pe : Nat) (h0 : Heap) (P0 : HP n0 h0 [o0, AC kk (List.map Value.int pA)]) (hkk : IsA Z kk .byte) (hpA : pA.length = pN) (Fo0 : ObjF Z o0 "com/example/dirichlet/dirichlet/index/ByteSink" fl_C0 [.ref (n0 + 1), .int (Int32.ofNat pz)]) (hB : own_B pA) (hpz : pz ≤ 9) (hpzN : pz ≤ pN) (hpN : pN ≤ 18) (hM1 : 2 * pN ≤ pM) (hM2 : pz + 10 ≤ pM) (hM3 : pM = 2 * pN ∨ pM = pz + 10) (hpn : pn < 9223372036854775808) (hpl : (own_bytes 8 pn).length = pl) (hpl9 : pl ≤ 9) (hpe : pz + pl = pe) :
    MetFree l (⟨"com/example/dirichlet/dirichlet/index/ByteSink", "writeNumber", "(J)V"⟩ : MethodName) (head1 (Jvm.Cond.code (⟨"com/example/dirichlet/dirichlet/index/ByteSink", "writeNumber", "(J)V"⟩ : MethodName) prog_17_method_3_code 5 none :: ws) ({ frames := 3, cells := 1, slots := 36, locals := 48 } : Room)) (fun aa U => aa = #[.ref (n0 + 0), .long (Int64.ofNat pn)] ∧ Z.Warmed39 U.vm ∧ U.heap = h0) (fun _ _ _ _ _ => True) (fun _ U o U' => ∃ v L, o = .returned v ∧ Q_wr1 Z n0 o0 kk pA pN pz pM pn pl pe v U'.heap L ∧ FrameEnd U o U' L ({ frames := 3, cells := 1, slots := 36, locals := 48 } : Room).cells ({ frames := 3, cells := 1, slots := 36, locals := 48 } : Room).slots) := by
  refine own_body pn6 ?_
  intro p e s m below meth c T0 hx hby hml hret hlk hown hnm hZ X0 e0
  subst e0
  have N0 : Fr n0 [] := Fr.nil n0
  refine own_cast (ef_wr1 m n0 pN pz pM pn pl pe) ?_
  refine w_lloadN X0 hx (hb hby d6_0) rfl (pc' := 1) rfl ?_
  refine w_lconst (v := (0 : Int64)) X0 hx (hb hby d6_1) rfl (pc' := 2) rfl ?_
  refine w_lcmp_ge X0 hx (hb hby d6_2) rfl (hb hby d6_3) (by decide) (pcY := 20) (by decide) (pc' := 6) rfl (fun h0 => ?_) (fun h0 => absurd ((own_jlt (a := pn) (b := 0) (c := 0) rfl (by omega) (by decide)).mp h0) (by omega))
  refine w_aloadN X0 hx (hb hby d6_20) rfl rfl (pc' := 21) rfl ?_
  refine w_bipush (v := (10 : Int32)) X0 hx (hb hby d6_21) rfl (pc' := 23) rfl ?_
  refine own_callPr (W := 0) X0 hx hZ rfl hown hml.symm (wd43 hw) (wd16 hw) rfl (wd45 hw) (wd44 hw) (wd3 hw) (wd46 hw) (rm_ens1 l Z a0 hw [] n0 o0 kk pA pN pz pM _ P0 hkk hpA Fo0 hB hpz hpN hM1 hM2 hM3) (a := (n0 + 0)) (P0.exa (i := 0) rfl Fo0.1) (by decide) (by decide) (by decide) (by decide) (by decide) (argsL := [.int (10 : Int32)]) (rest := []) pd7 rfl rfl rfl (Nat.le_of_eq rfl) (hb hby d6_23) (pc' := 26) rfl ?_
  intro v1 T1 L1 X1 hq
  obtain ⟨rfl, N1, hq⟩ := hq
  replace N1 := Fr.app N0 N1
  rcases hq with ⟨hgr, P1⟩ | ⟨hgr, c1, F1, kA2, hkA2, P1⟩
  · replace P1 : HP n0 T1.heap [o0, AC kk (List.map Value.int pA)] := P1
    refine w_lloadN X1 hx (hb hby d6_26) rfl (pc' := 27) rfl ?_
    refine w_lstoreN (l' := #[.val (.ref (n0 + 0)), .val (.long (Int64.ofNat pn)), .second, .val (.long (Int64.ofNat pn)), .second]) X1 hx (hb hby d6_27) rfl (pc' := 28) rfl ?_
    refine w_lloadN X1 hx (hb hby d6_28) rfl (pc' := 29) rfl ?_
    refine w_ldc2 X1 hx (hb hby d6_29) hown (mvT hZ (wd48 hw)) (pc' := 32) rfl ?_
    refine w_lcmp_lt X1 hx (hb hby d6_32) rfl (hb hby d6_33) (by decide) (pcY := 67) (by decide) (pc' := 36) rfl (fun h1 => ?_) (fun h1 => ?_)
    · refine w_aloadN X1 hx (hb hby d6_67) rfl rfl (pc' := 68) rfl ?_
      refine w_getf (i := 0) (v := .ref (n0 + 1)) X1 hx hZ hown (wd11 hw) P1 rfl Fo0 0 rfl rfl (hb hby d6_68) (pc' := 71) rfl ?_
      intro T2 X2 P2
      refine w_aloadN X2 hx (hb hby d6_71) rfl rfl (pc' := 72) rfl ?_
      refine w_dup X2 hx (hb hby d6_72) rfl (pc' := 73) rfl ?_
      refine w_getf (i := 0) (v := .int (Int32.ofNat pz)) X2 hx hZ hown (wd18 hw) P2 rfl Fo0 1 rfl rfl (hb hby d6_73) (pc' := 76) rfl ?_
      intro T3 X3 P3
      refine w_dupX1 X3 hx (hb hby d6_76) rfl rfl (pc' := 77) rfl ?_
      refine w_iconst (v := (1 : Int32)) X3 hx (hb hby d6_77) rfl (pc' := 78) rfl ?_
      refine w_iadd X3 hx (hb hby d6_78) (pc' := 79) rfl ?_
      refine w_eqI (z := (Int32.ofNat (pz + 1))) (own_oadd pz 1) ?_
      refine w_putf (i := 0) (ty := .int) X3 hx hZ hown (wd18 hw) N1 P3 rfl Fo0 (di_C0 hw) 1 rfl (Or.inl (wd19 hw)) (wd2 hw) (by decide) rfl rfl (hb hby d6_79) (pc' := 82) rfl ?_
      intro T4 L2 c3 N2 X4 P4 F3
      replace P4 : HP n0 T4.heap [c3, AC kk (List.map Value.int pA)] := P4
      replace F3 : ObjF Z c3 "com/example/dirichlet/dirichlet/index/ByteSink" fl_C0 [.ref (n0 + 1), .int (Int32.ofNat (pz + 1))] := F3
      refine w_lloadN X4 hx (hb hby d6_82) rfl (pc' := 83) rfl ?_
      refine w_l2i X4 hx (hb hby d6_83) (pc' := 84) rfl ?_
      refine w_i2b X4 hx (hb hby d6_84) (pc' := 85) rfl ?_
      refine w_bastoreEL (i := 1) (jn := pz) X4 hx hZ N2 P4 rfl hkk (hb hby d6_85) rfl (own_oN (by omega)) (own_llt hpA (by omega)) (pc' := 86) rfl ?_
      intro T5 L3 N3 X5 P5
      replace P5 : HP n0 T5.heap [c3, AC kk (List.map Value.int (pA.set pz (nar .byte (Int8.toInt32 (Int32.toInt8 (Int64.toInt32 (Int64.ofNat pn)))))))] := P5
      have eB : own_bytes 8 pn = [own_lo (pn)] := by rw [own_bS, if_pos h1]
      exact w_ret_v X5 hx hret hlk (hb hby d6_86) (by decide) (by decide) ⟨rfl, N3, Or.inl ⟨hgr, own_puts pA pz (own_bytes 8 pn), (by rw [own_pl]; exact hpA), own_Bput _ _ _ hB (own_Bb _ _), own_W1 (by rw [hpl, hpA]; omega), c3, (by rw [← hpe, ← hpl, eB]; exact F3), (by rw [eB]; exact P5)⟩⟩
    · refine w_aloadN X1 hx (hb hby d6_36) rfl rfl (pc' := 37) rfl ?_
      refine w_getf (i := 0) (v := .ref (n0 + 1)) X1 hx hZ hown (wd11 hw) P1 rfl Fo0 0 rfl rfl (hb hby d6_37) (pc' := 40) rfl ?_
      intro T6 X6 P6
      refine w_aloadN X6 hx (hb hby d6_40) rfl rfl (pc' := 41) rfl ?_
      refine w_dup X6 hx (hb hby d6_41) rfl (pc' := 42) rfl ?_
      refine w_getf (i := 0) (v := .int (Int32.ofNat pz)) X6 hx hZ hown (wd18 hw) P6 rfl Fo0 1 rfl rfl (hb hby d6_42) (pc' := 45) rfl ?_
      intro T7 X7 P7
      refine w_dupX1 X7 hx (hb hby d6_45) rfl rfl (pc' := 46) rfl ?_
      refine w_iconst (v := (1 : Int32)) X7 hx (hb hby d6_46) rfl (pc' := 47) rfl ?_
      refine w_iadd X7 hx (hb hby d6_47) (pc' := 48) rfl ?_
      refine w_eqI (z := (Int32.ofNat (pz + 1))) (own_oadd pz 1) ?_
      refine w_putf (i := 0) (ty := .int) X7 hx hZ hown (wd18 hw) N1 P7 rfl Fo0 (di_C0 hw) 1 rfl (Or.inl (wd19 hw)) (wd2 hw) (by decide) rfl rfl (hb hby d6_48) (pc' := 51) rfl ?_
      intro T8 L4 c4 N4 X8 P8 F4
      replace P8 : HP n0 T8.heap [c4, AC kk (List.map Value.int pA)] := P8
      replace F4 : ObjF Z c4 "com/example/dirichlet/dirichlet/index/ByteSink" fl_C0 [.ref (n0 + 1), .int (Int32.ofNat (pz + 1))] := F4
      refine w_lloadN X8 hx (hb hby d6_51) rfl (pc' := 52) rfl ?_
      refine w_ldc2 X8 hx (hb hby d6_52) hown (mvT hZ (wd48 hw)) (pc' := 55) rfl ?_
      refine w_lor X8 hx (hb hby d6_55) (pc' := 56) rfl ?_
      refine w_l2i X8 hx (hb hby d6_56) (pc' := 57) rfl ?_
      refine w_i2b X8 hx (hb hby d6_57) (pc' := 58) rfl ?_
      refine w_bastoreEL (i := 1) (jn := pz) X8 hx hZ N4 P8 rfl hkk (hb hby d6_58) rfl (own_oN (by omega)) (own_llt hpA (by omega)) (pc' := 59) rfl ?_
      intro T9 L5 N5 X9 P9
      replace P9 : HP n0 T9.heap [c4, AC kk (List.map Value.int (pA.set pz (nar .byte (Int8.toInt32 (Int32.toInt8 (Int64.toInt32 ((Int64.ofNat pn) ||| (128 : Int64))))))))] := P9
      refine w_lloadN X9 hx (hb hby d6_59) rfl (pc' := 60) rfl ?_
      refine w_bipush (v := (7 : Int32)) X9 hx (hb hby d6_60) rfl (pc' := 62) rfl ?_
      refine w_lushr X9 hx (hb hby d6_62) (pc' := 63) rfl ?_
      refine w_eqJ (z := (Int64.ofNat (pn / 128))) (own_jshr (by omega)) ?_
      refine w_lstoreN (l' := #[.val (.ref (n0 + 0)), .val (.long (Int64.ofNat pn)), .second, .val (.long (Int64.ofNat (pn / 128))), .second]) X9 hx (hb hby d6_63) rfl (pc' := 64) rfl ?_
      refine w_goto X9 hx (hb hby d6_64) (by decide) (pc' := 28) (by decide) ?_
      refine w_lloadN X9 hx (hb hby d6_28) rfl (pc' := 29) rfl ?_
      refine w_ldc2 X9 hx (hb hby d6_29) hown (mvT hZ (wd48 hw)) (pc' := 32) rfl ?_
      refine w_lcmp_lt X9 hx (hb hby d6_32) rfl (hb hby d6_33) (by decide) (pcY := 67) (by decide) (pc' := 36) rfl (fun h2 => ?_) (fun h2 => ?_)
      · refine w_aloadN X9 hx (hb hby d6_67) rfl rfl (pc' := 68) rfl ?_
        refine w_getf (i := 0) (v := .ref (n0 + 1)) X9 hx hZ hown (wd11 hw) P9 rfl F4 0 rfl rfl (hb hby d6_68) (pc' := 71) rfl ?_
        intro T10 X10 P10
        refine w_aloadN X10 hx (hb hby d6_71) rfl rfl (pc' := 72) rfl ?_
        refine w_dup X10 hx (hb hby d6_72) rfl (pc' := 73) rfl ?_
        refine w_getf (i := 0) (v := .int (Int32.ofNat (pz + 1))) X10 hx hZ hown (wd18 hw) P10 rfl F4 1 rfl rfl (hb hby d6_73) (pc' := 76) rfl ?_
        intro T11 X11 P11
        refine w_dupX1 X11 hx (hb hby d6_76) rfl rfl (pc' := 77) rfl ?_
        refine w_iconst (v := (1 : Int32)) X11 hx (hb hby d6_77) rfl (pc' := 78) rfl ?_
        refine w_iadd X11 hx (hb hby d6_78) (pc' := 79) rfl ?_
        refine w_eqI (z := (Int32.ofNat ((pz + 1) + 1))) (own_oadd (pz + 1) 1) ?_
        refine w_putf (i := 0) (ty := .int) X11 hx hZ hown (wd18 hw) N5 P11 rfl F4 (di_C0 hw) 1 rfl (Or.inl (wd19 hw)) (wd2 hw) (by decide) rfl rfl (hb hby d6_79) (pc' := 82) rfl ?_
        intro T12 L6 c5 N6 X12 P12 F5
        replace P12 : HP n0 T12.heap [c5, AC kk (List.map Value.int (pA.set pz (nar .byte (Int8.toInt32 (Int32.toInt8 (Int64.toInt32 ((Int64.ofNat pn) ||| (128 : Int64))))))))] := P12
        replace F5 : ObjF Z c5 "com/example/dirichlet/dirichlet/index/ByteSink" fl_C0 [.ref (n0 + 1), .int (Int32.ofNat ((pz + 1) + 1))] := F5
        refine w_lloadN X12 hx (hb hby d6_82) rfl (pc' := 83) rfl ?_
        refine w_l2i X12 hx (hb hby d6_83) (pc' := 84) rfl ?_
        refine w_i2b X12 hx (hb hby d6_84) (pc' := 85) rfl ?_
        refine w_bastoreEL (i := 1) (jn := (pz + 1)) X12 hx hZ N6 P12 rfl hkk (hb hby d6_85) rfl (own_oN (by omega)) (own_llt (own_sl hpA) (by omega)) (pc' := 86) rfl ?_
        intro T13 L7 N7 X13 P13
        replace P13 : HP n0 T13.heap [c5, AC kk (List.map Value.int ((pA.set pz (nar .byte (Int8.toInt32 (Int32.toInt8 (Int64.toInt32 ((Int64.ofNat pn) ||| (128 : Int64))))))).set (pz + 1) (nar .byte (Int8.toInt32 (Int32.toInt8 (Int64.toInt32 (Int64.ofNat (pn / 128))))))))] := P13
        have eB : own_bytes 8 pn = [own_hi (pn), own_lo (pn / 128)] := by rw [own_bS, if_neg h1, own_bS, if_pos h2]
        exact w_ret_v X13 hx hret hlk (hb hby d6_86) (by decide) (by decide) ⟨rfl, N7, Or.inl ⟨hgr, own_puts pA pz (own_bytes 8 pn), (by rw [own_pl]; exact hpA), own_Bput _ _ _ hB (own_Bb _ _), own_W1 (by rw [hpl, hpA]; omega), c5, (by rw [← hpe, ← hpl, eB]; exact F5), (by rw [eB]; exact P13)⟩⟩
      · refine w_aloadN X9 hx (hb hby d6_36) rfl rfl (pc' := 37) rfl ?_
        refine w_getf (i := 0) (v := .ref (n0 + 1)) X9 hx hZ hown (wd11 hw) P9 rfl F4 0 rfl rfl (hb hby d6_37) (pc' := 40) rfl ?_
        intro T14 X14 P14
        refine w_aloadN X14 hx (hb hby d6_40) rfl rfl (pc' := 41) rfl ?_
        refine w_dup X14 hx (hb hby d6_41) rfl (pc' := 42) rfl ?_
        refine w_getf (i := 0) (v := .int (Int32.ofNat (pz + 1))) X14 hx hZ hown (wd18 hw) P14 rfl F4 1 rfl rfl (hb hby d6_42) (pc' := 45) rfl ?_
        intro T15 X15 P15
        refine w_dupX1 X15 hx (hb hby d6_45) rfl rfl (pc' := 46) rfl ?_
        refine w_iconst (v := (1 : Int32)) X15 hx (hb hby d6_46) rfl (pc' := 47) rfl ?_
        refine w_iadd X15 hx (hb hby d6_47) (pc' := 48) rfl ?_
        refine w_eqI (z := (Int32.ofNat ((pz + 1) + 1))) (own_oadd (pz + 1) 1) ?_
        refine w_putf (i := 0) (ty := .int) X15 hx hZ hown (wd18 hw) N5 P15 rfl F4 (di_C0 hw) 1 rfl (Or.inl (wd19 hw)) (wd2 hw) (by decide) rfl rfl (hb hby d6_48) (pc' := 51) rfl ?_
        intro T16 L8 c6 N8 X16 P16 F6
        replace P16 : HP n0 T16.heap [c6, AC kk (List.map Value.int (pA.set pz (nar .byte (Int8.toInt32 (Int32.toInt8 (Int64.toInt32 ((Int64.ofNat pn) ||| (128 : Int64))))))))] := P16
        replace F6 : ObjF Z c6 "com/example/dirichlet/dirichlet/index/ByteSink" fl_C0 [.ref (n0 + 1), .int (Int32.ofNat ((pz + 1) + 1))] := F6
        refine w_lloadN X16 hx (hb hby d6_51) rfl (pc' := 52) rfl ?_
        refine w_ldc2 X16 hx (hb hby d6_52) hown (mvT hZ (wd48 hw)) (pc' := 55) rfl ?_
        refine w_lor X16 hx (hb hby d6_55) (pc' := 56) rfl ?_
        refine w_l2i X16 hx (hb hby d6_56) (pc' := 57) rfl ?_
        refine w_i2b X16 hx (hb hby d6_57) (pc' := 58) rfl ?_
        refine w_bastoreEL (i := 1) (jn := (pz + 1)) X16 hx hZ N8 P16 rfl hkk (hb hby d6_58) rfl (own_oN (by omega)) (own_llt (own_sl hpA) (by omega)) (pc' := 59) rfl ?_
        intro T17 L9 N9 X17 P17
        replace P17 : HP n0 T17.heap [c6, AC kk (List.map Value.int ((pA.set pz (nar .byte (Int8.toInt32 (Int32.toInt8 (Int64.toInt32 ((Int64.ofNat pn) ||| (128 : Int64))))))).set (pz + 1) (nar .byte (Int8.toInt32 (Int32.toInt8 (Int64.toInt32 ((Int64.ofNat (pn / 128)) ||| (128 : Int64))))))))] := P17
        refine w_lloadN X17 hx (hb hby d6_59) rfl (pc' := 60) rfl ?_
        refine w_bipush (v := (7 : Int32)) X17 hx (hb hby d6_60) rfl (pc' := 62) rfl ?_
        refine w_lushr X17 hx (hb hby d6_62) (pc' := 63) rfl ?_
        refine w_eqJ (z := (Int64.ofNat (pn / 128 / 128))) (own_jshr (by omega)) ?_
        refine w_lstoreN (l' := #[.val (.ref (n0 + 0)), .val (.long (Int64.ofNat pn)), .second, .val (.long (Int64.ofNat (pn / 128 / 128))), .second]) X17 hx (hb hby d6_63) rfl (pc' := 64) rfl ?_
        refine w_goto X17 hx (hb hby d6_64) (by decide) (pc' := 28) (by decide) ?_
        refine w_lloadN X17 hx (hb hby d6_28) rfl (pc' := 29) rfl ?_
        refine w_ldc2 X17 hx (hb hby d6_29) hown (mvT hZ (wd48 hw)) (pc' := 32) rfl ?_
        refine w_lcmp_lt X17 hx (hb hby d6_32) rfl (hb hby d6_33) (by decide) (pcY := 67) (by decide) (pc' := 36) rfl (fun h3 => ?_) (fun h3 => ?_)
        · refine w_aloadN X17 hx (hb hby d6_67) rfl rfl (pc' := 68) rfl ?_
          refine w_getf (i := 0) (v := .ref (n0 + 1)) X17 hx hZ hown (wd11 hw) P17 rfl F6 0 rfl rfl (hb hby d6_68) (pc' := 71) rfl ?_
          intro T18 X18 P18
          refine w_aloadN X18 hx (hb hby d6_71) rfl rfl (pc' := 72) rfl ?_
          refine w_dup X18 hx (hb hby d6_72) rfl (pc' := 73) rfl ?_
          refine w_getf (i := 0) (v := .int (Int32.ofNat ((pz + 1) + 1))) X18 hx hZ hown (wd18 hw) P18 rfl F6 1 rfl rfl (hb hby d6_73) (pc' := 76) rfl ?_
          intro T19 X19 P19
          refine w_dupX1 X19 hx (hb hby d6_76) rfl rfl (pc' := 77) rfl ?_
          refine w_iconst (v := (1 : Int32)) X19 hx (hb hby d6_77) rfl (pc' := 78) rfl ?_
          refine w_iadd X19 hx (hb hby d6_78) (pc' := 79) rfl ?_
          refine w_eqI (z := (Int32.ofNat (((pz + 1) + 1) + 1))) (own_oadd ((pz + 1) + 1) 1) ?_
          refine w_putf (i := 0) (ty := .int) X19 hx hZ hown (wd18 hw) N9 P19 rfl F6 (di_C0 hw) 1 rfl (Or.inl (wd19 hw)) (wd2 hw) (by decide) rfl rfl (hb hby d6_79) (pc' := 82) rfl ?_
          intro T20 L10 c7 N10 X20 P20 F7
          replace P20 : HP n0 T20.heap [c7, AC kk (List.map Value.int ((pA.set pz (nar .byte (Int8.toInt32 (Int32.toInt8 (Int64.toInt32 ((Int64.ofNat pn) ||| (128 : Int64))))))).set (pz + 1) (nar .byte (Int8.toInt32 (Int32.toInt8 (Int64.toInt32 ((Int64.ofNat (pn / 128)) ||| (128 : Int64))))))))] := P20
          replace F7 : ObjF Z c7 "com/example/dirichlet/dirichlet/index/ByteSink" fl_C0 [.ref (n0 + 1), .int (Int32.ofNat (((pz + 1) + 1) + 1))] := F7
          refine w_lloadN X20 hx (hb hby d6_82) rfl (pc' := 83) rfl ?_
          refine w_l2i X20 hx (hb hby d6_83) (pc' := 84) rfl ?_
          refine w_i2b X20 hx (hb hby d6_84) (pc' := 85) rfl ?_
          refine w_bastoreEL (i := 1) (jn := ((pz + 1) + 1)) X20 hx hZ N10 P20 rfl hkk (hb hby d6_85) rfl (own_oN (by omega)) (own_llt (own_sl (own_sl hpA)) (by omega)) (pc' := 86) rfl ?_
          intro T21 L11 N11 X21 P21
          replace P21 : HP n0 T21.heap [c7, AC kk (List.map Value.int (((pA.set pz (nar .byte (Int8.toInt32 (Int32.toInt8 (Int64.toInt32 ((Int64.ofNat pn) ||| (128 : Int64))))))).set (pz + 1) (nar .byte (Int8.toInt32 (Int32.toInt8 (Int64.toInt32 ((Int64.ofNat (pn / 128)) ||| (128 : Int64))))))).set ((pz + 1) + 1) (nar .byte (Int8.toInt32 (Int32.toInt8 (Int64.toInt32 (Int64.ofNat (pn / 128 / 128))))))))] := P21
          have eB : own_bytes 8 pn = [own_hi (pn), own_hi (pn / 128), own_lo (pn / 128 / 128)] := by rw [own_bS, if_neg h1, own_bS, if_neg h2, own_bS, if_pos h3]
          exact w_ret_v X21 hx hret hlk (hb hby d6_86) (by decide) (by decide) ⟨rfl, N11, Or.inl ⟨hgr, own_puts pA pz (own_bytes 8 pn), (by rw [own_pl]; exact hpA), own_Bput _ _ _ hB (own_Bb _ _), own_W1 (by rw [hpl, hpA]; omega), c7, (by rw [← hpe, ← hpl, eB]; exact F7), (by rw [eB]; exact P21)⟩⟩
        · refine w_aloadN X17 hx (hb hby d6_36) rfl rfl (pc' := 37) rfl ?_
          refine w_getf (i := 0) (v := .ref (n0 + 1)) X17 hx hZ hown (wd11 hw) P17 rfl F6 0 rfl rfl (hb hby d6_37) (pc' := 40) rfl ?_
          intro T22 X22 P22
          refine w_aloadN X22 hx (hb hby d6_40) rfl rfl (pc' := 41) rfl ?_
          refine w_dup X22 hx (hb hby d6_41) rfl (pc' := 42) rfl ?_
          refine w_getf (i := 0) (v := .int (Int32.ofNat ((pz + 1) + 1))) X22 hx hZ hown (wd18 hw) P22 rfl F6 1 rfl rfl (hb hby d6_42) (pc' := 45) rfl ?_
          intro T23 X23 P23
          refine w_dupX1 X23 hx (hb hby d6_45) rfl rfl (pc' := 46) rfl ?_
          refine w_iconst (v := (1 : Int32)) X23 hx (hb hby d6_46) rfl (pc' := 47) rfl ?_
          refine w_iadd X23 hx (hb hby d6_47) (pc' := 48) rfl ?_
          refine w_eqI (z := (Int32.ofNat (((pz + 1) + 1) + 1))) (own_oadd ((pz + 1) + 1) 1) ?_
          refine w_putf (i := 0) (ty := .int) X23 hx hZ hown (wd18 hw) N9 P23 rfl F6 (di_C0 hw) 1 rfl (Or.inl (wd19 hw)) (wd2 hw) (by decide) rfl rfl (hb hby d6_48) (pc' := 51) rfl ?_
          intro T24 L12 c8 N12 X24 P24 F8
          replace P24 : HP n0 T24.heap [c8, AC kk (List.map Value.int ((pA.set pz (nar .byte (Int8.toInt32 (Int32.toInt8 (Int64.toInt32 ((Int64.ofNat pn) ||| (128 : Int64))))))).set (pz + 1) (nar .byte (Int8.toInt32 (Int32.toInt8 (Int64.toInt32 ((Int64.ofNat (pn / 128)) ||| (128 : Int64))))))))] := P24
          replace F8 : ObjF Z c8 "com/example/dirichlet/dirichlet/index/ByteSink" fl_C0 [.ref (n0 + 1), .int (Int32.ofNat (((pz + 1) + 1) + 1))] := F8
          refine w_lloadN X24 hx (hb hby d6_51) rfl (pc' := 52) rfl ?_
          refine w_ldc2 X24 hx (hb hby d6_52) hown (mvT hZ (wd48 hw)) (pc' := 55) rfl ?_
          refine w_lor X24 hx (hb hby d6_55) (pc' := 56) rfl ?_
          refine w_l2i X24 hx (hb hby d6_56) (pc' := 57) rfl ?_
          refine w_i2b X24 hx (hb hby d6_57) (pc' := 58) rfl ?_
          refine w_bastoreEL (i := 1) (jn := ((pz + 1) + 1)) X24 hx hZ N12 P24 rfl hkk (hb hby d6_58) rfl (own_oN (by omega)) (own_llt (own_sl (own_sl hpA)) (by omega)) (pc' := 59) rfl ?_
          intro T25 L13 N13 X25 P25
          replace P25 : HP n0 T25.heap [c8, AC kk (List.map Value.int (((pA.set pz (nar .byte (Int8.toInt32 (Int32.toInt8 (Int64.toInt32 ((Int64.ofNat pn) ||| (128 : Int64))))))).set (pz + 1) (nar .byte (Int8.toInt32 (Int32.toInt8 (Int64.toInt32 ((Int64.ofNat (pn / 128)) ||| (128 : Int64))))))).set ((pz + 1) + 1) (nar .byte (Int8.toInt32 (Int32.toInt8 (Int64.toInt32 ((Int64.ofNat (pn / 128 / 128)) ||| (128 : Int64))))))))] := P25
          refine w_lloadN X25 hx (hb hby d6_59) rfl (pc' := 60) rfl ?_
          refine w_bipush (v := (7 : Int32)) X25 hx (hb hby d6_60) rfl (pc' := 62) rfl ?_
          refine w_lushr X25 hx (hb hby d6_62) (pc' := 63) rfl ?_
          refine w_eqJ (z := (Int64.ofNat (pn / 128 / 128 / 128))) (own_jshr (by omega)) ?_
          refine w_lstoreN (l' := #[.val (.ref (n0 + 0)), .val (.long (Int64.ofNat pn)), .second, .val (.long (Int64.ofNat (pn / 128 / 128 / 128))), .second]) X25 hx (hb hby d6_63) rfl (pc' := 64) rfl ?_
          refine w_goto X25 hx (hb hby d6_64) (by decide) (pc' := 28) (by decide) ?_
          refine w_lloadN X25 hx (hb hby d6_28) rfl (pc' := 29) rfl ?_
          refine w_ldc2 X25 hx (hb hby d6_29) hown (mvT hZ (wd48 hw)) (pc' := 32) rfl ?_
          refine w_lcmp_lt X25 hx (hb hby d6_32) rfl (hb hby d6_33) (by decide) (pcY := 67) (by decide) (pc' := 36) rfl (fun h4 => ?_) (fun h4 => ?_)
          · refine w_aloadN X25 hx (hb hby d6_67) rfl rfl (pc' := 68) rfl ?_
            refine w_getf (i := 0) (v := .ref (n0 + 1)) X25 hx hZ hown (wd11 hw) P25 rfl F8 0 rfl rfl (hb hby d6_68) (pc' := 71) rfl ?_
            intro T26 X26 P26
            refine w_aloadN X26 hx (hb hby d6_71) rfl rfl (pc' := 72) rfl ?_
            refine w_dup X26 hx (hb hby d6_72) rfl (pc' := 73) rfl ?_
            refine w_getf (i := 0) (v := .int (Int32.ofNat (((pz + 1) + 1) + 1))) X26 hx hZ hown (wd18 hw) P26 rfl F8 1 rfl rfl (hb hby d6_73) (pc' := 76) rfl ?_
            intro T27 X27 P27
            refine w_dupX1 X27 hx (hb hby d6_76) rfl rfl (pc' := 77) rfl ?_
            refine w_iconst (v := (1 : Int32)) X27 hx (hb hby d6_77) rfl (pc' := 78) rfl ?_
            refine w_iadd X27 hx (hb hby d6_78) (pc' := 79) rfl ?_
            refine w_eqI (z := (Int32.ofNat ((((pz + 1) + 1) + 1) + 1))) (own_oadd (((pz + 1) + 1) + 1) 1) ?_
            refine w_putf (i := 0) (ty := .int) X27 hx hZ hown (wd18 hw) N13 P27 rfl F8 (di_C0 hw) 1 rfl (Or.inl (wd19 hw)) (wd2 hw) (by decide) rfl rfl (hb hby d6_79) (pc' := 82) rfl ?_
            intro T28 L14 c9 N14 X28 P28 F9
            replace P28 : HP n0 T28.heap [c9, AC kk (List.map Value.int (((pA.set pz (nar .byte (Int8.toInt32 (Int32.toInt8 (Int64.toInt32 ((Int64.ofNat pn) ||| (128 : Int64))))))).set (pz + 1) (nar .byte (Int8.toInt32 (Int32.toInt8 (Int64.toInt32 ((Int64.ofNat (pn / 128)) ||| (128 : Int64))))))).set ((pz + 1) + 1) (nar .byte (Int8.toInt32 (Int32.toInt8 (Int64.toInt32 ((Int64.ofNat (pn / 128 / 128)) ||| (128 : Int64))))))))] := P28
            replace F9 : ObjF Z c9 "com/example/dirichlet/dirichlet/index/ByteSink" fl_C0 [.ref (n0 + 1), .int (Int32.ofNat ((((pz + 1) + 1) + 1) + 1))] := F9
            refine w_lloadN X28 hx (hb hby d6_82) rfl (pc' := 83) rfl ?_
            refine w_l2i X28 hx (hb hby d6_83) (pc' := 84) rfl ?_
            refine w_i2b X28 hx (hb hby d6_84) (pc' := 85) rfl ?_
            refine w_bastoreEL (i := 1) (jn := (((pz + 1) + 1) + 1)) X28 hx hZ N14 P28 rfl hkk (hb hby d6_85) rfl (own_oN (by omega)) (own_llt (own_sl (own_sl (own_sl hpA))) (by omega)) (pc' := 86) rfl ?_
            intro T29 L15 N15 X29 P29
            replace P29 : HP n0 T29.heap [c9, AC kk (List.map Value.int ((((pA.set pz (nar .byte (Int8.toInt32 (Int32.toInt8 (Int64.toInt32 ((Int64.ofNat pn) ||| (128 : Int64))))))).set (pz + 1) (nar .byte (Int8.toInt32 (Int32.toInt8 (Int64.toInt32 ((Int64.ofNat (pn / 128)) ||| (128 : Int64))))))).set ((pz + 1) + 1) (nar .byte (Int8.toInt32 (Int32.toInt8 (Int64.toInt32 ((Int64.ofNat (pn / 128 / 128)) ||| (128 : Int64))))))).set (((pz + 1) + 1) + 1) (nar .byte (Int8.toInt32 (Int32.toInt8 (Int64.toInt32 (Int64.ofNat (pn / 128 / 128 / 128))))))))] := P29
            have eB : own_bytes 8 pn = [own_hi (pn), own_hi (pn / 128), own_hi (pn / 128 / 128), own_lo (pn / 128 / 128 / 128)] := by rw [own_bS, if_neg h1, own_bS, if_neg h2, own_bS, if_neg h3, own_bS, if_pos h4]
            exact w_ret_v X29 hx hret hlk (hb hby d6_86) (by decide) (by decide) ⟨rfl, N15, Or.inl ⟨hgr, own_puts pA pz (own_bytes 8 pn), (by rw [own_pl]; exact hpA), own_Bput _ _ _ hB (own_Bb _ _), own_W1 (by rw [hpl, hpA]; omega), c9, (by rw [← hpe, ← hpl, eB]; exact F9), (by rw [eB]; exact P29)⟩⟩
          · refine w_aloadN X25 hx (hb hby d6_36) rfl rfl (pc' := 37) rfl ?_
            refine w_getf (i := 0) (v := .ref (n0 + 1)) X25 hx hZ hown (wd11 hw) P25 rfl F8 0 rfl rfl (hb hby d6_37) (pc' := 40) rfl ?_
            intro T30 X30 P30
            refine w_aloadN X30 hx (hb hby d6_40) rfl rfl (pc' := 41) rfl ?_
            refine w_dup X30 hx (hb hby d6_41) rfl (pc' := 42) rfl ?_
            refine w_getf (i := 0) (v := .int (Int32.ofNat (((pz + 1) + 1) + 1))) X30 hx hZ hown (wd18 hw) P30 rfl F8 1 rfl rfl (hb hby d6_42) (pc' := 45) rfl ?_
            intro T31 X31 P31
            refine w_dupX1 X31 hx (hb hby d6_45) rfl rfl (pc' := 46) rfl ?_
            refine w_iconst (v := (1 : Int32)) X31 hx (hb hby d6_46) rfl (pc' := 47) rfl ?_
            refine w_iadd X31 hx (hb hby d6_47) (pc' := 48) rfl ?_
            refine w_eqI (z := (Int32.ofNat ((((pz + 1) + 1) + 1) + 1))) (own_oadd (((pz + 1) + 1) + 1) 1) ?_
            refine w_putf (i := 0) (ty := .int) X31 hx hZ hown (wd18 hw) N13 P31 rfl F8 (di_C0 hw) 1 rfl (Or.inl (wd19 hw)) (wd2 hw) (by decide) rfl rfl (hb hby d6_48) (pc' := 51) rfl ?_
            intro T32 L16 c10 N16 X32 P32 F10
            replace P32 : HP n0 T32.heap [c10, AC kk (List.map Value.int (((pA.set pz (nar .byte (Int8.toInt32 (Int32.toInt8 (Int64.toInt32 ((Int64.ofNat pn) ||| (128 : Int64))))))).set (pz + 1) (nar .byte (Int8.toInt32 (Int32.toInt8 (Int64.toInt32 ((Int64.ofNat (pn / 128)) ||| (128 : Int64))))))).set ((pz + 1) + 1) (nar .byte (Int8.toInt32 (Int32.toInt8 (Int64.toInt32 ((Int64.ofNat (pn / 128 / 128)) ||| (128 : Int64))))))))] := P32
            replace F10 : ObjF Z c10 "com/example/dirichlet/dirichlet/index/ByteSink" fl_C0 [.ref (n0 + 1), .int (Int32.ofNat ((((pz + 1) + 1) + 1) + 1))] := F10
            refine w_lloadN X32 hx (hb hby d6_51) rfl (pc' := 52) rfl ?_
            refine w_ldc2 X32 hx (hb hby d6_52) hown (mvT hZ (wd48 hw)) (pc' := 55) rfl ?_
            refine w_lor X32 hx (hb hby d6_55) (pc' := 56) rfl ?_
            refine w_l2i X32 hx (hb hby d6_56) (pc' := 57) rfl ?_
            refine w_i2b X32 hx (hb hby d6_57) (pc' := 58) rfl ?_
            refine w_bastoreEL (i := 1) (jn := (((pz + 1) + 1) + 1)) X32 hx hZ N16 P32 rfl hkk (hb hby d6_58) rfl (own_oN (by omega)) (own_llt (own_sl (own_sl (own_sl hpA))) (by omega)) (pc' := 59) rfl ?_
            intro T33 L17 N17 X33 P33
            replace P33 : HP n0 T33.heap [c10, AC kk (List.map Value.int ((((pA.set pz (nar .byte (Int8.toInt32 (Int32.toInt8 (Int64.toInt32 ((Int64.ofNat pn) ||| (128 : Int64))))))).set (pz + 1) (nar .byte (Int8.toInt32 (Int32.toInt8 (Int64.toInt32 ((Int64.ofNat (pn / 128)) ||| (128 : Int64))))))).set ((pz + 1) + 1) (nar .byte (Int8.toInt32 (Int32.toInt8 (Int64.toInt32 ((Int64.ofNat (pn / 128 / 128)) ||| (128 : Int64))))))).set (((pz + 1) + 1) + 1) (nar .byte (Int8.toInt32 (Int32.toInt8 (Int64.toInt32 ((Int64.ofNat (pn / 128 / 128 / 128)) ||| (128 : Int64))))))))] := P33
            refine w_lloadN X33 hx (hb hby d6_59) rfl (pc' := 60) rfl ?_
            refine w_bipush (v := (7 : Int32)) X33 hx (hb hby d6_60) rfl (pc' := 62) rfl ?_
            refine w_lushr X33 hx (hb hby d6_62) (pc' := 63) rfl ?_
            refine w_eqJ (z := (Int64.ofNat (pn / 128 / 128 / 128 / 128))) (own_jshr (by omega)) ?_
            refine w_lstoreN (l' := #[.val (.ref (n0 + 0)), .val (.long (Int64.ofNat pn)), .second, .val (.long (Int64.ofNat (pn / 128 / 128 / 128 / 128))), .second]) X33 hx (hb hby d6_63) rfl (pc' := 64) rfl ?_
            refine w_goto X33 hx (hb hby d6_64) (by decide) (pc' := 28) (by decide) ?_
            refine w_lloadN X33 hx (hb hby d6_28) rfl (pc' := 29) rfl ?_
            refine w_ldc2 X33 hx (hb hby d6_29) hown (mvT hZ (wd48 hw)) (pc' := 32) rfl ?_
            refine w_lcmp_lt X33 hx (hb hby d6_32) rfl (hb hby d6_33) (by decide) (pcY := 67) (by decide) (pc' := 36) rfl (fun h5 => ?_) (fun h5 => ?_)
            · refine w_aloadN X33 hx (hb hby d6_67) rfl rfl (pc' := 68) rfl ?_
              refine w_getf (i := 0) (v := .ref (n0 + 1)) X33 hx hZ hown (wd11 hw) P33 rfl F10 0 rfl rfl (hb hby d6_68) (pc' := 71) rfl ?_
              intro T34 X34 P34
              refine w_aloadN X34 hx (hb hby d6_71) rfl rfl (pc' := 72) rfl ?_
              refine w_dup X34 hx (hb hby d6_72) rfl (pc' := 73) rfl ?_
              refine w_getf (i := 0) (v := .int (Int32.ofNat ((((pz + 1) + 1) + 1) + 1))) X34 hx hZ hown (wd18 hw) P34 rfl F10 1 rfl rfl (hb hby d6_73) (pc' := 76) rfl ?_
              intro T35 X35 P35
              refine w_dupX1 X35 hx (hb hby d6_76) rfl rfl (pc' := 77) rfl ?_
              refine w_iconst (v := (1 : Int32)) X35 hx (hb hby d6_77) rfl (pc' := 78) rfl ?_
              refine w_iadd X35 hx (hb hby d6_78) (pc' := 79) rfl ?_
              refine w_eqI (z := (Int32.ofNat (((((pz + 1) + 1) + 1) + 1) + 1))) (own_oadd ((((pz + 1) + 1) + 1) + 1) 1) ?_
              refine w_putf (i := 0) (ty := .int) X35 hx hZ hown (wd18 hw) N17 P35 rfl F10 (di_C0 hw) 1 rfl (Or.inl (wd19 hw)) (wd2 hw) (by decide) rfl rfl (hb hby d6_79) (pc' := 82) rfl ?_
              intro T36 L18 c11 N18 X36 P36 F11
              replace P36 : HP n0 T36.heap [c11, AC kk (List.map Value.int ((((pA.set pz (nar .byte (Int8.toInt32 (Int32.toInt8 (Int64.toInt32 ((Int64.ofNat pn) ||| (128 : Int64))))))).set (pz + 1) (nar .byte (Int8.toInt32 (Int32.toInt8 (Int64.toInt32 ((Int64.ofNat (pn / 128)) ||| (128 : Int64))))))).set ((pz + 1) + 1) (nar .byte (Int8.toInt32 (Int32.toInt8 (Int64.toInt32 ((Int64.ofNat (pn / 128 / 128)) ||| (128 : Int64))))))).set (((pz + 1) + 1) + 1) (nar .byte (Int8.toInt32 (Int32.toInt8 (Int64.toInt32 ((Int64.ofNat (pn / 128 / 128 / 128)) ||| (128 : Int64))))))))] := P36
              replace F11 : ObjF Z c11 "com/example/dirichlet/dirichlet/index/ByteSink" fl_C0 [.ref (n0 + 1), .int (Int32.ofNat (((((pz + 1) + 1) + 1) + 1) + 1))] := F11
              refine w_lloadN X36 hx (hb hby d6_82) rfl (pc' := 83) rfl ?_
              refine w_l2i X36 hx (hb hby d6_83) (pc' := 84) rfl ?_
              refine w_i2b X36 hx (hb hby d6_84) (pc' := 85) rfl ?_
              refine w_bastoreEL (i := 1) (jn := ((((pz + 1) + 1) + 1) + 1)) X36 hx hZ N18 P36 rfl hkk (hb hby d6_85) rfl (own_oN (by omega)) (own_llt (own_sl (own_sl (own_sl (own_sl hpA)))) (by omega)) (pc' := 86) rfl ?_
              intro T37 L19 N19 X37 P37
              replace P37 : HP n0 T37.heap [c11, AC kk (List.map Value.int (((((pA.set pz (nar .byte (Int8.toInt32 (Int32.toInt8 (Int64.toInt32 ((Int64.ofNat pn) ||| (128 : Int64))))))).set (pz + 1) (nar .byte (Int8.toInt32 (Int32.toInt8 (Int64.toInt32 ((Int64.ofNat (pn / 128)) ||| (128 : Int64))))))).set ((pz + 1) + 1) (nar .byte (Int8.toInt32 (Int32.toInt8 (Int64.toInt32 ((Int64.ofNat (pn / 128 / 128)) ||| (128 : Int64))))))).set (((pz + 1) + 1) + 1) (nar .byte (Int8.toInt32 (Int32.toInt8 (Int64.toInt32 ((Int64.ofNat (pn / 128 / 128 / 128)) ||| (128 : Int64))))))).set ((((pz + 1) + 1) + 1) + 1) (nar .byte (Int8.toInt32 (Int32.toInt8 (Int64.toInt32 (Int64.ofNat (pn / 128 / 128 / 128 / 128))))))))] := P37
              have eB : own_bytes 8 pn = [own_hi (pn), own_hi (pn / 128), own_hi (pn / 128 / 128), own_hi (pn / 128 / 128 / 128), own_lo (pn / 128 / 128 / 128 / 128)] := by rw [own_bS, if_neg h1, own_bS, if_neg h2, own_bS, if_neg h3, own_bS, if_neg h4, own_bS, if_pos h5]
              exact w_ret_v X37 hx hret hlk (hb hby d6_86) (by decide) (by decide) ⟨rfl, N19, Or.inl ⟨hgr, own_puts pA pz (own_bytes 8 pn), (by rw [own_pl]; exact hpA), own_Bput _ _ _ hB (own_Bb _ _), own_W1 (by rw [hpl, hpA]; omega), c11, (by rw [← hpe, ← hpl, eB]; exact F11), (by rw [eB]; exact P37)⟩⟩
            · refine w_aloadN X33 hx (hb hby d6_36) rfl rfl (pc' := 37) rfl ?_
              refine w_getf (i := 0) (v := .ref (n0 + 1)) X33 hx hZ hown (wd11 hw) P33 rfl F10 0 rfl rfl (hb hby d6_37) (pc' := 40) rfl ?_
              intro T38 X38 P38
              refine w_aloadN X38 hx (hb hby d6_40) rfl rfl (pc' := 41) rfl ?_
              refine w_dup X38 hx (hb hby d6_41) rfl (pc' := 42) rfl ?_
              refine w_getf (i := 0) (v := .int (Int32.ofNat ((((pz + 1) + 1) + 1) + 1))) X38 hx hZ hown (wd18 hw) P38 rfl F10 1 rfl rfl (hb hby d6_42) (pc' := 45) rfl ?_
              intro T39 X39 P39
              refine w_dupX1 X39 hx (hb hby d6_45) rfl rfl (pc' := 46) rfl ?_
              refine w_iconst (v := (1 : Int32)) X39 hx (hb hby d6_46) rfl (pc' := 47) rfl ?_
              refine w_iadd X39 hx (hb hby d6_47) (pc' := 48) rfl ?_
              refine w_eqI (z := (Int32.ofNat (((((pz + 1) + 1) + 1) + 1) + 1))) (own_oadd ((((pz + 1) + 1) + 1) + 1) 1) ?_
              refine w_putf (i := 0) (ty := .int) X39 hx hZ hown (wd18 hw) N17 P39 rfl F10 (di_C0 hw) 1 rfl (Or.inl (wd19 hw)) (wd2 hw) (by decide) rfl rfl (hb hby d6_48) (pc' := 51) rfl ?_
              intro T40 L20 c12 N20 X40 P40 F12
              replace P40 : HP n0 T40.heap [c12, AC kk (List.map Value.int ((((pA.set pz (nar .byte (Int8.toInt32 (Int32.toInt8 (Int64.toInt32 ((Int64.ofNat pn) ||| (128 : Int64))))))).set (pz + 1) (nar .byte (Int8.toInt32 (Int32.toInt8 (Int64.toInt32 ((Int64.ofNat (pn / 128)) ||| (128 : Int64))))))).set ((pz + 1) + 1) (nar .byte (Int8.toInt32 (Int32.toInt8 (Int64.toInt32 ((Int64.ofNat (pn / 128 / 128)) ||| (128 : Int64))))))).set (((pz + 1) + 1) + 1) (nar .byte (Int8.toInt32 (Int32.toInt8 (Int64.toInt32 ((Int64.ofNat (pn / 128 / 128 / 128)) ||| (128 : Int64))))))))] := P40
              replace F12 : ObjF Z c12 "com/example/dirichlet/dirichlet/index/ByteSink" fl_C0 [.ref (n0 + 1), .int (Int32.ofNat (((((pz + 1) + 1) + 1) + 1) + 1))] := F12
              refine w_lloadN X40 hx (hb hby d6_51) rfl (pc' := 52) rfl ?_
              refine w_ldc2 X40 hx (hb hby d6_52) hown (mvT hZ (wd48 hw)) (pc' := 55) rfl ?_
              refine w_lor X40 hx (hb hby d6_55) (pc' := 56) rfl ?_
              refine w_l2i X40 hx (hb hby d6_56) (pc' := 57) rfl ?_
              refine w_i2b X40 hx (hb hby d6_57) (pc' := 58) rfl ?_
              refine w_bastoreEL (i := 1) (jn := ((((pz + 1) + 1) + 1) + 1)) X40 hx hZ N20 P40 rfl hkk (hb hby d6_58) rfl (own_oN (by omega)) (own_llt (own_sl (own_sl (own_sl (own_sl hpA)))) (by omega)) (pc' := 59) rfl ?_
              intro T41 L21 N21 X41 P41
              replace P41 : HP n0 T41.heap [c12, AC kk (List.map Value.int (((((pA.set pz (nar .byte (Int8.toInt32 (Int32.toInt8 (Int64.toInt32 ((Int64.ofNat pn) ||| (128 : Int64))))))).set (pz + 1) (nar .byte (Int8.toInt32 (Int32.toInt8 (Int64.toInt32 ((Int64.ofNat (pn / 128)) ||| (128 : Int64))))))).set ((pz + 1) + 1) (nar .byte (Int8.toInt32 (Int32.toInt8 (Int64.toInt32 ((Int64.ofNat (pn / 128 / 128)) ||| (128 : Int64))))))).set (((pz + 1) + 1) + 1) (nar .byte (Int8.toInt32 (Int32.toInt8 (Int64.toInt32 ((Int64.ofNat (pn / 128 / 128 / 128)) ||| (128 : Int64))))))).set ((((pz + 1) + 1) + 1) + 1) (nar .byte (Int8.toInt32 (Int32.toInt8 (Int64.toInt32 ((Int64.ofNat (pn / 128 / 128 / 128 / 128)) ||| (128 : Int64))))))))] := P41
              refine w_lloadN X41 hx (hb hby d6_59) rfl (pc' := 60) rfl ?_
              refine w_bipush (v := (7 : Int32)) X41 hx (hb hby d6_60) rfl (pc' := 62) rfl ?_
              refine w_lushr X41 hx (hb hby d6_62) (pc' := 63) rfl ?_
              refine w_eqJ (z := (Int64.ofNat (pn / 128 / 128 / 128 / 128 / 128))) (own_jshr (by omega)) ?_
              refine w_lstoreN (l' := #[.val (.ref (n0 + 0)), .val (.long (Int64.ofNat pn)), .second, .val (.long (Int64.ofNat (pn / 128 / 128 / 128 / 128 / 128))), .second]) X41 hx (hb hby d6_63) rfl (pc' := 64) rfl ?_
              refine w_goto X41 hx (hb hby d6_64) (by decide) (pc' := 28) (by decide) ?_
              refine w_lloadN X41 hx (hb hby d6_28) rfl (pc' := 29) rfl ?_
              refine w_ldc2 X41 hx (hb hby d6_29) hown (mvT hZ (wd48 hw)) (pc' := 32) rfl ?_
              refine w_lcmp_lt X41 hx (hb hby d6_32) rfl (hb hby d6_33) (by decide) (pcY := 67) (by decide) (pc' := 36) rfl (fun h6 => ?_) (fun h6 => ?_)
              · refine w_aloadN X41 hx (hb hby d6_67) rfl rfl (pc' := 68) rfl ?_
                refine w_getf (i := 0) (v := .ref (n0 + 1)) X41 hx hZ hown (wd11 hw) P41 rfl F12 0 rfl rfl (hb hby d6_68) (pc' := 71) rfl ?_
                intro T42 X42 P42
                refine w_aloadN X42 hx (hb hby d6_71) rfl rfl (pc' := 72) rfl ?_
                refine w_dup X42 hx (hb hby d6_72) rfl (pc' := 73) rfl ?_
                refine w_getf (i := 0) (v := .int (Int32.ofNat (((((pz + 1) + 1) + 1) + 1) + 1))) X42 hx hZ hown (wd18 hw) P42 rfl F12 1 rfl rfl (hb hby d6_73) (pc' := 76) rfl ?_
                intro T43 X43 P43
                refine w_dupX1 X43 hx (hb hby d6_76) rfl rfl (pc' := 77) rfl ?_
                refine w_iconst (v := (1 : Int32)) X43 hx (hb hby d6_77) rfl (pc' := 78) rfl ?_
                refine w_iadd X43 hx (hb hby d6_78) (pc' := 79) rfl ?_
                refine w_eqI (z := (Int32.ofNat ((((((pz + 1) + 1) + 1) + 1) + 1) + 1))) (own_oadd (((((pz + 1) + 1) + 1) + 1) + 1) 1) ?_
                refine w_putf (i := 0) (ty := .int) X43 hx hZ hown (wd18 hw) N21 P43 rfl F12 (di_C0 hw) 1 rfl (Or.inl (wd19 hw)) (wd2 hw) (by decide) rfl rfl (hb hby d6_79) (pc' := 82) rfl ?_
                intro T44 L22 c13 N22 X44 P44 F13
                replace P44 : HP n0 T44.heap [c13, AC kk (List.map Value.int (((((pA.set pz (nar .byte (Int8.toInt32 (Int32.toInt8 (Int64.toInt32 ((Int64.ofNat pn) ||| (128 : Int64))))))).set (pz + 1) (nar .byte (Int8.toInt32 (Int32.toInt8 (Int64.toInt32 ((Int64.ofNat (pn / 128)) ||| (128 : Int64))))))).set ((pz + 1) + 1) (nar .byte (Int8.toInt32 (Int32.toInt8 (Int64.toInt32 ((Int64.ofNat (pn / 128 / 128)) ||| (128 : Int64))))))).set (((pz + 1) + 1) + 1) (nar .byte (Int8.toInt32 (Int32.toInt8 (Int64.toInt32 ((Int64.ofNat (pn / 128 / 128 / 128)) ||| (128 : Int64))))))).set ((((pz + 1) + 1) + 1) + 1) (nar .byte (Int8.toInt32 (Int32.toInt8 (Int64.toInt32 ((Int64.ofNat (pn / 128 / 128 / 128 / 128)) ||| (128 : Int64))))))))] := P44
                replace F13 : ObjF Z c13 "com/example/dirichlet/dirichlet/index/ByteSink" fl_C0 [.ref (n0 + 1), .int (Int32.ofNat ((((((pz + 1) + 1) + 1) + 1) + 1) + 1))] := F13
                refine w_lloadN X44 hx (hb hby d6_82) rfl (pc' := 83) rfl ?_
                refine w_l2i X44 hx (hb hby d6_83) (pc' := 84) rfl ?_
                refine w_i2b X44 hx (hb hby d6_84) (pc' := 85) rfl ?_
                refine w_bastoreEL (i := 1) (jn := (((((pz + 1) + 1) + 1) + 1) + 1)) X44 hx hZ N22 P44 rfl hkk (hb hby d6_85) rfl (own_oN (by omega)) (own_llt (own_sl (own_sl (own_sl (own_sl (own_sl hpA))))) (by omega)) (pc' := 86) rfl ?_
                intro T45 L23 N23 X45 P45
                replace P45 : HP n0 T45.heap [c13, AC kk (List.map Value.int ((((((pA.set pz (nar .byte (Int8.toInt32 (Int32.toInt8 (Int64.toInt32 ((Int64.ofNat pn) ||| (128 : Int64))))))).set (pz + 1) (nar .byte (Int8.toInt32 (Int32.toInt8 (Int64.toInt32 ((Int64.ofNat (pn / 128)) ||| (128 : Int64))))))).set ((pz + 1) + 1) (nar .byte (Int8.toInt32 (Int32.toInt8 (Int64.toInt32 ((Int64.ofNat (pn / 128 / 128)) ||| (128 : Int64))))))).set (((pz + 1) + 1) + 1) (nar .byte (Int8.toInt32 (Int32.toInt8 (Int64.toInt32 ((Int64.ofNat (pn / 128 / 128 / 128)) ||| (128 : Int64))))))).set ((((pz + 1) + 1) + 1) + 1) (nar .byte (Int8.toInt32 (Int32.toInt8 (Int64.toInt32 ((Int64.ofNat (pn / 128 / 128 / 128 / 128)) ||| (128 : Int64))))))).set (((((pz + 1) + 1) + 1) + 1) + 1) (nar .byte (Int8.toInt32 (Int32.toInt8 (Int64.toInt32 (Int64.ofNat (pn / 128 / 128 / 128 / 128 / 128))))))))] := P45
                have eB : own_bytes 8 pn = [own_hi (pn), own_hi (pn / 128), own_hi (pn / 128 / 128), own_hi (pn / 128 / 128 / 128), own_hi (pn / 128 / 128 / 128 / 128), own_lo (pn / 128 / 128 / 128 / 128 / 128)] := by rw [own_bS, if_neg h1, own_bS, if_neg h2, own_bS, if_neg h3, own_bS, if_neg h4, own_bS, if_neg h5, own_bS, if_pos h6]
                exact w_ret_v X45 hx hret hlk (hb hby d6_86) (by decide) (by decide) ⟨rfl, N23, Or.inl ⟨hgr, own_puts pA pz (own_bytes 8 pn), (by rw [own_pl]; exact hpA), own_Bput _ _ _ hB (own_Bb _ _), own_W1 (by rw [hpl, hpA]; omega), c13, (by rw [← hpe, ← hpl, eB]; exact F13), (by rw [eB]; exact P45)⟩⟩
              · refine w_aloadN X41 hx (hb hby d6_36) rfl rfl (pc' := 37) rfl ?_
                refine w_getf (i := 0) (v := .ref (n0 + 1)) X41 hx hZ hown (wd11 hw) P41 rfl F12 0 rfl rfl (hb hby d6_37) (pc' := 40) rfl ?_
                intro T46 X46 P46
                refine w_aloadN X46 hx (hb hby d6_40) rfl rfl (pc' := 41) rfl ?_
                refine w_dup X46 hx (hb hby d6_41) rfl (pc' := 42) rfl ?_
                refine w_getf (i := 0) (v := .int (Int32.ofNat (((((pz + 1) + 1) + 1) + 1) + 1))) X46 hx hZ hown (wd18 hw) P46 rfl F12 1 rfl rfl (hb hby d6_42) (pc' := 45) rfl ?_
                intro T47 X47 P47
                refine w_dupX1 X47 hx (hb hby d6_45) rfl rfl (pc' := 46) rfl ?_
                refine w_iconst (v := (1 : Int32)) X47 hx (hb hby d6_46) rfl (pc' := 47) rfl ?_
                refine w_iadd X47 hx (hb hby d6_47) (pc' := 48) rfl ?_
                refine w_eqI (z := (Int32.ofNat ((((((pz + 1) + 1) + 1) + 1) + 1) + 1))) (own_oadd (((((pz + 1) + 1) + 1) + 1) + 1) 1) ?_
                refine w_putf (i := 0) (ty := .int) X47 hx hZ hown (wd18 hw) N21 P47 rfl F12 (di_C0 hw) 1 rfl (Or.inl (wd19 hw)) (wd2 hw) (by decide) rfl rfl (hb hby d6_48) (pc' := 51) rfl ?_
                intro T48 L24 c14 N24 X48 P48 F14
                replace P48 : HP n0 T48.heap [c14, AC kk (List.map Value.int (((((pA.set pz (nar .byte (Int8.toInt32 (Int32.toInt8 (Int64.toInt32 ((Int64.ofNat pn) ||| (128 : Int64))))))).set (pz + 1) (nar .byte (Int8.toInt32 (Int32.toInt8 (Int64.toInt32 ((Int64.ofNat (pn / 128)) ||| (128 : Int64))))))).set ((pz + 1) + 1) (nar .byte (Int8.toInt32 (Int32.toInt8 (Int64.toInt32 ((Int64.ofNat (pn / 128 / 128)) ||| (128 : Int64))))))).set (((pz + 1) + 1) + 1) (nar .byte (Int8.toInt32 (Int32.toInt8 (Int64.toInt32 ((Int64.ofNat (pn / 128 / 128 / 128)) ||| (128 : Int64))))))).set ((((pz + 1) + 1) + 1) + 1) (nar .byte (Int8.toInt32 (Int32.toInt8 (Int64.toInt32 ((Int64.ofNat (pn / 128 / 128 / 128 / 128)) ||| (128 : Int64))))))))] := P48
                replace F14 : ObjF Z c14 "com/example/dirichlet/dirichlet/index/ByteSink" fl_C0 [.ref (n0 + 1), .int (Int32.ofNat ((((((pz + 1) + 1) + 1) + 1) + 1) + 1))] := F14
                refine w_lloadN X48 hx (hb hby d6_51) rfl (pc' := 52) rfl ?_
                refine w_ldc2 X48 hx (hb hby d6_52) hown (mvT hZ (wd48 hw)) (pc' := 55) rfl ?_
                refine w_lor X48 hx (hb hby d6_55) (pc' := 56) rfl ?_
                refine w_l2i X48 hx (hb hby d6_56) (pc' := 57) rfl ?_
                refine w_i2b X48 hx (hb hby d6_57) (pc' := 58) rfl ?_
                refine w_bastoreEL (i := 1) (jn := (((((pz + 1) + 1) + 1) + 1) + 1)) X48 hx hZ N24 P48 rfl hkk (hb hby d6_58) rfl (own_oN (by omega)) (own_llt (own_sl (own_sl (own_sl (own_sl (own_sl hpA))))) (by omega)) (pc' := 59) rfl ?_
                intro T49 L25 N25 X49 P49
                replace P49 : HP n0 T49.heap [c14, AC kk (List.map Value.int ((((((pA.set pz (nar .byte (Int8.toInt32 (Int32.toInt8 (Int64.toInt32 ((Int64.ofNat pn) ||| (128 : Int64))))))).set (pz + 1) (nar .byte (Int8.toInt32 (Int32.toInt8 (Int64.toInt32 ((Int64.ofNat (pn / 128)) ||| (128 : Int64))))))).set ((pz + 1) + 1) (nar .byte (Int8.toInt32 (Int32.toInt8 (Int64.toInt32 ((Int64.ofNat (pn / 128 / 128)) ||| (128 : Int64))))))).set (((pz + 1) + 1) + 1) (nar .byte (Int8.toInt32 (Int32.toInt8 (Int64.toInt32 ((Int64.ofNat (pn / 128 / 128 / 128)) ||| (128 : Int64))))))).set ((((pz + 1) + 1) + 1) + 1) (nar .byte (Int8.toInt32 (Int32.toInt8 (Int64.toInt32 ((Int64.ofNat (pn / 128 / 128 / 128 / 128)) ||| (128 : Int64))))))).set (((((pz + 1) + 1) + 1) + 1) + 1) (nar .byte (Int8.toInt32 (Int32.toInt8 (Int64.toInt32 ((Int64.ofNat (pn / 128 / 128 / 128 / 128 / 128)) ||| (128 : Int64))))))))] := P49
                refine w_lloadN X49 hx (hb hby d6_59) rfl (pc' := 60) rfl ?_
                refine w_bipush (v := (7 : Int32)) X49 hx (hb hby d6_60) rfl (pc' := 62) rfl ?_
                refine w_lushr X49 hx (hb hby d6_62) (pc' := 63) rfl ?_
                refine w_eqJ (z := (Int64.ofNat (pn / 128 / 128 / 128 / 128 / 128 / 128))) (own_jshr (by omega)) ?_
                refine w_lstoreN (l' := #[.val (.ref (n0 + 0)), .val (.long (Int64.ofNat pn)), .second, .val (.long (Int64.ofNat (pn / 128 / 128 / 128 / 128 / 128 / 128))), .second]) X49 hx (hb hby d6_63) rfl (pc' := 64) rfl ?_
                refine w_goto X49 hx (hb hby d6_64) (by decide) (pc' := 28) (by decide) ?_
                refine w_lloadN X49 hx (hb hby d6_28) rfl (pc' := 29) rfl ?_
                refine w_ldc2 X49 hx (hb hby d6_29) hown (mvT hZ (wd48 hw)) (pc' := 32) rfl ?_
                refine w_lcmp_lt X49 hx (hb hby d6_32) rfl (hb hby d6_33) (by decide) (pcY := 67) (by decide) (pc' := 36) rfl (fun h7 => ?_) (fun h7 => ?_)
                · refine w_aloadN X49 hx (hb hby d6_67) rfl rfl (pc' := 68) rfl ?_
                  refine w_getf (i := 0) (v := .ref (n0 + 1)) X49 hx hZ hown (wd11 hw) P49 rfl F14 0 rfl rfl (hb hby d6_68) (pc' := 71) rfl ?_
                  intro T50 X50 P50
                  refine w_aloadN X50 hx (hb hby d6_71) rfl rfl (pc' := 72) rfl ?_
                  refine w_dup X50 hx (hb hby d6_72) rfl (pc' := 73) rfl ?_
                  refine w_getf (i := 0) (v := .int (Int32.ofNat ((((((pz + 1) + 1) + 1) + 1) + 1) + 1))) X50 hx hZ hown (wd18 hw) P50 rfl F14 1 rfl rfl (hb hby d6_73) (pc' := 76) rfl ?_
                  intro T51 X51 P51
                  refine w_dupX1 X51 hx (hb hby d6_76) rfl rfl (pc' := 77) rfl ?_
                  refine w_iconst (v := (1 : Int32)) X51 hx (hb hby d6_77) rfl (pc' := 78) rfl ?_
                  refine w_iadd X51 hx (hb hby d6_78) (pc' := 79) rfl ?_
                  refine w_eqI (z := (Int32.ofNat (((((((pz + 1) + 1) + 1) + 1) + 1) + 1) + 1))) (own_oadd ((((((pz + 1) + 1) + 1) + 1) + 1) + 1) 1) ?_
                  refine w_putf (i := 0) (ty := .int) X51 hx hZ hown (wd18 hw) N25 P51 rfl F14 (di_C0 hw) 1 rfl (Or.inl (wd19 hw)) (wd2 hw) (by decide) rfl rfl (hb hby d6_79) (pc' := 82) rfl ?_
                  intro T52 L26 c15 N26 X52 P52 F15
                  replace P52 : HP n0 T52.heap [c15, AC kk (List.map Value.int ((((((pA.set pz (nar .byte (Int8.toInt32 (Int32.toInt8 (Int64.toInt32 ((Int64.ofNat pn) ||| (128 : Int64))))))).set (pz + 1) (nar .byte (Int8.toInt32 (Int32.toInt8 (Int64.toInt32 ((Int64.ofNat (pn / 128)) ||| (128 : Int64))))))).set ((pz + 1) + 1) (nar .byte (Int8.toInt32 (Int32.toInt8 (Int64.toInt32 ((Int64.ofNat (pn / 128 / 128)) ||| (128 : Int64))))))).set (((pz + 1) + 1) + 1) (nar .byte (Int8.toInt32 (Int32.toInt8 (Int64.toInt32 ((Int64.ofNat (pn / 128 / 128 / 128)) ||| (128 : Int64))))))).set ((((pz + 1) + 1) + 1) + 1) (nar .byte (Int8.toInt32 (Int32.toInt8 (Int64.toInt32 ((Int64.ofNat (pn / 128 / 128 / 128 / 128)) ||| (128 : Int64))))))).set (((((pz + 1) + 1) + 1) + 1) + 1) (nar .byte (Int8.toInt32 (Int32.toInt8 (Int64.toInt32 ((Int64.ofNat (pn / 128 / 128 / 128 / 128 / 128)) ||| (128 : Int64))))))))] := P52
                  replace F15 : ObjF Z c15 "com/example/dirichlet/dirichlet/index/ByteSink" fl_C0 [.ref (n0 + 1), .int (Int32.ofNat (((((((pz + 1) + 1) + 1) + 1) + 1) + 1) + 1))] := F15
                  refine w_lloadN X52 hx (hb hby d6_82) rfl (pc' := 83) rfl ?_
                  refine w_l2i X52 hx (hb hby d6_83) (pc' := 84) rfl ?_
                  refine w_i2b X52 hx (hb hby d6_84) (pc' := 85) rfl ?_
                  refine w_bastoreEL (i := 1) (jn := ((((((pz + 1) + 1) + 1) + 1) + 1) + 1)) X52 hx hZ N26 P52 rfl hkk (hb hby d6_85) rfl (own_oN (by omega)) (own_llt (own_sl (own_sl (own_sl (own_sl (own_sl (own_sl hpA)))))) (by omega)) (pc' := 86) rfl ?_
                  intro T53 L27 N27 X53 P53
                  replace P53 : HP n0 T53.heap [c15, AC kk (List.map Value.int (((((((pA.set pz (nar .byte (Int8.toInt32 (Int32.toInt8 (Int64.toInt32 ((Int64.ofNat pn) ||| (128 : Int64))))))).set (pz + 1) (nar .byte (Int8.toInt32 (Int32.toInt8 (Int64.toInt32 ((Int64.ofNat (pn / 128)) ||| (128 : Int64))))))).set ((pz + 1) + 1) (nar .byte (Int8.toInt32 (Int32.toInt8 (Int64.toInt32 ((Int64.ofNat (pn / 128 / 128)) ||| (128 : Int64))))))).set (((pz + 1) + 1) + 1) (nar .byte (Int8.toInt32 (Int32.toInt8 (Int64.toInt32 ((Int64.ofNat (pn / 128 / 128 / 128)) ||| (128 : Int64))))))).set ((((pz + 1) + 1) + 1) + 1) (nar .byte (Int8.toInt32 (Int32.toInt8 (Int64.toInt32 ((Int64.ofNat (pn / 128 / 128 / 128 / 128)) ||| (128 : Int64))))))).set (((((pz + 1) + 1) + 1) + 1) + 1) (nar .byte (Int8.toInt32 (Int32.toInt8 (Int64.toInt32 ((Int64.ofNat (pn / 128 / 128 / 128 / 128 / 128)) ||| (128 : Int64))))))).set ((((((pz + 1) + 1) + 1) + 1) + 1) + 1) (nar .byte (Int8.toInt32 (Int32.toInt8 (Int64.toInt32 (Int64.ofNat (pn / 128 / 128 / 128 / 128 / 128 / 128))))))))] := P53
                  have eB : own_bytes 8 pn = [own_hi (pn), own_hi (pn / 128), own_hi (pn / 128 / 128), own_hi (pn / 128 / 128 / 128), own_hi (pn / 128 / 128 / 128 / 128), own_hi (pn / 128 / 128 / 128 / 128 / 128), own_lo (pn / 128 / 128 / 128 / 128 / 128 / 128)] := by rw [own_bS, if_neg h1, own_bS, if_neg h2, own_bS, if_neg h3, own_bS, if_neg h4, own_bS, if_neg h5, own_bS, if_neg h6, own_bS, if_pos h7]
                  exact w_ret_v X53 hx hret hlk (hb hby d6_86) (by decide) (by decide) ⟨rfl, N27, Or.inl ⟨hgr, own_puts pA pz (own_bytes 8 pn), (by rw [own_pl]; exact hpA), own_Bput _ _ _ hB (own_Bb _ _), own_W1 (by rw [hpl, hpA]; omega), c15, (by rw [← hpe, ← hpl, eB]; exact F15), (by rw [eB]; exact P53)⟩⟩
                · refine w_aloadN X49 hx (hb hby d6_36) rfl rfl (pc' := 37) rfl ?_
                  refine w_getf (i := 0) (v := .ref (n0 + 1)) X49 hx hZ hown (wd11 hw) P49 rfl F14 0 rfl rfl (hb hby d6_37) (pc' := 40) rfl ?_
                  intro T54 X54 P54
                  refine w_aloadN X54 hx (hb hby d6_40) rfl rfl (pc' := 41) rfl ?_
                  refine w_dup X54 hx (hb hby d6_41) rfl (pc' := 42) rfl ?_
                  refine w_getf (i := 0) (v := .int (Int32.ofNat ((((((pz + 1) + 1) + 1) + 1) + 1) + 1))) X54 hx hZ hown (wd18 hw) P54 rfl F14 1 rfl rfl (hb hby d6_42) (pc' := 45) rfl ?_
                  intro T55 X55 P55
                  refine w_dupX1 X55 hx (hb hby d6_45) rfl rfl (pc' := 46) rfl ?_
                  refine w_iconst (v := (1 : Int32)) X55 hx (hb hby d6_46) rfl (pc' := 47) rfl ?_
                  refine w_iadd X55 hx (hb hby d6_47) (pc' := 48) rfl ?_
                  refine w_eqI (z := (Int32.ofNat (((((((pz + 1) + 1) + 1) + 1) + 1) + 1) + 1))) (own_oadd ((((((pz + 1) + 1) + 1) + 1) + 1) + 1) 1) ?_
                  refine w_putf (i := 0) (ty := .int) X55 hx hZ hown (wd18 hw) N25 P55 rfl F14 (di_C0 hw) 1 rfl (Or.inl (wd19 hw)) (wd2 hw) (by decide) rfl rfl (hb hby d6_48) (pc' := 51) rfl ?_
                  intro T56 L28 c16 N28 X56 P56 F16
                  replace P56 : HP n0 T56.heap [c16, AC kk (List.map Value.int ((((((pA.set pz (nar .byte (Int8.toInt32 (Int32.toInt8 (Int64.toInt32 ((Int64.ofNat pn) ||| (128 : Int64))))))).set (pz + 1) (nar .byte (Int8.toInt32 (Int32.toInt8 (Int64.toInt32 ((Int64.ofNat (pn / 128)) ||| (128 : Int64))))))).set ((pz + 1) + 1) (nar .byte (Int8.toInt32 (Int32.toInt8 (Int64.toInt32 ((Int64.ofNat (pn / 128 / 128)) ||| (128 : Int64))))))).set (((pz + 1) + 1) + 1) (nar .byte (Int8.toInt32 (Int32.toInt8 (Int64.toInt32 ((Int64.ofNat (pn / 128 / 128 / 128)) ||| (128 : Int64))))))).set ((((pz + 1) + 1) + 1) + 1) (nar .byte (Int8.toInt32 (Int32.toInt8 (Int64.toInt32 ((Int64.ofNat (pn / 128 / 128 / 128 / 128)) ||| (128 : Int64))))))).set (((((pz + 1) + 1) + 1) + 1) + 1) (nar .byte (Int8.toInt32 (Int32.toInt8 (Int64.toInt32 ((Int64.ofNat (pn / 128 / 128 / 128 / 128 / 128)) ||| (128 : Int64))))))))] := P56
                  replace F16 : ObjF Z c16 "com/example/dirichlet/dirichlet/index/ByteSink" fl_C0 [.ref (n0 + 1), .int (Int32.ofNat (((((((pz + 1) + 1) + 1) + 1) + 1) + 1) + 1))] := F16
                  refine w_lloadN X56 hx (hb hby d6_51) rfl (pc' := 52) rfl ?_
                  refine w_ldc2 X56 hx (hb hby d6_52) hown (mvT hZ (wd48 hw)) (pc' := 55) rfl ?_
                  refine w_lor X56 hx (hb hby d6_55) (pc' := 56) rfl ?_
                  refine w_l2i X56 hx (hb hby d6_56) (pc' := 57) rfl ?_
                  refine w_i2b X56 hx (hb hby d6_57) (pc' := 58) rfl ?_
                  refine w_bastoreEL (i := 1) (jn := ((((((pz + 1) + 1) + 1) + 1) + 1) + 1)) X56 hx hZ N28 P56 rfl hkk (hb hby d6_58) rfl (own_oN (by omega)) (own_llt (own_sl (own_sl (own_sl (own_sl (own_sl (own_sl hpA)))))) (by omega)) (pc' := 59) rfl ?_
                  intro T57 L29 N29 X57 P57
                  replace P57 : HP n0 T57.heap [c16, AC kk (List.map Value.int (((((((pA.set pz (nar .byte (Int8.toInt32 (Int32.toInt8 (Int64.toInt32 ((Int64.ofNat pn) ||| (128 : Int64))))))).set (pz + 1) (nar .byte (Int8.toInt32 (Int32.toInt8 (Int64.toInt32 ((Int64.ofNat (pn / 128)) ||| (128 : Int64))))))).set ((pz + 1) + 1) (nar .byte (Int8.toInt32 (Int32.toInt8 (Int64.toInt32 ((Int64.ofNat (pn / 128 / 128)) ||| (128 : Int64))))))).set (((pz + 1) + 1) + 1) (nar .byte (Int8.toInt32 (Int32.toInt8 (Int64.toInt32 ((Int64.ofNat (pn / 128 / 128 / 128)) ||| (128 : Int64))))))).set ((((pz + 1) + 1) + 1) + 1) (nar .byte (Int8.toInt32 (Int32.toInt8 (Int64.toInt32 ((Int64.ofNat (pn / 128 / 128 / 128 / 128)) ||| (128 : Int64))))))).set (((((pz + 1) + 1) + 1) + 1) + 1) (nar .byte (Int8.toInt32 (Int32.toInt8 (Int64.toInt32 ((Int64.ofNat (pn / 128 / 128 / 128 / 128 / 128)) ||| (128 : Int64))))))).set ((((((pz + 1) + 1) + 1) + 1) + 1) + 1) (nar .byte (Int8.toInt32 (Int32.toInt8 (Int64.toInt32 ((Int64.ofNat (pn / 128 / 128 / 128 / 128 / 128 / 128)) ||| (128 : Int64))))))))] := P57
                  refine w_lloadN X57 hx (hb hby d6_59) rfl (pc' := 60) rfl ?_
                  refine w_bipush (v := (7 : Int32)) X57 hx (hb hby d6_60) rfl (pc' := 62) rfl ?_
                  refine w_lushr X57 hx (hb hby d6_62) (pc' := 63) rfl ?_
                  refine w_eqJ (z := (Int64.ofNat (pn / 128 / 128 / 128 / 128 / 128 / 128 / 128))) (own_jshr (by omega)) ?_
                  refine w_lstoreN (l' := #[.val (.ref (n0 + 0)), .val (.long (Int64.ofNat pn)), .second, .val (.long (Int64.ofNat (pn / 128 / 128 / 128 / 128 / 128 / 128 / 128))), .second]) X57 hx (hb hby d6_63) rfl (pc' := 64) rfl ?_
                  refine w_goto X57 hx (hb hby d6_64) (by decide) (pc' := 28) (by decide) ?_
                  refine w_lloadN X57 hx (hb hby d6_28) rfl (pc' := 29) rfl ?_
                  refine w_ldc2 X57 hx (hb hby d6_29) hown (mvT hZ (wd48 hw)) (pc' := 32) rfl ?_
                  refine w_lcmp_lt X57 hx (hb hby d6_32) rfl (hb hby d6_33) (by decide) (pcY := 67) (by decide) (pc' := 36) rfl (fun h8 => ?_) (fun h8 => ?_)
                  · refine w_aloadN X57 hx (hb hby d6_67) rfl rfl (pc' := 68) rfl ?_
                    refine w_getf (i := 0) (v := .ref (n0 + 1)) X57 hx hZ hown (wd11 hw) P57 rfl F16 0 rfl rfl (hb hby d6_68) (pc' := 71) rfl ?_
                    intro T58 X58 P58
                    refine w_aloadN X58 hx (hb hby d6_71) rfl rfl (pc' := 72) rfl ?_
                    refine w_dup X58 hx (hb hby d6_72) rfl (pc' := 73) rfl ?_
                    refine w_getf (i := 0) (v := .int (Int32.ofNat (((((((pz + 1) + 1) + 1) + 1) + 1) + 1) + 1))) X58 hx hZ hown (wd18 hw) P58 rfl F16 1 rfl rfl (hb hby d6_73) (pc' := 76) rfl ?_
                    intro T59 X59 P59
                    refine w_dupX1 X59 hx (hb hby d6_76) rfl rfl (pc' := 77) rfl ?_
                    refine w_iconst (v := (1 : Int32)) X59 hx (hb hby d6_77) rfl (pc' := 78) rfl ?_
                    refine w_iadd X59 hx (hb hby d6_78) (pc' := 79) rfl ?_
                    refine w_eqI (z := (Int32.ofNat ((((((((pz + 1) + 1) + 1) + 1) + 1) + 1) + 1) + 1))) (own_oadd (((((((pz + 1) + 1) + 1) + 1) + 1) + 1) + 1) 1) ?_
                    refine w_putf (i := 0) (ty := .int) X59 hx hZ hown (wd18 hw) N29 P59 rfl F16 (di_C0 hw) 1 rfl (Or.inl (wd19 hw)) (wd2 hw) (by decide) rfl rfl (hb hby d6_79) (pc' := 82) rfl ?_
                    intro T60 L30 c17 N30 X60 P60 F17
                    replace P60 : HP n0 T60.heap [c17, AC kk (List.map Value.int (((((((pA.set pz (nar .byte (Int8.toInt32 (Int32.toInt8 (Int64.toInt32 ((Int64.ofNat pn) ||| (128 : Int64))))))).set (pz + 1) (nar .byte (Int8.toInt32 (Int32.toInt8 (Int64.toInt32 ((Int64.ofNat (pn / 128)) ||| (128 : Int64))))))).set ((pz + 1) + 1) (nar .byte (Int8.toInt32 (Int32.toInt8 (Int64.toInt32 ((Int64.ofNat (pn / 128 / 128)) ||| (128 : Int64))))))).set (((pz + 1) + 1) + 1) (nar .byte (Int8.toInt32 (Int32.toInt8 (Int64.toInt32 ((Int64.ofNat (pn / 128 / 128 / 128)) ||| (128 : Int64))))))).set ((((pz + 1) + 1) + 1) + 1) (nar .byte (Int8.toInt32 (Int32.toInt8 (Int64.toInt32 ((Int64.ofNat (pn / 128 / 128 / 128 / 128)) ||| (128 : Int64))))))).set (((((pz + 1) + 1) + 1) + 1) + 1) (nar .byte (Int8.toInt32 (Int32.toInt8 (Int64.toInt32 ((Int64.ofNat (pn / 128 / 128 / 128 / 128 / 128)) ||| (128 : Int64))))))).set ((((((pz + 1) + 1) + 1) + 1) + 1) + 1) (nar .byte (Int8.toInt32 (Int32.toInt8 (Int64.toInt32 ((Int64.ofNat (pn / 128 / 128 / 128 / 128 / 128 / 128)) ||| (128 : Int64))))))))] := P60
                    replace F17 : ObjF Z c17 "com/example/dirichlet/dirichlet/index/ByteSink" fl_C0 [.ref (n0 + 1), .int (Int32.ofNat ((((((((pz + 1) + 1) + 1) + 1) + 1) + 1) + 1) + 1))] := F17
                    refine w_lloadN X60 hx (hb hby d6_82) rfl (pc' := 83) rfl ?_
                    refine w_l2i X60 hx (hb hby d6_83) (pc' := 84) rfl ?_
                    refine w_i2b X60 hx (hb hby d6_84) (pc' := 85) rfl ?_
                    refine w_bastoreEL (i := 1) (jn := (((((((pz + 1) + 1) + 1) + 1) + 1) + 1) + 1)) X60 hx hZ N30 P60 rfl hkk (hb hby d6_85) rfl (own_oN (by omega)) (own_llt (own_sl (own_sl (own_sl (own_sl (own_sl (own_sl (own_sl hpA))))))) (by omega)) (pc' := 86) rfl ?_
                    intro T61 L31 N31 X61 P61
                    replace P61 : HP n0 T61.heap [c17, AC kk (List.map Value.int ((((((((pA.set pz (nar .byte (Int8.toInt32 (Int32.toInt8 (Int64.toInt32 ((Int64.ofNat pn) ||| (128 : Int64))))))).set (pz + 1) (nar .byte (Int8.toInt32 (Int32.toInt8 (Int64.toInt32 ((Int64.ofNat (pn / 128)) ||| (128 : Int64))))))).set ((pz + 1) + 1) (nar .byte (Int8.toInt32 (Int32.toInt8 (Int64.toInt32 ((Int64.ofNat (pn / 128 / 128)) ||| (128 : Int64))))))).set (((pz + 1) + 1) + 1) (nar .byte (Int8.toInt32 (Int32.toInt8 (Int64.toInt32 ((Int64.ofNat (pn / 128 / 128 / 128)) ||| (128 : Int64))))))).set ((((pz + 1) + 1) + 1) + 1) (nar .byte (Int8.toInt32 (Int32.toInt8 (Int64.toInt32 ((Int64.ofNat (pn / 128 / 128 / 128 / 128)) ||| (128 : Int64))))))).set (((((pz + 1) + 1) + 1) + 1) + 1) (nar .byte (Int8.toInt32 (Int32.toInt8 (Int64.toInt32 ((Int64.ofNat (pn / 128 / 128 / 128 / 128 / 128)) ||| (128 : Int64))))))).set ((((((pz + 1) + 1) + 1) + 1) + 1) + 1) (nar .byte (Int8.toInt32 (Int32.toInt8 (Int64.toInt32 ((Int64.ofNat (pn / 128 / 128 / 128 / 128 / 128 / 128)) ||| (128 : Int64))))))).set (((((((pz + 1) + 1) + 1) + 1) + 1) + 1) + 1) (nar .byte (Int8.toInt32 (Int32.toInt8 (Int64.toInt32 (Int64.ofNat (pn / 128 / 128 / 128 / 128 / 128 / 128 / 128))))))))] := P61
                    have eB : own_bytes 8 pn = [own_hi (pn), own_hi (pn / 128), own_hi (pn / 128 / 128), own_hi (pn / 128 / 128 / 128), own_hi (pn / 128 / 128 / 128 / 128), own_hi (pn / 128 / 128 / 128 / 128 / 128), own_hi (pn / 128 / 128 / 128 / 128 / 128 / 128), own_lo (pn / 128 / 128 / 128 / 128 / 128 / 128 / 128)] := by rw [own_bS, if_neg h1, own_bS, if_neg h2, own_bS, if_neg h3, own_bS, if_neg h4, own_bS, if_neg h5, own_bS, if_neg h6, own_bS, if_neg h7, own_bS, if_pos h8]
                    exact w_ret_v X61 hx hret hlk (hb hby d6_86) (by decide) (by decide) ⟨rfl, N31, Or.inl ⟨hgr, own_puts pA pz (own_bytes 8 pn), (by rw [own_pl]; exact hpA), own_Bput _ _ _ hB (own_Bb _ _), own_W1 (by rw [hpl, hpA]; omega), c17, (by rw [← hpe, ← hpl, eB]; exact F17), (by rw [eB]; exact P61)⟩⟩
                  · refine w_aloadN X57 hx (hb hby d6_36) rfl rfl (pc' := 37) rfl ?_
                    refine w_getf (i := 0) (v := .ref (n0 + 1)) X57 hx hZ hown (wd11 hw) P57 rfl F16 0 rfl rfl (hb hby d6_37) (pc' := 40) rfl ?_
                    intro T62 X62 P62
                    refine w_aloadN X62 hx (hb hby d6_40) rfl rfl (pc' := 41) rfl ?_
                    refine w_dup X62 hx (hb hby d6_41) rfl (pc' := 42) rfl ?_
                    refine w_getf (i := 0) (v := .int (Int32.ofNat (((((((pz + 1) + 1) + 1) + 1) + 1) + 1) + 1))) X62 hx hZ hown (wd18 hw) P62 rfl F16 1 rfl rfl (hb hby d6_42) (pc' := 45) rfl ?_
                    intro T63 X63 P63
                    refine w_dupX1 X63 hx (hb hby d6_45) rfl rfl (pc' := 46) rfl ?_
                    refine w_iconst (v := (1 : Int32)) X63 hx (hb hby d6_46) rfl (pc' := 47) rfl ?_
                    refine w_iadd X63 hx (hb hby d6_47) (pc' := 48) rfl ?_
                    refine w_eqI (z := (Int32.ofNat ((((((((pz + 1) + 1) + 1) + 1) + 1) + 1) + 1) + 1))) (own_oadd (((((((pz + 1) + 1) + 1) + 1) + 1) + 1) + 1) 1) ?_
                    refine w_putf (i := 0) (ty := .int) X63 hx hZ hown (wd18 hw) N29 P63 rfl F16 (di_C0 hw) 1 rfl (Or.inl (wd19 hw)) (wd2 hw) (by decide) rfl rfl (hb hby d6_48) (pc' := 51) rfl ?_
                    intro T64 L32 c18 N32 X64 P64 F18
                    replace P64 : HP n0 T64.heap [c18, AC kk (List.map Value.int (((((((pA.set pz (nar .byte (Int8.toInt32 (Int32.toInt8 (Int64.toInt32 ((Int64.ofNat pn) ||| (128 : Int64))))))).set (pz + 1) (nar .byte (Int8.toInt32 (Int32.toInt8 (Int64.toInt32 ((Int64.ofNat (pn / 128)) ||| (128 : Int64))))))).set ((pz + 1) + 1) (nar .byte (Int8.toInt32 (Int32.toInt8 (Int64.toInt32 ((Int64.ofNat (pn / 128 / 128)) ||| (128 : Int64))))))).set (((pz + 1) + 1) + 1) (nar .byte (Int8.toInt32 (Int32.toInt8 (Int64.toInt32 ((Int64.ofNat (pn / 128 / 128 / 128)) ||| (128 : Int64))))))).set ((((pz + 1) + 1) + 1) + 1) (nar .byte (Int8.toInt32 (Int32.toInt8 (Int64.toInt32 ((Int64.ofNat (pn / 128 / 128 / 128 / 128)) ||| (128 : Int64))))))).set (((((pz + 1) + 1) + 1) + 1) + 1) (nar .byte (Int8.toInt32 (Int32.toInt8 (Int64.toInt32 ((Int64.ofNat (pn / 128 / 128 / 128 / 128 / 128)) ||| (128 : Int64))))))).set ((((((pz + 1) + 1) + 1) + 1) + 1) + 1) (nar .byte (Int8.toInt32 (Int32.toInt8 (Int64.toInt32 ((Int64.ofNat (pn / 128 / 128 / 128 / 128 / 128 / 128)) ||| (128 : Int64))))))))] := P64
                    replace F18 : ObjF Z c18 "com/example/dirichlet/dirichlet/index/ByteSink" fl_C0 [.ref (n0 + 1), .int (Int32.ofNat ((((((((pz + 1) + 1) + 1) + 1) + 1) + 1) + 1) + 1))] := F18
                    refine w_lloadN X64 hx (hb hby d6_51) rfl (pc' := 52) rfl ?_
                    refine w_ldc2 X64 hx (hb hby d6_52) hown (mvT hZ (wd48 hw)) (pc' := 55) rfl ?_
                    refine w_lor X64 hx (hb hby d6_55) (pc' := 56) rfl ?_
                    refine w_l2i X64 hx (hb hby d6_56) (pc' := 57) rfl ?_
                    refine w_i2b X64 hx (hb hby d6_57) (pc' := 58) rfl ?_
                    refine w_bastoreEL (i := 1) (jn := (((((((pz + 1) + 1) + 1) + 1) + 1) + 1) + 1)) X64 hx hZ N32 P64 rfl hkk (hb hby d6_58) rfl (own_oN (by omega)) (own_llt (own_sl (own_sl (own_sl (own_sl (own_sl (own_sl (own_sl hpA))))))) (by omega)) (pc' := 59) rfl ?_
                    intro T65 L33 N33 X65 P65
                    replace P65 : HP n0 T65.heap [c18, AC kk (List.map Value.int ((((((((pA.set pz (nar .byte (Int8.toInt32 (Int32.toInt8 (Int64.toInt32 ((Int64.ofNat pn) ||| (128 : Int64))))))).set (pz + 1) (nar .byte (Int8.toInt32 (Int32.toInt8 (Int64.toInt32 ((Int64.ofNat (pn / 128)) ||| (128 : Int64))))))).set ((pz + 1) + 1) (nar .byte (Int8.toInt32 (Int32.toInt8 (Int64.toInt32 ((Int64.ofNat (pn / 128 / 128)) ||| (128 : Int64))))))).set (((pz + 1) + 1) + 1) (nar .byte (Int8.toInt32 (Int32.toInt8 (Int64.toInt32 ((Int64.ofNat (pn / 128 / 128 / 128)) ||| (128 : Int64))))))).set ((((pz + 1) + 1) + 1) + 1) (nar .byte (Int8.toInt32 (Int32.toInt8 (Int64.toInt32 ((Int64.ofNat (pn / 128 / 128 / 128 / 128)) ||| (128 : Int64))))))).set (((((pz + 1) + 1) + 1) + 1) + 1) (nar .byte (Int8.toInt32 (Int32.toInt8 (Int64.toInt32 ((Int64.ofNat (pn / 128 / 128 / 128 / 128 / 128)) ||| (128 : Int64))))))).set ((((((pz + 1) + 1) + 1) + 1) + 1) + 1) (nar .byte (Int8.toInt32 (Int32.toInt8 (Int64.toInt32 ((Int64.ofNat (pn / 128 / 128 / 128 / 128 / 128 / 128)) ||| (128 : Int64))))))).set (((((((pz + 1) + 1) + 1) + 1) + 1) + 1) + 1) (nar .byte (Int8.toInt32 (Int32.toInt8 (Int64.toInt32 ((Int64.ofNat (pn / 128 / 128 / 128 / 128 / 128 / 128 / 128)) ||| (128 : Int64))))))))] := P65
                    refine w_lloadN X65 hx (hb hby d6_59) rfl (pc' := 60) rfl ?_
                    refine w_bipush (v := (7 : Int32)) X65 hx (hb hby d6_60) rfl (pc' := 62) rfl ?_
                    refine w_lushr X65 hx (hb hby d6_62) (pc' := 63) rfl ?_
                    refine w_eqJ (z := (Int64.ofNat (pn / 128 / 128 / 128 / 128 / 128 / 128 / 128 / 128))) (own_jshr (by omega)) ?_
                    refine w_lstoreN (l' := #[.val (.ref (n0 + 0)), .val (.long (Int64.ofNat pn)), .second, .val (.long (Int64.ofNat (pn / 128 / 128 / 128 / 128 / 128 / 128 / 128 / 128))), .second]) X65 hx (hb hby d6_63) rfl (pc' := 64) rfl ?_
                    refine w_goto X65 hx (hb hby d6_64) (by decide) (pc' := 28) (by decide) ?_
                    refine w_lloadN X65 hx (hb hby d6_28) rfl (pc' := 29) rfl ?_
                    refine w_ldc2 X65 hx (hb hby d6_29) hown (mvT hZ (wd48 hw)) (pc' := 32) rfl ?_
                    refine w_lcmp_lt X65 hx (hb hby d6_32) rfl (hb hby d6_33) (by decide) (pcY := 67) (by decide) (pc' := 36) rfl (fun h9 => ?_) (fun h9 => absurd ((own_jlt (a := pn / 128 / 128 / 128 / 128 / 128 / 128 / 128 / 128) (b := 128) (c := 128) rfl (by omega) (by decide)).mpr (by omega)) h9)
                    refine w_aloadN X65 hx (hb hby d6_67) rfl rfl (pc' := 68) rfl ?_
                    refine w_getf (i := 0) (v := .ref (n0 + 1)) X65 hx hZ hown (wd11 hw) P65 rfl F18 0 rfl rfl (hb hby d6_68) (pc' := 71) rfl ?_
                    intro T66 X66 P66
                    refine w_aloadN X66 hx (hb hby d6_71) rfl rfl (pc' := 72) rfl ?_
                    refine w_dup X66 hx (hb hby d6_72) rfl (pc' := 73) rfl ?_
                    refine w_getf (i := 0) (v := .int (Int32.ofNat ((((((((pz + 1) + 1) + 1) + 1) + 1) + 1) + 1) + 1))) X66 hx hZ hown (wd18 hw) P66 rfl F18 1 rfl rfl (hb hby d6_73) (pc' := 76) rfl ?_
                    intro T67 X67 P67
                    refine w_dupX1 X67 hx (hb hby d6_76) rfl rfl (pc' := 77) rfl ?_
                    refine w_iconst (v := (1 : Int32)) X67 hx (hb hby d6_77) rfl (pc' := 78) rfl ?_
                    refine w_iadd X67 hx (hb hby d6_78) (pc' := 79) rfl ?_
                    refine w_eqI (z := (Int32.ofNat (((((((((pz + 1) + 1) + 1) + 1) + 1) + 1) + 1) + 1) + 1))) (own_oadd ((((((((pz + 1) + 1) + 1) + 1) + 1) + 1) + 1) + 1) 1) ?_
                    refine w_putf (i := 0) (ty := .int) X67 hx hZ hown (wd18 hw) N33 P67 rfl F18 (di_C0 hw) 1 rfl (Or.inl (wd19 hw)) (wd2 hw) (by decide) rfl rfl (hb hby d6_79) (pc' := 82) rfl ?_
                    intro T68 L34 c19 N34 X68 P68 F19
                    replace P68 : HP n0 T68.heap [c19, AC kk (List.map Value.int ((((((((pA.set pz (nar .byte (Int8.toInt32 (Int32.toInt8 (Int64.toInt32 ((Int64.ofNat pn) ||| (128 : Int64))))))).set (pz + 1) (nar .byte (Int8.toInt32 (Int32.toInt8 (Int64.toInt32 ((Int64.ofNat (pn / 128)) ||| (128 : Int64))))))).set ((pz + 1) + 1) (nar .byte (Int8.toInt32 (Int32.toInt8 (Int64.toInt32 ((Int64.ofNat (pn / 128 / 128)) ||| (128 : Int64))))))).set (((pz + 1) + 1) + 1) (nar .byte (Int8.toInt32 (Int32.toInt8 (Int64.toInt32 ((Int64.ofNat (pn / 128 / 128 / 128)) ||| (128 : Int64))))))).set ((((pz + 1) + 1) + 1) + 1) (nar .byte (Int8.toInt32 (Int32.toInt8 (Int64.toInt32 ((Int64.ofNat (pn / 128 / 128 / 128 / 128)) ||| (128 : Int64))))))).set (((((pz + 1) + 1) + 1) + 1) + 1) (nar .byte (Int8.toInt32 (Int32.toInt8 (Int64.toInt32 ((Int64.ofNat (pn / 128 / 128 / 128 / 128 / 128)) ||| (128 : Int64))))))).set ((((((pz + 1) + 1) + 1) + 1) + 1) + 1) (nar .byte (Int8.toInt32 (Int32.toInt8 (Int64.toInt32 ((Int64.ofNat (pn / 128 / 128 / 128 / 128 / 128 / 128)) ||| (128 : Int64))))))).set (((((((pz + 1) + 1) + 1) + 1) + 1) + 1) + 1) (nar .byte (Int8.toInt32 (Int32.toInt8 (Int64.toInt32 ((Int64.ofNat (pn / 128 / 128 / 128 / 128 / 128 / 128 / 128)) ||| (128 : Int64))))))))] := P68
                    replace F19 : ObjF Z c19 "com/example/dirichlet/dirichlet/index/ByteSink" fl_C0 [.ref (n0 + 1), .int (Int32.ofNat (((((((((pz + 1) + 1) + 1) + 1) + 1) + 1) + 1) + 1) + 1))] := F19
                    refine w_lloadN X68 hx (hb hby d6_82) rfl (pc' := 83) rfl ?_
                    refine w_l2i X68 hx (hb hby d6_83) (pc' := 84) rfl ?_
                    refine w_i2b X68 hx (hb hby d6_84) (pc' := 85) rfl ?_
                    refine w_bastoreEL (i := 1) (jn := ((((((((pz + 1) + 1) + 1) + 1) + 1) + 1) + 1) + 1)) X68 hx hZ N34 P68 rfl hkk (hb hby d6_85) rfl (own_oN (by omega)) (own_llt (own_sl (own_sl (own_sl (own_sl (own_sl (own_sl (own_sl (own_sl hpA)))))))) (by omega)) (pc' := 86) rfl ?_
                    intro T69 L35 N35 X69 P69
                    replace P69 : HP n0 T69.heap [c19, AC kk (List.map Value.int (((((((((pA.set pz (nar .byte (Int8.toInt32 (Int32.toInt8 (Int64.toInt32 ((Int64.ofNat pn) ||| (128 : Int64))))))).set (pz + 1) (nar .byte (Int8.toInt32 (Int32.toInt8 (Int64.toInt32 ((Int64.ofNat (pn / 128)) ||| (128 : Int64))))))).set ((pz + 1) + 1) (nar .byte (Int8.toInt32 (Int32.toInt8 (Int64.toInt32 ((Int64.ofNat (pn / 128 / 128)) ||| (128 : Int64))))))).set (((pz + 1) + 1) + 1) (nar .byte (Int8.toInt32 (Int32.toInt8 (Int64.toInt32 ((Int64.ofNat (pn / 128 / 128 / 128)) ||| (128 : Int64))))))).set ((((pz + 1) + 1) + 1) + 1) (nar .byte (Int8.toInt32 (Int32.toInt8 (Int64.toInt32 ((Int64.ofNat (pn / 128 / 128 / 128 / 128)) ||| (128 : Int64))))))).set (((((pz + 1) + 1) + 1) + 1) + 1) (nar .byte (Int8.toInt32 (Int32.toInt8 (Int64.toInt32 ((Int64.ofNat (pn / 128 / 128 / 128 / 128 / 128)) ||| (128 : Int64))))))).set ((((((pz + 1) + 1) + 1) + 1) + 1) + 1) (nar .byte (Int8.toInt32 (Int32.toInt8 (Int64.toInt32 ((Int64.ofNat (pn / 128 / 128 / 128 / 128 / 128 / 128)) ||| (128 : Int64))))))).set (((((((pz + 1) + 1) + 1) + 1) + 1) + 1) + 1) (nar .byte (Int8.toInt32 (Int32.toInt8 (Int64.toInt32 ((Int64.ofNat (pn / 128 / 128 / 128 / 128 / 128 / 128 / 128)) ||| (128 : Int64))))))).set ((((((((pz + 1) + 1) + 1) + 1) + 1) + 1) + 1) + 1) (nar .byte (Int8.toInt32 (Int32.toInt8 (Int64.toInt32 (Int64.ofNat (pn / 128 / 128 / 128 / 128 / 128 / 128 / 128 / 128))))))))] := P69
                    have eB : own_bytes 8 pn = [own_hi (pn), own_hi (pn / 128), own_hi (pn / 128 / 128), own_hi (pn / 128 / 128 / 128), own_hi (pn / 128 / 128 / 128 / 128), own_hi (pn / 128 / 128 / 128 / 128 / 128), own_hi (pn / 128 / 128 / 128 / 128 / 128 / 128), own_hi (pn / 128 / 128 / 128 / 128 / 128 / 128 / 128), own_lo (pn / 128 / 128 / 128 / 128 / 128 / 128 / 128 / 128)] := by rw [own_bS, if_neg h1, own_bS, if_neg h2, own_bS, if_neg h3, own_bS, if_neg h4, own_bS, if_neg h5, own_bS, if_neg h6, own_bS, if_neg h7, own_bS, if_neg h8, own_b0]
                    exact w_ret_v X69 hx hret hlk (hb hby d6_86) (by decide) (by decide) ⟨rfl, N35, Or.inl ⟨hgr, own_puts pA pz (own_bytes 8 pn), (by rw [own_pl]; exact hpA), own_Bput _ _ _ hB (own_Bb _ _), own_W1 (by rw [hpl, hpA]; omega), c19, (by rw [← hpe, ← hpl, eB]; exact F19), (by rw [eB]; exact P69)⟩⟩
  · replace P1 : HP n0 T1.heap [c1, AC kk (List.map Value.int pA), AC kA2 (List.map Value.int (pA ++ List.replicate (pM - pN) 0))] := P1
    refine w_lloadN X1 hx (hb hby d6_26) rfl (pc' := 27) rfl ?_
    refine w_lstoreN (l' := #[.val (.ref (n0 + 0)), .val (.long (Int64.ofNat pn)), .second, .val (.long (Int64.ofNat pn)), .second]) X1 hx (hb hby d6_27) rfl (pc' := 28) rfl ?_
    refine w_lloadN X1 hx (hb hby d6_28) rfl (pc' := 29) rfl ?_
    refine w_ldc2 X1 hx (hb hby d6_29) hown (mvT hZ (wd48 hw)) (pc' := 32) rfl ?_
    refine w_lcmp_lt X1 hx (hb hby d6_32) rfl (hb hby d6_33) (by decide) (pcY := 67) (by decide) (pc' := 36) rfl (fun h10 => ?_) (fun h10 => ?_)
    · refine w_aloadN X1 hx (hb hby d6_67) rfl rfl (pc' := 68) rfl ?_
      refine w_getf (i := 0) (v := .ref (n0 + 2)) X1 hx hZ hown (wd11 hw) P1 rfl F1 0 rfl rfl (hb hby d6_68) (pc' := 71) rfl ?_
      intro T70 X70 P70
      refine w_aloadN X70 hx (hb hby d6_71) rfl rfl (pc' := 72) rfl ?_
      refine w_dup X70 hx (hb hby d6_72) rfl (pc' := 73) rfl ?_
      refine w_getf (i := 0) (v := .int (Int32.ofNat pz)) X70 hx hZ hown (wd18 hw) P70 rfl F1 1 rfl rfl (hb hby d6_73) (pc' := 76) rfl ?_
      intro T71 X71 P71
      refine w_dupX1 X71 hx (hb hby d6_76) rfl rfl (pc' := 77) rfl ?_
      refine w_iconst (v := (1 : Int32)) X71 hx (hb hby d6_77) rfl (pc' := 78) rfl ?_
      refine w_iadd X71 hx (hb hby d6_78) (pc' := 79) rfl ?_
      refine w_eqI (z := (Int32.ofNat (pz + 1))) (own_oadd pz 1) ?_
      refine w_putf (i := 0) (ty := .int) X71 hx hZ hown (wd18 hw) N1 P71 rfl F1 (di_C0 hw) 1 rfl (Or.inl (wd19 hw)) (wd2 hw) (by decide) rfl rfl (hb hby d6_79) (pc' := 82) rfl ?_
      intro T72 L36 c20 N36 X72 P72 F20
      replace P72 : HP n0 T72.heap [c20, AC kk (List.map Value.int pA), AC kA2 (List.map Value.int (pA ++ List.replicate (pM - pN) 0))] := P72
      replace F20 : ObjF Z c20 "com/example/dirichlet/dirichlet/index/ByteSink" fl_C0 [.ref (n0 + 2), .int (Int32.ofNat (pz + 1))] := F20
      refine w_lloadN X72 hx (hb hby d6_82) rfl (pc' := 83) rfl ?_
      refine w_l2i X72 hx (hb hby d6_83) (pc' := 84) rfl ?_
      refine w_i2b X72 hx (hb hby d6_84) (pc' := 85) rfl ?_
      refine w_bastoreEL (i := 2) (jn := pz) X72 hx hZ N36 P72 rfl hkA2 (hb hby d6_85) rfl (own_oN (by omega)) (own_llt (own_cgl hpA (by omega)) (by omega)) (pc' := 86) rfl ?_
      intro T73 L37 N37 X73 P73
      replace P73 : HP n0 T73.heap [c20, AC kk (List.map Value.int pA), AC kA2 (List.map Value.int ((pA ++ List.replicate (pM - pN) 0).set pz (nar .byte (Int8.toInt32 (Int32.toInt8 (Int64.toInt32 (Int64.ofNat pn)))))))] := P73
      have eB : own_bytes 8 pn = [own_lo (pn)] := by rw [own_bS, if_pos h10]
      exact w_ret_v X73 hx hret hlk (hb hby d6_86) (by decide) (by decide) ⟨rfl, N37, Or.inr ⟨hgr, kA2, hkA2, own_puts (pA ++ List.replicate (pM - pN) 0) pz (own_bytes 8 pn), (by rw [own_pl]; exact (own_cgl hpA (by omega))), own_Bput _ _ _ (own_Bapp hB) (own_Bb _ _), own_W2 (by rw [hpA]; omega) (by rw [hpl, own_cgl hpA (by omega)]; omega), c20, (by rw [← hpe, ← hpl, eB]; exact F20), (by rw [eB]; exact P73)⟩⟩
    · refine w_aloadN X1 hx (hb hby d6_36) rfl rfl (pc' := 37) rfl ?_
      refine w_getf (i := 0) (v := .ref (n0 + 2)) X1 hx hZ hown (wd11 hw) P1 rfl F1 0 rfl rfl (hb hby d6_37) (pc' := 40) rfl ?_
      intro T74 X74 P74
      refine w_aloadN X74 hx (hb hby d6_40) rfl rfl (pc' := 41) rfl ?_
      refine w_dup X74 hx (hb hby d6_41) rfl (pc' := 42) rfl ?_
      refine w_getf (i := 0) (v := .int (Int32.ofNat pz)) X74 hx hZ hown (wd18 hw) P74 rfl F1 1 rfl rfl (hb hby d6_42) (pc' := 45) rfl ?_
      intro T75 X75 P75
      refine w_dupX1 X75 hx (hb hby d6_45) rfl rfl (pc' := 46) rfl ?_
      refine w_iconst (v := (1 : Int32)) X75 hx (hb hby d6_46) rfl (pc' := 47) rfl ?_
      refine w_iadd X75 hx (hb hby d6_47) (pc' := 48) rfl ?_
      refine w_eqI (z := (Int32.ofNat (pz + 1))) (own_oadd pz 1) ?_
      refine w_putf (i := 0) (ty := .int) X75 hx hZ hown (wd18 hw) N1 P75 rfl F1 (di_C0 hw) 1 rfl (Or.inl (wd19 hw)) (wd2 hw) (by decide) rfl rfl (hb hby d6_48) (pc' := 51) rfl ?_
      intro T76 L38 c21 N38 X76 P76 F21
      replace P76 : HP n0 T76.heap [c21, AC kk (List.map Value.int pA), AC kA2 (List.map Value.int (pA ++ List.replicate (pM - pN) 0))] := P76
      replace F21 : ObjF Z c21 "com/example/dirichlet/dirichlet/index/ByteSink" fl_C0 [.ref (n0 + 2), .int (Int32.ofNat (pz + 1))] := F21
      refine w_lloadN X76 hx (hb hby d6_51) rfl (pc' := 52) rfl ?_
      refine w_ldc2 X76 hx (hb hby d6_52) hown (mvT hZ (wd48 hw)) (pc' := 55) rfl ?_
      refine w_lor X76 hx (hb hby d6_55) (pc' := 56) rfl ?_
      refine w_l2i X76 hx (hb hby d6_56) (pc' := 57) rfl ?_
      refine w_i2b X76 hx (hb hby d6_57) (pc' := 58) rfl ?_
      refine w_bastoreEL (i := 2) (jn := pz) X76 hx hZ N38 P76 rfl hkA2 (hb hby d6_58) rfl (own_oN (by omega)) (own_llt (own_cgl hpA (by omega)) (by omega)) (pc' := 59) rfl ?_
      intro T77 L39 N39 X77 P77
      replace P77 : HP n0 T77.heap [c21, AC kk (List.map Value.int pA), AC kA2 (List.map Value.int ((pA ++ List.replicate (pM - pN) 0).set pz (nar .byte (Int8.toInt32 (Int32.toInt8 (Int64.toInt32 ((Int64.ofNat pn) ||| (128 : Int64))))))))] := P77
      refine w_lloadN X77 hx (hb hby d6_59) rfl (pc' := 60) rfl ?_
      refine w_bipush (v := (7 : Int32)) X77 hx (hb hby d6_60) rfl (pc' := 62) rfl ?_
      refine w_lushr X77 hx (hb hby d6_62) (pc' := 63) rfl ?_
      refine w_eqJ (z := (Int64.ofNat (pn / 128))) (own_jshr (by omega)) ?_
      refine w_lstoreN (l' := #[.val (.ref (n0 + 0)), .val (.long (Int64.ofNat pn)), .second, .val (.long (Int64.ofNat (pn / 128))), .second]) X77 hx (hb hby d6_63) rfl (pc' := 64) rfl ?_
      refine w_goto X77 hx (hb hby d6_64) (by decide) (pc' := 28) (by decide) ?_
      refine w_lloadN X77 hx (hb hby d6_28) rfl (pc' := 29) rfl ?_
      refine w_ldc2 X77 hx (hb hby d6_29) hown (mvT hZ (wd48 hw)) (pc' := 32) rfl ?_
      refine w_lcmp_lt X77 hx (hb hby d6_32) rfl (hb hby d6_33) (by decide) (pcY := 67) (by decide) (pc' := 36) rfl (fun h11 => ?_) (fun h11 => ?_)
      · refine w_aloadN X77 hx (hb hby d6_67) rfl rfl (pc' := 68) rfl ?_
        refine w_getf (i := 0) (v := .ref (n0 + 2)) X77 hx hZ hown (wd11 hw) P77 rfl F21 0 rfl rfl (hb hby d6_68) (pc' := 71) rfl ?_
        intro T78 X78 P78
        refine w_aloadN X78 hx (hb hby d6_71) rfl rfl (pc' := 72) rfl ?_
        refine w_dup X78 hx (hb hby d6_72) rfl (pc' := 73) rfl ?_
        refine w_getf (i := 0) (v := .int (Int32.ofNat (pz + 1))) X78 hx hZ hown (wd18 hw) P78 rfl F21 1 rfl rfl (hb hby d6_73) (pc' := 76) rfl ?_
        intro T79 X79 P79
        refine w_dupX1 X79 hx (hb hby d6_76) rfl rfl (pc' := 77) rfl ?_
        refine w_iconst (v := (1 : Int32)) X79 hx (hb hby d6_77) rfl (pc' := 78) rfl ?_
        refine w_iadd X79 hx (hb hby d6_78) (pc' := 79) rfl ?_
        refine w_eqI (z := (Int32.ofNat ((pz + 1) + 1))) (own_oadd (pz + 1) 1) ?_
        refine w_putf (i := 0) (ty := .int) X79 hx hZ hown (wd18 hw) N39 P79 rfl F21 (di_C0 hw) 1 rfl (Or.inl (wd19 hw)) (wd2 hw) (by decide) rfl rfl (hb hby d6_79) (pc' := 82) rfl ?_
        intro T80 L40 c22 N40 X80 P80 F22
        replace P80 : HP n0 T80.heap [c22, AC kk (List.map Value.int pA), AC kA2 (List.map Value.int ((pA ++ List.replicate (pM - pN) 0).set pz (nar .byte (Int8.toInt32 (Int32.toInt8 (Int64.toInt32 ((Int64.ofNat pn) ||| (128 : Int64))))))))] := P80
        replace F22 : ObjF Z c22 "com/example/dirichlet/dirichlet/index/ByteSink" fl_C0 [.ref (n0 + 2), .int (Int32.ofNat ((pz + 1) + 1))] := F22
        refine w_lloadN X80 hx (hb hby d6_82) rfl (pc' := 83) rfl ?_
        refine w_l2i X80 hx (hb hby d6_83) (pc' := 84) rfl ?_
        refine w_i2b X80 hx (hb hby d6_84) (pc' := 85) rfl ?_
        refine w_bastoreEL (i := 2) (jn := (pz + 1)) X80 hx hZ N40 P80 rfl hkA2 (hb hby d6_85) rfl (own_oN (by omega)) (own_llt (own_sl (own_cgl hpA (by omega))) (by omega)) (pc' := 86) rfl ?_
        intro T81 L41 N41 X81 P81
        replace P81 : HP n0 T81.heap [c22, AC kk (List.map Value.int pA), AC kA2 (List.map Value.int (((pA ++ List.replicate (pM - pN) 0).set pz (nar .byte (Int8.toInt32 (Int32.toInt8 (Int64.toInt32 ((Int64.ofNat pn) ||| (128 : Int64))))))).set (pz + 1) (nar .byte (Int8.toInt32 (Int32.toInt8 (Int64.toInt32 (Int64.ofNat (pn / 128))))))))] := P81
        have eB : own_bytes 8 pn = [own_hi (pn), own_lo (pn / 128)] := by rw [own_bS, if_neg h10, own_bS, if_pos h11]
        exact w_ret_v X81 hx hret hlk (hb hby d6_86) (by decide) (by decide) ⟨rfl, N41, Or.inr ⟨hgr, kA2, hkA2, own_puts (pA ++ List.replicate (pM - pN) 0) pz (own_bytes 8 pn), (by rw [own_pl]; exact (own_cgl hpA (by omega))), own_Bput _ _ _ (own_Bapp hB) (own_Bb _ _), own_W2 (by rw [hpA]; omega) (by rw [hpl, own_cgl hpA (by omega)]; omega), c22, (by rw [← hpe, ← hpl, eB]; exact F22), (by rw [eB]; exact P81)⟩⟩
      · refine w_aloadN X77 hx (hb hby d6_36) rfl rfl (pc' := 37) rfl ?_
        refine w_getf (i := 0) (v := .ref (n0 + 2)) X77 hx hZ hown (wd11 hw) P77 rfl F21 0 rfl rfl (hb hby d6_37) (pc' := 40) rfl ?_
        intro T82 X82 P82
        refine w_aloadN X82 hx (hb hby d6_40) rfl rfl (pc' := 41) rfl ?_
        refine w_dup X82 hx (hb hby d6_41) rfl (pc' := 42) rfl ?_
        refine w_getf (i := 0) (v := .int (Int32.ofNat (pz + 1))) X82 hx hZ hown (wd18 hw) P82 rfl F21 1 rfl rfl (hb hby d6_42) (pc' := 45) rfl ?_
        intro T83 X83 P83
        refine w_dupX1 X83 hx (hb hby d6_45) rfl rfl (pc' := 46) rfl ?_
        refine w_iconst (v := (1 : Int32)) X83 hx (hb hby d6_46) rfl (pc' := 47) rfl ?_
        refine w_iadd X83 hx (hb hby d6_47) (pc' := 48) rfl ?_
        refine w_eqI (z := (Int32.ofNat ((pz + 1) + 1))) (own_oadd (pz + 1) 1) ?_
        refine w_putf (i := 0) (ty := .int) X83 hx hZ hown (wd18 hw) N39 P83 rfl F21 (di_C0 hw) 1 rfl (Or.inl (wd19 hw)) (wd2 hw) (by decide) rfl rfl (hb hby d6_48) (pc' := 51) rfl ?_
        intro T84 L42 c23 N42 X84 P84 F23
        replace P84 : HP n0 T84.heap [c23, AC kk (List.map Value.int pA), AC kA2 (List.map Value.int ((pA ++ List.replicate (pM - pN) 0).set pz (nar .byte (Int8.toInt32 (Int32.toInt8 (Int64.toInt32 ((Int64.ofNat pn) ||| (128 : Int64))))))))] := P84
        replace F23 : ObjF Z c23 "com/example/dirichlet/dirichlet/index/ByteSink" fl_C0 [.ref (n0 + 2), .int (Int32.ofNat ((pz + 1) + 1))] := F23
        refine w_lloadN X84 hx (hb hby d6_51) rfl (pc' := 52) rfl ?_
        refine w_ldc2 X84 hx (hb hby d6_52) hown (mvT hZ (wd48 hw)) (pc' := 55) rfl ?_
        refine w_lor X84 hx (hb hby d6_55) (pc' := 56) rfl ?_
        refine w_l2i X84 hx (hb hby d6_56) (pc' := 57) rfl ?_
        refine w_i2b X84 hx (hb hby d6_57) (pc' := 58) rfl ?_
        refine w_bastoreEL (i := 2) (jn := (pz + 1)) X84 hx hZ N42 P84 rfl hkA2 (hb hby d6_58) rfl (own_oN (by omega)) (own_llt (own_sl (own_cgl hpA (by omega))) (by omega)) (pc' := 59) rfl ?_
        intro T85 L43 N43 X85 P85
        replace P85 : HP n0 T85.heap [c23, AC kk (List.map Value.int pA), AC kA2 (List.map Value.int (((pA ++ List.replicate (pM - pN) 0).set pz (nar .byte (Int8.toInt32 (Int32.toInt8 (Int64.toInt32 ((Int64.ofNat pn) ||| (128 : Int64))))))).set (pz + 1) (nar .byte (Int8.toInt32 (Int32.toInt8 (Int64.toInt32 ((Int64.ofNat (pn / 128)) ||| (128 : Int64))))))))] := P85
        refine w_lloadN X85 hx (hb hby d6_59) rfl (pc' := 60) rfl ?_
        refine w_bipush (v := (7 : Int32)) X85 hx (hb hby d6_60) rfl (pc' := 62) rfl ?_
        refine w_lushr X85 hx (hb hby d6_62) (pc' := 63) rfl ?_
        refine w_eqJ (z := (Int64.ofNat (pn / 128 / 128))) (own_jshr (by omega)) ?_
        refine w_lstoreN (l' := #[.val (.ref (n0 + 0)), .val (.long (Int64.ofNat pn)), .second, .val (.long (Int64.ofNat (pn / 128 / 128))), .second]) X85 hx (hb hby d6_63) rfl (pc' := 64) rfl ?_
        refine w_goto X85 hx (hb hby d6_64) (by decide) (pc' := 28) (by decide) ?_
        refine w_lloadN X85 hx (hb hby d6_28) rfl (pc' := 29) rfl ?_
        refine w_ldc2 X85 hx (hb hby d6_29) hown (mvT hZ (wd48 hw)) (pc' := 32) rfl ?_
        refine w_lcmp_lt X85 hx (hb hby d6_32) rfl (hb hby d6_33) (by decide) (pcY := 67) (by decide) (pc' := 36) rfl (fun h12 => ?_) (fun h12 => ?_)
        · refine w_aloadN X85 hx (hb hby d6_67) rfl rfl (pc' := 68) rfl ?_
          refine w_getf (i := 0) (v := .ref (n0 + 2)) X85 hx hZ hown (wd11 hw) P85 rfl F23 0 rfl rfl (hb hby d6_68) (pc' := 71) rfl ?_
          intro T86 X86 P86
          refine w_aloadN X86 hx (hb hby d6_71) rfl rfl (pc' := 72) rfl ?_
          refine w_dup X86 hx (hb hby d6_72) rfl (pc' := 73) rfl ?_
          refine w_getf (i := 0) (v := .int (Int32.ofNat ((pz + 1) + 1))) X86 hx hZ hown (wd18 hw) P86 rfl F23 1 rfl rfl (hb hby d6_73) (pc' := 76) rfl ?_
          intro T87 X87 P87
          refine w_dupX1 X87 hx (hb hby d6_76) rfl rfl (pc' := 77) rfl ?_
          refine w_iconst (v := (1 : Int32)) X87 hx (hb hby d6_77) rfl (pc' := 78) rfl ?_
          refine w_iadd X87 hx (hb hby d6_78) (pc' := 79) rfl ?_
          refine w_eqI (z := (Int32.ofNat (((pz + 1) + 1) + 1))) (own_oadd ((pz + 1) + 1) 1) ?_
          refine w_putf (i := 0) (ty := .int) X87 hx hZ hown (wd18 hw) N43 P87 rfl F23 (di_C0 hw) 1 rfl (Or.inl (wd19 hw)) (wd2 hw) (by decide) rfl rfl (hb hby d6_79) (pc' := 82) rfl ?_
          intro T88 L44 c24 N44 X88 P88 F24
          replace P88 : HP n0 T88.heap [c24, AC kk (List.map Value.int pA), AC kA2 (List.map Value.int (((pA ++ List.replicate (pM - pN) 0).set pz (nar .byte (Int8.toInt32 (Int32.toInt8 (Int64.toInt32 ((Int64.ofNat pn) ||| (128 : Int64))))))).set (pz + 1) (nar .byte (Int8.toInt32 (Int32.toInt8 (Int64.toInt32 ((Int64.ofNat (pn / 128)) ||| (128 : Int64))))))))] := P88
          replace F24 : ObjF Z c24 "com/example/dirichlet/dirichlet/index/ByteSink" fl_C0 [.ref (n0 + 2), .int (Int32.ofNat (((pz + 1) + 1) + 1))] := F24
          refine w_lloadN X88 hx (hb hby d6_82) rfl (pc' := 83) rfl ?_
          refine w_l2i X88 hx (hb hby d6_83) (pc' := 84) rfl ?_
          refine w_i2b X88 hx (hb hby d6_84) (pc' := 85) rfl ?_
          refine w_bastoreEL (i := 2) (jn := ((pz + 1) + 1)) X88 hx hZ N44 P88 rfl hkA2 (hb hby d6_85) rfl (own_oN (by omega)) (own_llt (own_sl (own_sl (own_cgl hpA (by omega)))) (by omega)) (pc' := 86) rfl ?_
          intro T89 L45 N45 X89 P89
          replace P89 : HP n0 T89.heap [c24, AC kk (List.map Value.int pA), AC kA2 (List.map Value.int ((((pA ++ List.replicate (pM - pN) 0).set pz (nar .byte (Int8.toInt32 (Int32.toInt8 (Int64.toInt32 ((Int64.ofNat pn) ||| (128 : Int64))))))).set (pz + 1) (nar .byte (Int8.toInt32 (Int32.toInt8 (Int64.toInt32 ((Int64.ofNat (pn / 128)) ||| (128 : Int64))))))).set ((pz + 1) + 1) (nar .byte (Int8.toInt32 (Int32.toInt8 (Int64.toInt32 (Int64.ofNat (pn / 128 / 128))))))))] := P89
          have eB : own_bytes 8 pn = [own_hi (pn), own_hi (pn / 128), own_lo (pn / 128 / 128)] := by rw [own_bS, if_neg h10, own_bS, if_neg h11, own_bS, if_pos h12]
          exact w_ret_v X89 hx hret hlk (hb hby d6_86) (by decide) (by decide) ⟨rfl, N45, Or.inr ⟨hgr, kA2, hkA2, own_puts (pA ++ List.replicate (pM - pN) 0) pz (own_bytes 8 pn), (by rw [own_pl]; exact (own_cgl hpA (by omega))), own_Bput _ _ _ (own_Bapp hB) (own_Bb _ _), own_W2 (by rw [hpA]; omega) (by rw [hpl, own_cgl hpA (by omega)]; omega), c24, (by rw [← hpe, ← hpl, eB]; exact F24), (by rw [eB]; exact P89)⟩⟩
        · refine w_aloadN X85 hx (hb hby d6_36) rfl rfl (pc' := 37) rfl ?_
          refine w_getf (i := 0) (v := .ref (n0 + 2)) X85 hx hZ hown (wd11 hw) P85 rfl F23 0 rfl rfl (hb hby d6_37) (pc' := 40) rfl ?_
          intro T90 X90 P90
          refine w_aloadN X90 hx (hb hby d6_40) rfl rfl (pc' := 41) rfl ?_
          refine w_dup X90 hx (hb hby d6_41) rfl (pc' := 42) rfl ?_
          refine w_getf (i := 0) (v := .int (Int32.ofNat ((pz + 1) + 1))) X90 hx hZ hown (wd18 hw) P90 rfl F23 1 rfl rfl (hb hby d6_42) (pc' := 45) rfl ?_
          intro T91 X91 P91
          refine w_dupX1 X91 hx (hb hby d6_45) rfl rfl (pc' := 46) rfl ?_
          refine w_iconst (v := (1 : Int32)) X91 hx (hb hby d6_46) rfl (pc' := 47) rfl ?_
          refine w_iadd X91 hx (hb hby d6_47) (pc' := 48) rfl ?_
          refine w_eqI (z := (Int32.ofNat (((pz + 1) + 1) + 1))) (own_oadd ((pz + 1) + 1) 1) ?_
          refine w_putf (i := 0) (ty := .int) X91 hx hZ hown (wd18 hw) N43 P91 rfl F23 (di_C0 hw) 1 rfl (Or.inl (wd19 hw)) (wd2 hw) (by decide) rfl rfl (hb hby d6_48) (pc' := 51) rfl ?_
          intro T92 L46 c25 N46 X92 P92 F25
          replace P92 : HP n0 T92.heap [c25, AC kk (List.map Value.int pA), AC kA2 (List.map Value.int (((pA ++ List.replicate (pM - pN) 0).set pz (nar .byte (Int8.toInt32 (Int32.toInt8 (Int64.toInt32 ((Int64.ofNat pn) ||| (128 : Int64))))))).set (pz + 1) (nar .byte (Int8.toInt32 (Int32.toInt8 (Int64.toInt32 ((Int64.ofNat (pn / 128)) ||| (128 : Int64))))))))] := P92
          replace F25 : ObjF Z c25 "com/example/dirichlet/dirichlet/index/ByteSink" fl_C0 [.ref (n0 + 2), .int (Int32.ofNat (((pz + 1) + 1) + 1))] := F25
          refine w_lloadN X92 hx (hb hby d6_51) rfl (pc' := 52) rfl ?_
          refine w_ldc2 X92 hx (hb hby d6_52) hown (mvT hZ (wd48 hw)) (pc' := 55) rfl ?_
          refine w_lor X92 hx (hb hby d6_55) (pc' := 56) rfl ?_
          refine w_l2i X92 hx (hb hby d6_56) (pc' := 57) rfl ?_
          refine w_i2b X92 hx (hb hby d6_57) (pc' := 58) rfl ?_
          refine w_bastoreEL (i := 2) (jn := ((pz + 1) + 1)) X92 hx hZ N46 P92 rfl hkA2 (hb hby d6_58) rfl (own_oN (by omega)) (own_llt (own_sl (own_sl (own_cgl hpA (by omega)))) (by omega)) (pc' := 59) rfl ?_
          intro T93 L47 N47 X93 P93
          replace P93 : HP n0 T93.heap [c25, AC kk (List.map Value.int pA), AC kA2 (List.map Value.int ((((pA ++ List.replicate (pM - pN) 0).set pz (nar .byte (Int8.toInt32 (Int32.toInt8 (Int64.toInt32 ((Int64.ofNat pn) ||| (128 : Int64))))))).set (pz + 1) (nar .byte (Int8.toInt32 (Int32.toInt8 (Int64.toInt32 ((Int64.ofNat (pn / 128)) ||| (128 : Int64))))))).set ((pz + 1) + 1) (nar .byte (Int8.toInt32 (Int32.toInt8 (Int64.toInt32 ((Int64.ofNat (pn / 128 / 128)) ||| (128 : Int64))))))))] := P93
          refine w_lloadN X93 hx (hb hby d6_59) rfl (pc' := 60) rfl ?_
          refine w_bipush (v := (7 : Int32)) X93 hx (hb hby d6_60) rfl (pc' := 62) rfl ?_
          refine w_lushr X93 hx (hb hby d6_62) (pc' := 63) rfl ?_
          refine w_eqJ (z := (Int64.ofNat (pn / 128 / 128 / 128))) (own_jshr (by omega)) ?_
          refine w_lstoreN (l' := #[.val (.ref (n0 + 0)), .val (.long (Int64.ofNat pn)), .second, .val (.long (Int64.ofNat (pn / 128 / 128 / 128))), .second]) X93 hx (hb hby d6_63) rfl (pc' := 64) rfl ?_
          refine w_goto X93 hx (hb hby d6_64) (by decide) (pc' := 28) (by decide) ?_
          refine w_lloadN X93 hx (hb hby d6_28) rfl (pc' := 29) rfl ?_
          refine w_ldc2 X93 hx (hb hby d6_29) hown (mvT hZ (wd48 hw)) (pc' := 32) rfl ?_
          refine w_lcmp_lt X93 hx (hb hby d6_32) rfl (hb hby d6_33) (by decide) (pcY := 67) (by decide) (pc' := 36) rfl (fun h13 => ?_) (fun h13 => ?_)
          · refine w_aloadN X93 hx (hb hby d6_67) rfl rfl (pc' := 68) rfl ?_
            refine w_getf (i := 0) (v := .ref (n0 + 2)) X93 hx hZ hown (wd11 hw) P93 rfl F25 0 rfl rfl (hb hby d6_68) (pc' := 71) rfl ?_
            intro T94 X94 P94
            refine w_aloadN X94 hx (hb hby d6_71) rfl rfl (pc' := 72) rfl ?_
            refine w_dup X94 hx (hb hby d6_72) rfl (pc' := 73) rfl ?_
            refine w_getf (i := 0) (v := .int (Int32.ofNat (((pz + 1) + 1) + 1))) X94 hx hZ hown (wd18 hw) P94 rfl F25 1 rfl rfl (hb hby d6_73) (pc' := 76) rfl ?_
            intro T95 X95 P95
            refine w_dupX1 X95 hx (hb hby d6_76) rfl rfl (pc' := 77) rfl ?_
            refine w_iconst (v := (1 : Int32)) X95 hx (hb hby d6_77) rfl (pc' := 78) rfl ?_
            refine w_iadd X95 hx (hb hby d6_78) (pc' := 79) rfl ?_
            refine w_eqI (z := (Int32.ofNat ((((pz + 1) + 1) + 1) + 1))) (own_oadd (((pz + 1) + 1) + 1) 1) ?_
            refine w_putf (i := 0) (ty := .int) X95 hx hZ hown (wd18 hw) N47 P95 rfl F25 (di_C0 hw) 1 rfl (Or.inl (wd19 hw)) (wd2 hw) (by decide) rfl rfl (hb hby d6_79) (pc' := 82) rfl ?_
            intro T96 L48 c26 N48 X96 P96 F26
            replace P96 : HP n0 T96.heap [c26, AC kk (List.map Value.int pA), AC kA2 (List.map Value.int ((((pA ++ List.replicate (pM - pN) 0).set pz (nar .byte (Int8.toInt32 (Int32.toInt8 (Int64.toInt32 ((Int64.ofNat pn) ||| (128 : Int64))))))).set (pz + 1) (nar .byte (Int8.toInt32 (Int32.toInt8 (Int64.toInt32 ((Int64.ofNat (pn / 128)) ||| (128 : Int64))))))).set ((pz + 1) + 1) (nar .byte (Int8.toInt32 (Int32.toInt8 (Int64.toInt32 ((Int64.ofNat (pn / 128 / 128)) ||| (128 : Int64))))))))] := P96
            replace F26 : ObjF Z c26 "com/example/dirichlet/dirichlet/index/ByteSink" fl_C0 [.ref (n0 + 2), .int (Int32.ofNat ((((pz + 1) + 1) + 1) + 1))] := F26
            refine w_lloadN X96 hx (hb hby d6_82) rfl (pc' := 83) rfl ?_
            refine w_l2i X96 hx (hb hby d6_83) (pc' := 84) rfl ?_
            refine w_i2b X96 hx (hb hby d6_84) (pc' := 85) rfl ?_
            refine w_bastoreEL (i := 2) (jn := (((pz + 1) + 1) + 1)) X96 hx hZ N48 P96 rfl hkA2 (hb hby d6_85) rfl (own_oN (by omega)) (own_llt (own_sl (own_sl (own_sl (own_cgl hpA (by omega))))) (by omega)) (pc' := 86) rfl ?_
            intro T97 L49 N49 X97 P97
            replace P97 : HP n0 T97.heap [c26, AC kk (List.map Value.int pA), AC kA2 (List.map Value.int (((((pA ++ List.replicate (pM - pN) 0).set pz (nar .byte (Int8.toInt32 (Int32.toInt8 (Int64.toInt32 ((Int64.ofNat pn) ||| (128 : Int64))))))).set (pz + 1) (nar .byte (Int8.toInt32 (Int32.toInt8 (Int64.toInt32 ((Int64.ofNat (pn / 128)) ||| (128 : Int64))))))).set ((pz + 1) + 1) (nar .byte (Int8.toInt32 (Int32.toInt8 (Int64.toInt32 ((Int64.ofNat (pn / 128 / 128)) ||| (128 : Int64))))))).set (((pz + 1) + 1) + 1) (nar .byte (Int8.toInt32 (Int32.toInt8 (Int64.toInt32 (Int64.ofNat (pn / 128 / 128 / 128))))))))] := P97
            have eB : own_bytes 8 pn = [own_hi (pn), own_hi (pn / 128), own_hi (pn / 128 / 128), own_lo (pn / 128 / 128 / 128)] := by rw [own_bS, if_neg h10, own_bS, if_neg h11, own_bS, if_neg h12, own_bS, if_pos h13]
            exact w_ret_v X97 hx hret hlk (hb hby d6_86) (by decide) (by decide) ⟨rfl, N49, Or.inr ⟨hgr, kA2, hkA2, own_puts (pA ++ List.replicate (pM - pN) 0) pz (own_bytes 8 pn), (by rw [own_pl]; exact (own_cgl hpA (by omega))), own_Bput _ _ _ (own_Bapp hB) (own_Bb _ _), own_W2 (by rw [hpA]; omega) (by rw [hpl, own_cgl hpA (by omega)]; omega), c26, (by rw [← hpe, ← hpl, eB]; exact F26), (by rw [eB]; exact P97)⟩⟩
          · refine w_aloadN X93 hx (hb hby d6_36) rfl rfl (pc' := 37) rfl ?_
            refine w_getf (i := 0) (v := .ref (n0 + 2)) X93 hx hZ hown (wd11 hw) P93 rfl F25 0 rfl rfl (hb hby d6_37) (pc' := 40) rfl ?_
            intro T98 X98 P98
            refine w_aloadN X98 hx (hb hby d6_40) rfl rfl (pc' := 41) rfl ?_
            refine w_dup X98 hx (hb hby d6_41) rfl (pc' := 42) rfl ?_
            refine w_getf (i := 0) (v := .int (Int32.ofNat (((pz + 1) + 1) + 1))) X98 hx hZ hown (wd18 hw) P98 rfl F25 1 rfl rfl (hb hby d6_42) (pc' := 45) rfl ?_
            intro T99 X99 P99
            refine w_dupX1 X99 hx (hb hby d6_45) rfl rfl (pc' := 46) rfl ?_
            refine w_iconst (v := (1 : Int32)) X99 hx (hb hby d6_46) rfl (pc' := 47) rfl ?_
            refine w_iadd X99 hx (hb hby d6_47) (pc' := 48) rfl ?_
            refine w_eqI (z := (Int32.ofNat ((((pz + 1) + 1) + 1) + 1))) (own_oadd (((pz + 1) + 1) + 1) 1) ?_
            refine w_putf (i := 0) (ty := .int) X99 hx hZ hown (wd18 hw) N47 P99 rfl F25 (di_C0 hw) 1 rfl (Or.inl (wd19 hw)) (wd2 hw) (by decide) rfl rfl (hb hby d6_48) (pc' := 51) rfl ?_
            intro T100 L50 c27 N50 X100 P100 F27
            replace P100 : HP n0 T100.heap [c27, AC kk (List.map Value.int pA), AC kA2 (List.map Value.int ((((pA ++ List.replicate (pM - pN) 0).set pz (nar .byte (Int8.toInt32 (Int32.toInt8 (Int64.toInt32 ((Int64.ofNat pn) ||| (128 : Int64))))))).set (pz + 1) (nar .byte (Int8.toInt32 (Int32.toInt8 (Int64.toInt32 ((Int64.ofNat (pn / 128)) ||| (128 : Int64))))))).set ((pz + 1) + 1) (nar .byte (Int8.toInt32 (Int32.toInt8 (Int64.toInt32 ((Int64.ofNat (pn / 128 / 128)) ||| (128 : Int64))))))))] := P100
            replace F27 : ObjF Z c27 "com/example/dirichlet/dirichlet/index/ByteSink" fl_C0 [.ref (n0 + 2), .int (Int32.ofNat ((((pz + 1) + 1) + 1) + 1))] := F27
            refine w_lloadN X100 hx (hb hby d6_51) rfl (pc' := 52) rfl ?_
            refine w_ldc2 X100 hx (hb hby d6_52) hown (mvT hZ (wd48 hw)) (pc' := 55) rfl ?_
            refine w_lor X100 hx (hb hby d6_55) (pc' := 56) rfl ?_
            refine w_l2i X100 hx (hb hby d6_56) (pc' := 57) rfl ?_
            refine w_i2b X100 hx (hb hby d6_57) (pc' := 58) rfl ?_
            refine w_bastoreEL (i := 2) (jn := (((pz + 1) + 1) + 1)) X100 hx hZ N50 P100 rfl hkA2 (hb hby d6_58) rfl (own_oN (by omega)) (own_llt (own_sl (own_sl (own_sl (own_cgl hpA (by omega))))) (by omega)) (pc' := 59) rfl ?_
            intro T101 L51 N51 X101 P101
            replace P101 : HP n0 T101.heap [c27, AC kk (List.map Value.int pA), AC kA2 (List.map Value.int (((((pA ++ List.replicate (pM - pN) 0).set pz (nar .byte (Int8.toInt32 (Int32.toInt8 (Int64.toInt32 ((Int64.ofNat pn) ||| (128 : Int64))))))).set (pz + 1) (nar .byte (Int8.toInt32 (Int32.toInt8 (Int64.toInt32 ((Int64.ofNat (pn / 128)) ||| (128 : Int64))))))).set ((pz + 1) + 1) (nar .byte (Int8.toInt32 (Int32.toInt8 (Int64.toInt32 ((Int64.ofNat (pn / 128 / 128)) ||| (128 : Int64))))))).set (((pz + 1) + 1) + 1) (nar .byte (Int8.toInt32 (Int32.toInt8 (Int64.toInt32 ((Int64.ofNat (pn / 128 / 128 / 128)) ||| (128 : Int64))))))))] := P101
            refine w_lloadN X101 hx (hb hby d6_59) rfl (pc' := 60) rfl ?_
            refine w_bipush (v := (7 : Int32)) X101 hx (hb hby d6_60) rfl (pc' := 62) rfl ?_
            refine w_lushr X101 hx (hb hby d6_62) (pc' := 63) rfl ?_
            refine w_eqJ (z := (Int64.ofNat (pn / 128 / 128 / 128 / 128))) (own_jshr (by omega)) ?_
            refine w_lstoreN (l' := #[.val (.ref (n0 + 0)), .val (.long (Int64.ofNat pn)), .second, .val (.long (Int64.ofNat (pn / 128 / 128 / 128 / 128))), .second]) X101 hx (hb hby d6_63) rfl (pc' := 64) rfl ?_
            refine w_goto X101 hx (hb hby d6_64) (by decide) (pc' := 28) (by decide) ?_
            refine w_lloadN X101 hx (hb hby d6_28) rfl (pc' := 29) rfl ?_
            refine w_ldc2 X101 hx (hb hby d6_29) hown (mvT hZ (wd48 hw)) (pc' := 32) rfl ?_
            refine w_lcmp_lt X101 hx (hb hby d6_32) rfl (hb hby d6_33) (by decide) (pcY := 67) (by decide) (pc' := 36) rfl (fun h14 => ?_) (fun h14 => ?_)
            · refine w_aloadN X101 hx (hb hby d6_67) rfl rfl (pc' := 68) rfl ?_
              refine w_getf (i := 0) (v := .ref (n0 + 2)) X101 hx hZ hown (wd11 hw) P101 rfl F27 0 rfl rfl (hb hby d6_68) (pc' := 71) rfl ?_
              intro T102 X102 P102
              refine w_aloadN X102 hx (hb hby d6_71) rfl rfl (pc' := 72) rfl ?_
              refine w_dup X102 hx (hb hby d6_72) rfl (pc' := 73) rfl ?_
              refine w_getf (i := 0) (v := .int (Int32.ofNat ((((pz + 1) + 1) + 1) + 1))) X102 hx hZ hown (wd18 hw) P102 rfl F27 1 rfl rfl (hb hby d6_73) (pc' := 76) rfl ?_
              intro T103 X103 P103
              refine w_dupX1 X103 hx (hb hby d6_76) rfl rfl (pc' := 77) rfl ?_
              refine w_iconst (v := (1 : Int32)) X103 hx (hb hby d6_77) rfl (pc' := 78) rfl ?_
              refine w_iadd X103 hx (hb hby d6_78) (pc' := 79) rfl ?_
              refine w_eqI (z := (Int32.ofNat (((((pz + 1) + 1) + 1) + 1) + 1))) (own_oadd ((((pz + 1) + 1) + 1) + 1) 1) ?_
              refine w_putf (i := 0) (ty := .int) X103 hx hZ hown (wd18 hw) N51 P103 rfl F27 (di_C0 hw) 1 rfl (Or.inl (wd19 hw)) (wd2 hw) (by decide) rfl rfl (hb hby d6_79) (pc' := 82) rfl ?_
              intro T104 L52 c28 N52 X104 P104 F28
              replace P104 : HP n0 T104.heap [c28, AC kk (List.map Value.int pA), AC kA2 (List.map Value.int (((((pA ++ List.replicate (pM - pN) 0).set pz (nar .byte (Int8.toInt32 (Int32.toInt8 (Int64.toInt32 ((Int64.ofNat pn) ||| (128 : Int64))))))).set (pz + 1) (nar .byte (Int8.toInt32 (Int32.toInt8 (Int64.toInt32 ((Int64.ofNat (pn / 128)) ||| (128 : Int64))))))).set ((pz + 1) + 1) (nar .byte (Int8.toInt32 (Int32.toInt8 (Int64.toInt32 ((Int64.ofNat (pn / 128 / 128)) ||| (128 : Int64))))))).set (((pz + 1) + 1) + 1) (nar .byte (Int8.toInt32 (Int32.toInt8 (Int64.toInt32 ((Int64.ofNat (pn / 128 / 128 / 128)) ||| (128 : Int64))))))))] := P104
              replace F28 : ObjF Z c28 "com/example/dirichlet/dirichlet/index/ByteSink" fl_C0 [.ref (n0 + 2), .int (Int32.ofNat (((((pz + 1) + 1) + 1) + 1) + 1))] := F28
              refine w_lloadN X104 hx (hb hby d6_82) rfl (pc' := 83) rfl ?_
              refine w_l2i X104 hx (hb hby d6_83) (pc' := 84) rfl ?_
              refine w_i2b X104 hx (hb hby d6_84) (pc' := 85) rfl ?_
              refine w_bastoreEL (i := 2) (jn := ((((pz + 1) + 1) + 1) + 1)) X104 hx hZ N52 P104 rfl hkA2 (hb hby d6_85) rfl (own_oN (by omega)) (own_llt (own_sl (own_sl (own_sl (own_sl (own_cgl hpA (by omega)))))) (by omega)) (pc' := 86) rfl ?_
              intro T105 L53 N53 X105 P105
              replace P105 : HP n0 T105.heap [c28, AC kk (List.map Value.int pA), AC kA2 (List.map Value.int ((((((pA ++ List.replicate (pM - pN) 0).set pz (nar .byte (Int8.toInt32 (Int32.toInt8 (Int64.toInt32 ((Int64.ofNat pn) ||| (128 : Int64))))))).set (pz + 1) (nar .byte (Int8.toInt32 (Int32.toInt8 (Int64.toInt32 ((Int64.ofNat (pn / 128)) ||| (128 : Int64))))))).set ((pz + 1) + 1) (nar .byte (Int8.toInt32 (Int32.toInt8 (Int64.toInt32 ((Int64.ofNat (pn / 128 / 128)) ||| (128 : Int64))))))).set (((pz + 1) + 1) + 1) (nar .byte (Int8.toInt32 (Int32.toInt8 (Int64.toInt32 ((Int64.ofNat (pn / 128 / 128 / 128)) ||| (128 : Int64))))))).set ((((pz + 1) + 1) + 1) + 1) (nar .byte (Int8.toInt32 (Int32.toInt8 (Int64.toInt32 (Int64.ofNat (pn / 128 / 128 / 128 / 128))))))))] := P105
              have eB : own_bytes 8 pn = [own_hi (pn), own_hi (pn / 128), own_hi (pn / 128 / 128), own_hi (pn / 128 / 128 / 128), own_lo (pn / 128 / 128 / 128 / 128)] := by rw [own_bS, if_neg h10, own_bS, if_neg h11, own_bS, if_neg h12, own_bS, if_neg h13, own_bS, if_pos h14]
              exact w_ret_v X105 hx hret hlk (hb hby d6_86) (by decide) (by decide) ⟨rfl, N53, Or.inr ⟨hgr, kA2, hkA2, own_puts (pA ++ List.replicate (pM - pN) 0) pz (own_bytes 8 pn), (by rw [own_pl]; exact (own_cgl hpA (by omega))), own_Bput _ _ _ (own_Bapp hB) (own_Bb _ _), own_W2 (by rw [hpA]; omega) (by rw [hpl, own_cgl hpA (by omega)]; omega), c28, (by rw [← hpe, ← hpl, eB]; exact F28), (by rw [eB]; exact P105)⟩⟩
            · refine w_aloadN X101 hx (hb hby d6_36) rfl rfl (pc' := 37) rfl ?_
              refine w_getf (i := 0) (v := .ref (n0 + 2)) X101 hx hZ hown (wd11 hw) P101 rfl F27 0 rfl rfl (hb hby d6_37) (pc' := 40) rfl ?_
              intro T106 X106 P106
              refine w_aloadN X106 hx (hb hby d6_40) rfl rfl (pc' := 41) rfl ?_
              refine w_dup X106 hx (hb hby d6_41) rfl (pc' := 42) rfl ?_
              refine w_getf (i := 0) (v := .int (Int32.ofNat ((((pz + 1) + 1) + 1) + 1))) X106 hx hZ hown (wd18 hw) P106 rfl F27 1 rfl rfl (hb hby d6_42) (pc' := 45) rfl ?_
              intro T107 X107 P107
              refine w_dupX1 X107 hx (hb hby d6_45) rfl rfl (pc' := 46) rfl ?_
              refine w_iconst (v := (1 : Int32)) X107 hx (hb hby d6_46) rfl (pc' := 47) rfl ?_
              refine w_iadd X107 hx (hb hby d6_47) (pc' := 48) rfl ?_
              refine w_eqI (z := (Int32.ofNat (((((pz + 1) + 1) + 1) + 1) + 1))) (own_oadd ((((pz + 1) + 1) + 1) + 1) 1) ?_
              refine w_putf (i := 0) (ty := .int) X107 hx hZ hown (wd18 hw) N51 P107 rfl F27 (di_C0 hw) 1 rfl (Or.inl (wd19 hw)) (wd2 hw) (by decide) rfl rfl (hb hby d6_48) (pc' := 51) rfl ?_
              intro T108 L54 c29 N54 X108 P108 F29
              replace P108 : HP n0 T108.heap [c29, AC kk (List.map Value.int pA), AC kA2 (List.map Value.int (((((pA ++ List.replicate (pM - pN) 0).set pz (nar .byte (Int8.toInt32 (Int32.toInt8 (Int64.toInt32 ((Int64.ofNat pn) ||| (128 : Int64))))))).set (pz + 1) (nar .byte (Int8.toInt32 (Int32.toInt8 (Int64.toInt32 ((Int64.ofNat (pn / 128)) ||| (128 : Int64))))))).set ((pz + 1) + 1) (nar .byte (Int8.toInt32 (Int32.toInt8 (Int64.toInt32 ((Int64.ofNat (pn / 128 / 128)) ||| (128 : Int64))))))).set (((pz + 1) + 1) + 1) (nar .byte (Int8.toInt32 (Int32.toInt8 (Int64.toInt32 ((Int64.ofNat (pn / 128 / 128 / 128)) ||| (128 : Int64))))))))] := P108
              replace F29 : ObjF Z c29 "com/example/dirichlet/dirichlet/index/ByteSink" fl_C0 [.ref (n0 + 2), .int (Int32.ofNat (((((pz + 1) + 1) + 1) + 1) + 1))] := F29
              refine w_lloadN X108 hx (hb hby d6_51) rfl (pc' := 52) rfl ?_
              refine w_ldc2 X108 hx (hb hby d6_52) hown (mvT hZ (wd48 hw)) (pc' := 55) rfl ?_
              refine w_lor X108 hx (hb hby d6_55) (pc' := 56) rfl ?_
              refine w_l2i X108 hx (hb hby d6_56) (pc' := 57) rfl ?_
              refine w_i2b X108 hx (hb hby d6_57) (pc' := 58) rfl ?_
              refine w_bastoreEL (i := 2) (jn := ((((pz + 1) + 1) + 1) + 1)) X108 hx hZ N54 P108 rfl hkA2 (hb hby d6_58) rfl (own_oN (by omega)) (own_llt (own_sl (own_sl (own_sl (own_sl (own_cgl hpA (by omega)))))) (by omega)) (pc' := 59) rfl ?_
              intro T109 L55 N55 X109 P109
              replace P109 : HP n0 T109.heap [c29, AC kk (List.map Value.int pA), AC kA2 (List.map Value.int ((((((pA ++ List.replicate (pM - pN) 0).set pz (nar .byte (Int8.toInt32 (Int32.toInt8 (Int64.toInt32 ((Int64.ofNat pn) ||| (128 : Int64))))))).set (pz + 1) (nar .byte (Int8.toInt32 (Int32.toInt8 (Int64.toInt32 ((Int64.ofNat (pn / 128)) ||| (128 : Int64))))))).set ((pz + 1) + 1) (nar .byte (Int8.toInt32 (Int32.toInt8 (Int64.toInt32 ((Int64.ofNat (pn / 128 / 128)) ||| (128 : Int64))))))).set (((pz + 1) + 1) + 1) (nar .byte (Int8.toInt32 (Int32.toInt8 (Int64.toInt32 ((Int64.ofNat (pn / 128 / 128 / 128)) ||| (128 : Int64))))))).set ((((pz + 1) + 1) + 1) + 1) (nar .byte (Int8.toInt32 (Int32.toInt8 (Int64.toInt32 ((Int64.ofNat (pn / 128 / 128 / 128 / 128)) ||| (128 : Int64))))))))] := P109
              refine w_lloadN X109 hx (hb hby d6_59) rfl (pc' := 60) rfl ?_
              refine w_bipush (v := (7 : Int32)) X109 hx (hb hby d6_60) rfl (pc' := 62) rfl ?_
              refine w_lushr X109 hx (hb hby d6_62) (pc' := 63) rfl ?_
              refine w_eqJ (z := (Int64.ofNat (pn / 128 / 128 / 128 / 128 / 128))) (own_jshr (by omega)) ?_
              refine w_lstoreN (l' := #[.val (.ref (n0 + 0)), .val (.long (Int64.ofNat pn)), .second, .val (.long (Int64.ofNat (pn / 128 / 128 / 128 / 128 / 128))), .second]) X109 hx (hb hby d6_63) rfl (pc' := 64) rfl ?_
              refine w_goto X109 hx (hb hby d6_64) (by decide) (pc' := 28) (by decide) ?_
              refine w_lloadN X109 hx (hb hby d6_28) rfl (pc' := 29) rfl ?_
              refine w_ldc2 X109 hx (hb hby d6_29) hown (mvT hZ (wd48 hw)) (pc' := 32) rfl ?_
              refine w_lcmp_lt X109 hx (hb hby d6_32) rfl (hb hby d6_33) (by decide) (pcY := 67) (by decide) (pc' := 36) rfl (fun h15 => ?_) (fun h15 => ?_)
              · refine w_aloadN X109 hx (hb hby d6_67) rfl rfl (pc' := 68) rfl ?_
                refine w_getf (i := 0) (v := .ref (n0 + 2)) X109 hx hZ hown (wd11 hw) P109 rfl F29 0 rfl rfl (hb hby d6_68) (pc' := 71) rfl ?_
                intro T110 X110 P110
                refine w_aloadN X110 hx (hb hby d6_71) rfl rfl (pc' := 72) rfl ?_
                refine w_dup X110 hx (hb hby d6_72) rfl (pc' := 73) rfl ?_
                refine w_getf (i := 0) (v := .int (Int32.ofNat (((((pz + 1) + 1) + 1) + 1) + 1))) X110 hx hZ hown (wd18 hw) P110 rfl F29 1 rfl rfl (hb hby d6_73) (pc' := 76) rfl ?_
                intro T111 X111 P111
                refine w_dupX1 X111 hx (hb hby d6_76) rfl rfl (pc' := 77) rfl ?_
                refine w_iconst (v := (1 : Int32)) X111 hx (hb hby d6_77) rfl (pc' := 78) rfl ?_
                refine w_iadd X111 hx (hb hby d6_78) (pc' := 79) rfl ?_
                refine w_eqI (z := (Int32.ofNat ((((((pz + 1) + 1) + 1) + 1) + 1) + 1))) (own_oadd (((((pz + 1) + 1) + 1) + 1) + 1) 1) ?_
                refine w_putf (i := 0) (ty := .int) X111 hx hZ hown (wd18 hw) N55 P111 rfl F29 (di_C0 hw) 1 rfl (Or.inl (wd19 hw)) (wd2 hw) (by decide) rfl rfl (hb hby d6_79) (pc' := 82) rfl ?_
                intro T112 L56 c30 N56 X112 P112 F30
                replace P112 : HP n0 T112.heap [c30, AC kk (List.map Value.int pA), AC kA2 (List.map Value.int ((((((pA ++ List.replicate (pM - pN) 0).set pz (nar .byte (Int8.toInt32 (Int32.toInt8 (Int64.toInt32 ((Int64.ofNat pn) ||| (128 : Int64))))))).set (pz + 1) (nar .byte (Int8.toInt32 (Int32.toInt8 (Int64.toInt32 ((Int64.ofNat (pn / 128)) ||| (128 : Int64))))))).set ((pz + 1) + 1) (nar .byte (Int8.toInt32 (Int32.toInt8 (Int64.toInt32 ((Int64.ofNat (pn / 128 / 128)) ||| (128 : Int64))))))).set (((pz + 1) + 1) + 1) (nar .byte (Int8.toInt32 (Int32.toInt8 (Int64.toInt32 ((Int64.ofNat (pn / 128 / 128 / 128)) ||| (128 : Int64))))))).set ((((pz + 1) + 1) + 1) + 1) (nar .byte (Int8.toInt32 (Int32.toInt8 (Int64.toInt32 ((Int64.ofNat (pn / 128 / 128 / 128 / 128)) ||| (128 : Int64))))))))] := P112
                replace F30 : ObjF Z c30 "com/example/dirichlet/dirichlet/index/ByteSink" fl_C0 [.ref (n0 + 2), .int (Int32.ofNat ((((((pz + 1) + 1) + 1) + 1) + 1) + 1))] := F30
                refine w_lloadN X112 hx (hb hby d6_82) rfl (pc' := 83) rfl ?_
                refine w_l2i X112 hx (hb hby d6_83) (pc' := 84) rfl ?_
                refine w_i2b X112 hx (hb hby d6_84) (pc' := 85) rfl ?_
                refine w_bastoreEL (i := 2) (jn := (((((pz + 1) + 1) + 1) + 1) + 1)) X112 hx hZ N56 P112 rfl hkA2 (hb hby d6_85) rfl (own_oN (by omega)) (own_llt (own_sl (own_sl (own_sl (own_sl (own_sl (own_cgl hpA (by omega))))))) (by omega)) (pc' := 86) rfl ?_
                intro T113 L57 N57 X113 P113
                replace P113 : HP n0 T113.heap [c30, AC kk (List.map Value.int pA), AC kA2 (List.map Value.int (((((((pA ++ List.replicate (pM - pN) 0).set pz (nar .byte (Int8.toInt32 (Int32.toInt8 (Int64.toInt32 ((Int64.ofNat pn) ||| (128 : Int64))))))).set (pz + 1) (nar .byte (Int8.toInt32 (Int32.toInt8 (Int64.toInt32 ((Int64.ofNat (pn / 128)) ||| (128 : Int64))))))).set ((pz + 1) + 1) (nar .byte (Int8.toInt32 (Int32.toInt8 (Int64.toInt32 ((Int64.ofNat (pn / 128 / 128)) ||| (128 : Int64))))))).set (((pz + 1) + 1) + 1) (nar .byte (Int8.toInt32 (Int32.toInt8 (Int64.toInt32 ((Int64.ofNat (pn / 128 / 128 / 128)) ||| (128 : Int64))))))).set ((((pz + 1) + 1) + 1) + 1) (nar .byte (Int8.toInt32 (Int32.toInt8 (Int64.toInt32 ((Int64.ofNat (pn / 128 / 128 / 128 / 128)) ||| (128 : Int64))))))).set (((((pz + 1) + 1) + 1) + 1) + 1) (nar .byte (Int8.toInt32 (Int32.toInt8 (Int64.toInt32 (Int64.ofNat (pn / 128 / 128 / 128 / 128 / 128))))))))] := P113
                have eB : own_bytes 8 pn = [own_hi (pn), own_hi (pn / 128), own_hi (pn / 128 / 128), own_hi (pn / 128 / 128 / 128), own_hi (pn / 128 / 128 / 128 / 128), own_lo (pn / 128 / 128 / 128 / 128 / 128)] := by rw [own_bS, if_neg h10, own_bS, if_neg h11, own_bS, if_neg h12, own_bS, if_neg h13, own_bS, if_neg h14, own_bS, if_pos h15]
                exact w_ret_v X113 hx hret hlk (hb hby d6_86) (by decide) (by decide) ⟨rfl, N57, Or.inr ⟨hgr, kA2, hkA2, own_puts (pA ++ List.replicate (pM - pN) 0) pz (own_bytes 8 pn), (by rw [own_pl]; exact (own_cgl hpA (by omega))), own_Bput _ _ _ (own_Bapp hB) (own_Bb _ _), own_W2 (by rw [hpA]; omega) (by rw [hpl, own_cgl hpA (by omega)]; omega), c30, (by rw [← hpe, ← hpl, eB]; exact F30), (by rw [eB]; exact P113)⟩⟩
              · refine w_aloadN X109 hx (hb hby d6_36) rfl rfl (pc' := 37) rfl ?_
                refine w_getf (i := 0) (v := .ref (n0 + 2)) X109 hx hZ hown (wd11 hw) P109 rfl F29 0 rfl rfl (hb hby d6_37) (pc' := 40) rfl ?_
                intro T114 X114 P114
                refine w_aloadN X114 hx (hb hby d6_40) rfl rfl (pc' := 41) rfl ?_
                refine w_dup X114 hx (hb hby d6_41) rfl (pc' := 42) rfl ?_
                refine w_getf (i := 0) (v := .int (Int32.ofNat (((((pz + 1) + 1) + 1) + 1) + 1))) X114 hx hZ hown (wd18 hw) P114 rfl F29 1 rfl rfl (hb hby d6_42) (pc' := 45) rfl ?_
                intro T115 X115 P115
                refine w_dupX1 X115 hx (hb hby d6_45) rfl rfl (pc' := 46) rfl ?_
                refine w_iconst (v := (1 : Int32)) X115 hx (hb hby d6_46) rfl (pc' := 47) rfl ?_
                refine w_iadd X115 hx (hb hby d6_47) (pc' := 48) rfl ?_
                refine w_eqI (z := (Int32.ofNat ((((((pz + 1) + 1) + 1) + 1) + 1) + 1))) (own_oadd (((((pz + 1) + 1) + 1) + 1) + 1) 1) ?_
                refine w_putf (i := 0) (ty := .int) X115 hx hZ hown (wd18 hw) N55 P115 rfl F29 (di_C0 hw) 1 rfl (Or.inl (wd19 hw)) (wd2 hw) (by decide) rfl rfl (hb hby d6_48) (pc' := 51) rfl ?_
                intro T116 L58 c31 N58 X116 P116 F31
                replace P116 : HP n0 T116.heap [c31, AC kk (List.map Value.int pA), AC kA2 (List.map Value.int ((((((pA ++ List.replicate (pM - pN) 0).set pz (nar .byte (Int8.toInt32 (Int32.toInt8 (Int64.toInt32 ((Int64.ofNat pn) ||| (128 : Int64))))))).set (pz + 1) (nar .byte (Int8.toInt32 (Int32.toInt8 (Int64.toInt32 ((Int64.ofNat (pn / 128)) ||| (128 : Int64))))))).set ((pz + 1) + 1) (nar .byte (Int8.toInt32 (Int32.toInt8 (Int64.toInt32 ((Int64.ofNat (pn / 128 / 128)) ||| (128 : Int64))))))).set (((pz + 1) + 1) + 1) (nar .byte (Int8.toInt32 (Int32.toInt8 (Int64.toInt32 ((Int64.ofNat (pn / 128 / 128 / 128)) ||| (128 : Int64))))))).set ((((pz + 1) + 1) + 1) + 1) (nar .byte (Int8.toInt32 (Int32.toInt8 (Int64.toInt32 ((Int64.ofNat (pn / 128 / 128 / 128 / 128)) ||| (128 : Int64))))))))] := P116
                replace F31 : ObjF Z c31 "com/example/dirichlet/dirichlet/index/ByteSink" fl_C0 [.ref (n0 + 2), .int (Int32.ofNat ((((((pz + 1) + 1) + 1) + 1) + 1) + 1))] := F31
                refine w_lloadN X116 hx (hb hby d6_51) rfl (pc' := 52) rfl ?_
                refine w_ldc2 X116 hx (hb hby d6_52) hown (mvT hZ (wd48 hw)) (pc' := 55) rfl ?_
                refine w_lor X116 hx (hb hby d6_55) (pc' := 56) rfl ?_
                refine w_l2i X116 hx (hb hby d6_56) (pc' := 57) rfl ?_
                refine w_i2b X116 hx (hb hby d6_57) (pc' := 58) rfl ?_
                refine w_bastoreEL (i := 2) (jn := (((((pz + 1) + 1) + 1) + 1) + 1)) X116 hx hZ N58 P116 rfl hkA2 (hb hby d6_58) rfl (own_oN (by omega)) (own_llt (own_sl (own_sl (own_sl (own_sl (own_sl (own_cgl hpA (by omega))))))) (by omega)) (pc' := 59) rfl ?_
                intro T117 L59 N59 X117 P117
                replace P117 : HP n0 T117.heap [c31, AC kk (List.map Value.int pA), AC kA2 (List.map Value.int (((((((pA ++ List.replicate (pM - pN) 0).set pz (nar .byte (Int8.toInt32 (Int32.toInt8 (Int64.toInt32 ((Int64.ofNat pn) ||| (128 : Int64))))))).set (pz + 1) (nar .byte (Int8.toInt32 (Int32.toInt8 (Int64.toInt32 ((Int64.ofNat (pn / 128)) ||| (128 : Int64))))))).set ((pz + 1) + 1) (nar .byte (Int8.toInt32 (Int32.toInt8 (Int64.toInt32 ((Int64.ofNat (pn / 128 / 128)) ||| (128 : Int64))))))).set (((pz + 1) + 1) + 1) (nar .byte (Int8.toInt32 (Int32.toInt8 (Int64.toInt32 ((Int64.ofNat (pn / 128 / 128 / 128)) ||| (128 : Int64))))))).set ((((pz + 1) + 1) + 1) + 1) (nar .byte (Int8.toInt32 (Int32.toInt8 (Int64.toInt32 ((Int64.ofNat (pn / 128 / 128 / 128 / 128)) ||| (128 : Int64))))))).set (((((pz + 1) + 1) + 1) + 1) + 1) (nar .byte (Int8.toInt32 (Int32.toInt8 (Int64.toInt32 ((Int64.ofNat (pn / 128 / 128 / 128 / 128 / 128)) ||| (128 : Int64))))))))] := P117
                refine w_lloadN X117 hx (hb hby d6_59) rfl (pc' := 60) rfl ?_
                refine w_bipush (v := (7 : Int32)) X117 hx (hb hby d6_60) rfl (pc' := 62) rfl ?_
                refine w_lushr X117 hx (hb hby d6_62) (pc' := 63) rfl ?_
                refine w_eqJ (z := (Int64.ofNat (pn / 128 / 128 / 128 / 128 / 128 / 128))) (own_jshr (by omega)) ?_
                refine w_lstoreN (l' := #[.val (.ref (n0 + 0)), .val (.long (Int64.ofNat pn)), .second, .val (.long (Int64.ofNat (pn / 128 / 128 / 128 / 128 / 128 / 128))), .second]) X117 hx (hb hby d6_63) rfl (pc' := 64) rfl ?_
                refine w_goto X117 hx (hb hby d6_64) (by decide) (pc' := 28) (by decide) ?_
                refine w_lloadN X117 hx (hb hby d6_28) rfl (pc' := 29) rfl ?_
                refine w_ldc2 X117 hx (hb hby d6_29) hown (mvT hZ (wd48 hw)) (pc' := 32) rfl ?_
                refine w_lcmp_lt X117 hx (hb hby d6_32) rfl (hb hby d6_33) (by decide) (pcY := 67) (by decide) (pc' := 36) rfl (fun h16 => ?_) (fun h16 => ?_)
                · refine w_aloadN X117 hx (hb hby d6_67) rfl rfl (pc' := 68) rfl ?_
                  refine w_getf (i := 0) (v := .ref (n0 + 2)) X117 hx hZ hown (wd11 hw) P117 rfl F31 0 rfl rfl (hb hby d6_68) (pc' := 71) rfl ?_
                  intro T118 X118 P118
                  refine w_aloadN X118 hx (hb hby d6_71) rfl rfl (pc' := 72) rfl ?_
                  refine w_dup X118 hx (hb hby d6_72) rfl (pc' := 73) rfl ?_
                  refine w_getf (i := 0) (v := .int (Int32.ofNat ((((((pz + 1) + 1) + 1) + 1) + 1) + 1))) X118 hx hZ hown (wd18 hw) P118 rfl F31 1 rfl rfl (hb hby d6_73) (pc' := 76) rfl ?_
                  intro T119 X119 P119
                  refine w_dupX1 X119 hx (hb hby d6_76) rfl rfl (pc' := 77) rfl ?_
                  refine w_iconst (v := (1 : Int32)) X119 hx (hb hby d6_77) rfl (pc' := 78) rfl ?_
                  refine w_iadd X119 hx (hb hby d6_78) (pc' := 79) rfl ?_
                  refine w_eqI (z := (Int32.ofNat (((((((pz + 1) + 1) + 1) + 1) + 1) + 1) + 1))) (own_oadd ((((((pz + 1) + 1) + 1) + 1) + 1) + 1) 1) ?_
                  refine w_putf (i := 0) (ty := .int) X119 hx hZ hown (wd18 hw) N59 P119 rfl F31 (di_C0 hw) 1 rfl (Or.inl (wd19 hw)) (wd2 hw) (by decide) rfl rfl (hb hby d6_79) (pc' := 82) rfl ?_
                  intro T120 L60 c32 N60 X120 P120 F32
                  replace P120 : HP n0 T120.heap [c32, AC kk (List.map Value.int pA), AC kA2 (List.map Value.int (((((((pA ++ List.replicate (pM - pN) 0).set pz (nar .byte (Int8.toInt32 (Int32.toInt8 (Int64.toInt32 ((Int64.ofNat pn) ||| (128 : Int64))))))).set (pz + 1) (nar .byte (Int8.toInt32 (Int32.toInt8 (Int64.toInt32 ((Int64.ofNat (pn / 128)) ||| (128 : Int64))))))).set ((pz + 1) + 1) (nar .byte (Int8.toInt32 (Int32.toInt8 (Int64.toInt32 ((Int64.ofNat (pn / 128 / 128)) ||| (128 : Int64))))))).set (((pz + 1) + 1) + 1) (nar .byte (Int8.toInt32 (Int32.toInt8 (Int64.toInt32 ((Int64.ofNat (pn / 128 / 128 / 128)) ||| (128 : Int64))))))).set ((((pz + 1) + 1) + 1) + 1) (nar .byte (Int8.toInt32 (Int32.toInt8 (Int64.toInt32 ((Int64.ofNat (pn / 128 / 128 / 128 / 128)) ||| (128 : Int64))))))).set (((((pz + 1) + 1) + 1) + 1) + 1) (nar .byte (Int8.toInt32 (Int32.toInt8 (Int64.toInt32 ((Int64.ofNat (pn / 128 / 128 / 128 / 128 / 128)) ||| (128 : Int64))))))))] := P120
                  replace F32 : ObjF Z c32 "com/example/dirichlet/dirichlet/index/ByteSink" fl_C0 [.ref (n0 + 2), .int (Int32.ofNat (((((((pz + 1) + 1) + 1) + 1) + 1) + 1) + 1))] := F32
                  refine w_lloadN X120 hx (hb hby d6_82) rfl (pc' := 83) rfl ?_
                  refine w_l2i X120 hx (hb hby d6_83) (pc' := 84) rfl ?_
                  refine w_i2b X120 hx (hb hby d6_84) (pc' := 85) rfl ?_
                  refine w_bastoreEL (i := 2) (jn := ((((((pz + 1) + 1) + 1) + 1) + 1) + 1)) X120 hx hZ N60 P120 rfl hkA2 (hb hby d6_85) rfl (own_oN (by omega)) (own_llt (own_sl (own_sl (own_sl (own_sl (own_sl (own_sl (own_cgl hpA (by omega)))))))) (by omega)) (pc' := 86) rfl ?_
                  intro T121 L61 N61 X121 P121
                  replace P121 : HP n0 T121.heap [c32, AC kk (List.map Value.int pA), AC kA2 (List.map Value.int ((((((((pA ++ List.replicate (pM - pN) 0).set pz (nar .byte (Int8.toInt32 (Int32.toInt8 (Int64.toInt32 ((Int64.ofNat pn) ||| (128 : Int64))))))).set (pz + 1) (nar .byte (Int8.toInt32 (Int32.toInt8 (Int64.toInt32 ((Int64.ofNat (pn / 128)) ||| (128 : Int64))))))).set ((pz + 1) + 1) (nar .byte (Int8.toInt32 (Int32.toInt8 (Int64.toInt32 ((Int64.ofNat (pn / 128 / 128)) ||| (128 : Int64))))))).set (((pz + 1) + 1) + 1) (nar .byte (Int8.toInt32 (Int32.toInt8 (Int64.toInt32 ((Int64.ofNat (pn / 128 / 128 / 128)) ||| (128 : Int64))))))).set ((((pz + 1) + 1) + 1) + 1) (nar .byte (Int8.toInt32 (Int32.toInt8 (Int64.toInt32 ((Int64.ofNat (pn / 128 / 128 / 128 / 128)) ||| (128 : Int64))))))).set (((((pz + 1) + 1) + 1) + 1) + 1) (nar .byte (Int8.toInt32 (Int32.toInt8 (Int64.toInt32 ((Int64.ofNat (pn / 128 / 128 / 128 / 128 / 128)) ||| (128 : Int64))))))).set ((((((pz + 1) + 1) + 1) + 1) + 1) + 1) (nar .byte (Int8.toInt32 (Int32.toInt8 (Int64.toInt32 (Int64.ofNat (pn / 128 / 128 / 128 / 128 / 128 / 128))))))))] := P121
                  have eB : own_bytes 8 pn = [own_hi (pn), own_hi (pn / 128), own_hi (pn / 128 / 128), own_hi (pn / 128 / 128 / 128), own_hi (pn / 128 / 128 / 128 / 128), own_hi (pn / 128 / 128 / 128 / 128 / 128), own_lo (pn / 128 / 128 / 128 / 128 / 128 / 128)] := by rw [own_bS, if_neg h10, own_bS, if_neg h11, own_bS, if_neg h12, own_bS, if_neg h13, own_bS, if_neg h14, own_bS, if_neg h15, own_bS, if_pos h16]
                  exact w_ret_v X121 hx hret hlk (hb hby d6_86) (by decide) (by decide) ⟨rfl, N61, Or.inr ⟨hgr, kA2, hkA2, own_puts (pA ++ List.replicate (pM - pN) 0) pz (own_bytes 8 pn), (by rw [own_pl]; exact (own_cgl hpA (by omega))), own_Bput _ _ _ (own_Bapp hB) (own_Bb _ _), own_W2 (by rw [hpA]; omega) (by rw [hpl, own_cgl hpA (by omega)]; omega), c32, (by rw [← hpe, ← hpl, eB]; exact F32), (by rw [eB]; exact P121)⟩⟩
                · refine w_aloadN X117 hx (hb hby d6_36) rfl rfl (pc' := 37) rfl ?_
                  refine w_getf (i := 0) (v := .ref (n0 + 2)) X117 hx hZ hown (wd11 hw) P117 rfl F31 0 rfl rfl (hb hby d6_37) (pc' := 40) rfl ?_
                  intro T122 X122 P122
                  refine w_aloadN X122 hx (hb hby d6_40) rfl rfl (pc' := 41) rfl ?_
                  refine w_dup X122 hx (hb hby d6_41) rfl (pc' := 42) rfl ?_
                  refine w_getf (i := 0) (v := .int (Int32.ofNat ((((((pz + 1) + 1) + 1) + 1) + 1) + 1))) X122 hx hZ hown (wd18 hw) P122 rfl F31 1 rfl rfl (hb hby d6_42) (pc' := 45) rfl ?_
                  intro T123 X123 P123
                  refine w_dupX1 X123 hx (hb hby d6_45) rfl rfl (pc' := 46) rfl ?_
                  refine w_iconst (v := (1 : Int32)) X123 hx (hb hby d6_46) rfl (pc' := 47) rfl ?_
                  refine w_iadd X123 hx (hb hby d6_47) (pc' := 48) rfl ?_
                  refine w_eqI (z := (Int32.ofNat (((((((pz + 1) + 1) + 1) + 1) + 1) + 1) + 1))) (own_oadd ((((((pz + 1) + 1) + 1) + 1) + 1) + 1) 1) ?_
                  refine w_putf (i := 0) (ty := .int) X123 hx hZ hown (wd18 hw) N59 P123 rfl F31 (di_C0 hw) 1 rfl (Or.inl (wd19 hw)) (wd2 hw) (by decide) rfl rfl (hb hby d6_48) (pc' := 51) rfl ?_
                  intro T124 L62 c33 N62 X124 P124 F33
                  replace P124 : HP n0 T124.heap [c33, AC kk (List.map Value.int pA), AC kA2 (List.map Value.int (((((((pA ++ List.replicate (pM - pN) 0).set pz (nar .byte (Int8.toInt32 (Int32.toInt8 (Int64.toInt32 ((Int64.ofNat pn) ||| (128 : Int64))))))).set (pz + 1) (nar .byte (Int8.toInt32 (Int32.toInt8 (Int64.toInt32 ((Int64.ofNat (pn / 128)) ||| (128 : Int64))))))).set ((pz + 1) + 1) (nar .byte (Int8.toInt32 (Int32.toInt8 (Int64.toInt32 ((Int64.ofNat (pn / 128 / 128)) ||| (128 : Int64))))))).set (((pz + 1) + 1) + 1) (nar .byte (Int8.toInt32 (Int32.toInt8 (Int64.toInt32 ((Int64.ofNat (pn / 128 / 128 / 128)) ||| (128 : Int64))))))).set ((((pz + 1) + 1) + 1) + 1) (nar .byte (Int8.toInt32 (Int32.toInt8 (Int64.toInt32 ((Int64.ofNat (pn / 128 / 128 / 128 / 128)) ||| (128 : Int64))))))).set (((((pz + 1) + 1) + 1) + 1) + 1) (nar .byte (Int8.toInt32 (Int32.toInt8 (Int64.toInt32 ((Int64.ofNat (pn / 128 / 128 / 128 / 128 / 128)) ||| (128 : Int64))))))))] := P124
                  replace F33 : ObjF Z c33 "com/example/dirichlet/dirichlet/index/ByteSink" fl_C0 [.ref (n0 + 2), .int (Int32.ofNat (((((((pz + 1) + 1) + 1) + 1) + 1) + 1) + 1))] := F33
                  refine w_lloadN X124 hx (hb hby d6_51) rfl (pc' := 52) rfl ?_
                  refine w_ldc2 X124 hx (hb hby d6_52) hown (mvT hZ (wd48 hw)) (pc' := 55) rfl ?_
                  refine w_lor X124 hx (hb hby d6_55) (pc' := 56) rfl ?_
                  refine w_l2i X124 hx (hb hby d6_56) (pc' := 57) rfl ?_
                  refine w_i2b X124 hx (hb hby d6_57) (pc' := 58) rfl ?_
                  refine w_bastoreEL (i := 2) (jn := ((((((pz + 1) + 1) + 1) + 1) + 1) + 1)) X124 hx hZ N62 P124 rfl hkA2 (hb hby d6_58) rfl (own_oN (by omega)) (own_llt (own_sl (own_sl (own_sl (own_sl (own_sl (own_sl (own_cgl hpA (by omega)))))))) (by omega)) (pc' := 59) rfl ?_
                  intro T125 L63 N63 X125 P125
                  replace P125 : HP n0 T125.heap [c33, AC kk (List.map Value.int pA), AC kA2 (List.map Value.int ((((((((pA ++ List.replicate (pM - pN) 0).set pz (nar .byte (Int8.toInt32 (Int32.toInt8 (Int64.toInt32 ((Int64.ofNat pn) ||| (128 : Int64))))))).set (pz + 1) (nar .byte (Int8.toInt32 (Int32.toInt8 (Int64.toInt32 ((Int64.ofNat (pn / 128)) ||| (128 : Int64))))))).set ((pz + 1) + 1) (nar .byte (Int8.toInt32 (Int32.toInt8 (Int64.toInt32 ((Int64.ofNat (pn / 128 / 128)) ||| (128 : Int64))))))).set (((pz + 1) + 1) + 1) (nar .byte (Int8.toInt32 (Int32.toInt8 (Int64.toInt32 ((Int64.ofNat (pn / 128 / 128 / 128)) ||| (128 : Int64))))))).set ((((pz + 1) + 1) + 1) + 1) (nar .byte (Int8.toInt32 (Int32.toInt8 (Int64.toInt32 ((Int64.ofNat (pn / 128 / 128 / 128 / 128)) ||| (128 : Int64))))))).set (((((pz + 1) + 1) + 1) + 1) + 1) (nar .byte (Int8.toInt32 (Int32.toInt8 (Int64.toInt32 ((Int64.ofNat (pn / 128 / 128 / 128 / 128 / 128)) ||| (128 : Int64))))))).set ((((((pz + 1) + 1) + 1) + 1) + 1) + 1) (nar .byte (Int8.toInt32 (Int32.toInt8 (Int64.toInt32 ((Int64.ofNat (pn / 128 / 128 / 128 / 128 / 128 / 128)) ||| (128 : Int64))))))))] := P125
                  refine w_lloadN X125 hx (hb hby d6_59) rfl (pc' := 60) rfl ?_
                  refine w_bipush (v := (7 : Int32)) X125 hx (hb hby d6_60) rfl (pc' := 62) rfl ?_
                  refine w_lushr X125 hx (hb hby d6_62) (pc' := 63) rfl ?_
                  refine w_eqJ (z := (Int64.ofNat (pn / 128 / 128 / 128 / 128 / 128 / 128 / 128))) (own_jshr (by omega)) ?_
                  refine w_lstoreN (l' := #[.val (.ref (n0 + 0)), .val (.long (Int64.ofNat pn)), .second, .val (.long (Int64.ofNat (pn / 128 / 128 / 128 / 128 / 128 / 128 / 128))), .second]) X125 hx (hb hby d6_63) rfl (pc' := 64) rfl ?_
                  refine w_goto X125 hx (hb hby d6_64) (by decide) (pc' := 28) (by decide) ?_
                  refine w_lloadN X125 hx (hb hby d6_28) rfl (pc' := 29) rfl ?_
                  refine w_ldc2 X125 hx (hb hby d6_29) hown (mvT hZ (wd48 hw)) (pc' := 32) rfl ?_
                  refine w_lcmp_lt X125 hx (hb hby d6_32) rfl (hb hby d6_33) (by decide) (pcY := 67) (by decide) (pc' := 36) rfl (fun h17 => ?_) (fun h17 => ?_)
                  · refine w_aloadN X125 hx (hb hby d6_67) rfl rfl (pc' := 68) rfl ?_
                    refine w_getf (i := 0) (v := .ref (n0 + 2)) X125 hx hZ hown (wd11 hw) P125 rfl F33 0 rfl rfl (hb hby d6_68) (pc' := 71) rfl ?_
                    intro T126 X126 P126
                    refine w_aloadN X126 hx (hb hby d6_71) rfl rfl (pc' := 72) rfl ?_
                    refine w_dup X126 hx (hb hby d6_72) rfl (pc' := 73) rfl ?_
                    refine w_getf (i := 0) (v := .int (Int32.ofNat (((((((pz + 1) + 1) + 1) + 1) + 1) + 1) + 1))) X126 hx hZ hown (wd18 hw) P126 rfl F33 1 rfl rfl (hb hby d6_73) (pc' := 76) rfl ?_
                    intro T127 X127 P127
                    refine w_dupX1 X127 hx (hb hby d6_76) rfl rfl (pc' := 77) rfl ?_
                    refine w_iconst (v := (1 : Int32)) X127 hx (hb hby d6_77) rfl (pc' := 78) rfl ?_
                    refine w_iadd X127 hx (hb hby d6_78) (pc' := 79) rfl ?_
                    refine w_eqI (z := (Int32.ofNat ((((((((pz + 1) + 1) + 1) + 1) + 1) + 1) + 1) + 1))) (own_oadd (((((((pz + 1) + 1) + 1) + 1) + 1) + 1) + 1) 1) ?_
                    refine w_putf (i := 0) (ty := .int) X127 hx hZ hown (wd18 hw) N63 P127 rfl F33 (di_C0 hw) 1 rfl (Or.inl (wd19 hw)) (wd2 hw) (by decide) rfl rfl (hb hby d6_79) (pc' := 82) rfl ?_
                    intro T128 L64 c34 N64 X128 P128 F34
                    replace P128 : HP n0 T128.heap [c34, AC kk (List.map Value.int pA), AC kA2 (List.map Value.int ((((((((pA ++ List.replicate (pM - pN) 0).set pz (nar .byte (Int8.toInt32 (Int32.toInt8 (Int64.toInt32 ((Int64.ofNat pn) ||| (128 : Int64))))))).set (pz + 1) (nar .byte (Int8.toInt32 (Int32.toInt8 (Int64.toInt32 ((Int64.ofNat (pn / 128)) ||| (128 : Int64))))))).set ((pz + 1) + 1) (nar .byte (Int8.toInt32 (Int32.toInt8 (Int64.toInt32 ((Int64.ofNat (pn / 128 / 128)) ||| (128 : Int64))))))).set (((pz + 1) + 1) + 1) (nar .byte (Int8.toInt32 (Int32.toInt8 (Int64.toInt32 ((Int64.ofNat (pn / 128 / 128 / 128)) ||| (128 : Int64))))))).set ((((pz + 1) + 1) + 1) + 1) (nar .byte (Int8.toInt32 (Int32.toInt8 (Int64.toInt32 ((Int64.ofNat (pn / 128 / 128 / 128 / 128)) ||| (128 : Int64))))))).set (((((pz + 1) + 1) + 1) + 1) + 1) (nar .byte (Int8.toInt32 (Int32.toInt8 (Int64.toInt32 ((Int64.ofNat (pn / 128 / 128 / 128 / 128 / 128)) ||| (128 : Int64))))))).set ((((((pz + 1) + 1) + 1) + 1) + 1) + 1) (nar .byte (Int8.toInt32 (Int32.toInt8 (Int64.toInt32 ((Int64.ofNat (pn / 128 / 128 / 128 / 128 / 128 / 128)) ||| (128 : Int64))))))))] := P128
                    replace F34 : ObjF Z c34 "com/example/dirichlet/dirichlet/index/ByteSink" fl_C0 [.ref (n0 + 2), .int (Int32.ofNat ((((((((pz + 1) + 1) + 1) + 1) + 1) + 1) + 1) + 1))] := F34
                    refine w_lloadN X128 hx (hb hby d6_82) rfl (pc' := 83) rfl ?_
                    refine w_l2i X128 hx (hb hby d6_83) (pc' := 84) rfl ?_
                    refine w_i2b X128 hx (hb hby d6_84) (pc' := 85) rfl ?_
                    refine w_bastoreEL (i := 2) (jn := (((((((pz + 1) + 1) + 1) + 1) + 1) + 1) + 1)) X128 hx hZ N64 P128 rfl hkA2 (hb hby d6_85) rfl (own_oN (by omega)) (own_llt (own_sl (own_sl (own_sl (own_sl (own_sl (own_sl (own_sl (own_cgl hpA (by omega))))))))) (by omega)) (pc' := 86) rfl ?_
                    intro T129 L65 N65 X129 P129
                    replace P129 : HP n0 T129.heap [c34, AC kk (List.map Value.int pA), AC kA2 (List.map Value.int (((((((((pA ++ List.replicate (pM - pN) 0).set pz (nar .byte (Int8.toInt32 (Int32.toInt8 (Int64.toInt32 ((Int64.ofNat pn) ||| (128 : Int64))))))).set (pz + 1) (nar .byte (Int8.toInt32 (Int32.toInt8 (Int64.toInt32 ((Int64.ofNat (pn / 128)) ||| (128 : Int64))))))).set ((pz + 1) + 1) (nar .byte (Int8.toInt32 (Int32.toInt8 (Int64.toInt32 ((Int64.ofNat (pn / 128 / 128)) ||| (128 : Int64))))))).set (((pz + 1) + 1) + 1) (nar .byte (Int8.toInt32 (Int32.toInt8 (Int64.toInt32 ((Int64.ofNat (pn / 128 / 128 / 128)) ||| (128 : Int64))))))).set ((((pz + 1) + 1) + 1) + 1) (nar .byte (Int8.toInt32 (Int32.toInt8 (Int64.toInt32 ((Int64.ofNat (pn / 128 / 128 / 128 / 128)) ||| (128 : Int64))))))).set (((((pz + 1) + 1) + 1) + 1) + 1) (nar .byte (Int8.toInt32 (Int32.toInt8 (Int64.toInt32 ((Int64.ofNat (pn / 128 / 128 / 128 / 128 / 128)) ||| (128 : Int64))))))).set ((((((pz + 1) + 1) + 1) + 1) + 1) + 1) (nar .byte (Int8.toInt32 (Int32.toInt8 (Int64.toInt32 ((Int64.ofNat (pn / 128 / 128 / 128 / 128 / 128 / 128)) ||| (128 : Int64))))))).set (((((((pz + 1) + 1) + 1) + 1) + 1) + 1) + 1) (nar .byte (Int8.toInt32 (Int32.toInt8 (Int64.toInt32 (Int64.ofNat (pn / 128 / 128 / 128 / 128 / 128 / 128 / 128))))))))] := P129
                    have eB : own_bytes 8 pn = [own_hi (pn), own_hi (pn / 128), own_hi (pn / 128 / 128), own_hi (pn / 128 / 128 / 128), own_hi (pn / 128 / 128 / 128 / 128), own_hi (pn / 128 / 128 / 128 / 128 / 128), own_hi (pn / 128 / 128 / 128 / 128 / 128 / 128), own_lo (pn / 128 / 128 / 128 / 128 / 128 / 128 / 128)] := by rw [own_bS, if_neg h10, own_bS, if_neg h11, own_bS, if_neg h12, own_bS, if_neg h13, own_bS, if_neg h14, own_bS, if_neg h15, own_bS, if_neg h16, own_bS, if_pos h17]
                    exact w_ret_v X129 hx hret hlk (hb hby d6_86) (by decide) (by decide) ⟨rfl, N65, Or.inr ⟨hgr, kA2, hkA2, own_puts (pA ++ List.replicate (pM - pN) 0) pz (own_bytes 8 pn), (by rw [own_pl]; exact (own_cgl hpA (by omega))), own_Bput _ _ _ (own_Bapp hB) (own_Bb _ _), own_W2 (by rw [hpA]; omega) (by rw [hpl, own_cgl hpA (by omega)]; omega), c34, (by rw [← hpe, ← hpl, eB]; exact F34), (by rw [eB]; exact P129)⟩⟩
                  · refine w_aloadN X125 hx (hb hby d6_36) rfl rfl (pc' := 37) rfl ?_
                    refine w_getf (i := 0) (v := .ref (n0 + 2)) X125 hx hZ hown (wd11 hw) P125 rfl F33 0 rfl rfl (hb hby d6_37) (pc' := 40) rfl ?_
                    intro T130 X130 P130
                    refine w_aloadN X130 hx (hb hby d6_40) rfl rfl (pc' := 41) rfl ?_
                    refine w_dup X130 hx (hb hby d6_41) rfl (pc' := 42) rfl ?_
                    refine w_getf (i := 0) (v := .int (Int32.ofNat (((((((pz + 1) + 1) + 1) + 1) + 1) + 1) + 1))) X130 hx hZ hown (wd18 hw) P130 rfl F33 1 rfl rfl (hb hby d6_42) (pc' := 45) rfl ?_
                    intro T131 X131 P131
                    refine w_dupX1 X131 hx (hb hby d6_45) rfl rfl (pc' := 46) rfl ?_
                    refine w_iconst (v := (1 : Int32)) X131 hx (hb hby d6_46) rfl (pc' := 47) rfl ?_
                    refine w_iadd X131 hx (hb hby d6_47) (pc' := 48) rfl ?_
                    refine w_eqI (z := (Int32.ofNat ((((((((pz + 1) + 1) + 1) + 1) + 1) + 1) + 1) + 1))) (own_oadd (((((((pz + 1) + 1) + 1) + 1) + 1) + 1) + 1) 1) ?_
                    refine w_putf (i := 0) (ty := .int) X131 hx hZ hown (wd18 hw) N63 P131 rfl F33 (di_C0 hw) 1 rfl (Or.inl (wd19 hw)) (wd2 hw) (by decide) rfl rfl (hb hby d6_48) (pc' := 51) rfl ?_
                    intro T132 L66 c35 N66 X132 P132 F35
                    replace P132 : HP n0 T132.heap [c35, AC kk (List.map Value.int pA), AC kA2 (List.map Value.int ((((((((pA ++ List.replicate (pM - pN) 0).set pz (nar .byte (Int8.toInt32 (Int32.toInt8 (Int64.toInt32 ((Int64.ofNat pn) ||| (128 : Int64))))))).set (pz + 1) (nar .byte (Int8.toInt32 (Int32.toInt8 (Int64.toInt32 ((Int64.ofNat (pn / 128)) ||| (128 : Int64))))))).set ((pz + 1) + 1) (nar .byte (Int8.toInt32 (Int32.toInt8 (Int64.toInt32 ((Int64.ofNat (pn / 128 / 128)) ||| (128 : Int64))))))).set (((pz + 1) + 1) + 1) (nar .byte (Int8.toInt32 (Int32.toInt8 (Int64.toInt32 ((Int64.ofNat (pn / 128 / 128 / 128)) ||| (128 : Int64))))))).set ((((pz + 1) + 1) + 1) + 1) (nar .byte (Int8.toInt32 (Int32.toInt8 (Int64.toInt32 ((Int64.ofNat (pn / 128 / 128 / 128 / 128)) ||| (128 : Int64))))))).set (((((pz + 1) + 1) + 1) + 1) + 1) (nar .byte (Int8.toInt32 (Int32.toInt8 (Int64.toInt32 ((Int64.ofNat (pn / 128 / 128 / 128 / 128 / 128)) ||| (128 : Int64))))))).set ((((((pz + 1) + 1) + 1) + 1) + 1) + 1) (nar .byte (Int8.toInt32 (Int32.toInt8 (Int64.toInt32 ((Int64.ofNat (pn / 128 / 128 / 128 / 128 / 128 / 128)) ||| (128 : Int64))))))))] := P132
                    replace F35 : ObjF Z c35 "com/example/dirichlet/dirichlet/index/ByteSink" fl_C0 [.ref (n0 + 2), .int (Int32.ofNat ((((((((pz + 1) + 1) + 1) + 1) + 1) + 1) + 1) + 1))] := F35
                    refine w_lloadN X132 hx (hb hby d6_51) rfl (pc' := 52) rfl ?_
                    refine w_ldc2 X132 hx (hb hby d6_52) hown (mvT hZ (wd48 hw)) (pc' := 55) rfl ?_
                    refine w_lor X132 hx (hb hby d6_55) (pc' := 56) rfl ?_
                    refine w_l2i X132 hx (hb hby d6_56) (pc' := 57) rfl ?_
                    refine w_i2b X132 hx (hb hby d6_57) (pc' := 58) rfl ?_
                    refine w_bastoreEL (i := 2) (jn := (((((((pz + 1) + 1) + 1) + 1) + 1) + 1) + 1)) X132 hx hZ N66 P132 rfl hkA2 (hb hby d6_58) rfl (own_oN (by omega)) (own_llt (own_sl (own_sl (own_sl (own_sl (own_sl (own_sl (own_sl (own_cgl hpA (by omega))))))))) (by omega)) (pc' := 59) rfl ?_
                    intro T133 L67 N67 X133 P133
                    replace P133 : HP n0 T133.heap [c35, AC kk (List.map Value.int pA), AC kA2 (List.map Value.int (((((((((pA ++ List.replicate (pM - pN) 0).set pz (nar .byte (Int8.toInt32 (Int32.toInt8 (Int64.toInt32 ((Int64.ofNat pn) ||| (128 : Int64))))))).set (pz + 1) (nar .byte (Int8.toInt32 (Int32.toInt8 (Int64.toInt32 ((Int64.ofNat (pn / 128)) ||| (128 : Int64))))))).set ((pz + 1) + 1) (nar .byte (Int8.toInt32 (Int32.toInt8 (Int64.toInt32 ((Int64.ofNat (pn / 128 / 128)) ||| (128 : Int64))))))).set (((pz + 1) + 1) + 1) (nar .byte (Int8.toInt32 (Int32.toInt8 (Int64.toInt32 ((Int64.ofNat (pn / 128 / 128 / 128)) ||| (128 : Int64))))))).set ((((pz + 1) + 1) + 1) + 1) (nar .byte (Int8.toInt32 (Int32.toInt8 (Int64.toInt32 ((Int64.ofNat (pn / 128 / 128 / 128 / 128)) ||| (128 : Int64))))))).set (((((pz + 1) + 1) + 1) + 1) + 1) (nar .byte (Int8.toInt32 (Int32.toInt8 (Int64.toInt32 ((Int64.ofNat (pn / 128 / 128 / 128 / 128 / 128)) ||| (128 : Int64))))))).set ((((((pz + 1) + 1) + 1) + 1) + 1) + 1) (nar .byte (Int8.toInt32 (Int32.toInt8 (Int64.toInt32 ((Int64.ofNat (pn / 128 / 128 / 128 / 128 / 128 / 128)) ||| (128 : Int64))))))).set (((((((pz + 1) + 1) + 1) + 1) + 1) + 1) + 1) (nar .byte (Int8.toInt32 (Int32.toInt8 (Int64.toInt32 ((Int64.ofNat (pn / 128 / 128 / 128 / 128 / 128 / 128 / 128)) ||| (128 : Int64))))))))] := P133
                    refine w_lloadN X133 hx (hb hby d6_59) rfl (pc' := 60) rfl ?_
                    refine w_bipush (v := (7 : Int32)) X133 hx (hb hby d6_60) rfl (pc' := 62) rfl ?_
                    refine w_lushr X133 hx (hb hby d6_62) (pc' := 63) rfl ?_
                    refine w_eqJ (z := (Int64.ofNat (pn / 128 / 128 / 128 / 128 / 128 / 128 / 128 / 128))) (own_jshr (by omega)) ?_
                    refine w_lstoreN (l' := #[.val (.ref (n0 + 0)), .val (.long (Int64.ofNat pn)), .second, .val (.long (Int64.ofNat (pn / 128 / 128 / 128 / 128 / 128 / 128 / 128 / 128))), .second]) X133 hx (hb hby d6_63) rfl (pc' := 64) rfl ?_
                    refine w_goto X133 hx (hb hby d6_64) (by decide) (pc' := 28) (by decide) ?_
                    refine w_lloadN X133 hx (hb hby d6_28) rfl (pc' := 29) rfl ?_
                    refine w_ldc2 X133 hx (hb hby d6_29) hown (mvT hZ (wd48 hw)) (pc' := 32) rfl ?_
                    refine w_lcmp_lt X133 hx (hb hby d6_32) rfl (hb hby d6_33) (by decide) (pcY := 67) (by decide) (pc' := 36) rfl (fun h18 => ?_) (fun h18 => absurd ((own_jlt (a := pn / 128 / 128 / 128 / 128 / 128 / 128 / 128 / 128) (b := 128) (c := 128) rfl (by omega) (by decide)).mpr (by omega)) h18)
                    refine w_aloadN X133 hx (hb hby d6_67) rfl rfl (pc' := 68) rfl ?_
                    refine w_getf (i := 0) (v := .ref (n0 + 2)) X133 hx hZ hown (wd11 hw) P133 rfl F35 0 rfl rfl (hb hby d6_68) (pc' := 71) rfl ?_
                    intro T134 X134 P134
                    refine w_aloadN X134 hx (hb hby d6_71) rfl rfl (pc' := 72) rfl ?_
                    refine w_dup X134 hx (hb hby d6_72) rfl (pc' := 73) rfl ?_
                    refine w_getf (i := 0) (v := .int (Int32.ofNat ((((((((pz + 1) + 1) + 1) + 1) + 1) + 1) + 1) + 1))) X134 hx hZ hown (wd18 hw) P134 rfl F35 1 rfl rfl (hb hby d6_73) (pc' := 76) rfl ?_
                    intro T135 X135 P135
                    refine w_dupX1 X135 hx (hb hby d6_76) rfl rfl (pc' := 77) rfl ?_
                    refine w_iconst (v := (1 : Int32)) X135 hx (hb hby d6_77) rfl (pc' := 78) rfl ?_
                    refine w_iadd X135 hx (hb hby d6_78) (pc' := 79) rfl ?_
                    refine w_eqI (z := (Int32.ofNat (((((((((pz + 1) + 1) + 1) + 1) + 1) + 1) + 1) + 1) + 1))) (own_oadd ((((((((pz + 1) + 1) + 1) + 1) + 1) + 1) + 1) + 1) 1) ?_
                    refine w_putf (i := 0) (ty := .int) X135 hx hZ hown (wd18 hw) N67 P135 rfl F35 (di_C0 hw) 1 rfl (Or.inl (wd19 hw)) (wd2 hw) (by decide) rfl rfl (hb hby d6_79) (pc' := 82) rfl ?_
                    intro T136 L68 c36 N68 X136 P136 F36
                    replace P136 : HP n0 T136.heap [c36, AC kk (List.map Value.int pA), AC kA2 (List.map Value.int (((((((((pA ++ List.replicate (pM - pN) 0).set pz (nar .byte (Int8.toInt32 (Int32.toInt8 (Int64.toInt32 ((Int64.ofNat pn) ||| (128 : Int64))))))).set (pz + 1) (nar .byte (Int8.toInt32 (Int32.toInt8 (Int64.toInt32 ((Int64.ofNat (pn / 128)) ||| (128 : Int64))))))).set ((pz + 1) + 1) (nar .byte (Int8.toInt32 (Int32.toInt8 (Int64.toInt32 ((Int64.ofNat (pn / 128 / 128)) ||| (128 : Int64))))))).set (((pz + 1) + 1) + 1) (nar .byte (Int8.toInt32 (Int32.toInt8 (Int64.toInt32 ((Int64.ofNat (pn / 128 / 128 / 128)) ||| (128 : Int64))))))).set ((((pz + 1) + 1) + 1) + 1) (nar .byte (Int8.toInt32 (Int32.toInt8 (Int64.toInt32 ((Int64.ofNat (pn / 128 / 128 / 128 / 128)) ||| (128 : Int64))))))).set (((((pz + 1) + 1) + 1) + 1) + 1) (nar .byte (Int8.toInt32 (Int32.toInt8 (Int64.toInt32 ((Int64.ofNat (pn / 128 / 128 / 128 / 128 / 128)) ||| (128 : Int64))))))).set ((((((pz + 1) + 1) + 1) + 1) + 1) + 1) (nar .byte (Int8.toInt32 (Int32.toInt8 (Int64.toInt32 ((Int64.ofNat (pn / 128 / 128 / 128 / 128 / 128 / 128)) ||| (128 : Int64))))))).set (((((((pz + 1) + 1) + 1) + 1) + 1) + 1) + 1) (nar .byte (Int8.toInt32 (Int32.toInt8 (Int64.toInt32 ((Int64.ofNat (pn / 128 / 128 / 128 / 128 / 128 / 128 / 128)) ||| (128 : Int64))))))))] := P136
                    replace F36 : ObjF Z c36 "com/example/dirichlet/dirichlet/index/ByteSink" fl_C0 [.ref (n0 + 2), .int (Int32.ofNat (((((((((pz + 1) + 1) + 1) + 1) + 1) + 1) + 1) + 1) + 1))] := F36
                    refine w_lloadN X136 hx (hb hby d6_82) rfl (pc' := 83) rfl ?_
                    refine w_l2i X136 hx (hb hby d6_83) (pc' := 84) rfl ?_
                    refine w_i2b X136 hx (hb hby d6_84) (pc' := 85) rfl ?_
                    refine w_bastoreEL (i := 2) (jn := ((((((((pz + 1) + 1) + 1) + 1) + 1) + 1) + 1) + 1)) X136 hx hZ N68 P136 rfl hkA2 (hb hby d6_85) rfl (own_oN (by omega)) (own_llt (own_sl (own_sl (own_sl (own_sl (own_sl (own_sl (own_sl (own_sl (own_cgl hpA (by omega)))))))))) (by omega)) (pc' := 86) rfl ?_
                    intro T137 L69 N69 X137 P137
                    replace P137 : HP n0 T137.heap [c36, AC kk (List.map Value.int pA), AC kA2 (List.map Value.int ((((((((((pA ++ List.replicate (pM - pN) 0).set pz (nar .byte (Int8.toInt32 (Int32.toInt8 (Int64.toInt32 ((Int64.ofNat pn) ||| (128 : Int64))))))).set (pz + 1) (nar .byte (Int8.toInt32 (Int32.toInt8 (Int64.toInt32 ((Int64.ofNat (pn / 128)) ||| (128 : Int64))))))).set ((pz + 1) + 1) (nar .byte (Int8.toInt32 (Int32.toInt8 (Int64.toInt32 ((Int64.ofNat (pn / 128 / 128)) ||| (128 : Int64))))))).set (((pz + 1) + 1) + 1) (nar .byte (Int8.toInt32 (Int32.toInt8 (Int64.toInt32 ((Int64.ofNat (pn / 128 / 128 / 128)) ||| (128 : Int64))))))).set ((((pz + 1) + 1) + 1) + 1) (nar .byte (Int8.toInt32 (Int32.toInt8 (Int64.toInt32 ((Int64.ofNat (pn / 128 / 128 / 128 / 128)) ||| (128 : Int64))))))).set (((((pz + 1) + 1) + 1) + 1) + 1) (nar .byte (Int8.toInt32 (Int32.toInt8 (Int64.toInt32 ((Int64.ofNat (pn / 128 / 128 / 128 / 128 / 128)) ||| (128 : Int64))))))).set ((((((pz + 1) + 1) + 1) + 1) + 1) + 1) (nar .byte (Int8.toInt32 (Int32.toInt8 (Int64.toInt32 ((Int64.ofNat (pn / 128 / 128 / 128 / 128 / 128 / 128)) ||| (128 : Int64))))))).set (((((((pz + 1) + 1) + 1) + 1) + 1) + 1) + 1) (nar .byte (Int8.toInt32 (Int32.toInt8 (Int64.toInt32 ((Int64.ofNat (pn / 128 / 128 / 128 / 128 / 128 / 128 / 128)) ||| (128 : Int64))))))).set ((((((((pz + 1) + 1) + 1) + 1) + 1) + 1) + 1) + 1) (nar .byte (Int8.toInt32 (Int32.toInt8 (Int64.toInt32 (Int64.ofNat (pn / 128 / 128 / 128 / 128 / 128 / 128 / 128 / 128))))))))] := P137
                    have eB : own_bytes 8 pn = [own_hi (pn), own_hi (pn / 128), own_hi (pn / 128 / 128), own_hi (pn / 128 / 128 / 128), own_hi (pn / 128 / 128 / 128 / 128), own_hi (pn / 128 / 128 / 128 / 128 / 128), own_hi (pn / 128 / 128 / 128 / 128 / 128 / 128), own_hi (pn / 128 / 128 / 128 / 128 / 128 / 128 / 128), own_lo (pn / 128 / 128 / 128 / 128 / 128 / 128 / 128 / 128)] := by rw [own_bS, if_neg h10, own_bS, if_neg h11, own_bS, if_neg h12, own_bS, if_neg h13, own_bS, if_neg h14, own_bS, if_neg h15, own_bS, if_neg h16, own_bS, if_neg h17, own_b0]
                    exact w_ret_v X137 hx hret hlk (hb hby d6_86) (by decide) (by decide) ⟨rfl, N69, Or.inr ⟨hgr, kA2, hkA2, own_puts (pA ++ List.replicate (pM - pN) 0) pz (own_bytes 8 pn), (by rw [own_pl]; exact (own_cgl hpA (by omega))), own_Bput _ _ _ (own_Bapp hB) (own_Bb _ _), own_W2 (by rw [hpA]; omega) (by rw [hpl, own_cgl hpA (by omega)]; omega), c36, (by rw [← hpe, ← hpl, eB]; exact F36), (by rw [eB]; exact P137)⟩⟩
theorem ef_wr2 (m : MethodId) (n0 : Nat) (pN : Nat) (pz : Nat) (pM : Nat) (pn : Nat) (pl : Nat) (pe : Nat) : entryFrame m #[.ref (n0 + 0), .long (Int64.ofNat pn)] 5 = mkF m 0 #[.val (.ref (n0 + 0)), .val (.long (Int64.ofNat pn)), .second, .unset, .unset] [] := by first | (simp [entryFrame, mkF, argsToLocals, Value.category]; done) | rfl
def Q_wr2 (Z : State) (n0 : Nat) (o0 : Jvm.Cell) (q1 : Jvm.Cell) (kk : ClassId) (pA : List Int32) (pN : Nat) (pz : Nat) (pM : Nat) (pn : Nat) (pl : Nat) (pe : Nat) (v : Option Value) (h : Heap) (L : List Loc) : Prop := v = none ∧ Fr n0 L ∧ ((¬ pN < pz + 10 ∧ ∃ A1 : List Int32, A1.length = pN ∧ own_B A1 ∧ own_W pA pz A1 (own_bytes 8 pn) ∧ ∃ o1 : Jvm.Cell, ObjF Z o1 "com/example/dirichlet/dirichlet/index/ByteSink" fl_C0 [.ref (n0 + 2), .int (Int32.ofNat pe)] ∧ HP n0 h [o1, q1, AC kk (List.map Value.int A1)]) ∨ (pN < pz + 10 ∧ ∃ kB : ClassId, IsA Z kB .byte ∧ ∃ A1 : List Int32, A1.length = pM ∧ own_B A1 ∧ own_W pA pz A1 (own_bytes 8 pn) ∧ ∃ o1 : Jvm.Cell, ObjF Z o1 "com/example/dirichlet/dirichlet/index/ByteSink" fl_C0 [.ref (n0 + 3), .int (Int32.ofNat pe)] ∧ HP n0 h [o1, q1, AC kk (List.map Value.int pA), AC kB (List.map Value.int A1)]))
set_option maxRecDepth 65536 in
set_option maxHeartbeats 40000000 in
theorem rm_wr2 (l : Launch) (Z : State) (a0 : Array Value) (hw : ∀ d ∈ tables_1, d.before a0 Z = true) (ws : List Jvm.Cond) (n0 : Nat) (o0 : Jvm.Cell) (q1 : Jvm.Cell) (kk : ClassId) (pA : List Int32) (pN : Nat) (pz : Nat) (pM : Nat) (pn : Nat) (pl : Nat) (pe : Nat) (h0 : Heap) (P0 : HP n0 h0 [o0, q1, AC kk (List.map Value.int pA)]) (hkk : IsA Z kk .byte) (hpA : pA.length = pN) (Fo0 : ObjF Z o0 "com/example/dirichlet/dirichlet/index/ByteSink" fl_C0 [.ref (n0 + 2), .int (Int32.ofNat pz)]) (hB : own_B pA) (hpz : pz ≤ 9) (hpzN : pz ≤ pN) (hpN : pN ≤ 18) (hM1 : 2 * pN ≤ pM) (hM2 : pz + 10 ≤ pM) (hM3 : pM = 2 * pN ∨ pM = pz + 10) (hpn : pn < 9223372036854775808) (hpl : (own_bytes 8 pn).length = pl) (hpl9 : pl ≤ 9) (hpe : pz + pl = pe) :
    MetFree l (⟨"com/example/dirichlet/dirichlet/index/ByteSink", "writeNumber", "(J)V"⟩ : MethodName) (head1 (Jvm.Cond.code (⟨"com/example/dirichlet/dirichlet/index/ByteSink", "writeNumber", "(J)V"⟩ : MethodName) prog_17_method_3_code 5 none :: ws) ({ frames := 3, cells := 1, slots := 36, locals := 48 } : Room)) (fun aa U => aa = #[.ref (n0 + 0), .long (Int64.ofNat pn)] ∧ Z.Warmed39 U.vm ∧ U.heap = h0) (fun _ _ _ _ _ => True) (fun _ U o U' => ∃ v L, o = .returned v ∧ Q_wr2 Z n0 o0 q1 kk pA pN pz pM pn pl pe v U'.heap L ∧ FrameEnd U o U' L ({ frames := 3, cells := 1, slots := 36, locals := 48 } : Room).cells ({ frames := 3, cells := 1, slots := 36, locals := 48 } : Room).slots) := by
  refine own_body pn6 ?_
  intro p e s m below meth c T0 hx hby hml hret hlk hown hnm hZ X0 e0
  subst e0
  have N0 : Fr n0 [] := Fr.nil n0
  refine own_cast (ef_wr2 m n0 pN pz pM pn pl pe) ?_
  refine w_lloadN X0 hx (hb hby d6_0) rfl (pc' := 1) rfl ?_
  refine w_lconst (v := (0 : Int64)) X0 hx (hb hby d6_1) rfl (pc' := 2) rfl ?_
  refine w_lcmp_ge X0 hx (hb hby d6_2) rfl (hb hby d6_3) (by decide) (pcY := 20) (by decide) (pc' := 6) rfl (fun h0 => ?_) (fun h0 => absurd ((own_jlt (a := pn) (b := 0) (c := 0) rfl (by omega) (by decide)).mp h0) (by omega))
  refine w_aloadN X0 hx (hb hby d6_20) rfl rfl (pc' := 21) rfl ?_
  refine w_bipush (v := (10 : Int32)) X0 hx (hb hby d6_21) rfl (pc' := 23) rfl ?_
  refine own_callPr (W := 0) X0 hx hZ rfl hown hml.symm (wd43 hw) (wd16 hw) rfl (wd45 hw) (wd44 hw) (wd3 hw) (wd46 hw) (rm_ens2 l Z a0 hw [] n0 o0 q1 kk pA pN pz pM _ P0 hkk hpA Fo0 hB hpz hpN hM1 hM2 hM3) (a := (n0 + 0)) (P0.exa (i := 0) rfl Fo0.1) (by decide) (by decide) (by decide) (by decide) (by decide) (argsL := [.int (10 : Int32)]) (rest := []) pd7 rfl rfl rfl (Nat.le_of_eq rfl) (hb hby d6_23) (pc' := 26) rfl ?_
  intro v1 T1 L1 X1 hq
  obtain ⟨rfl, N1, hq⟩ := hq
  replace N1 := Fr.app N0 N1
  rcases hq with ⟨hgr, P1⟩ | ⟨hgr, c1, F1, kA2, hkA2, P1⟩
  · replace P1 : HP n0 T1.heap [o0, q1, AC kk (List.map Value.int pA)] := P1
    refine w_lloadN X1 hx (hb hby d6_26) rfl (pc' := 27) rfl ?_
    refine w_lstoreN (l' := #[.val (.ref (n0 + 0)), .val (.long (Int64.ofNat pn)), .second, .val (.long (Int64.ofNat pn)), .second]) X1 hx (hb hby d6_27) rfl (pc' := 28) rfl ?_
    refine w_lloadN X1 hx (hb hby d6_28) rfl (pc' := 29) rfl ?_
    refine w_ldc2 X1 hx (hb hby d6_29) hown (mvT hZ (wd48 hw)) (pc' := 32) rfl ?_
    refine w_lcmp_lt X1 hx (hb hby d6_32) rfl (hb hby d6_33) (by decide) (pcY := 67) (by decide) (pc' := 36) rfl (fun h1 => ?_) (fun h1 => ?_)
    · refine w_aloadN X1 hx (hb hby d6_67) rfl rfl (pc' := 68) rfl ?_
      refine w_getf (i := 0) (v := .ref (n0 + 2)) X1 hx hZ hown (wd11 hw) P1 rfl Fo0 0 rfl rfl (hb hby d6_68) (pc' := 71) rfl ?_
      intro T2 X2 P2
      refine w_aloadN X2 hx (hb hby d6_71) rfl rfl (pc' := 72) rfl ?_
      refine w_dup X2 hx (hb hby d6_72) rfl (pc' := 73) rfl ?_
      refine w_getf (i := 0) (v := .int (Int32.ofNat pz)) X2 hx hZ hown (wd18 hw) P2 rfl Fo0 1 rfl rfl (hb hby d6_73) (pc' := 76) rfl ?_
      intro T3 X3 P3
      refine w_dupX1 X3 hx (hb hby d6_76) rfl rfl (pc' := 77) rfl ?_
      refine w_iconst (v := (1 : Int32)) X3 hx (hb hby d6_77) rfl (pc' := 78) rfl ?_
      refine w_iadd X3 hx (hb hby d6_78) (pc' := 79) rfl ?_
      refine w_eqI (z := (Int32.ofNat (pz + 1))) (own_oadd pz 1) ?_
      refine w_putf (i := 0) (ty := .int) X3 hx hZ hown (wd18 hw) N1 P3 rfl Fo0 (di_C0 hw) 1 rfl (Or.inl (wd19 hw)) (wd2 hw) (by decide) rfl rfl (hb hby d6_79) (pc' := 82) rfl ?_
      intro T4 L2 c3 N2 X4 P4 F3
      replace P4 : HP n0 T4.heap [c3, q1, AC kk (List.map Value.int pA)] := P4
      replace F3 : ObjF Z c3 "com/example/dirichlet/dirichlet/index/ByteSink" fl_C0 [.ref (n0 + 2), .int (Int32.ofNat (pz + 1))] := F3
      refine w_lloadN X4 hx (hb hby d6_82) rfl (pc' := 83) rfl ?_
      refine w_l2i X4 hx (hb hby d6_83) (pc' := 84) rfl ?_
      refine w_i2b X4 hx (hb hby d6_84) (pc' := 85) rfl ?_
      refine w_bastoreEL (i := 2) (jn := pz) X4 hx hZ N2 P4 rfl hkk (hb hby d6_85) rfl (own_oN (by omega)) (own_llt hpA (by omega)) (pc' := 86) rfl ?_
      intro T5 L3 N3 X5 P5
      replace P5 : HP n0 T5.heap [c3, q1, AC kk (List.map Value.int (pA.set pz (nar .byte (Int8.toInt32 (Int32.toInt8 (Int64.toInt32 (Int64.ofNat pn)))))))] := P5
      have eB : own_bytes 8 pn = [own_lo (pn)] := by rw [own_bS, if_pos h1]
      exact w_ret_v X5 hx hret hlk (hb hby d6_86) (by decide) (by decide) ⟨rfl, N3, Or.inl ⟨hgr, own_puts pA pz (own_bytes 8 pn), (by rw [own_pl]; exact hpA), own_Bput _ _ _ hB (own_Bb _ _), own_W1 (by rw [hpl, hpA]; omega), c3, (by rw [← hpe, ← hpl, eB]; exact F3), (by rw [eB]; exact P5)⟩⟩
    · refine w_aloadN X1 hx (hb hby d6_36) rfl rfl (pc' := 37) rfl ?_
      refine w_getf (i := 0) (v := .ref (n0 + 2)) X1 hx hZ hown (wd11 hw) P1 rfl Fo0 0 rfl rfl (hb hby d6_37) (pc' := 40) rfl ?_
      intro T6 X6 P6
      refine w_aloadN X6 hx (hb hby d6_40) rfl rfl (pc' := 41) rfl ?_
      refine w_dup X6 hx (hb hby d6_41) rfl (pc' := 42) rfl ?_
      refine w_getf (i := 0) (v := .int (Int32.ofNat pz)) X6 hx hZ hown (wd18 hw) P6 rfl Fo0 1 rfl rfl (hb hby d6_42) (pc' := 45) rfl ?_
      intro T7 X7 P7
      refine w_dupX1 X7 hx (hb hby d6_45) rfl rfl (pc' := 46) rfl ?_
      refine w_iconst (v := (1 : Int32)) X7 hx (hb hby d6_46) rfl (pc' := 47) rfl ?_
      refine w_iadd X7 hx (hb hby d6_47) (pc' := 48) rfl ?_
      refine w_eqI (z := (Int32.ofNat (pz + 1))) (own_oadd pz 1) ?_
      refine w_putf (i := 0) (ty := .int) X7 hx hZ hown (wd18 hw) N1 P7 rfl Fo0 (di_C0 hw) 1 rfl (Or.inl (wd19 hw)) (wd2 hw) (by decide) rfl rfl (hb hby d6_48) (pc' := 51) rfl ?_
      intro T8 L4 c4 N4 X8 P8 F4
      replace P8 : HP n0 T8.heap [c4, q1, AC kk (List.map Value.int pA)] := P8
      replace F4 : ObjF Z c4 "com/example/dirichlet/dirichlet/index/ByteSink" fl_C0 [.ref (n0 + 2), .int (Int32.ofNat (pz + 1))] := F4
      refine w_lloadN X8 hx (hb hby d6_51) rfl (pc' := 52) rfl ?_
      refine w_ldc2 X8 hx (hb hby d6_52) hown (mvT hZ (wd48 hw)) (pc' := 55) rfl ?_
      refine w_lor X8 hx (hb hby d6_55) (pc' := 56) rfl ?_
      refine w_l2i X8 hx (hb hby d6_56) (pc' := 57) rfl ?_
      refine w_i2b X8 hx (hb hby d6_57) (pc' := 58) rfl ?_
      refine w_bastoreEL (i := 2) (jn := pz) X8 hx hZ N4 P8 rfl hkk (hb hby d6_58) rfl (own_oN (by omega)) (own_llt hpA (by omega)) (pc' := 59) rfl ?_
      intro T9 L5 N5 X9 P9
      replace P9 : HP n0 T9.heap [c4, q1, AC kk (List.map Value.int (pA.set pz (nar .byte (Int8.toInt32 (Int32.toInt8 (Int64.toInt32 ((Int64.ofNat pn) ||| (128 : Int64))))))))] := P9
      refine w_lloadN X9 hx (hb hby d6_59) rfl (pc' := 60) rfl ?_
      refine w_bipush (v := (7 : Int32)) X9 hx (hb hby d6_60) rfl (pc' := 62) rfl ?_
      refine w_lushr X9 hx (hb hby d6_62) (pc' := 63) rfl ?_
      refine w_eqJ (z := (Int64.ofNat (pn / 128))) (own_jshr (by omega)) ?_
      refine w_lstoreN (l' := #[.val (.ref (n0 + 0)), .val (.long (Int64.ofNat pn)), .second, .val (.long (Int64.ofNat (pn / 128))), .second]) X9 hx (hb hby d6_63) rfl (pc' := 64) rfl ?_
      refine w_goto X9 hx (hb hby d6_64) (by decide) (pc' := 28) (by decide) ?_
      refine w_lloadN X9 hx (hb hby d6_28) rfl (pc' := 29) rfl ?_
      refine w_ldc2 X9 hx (hb hby d6_29) hown (mvT hZ (wd48 hw)) (pc' := 32) rfl ?_
      refine w_lcmp_lt X9 hx (hb hby d6_32) rfl (hb hby d6_33) (by decide) (pcY := 67) (by decide) (pc' := 36) rfl (fun h2 => ?_) (fun h2 => ?_)
      · refine w_aloadN X9 hx (hb hby d6_67) rfl rfl (pc' := 68) rfl ?_
        refine w_getf (i := 0) (v := .ref (n0 + 2)) X9 hx hZ hown (wd11 hw) P9 rfl F4 0 rfl rfl (hb hby d6_68) (pc' := 71) rfl ?_
        intro T10 X10 P10
        refine w_aloadN X10 hx (hb hby d6_71) rfl rfl (pc' := 72) rfl ?_
        refine w_dup X10 hx (hb hby d6_72) rfl (pc' := 73) rfl ?_
        refine w_getf (i := 0) (v := .int (Int32.ofNat (pz + 1))) X10 hx hZ hown (wd18 hw) P10 rfl F4 1 rfl rfl (hb hby d6_73) (pc' := 76) rfl ?_
        intro T11 X11 P11
        refine w_dupX1 X11 hx (hb hby d6_76) rfl rfl (pc' := 77) rfl ?_
        refine w_iconst (v := (1 : Int32)) X11 hx (hb hby d6_77) rfl (pc' := 78) rfl ?_
        refine w_iadd X11 hx (hb hby d6_78) (pc' := 79) rfl ?_
        refine w_eqI (z := (Int32.ofNat ((pz + 1) + 1))) (own_oadd (pz + 1) 1) ?_
        refine w_putf (i := 0) (ty := .int) X11 hx hZ hown (wd18 hw) N5 P11 rfl F4 (di_C0 hw) 1 rfl (Or.inl (wd19 hw)) (wd2 hw) (by decide) rfl rfl (hb hby d6_79) (pc' := 82) rfl ?_
        intro T12 L6 c5 N6 X12 P12 F5
        replace P12 : HP n0 T12.heap [c5, q1, AC kk (List.map Value.int (pA.set pz (nar .byte (Int8.toInt32 (Int32.toInt8 (Int64.toInt32 ((Int64.ofNat pn) ||| (128 : Int64))))))))] := P12
        replace F5 : ObjF Z c5 "com/example/dirichlet/dirichlet/index/ByteSink" fl_C0 [.ref (n0 + 2), .int (Int32.ofNat ((pz + 1) + 1))] := F5
        refine w_lloadN X12 hx (hb hby d6_82) rfl (pc' := 83) rfl ?_
        refine w_l2i X12 hx (hb hby d6_83) (pc' := 84) rfl ?_
        refine w_i2b X12 hx (hb hby d6_84) (pc' := 85) rfl ?_
        refine w_bastoreEL (i := 2) (jn := (pz + 1)) X12 hx hZ N6 P12 rfl hkk (hb hby d6_85) rfl (own_oN (by omega)) (own_llt (own_sl hpA) (by omega)) (pc' := 86) rfl ?_
        intro T13 L7 N7 X13 P13
        replace P13 : HP n0 T13.heap [c5, q1, AC kk (List.map Value.int ((pA.set pz (nar .byte (Int8.toInt32 (Int32.toInt8 (Int64.toInt32 ((Int64.ofNat pn) ||| (128 : Int64))))))).set (pz + 1) (nar .byte (Int8.toInt32 (Int32.toInt8 (Int64.toInt32 (Int64.ofNat (pn / 128))))))))] := P13
        have eB : own_bytes 8 pn = [own_hi (pn), own_lo (pn / 128)] := by rw [own_bS, if_neg h1, own_bS, if_pos h2]
        exact w_ret_v X13 hx hret hlk (hb hby d6_86) (by decide) (by decide) ⟨rfl, N7, Or.inl ⟨hgr, own_puts pA pz (own_bytes 8 pn), (by rw [own_pl]; exact hpA), own_Bput _ _ _ hB (own_Bb _ _), own_W1 (by rw [hpl, hpA]; omega), c5, (by rw [← hpe, ← hpl, eB]; exact F5), (by rw [eB]; exact P13)⟩⟩
      · refine w_aloadN X9 hx (hb hby d6_36) rfl rfl (pc' := 37) rfl ?_
        refine w_getf (i := 0) (v := .ref (n0 + 2)) X9 hx hZ hown (wd11 hw) P9 rfl F4 0 rfl rfl (hb hby d6_37) (pc' := 40) rfl ?_
        intro T14 X14 P14
        refine w_aloadN X14 hx (hb hby d6_40) rfl rfl (pc' := 41) rfl ?_
        refine w_dup X14 hx (hb hby d6_41) rfl (pc' := 42) rfl ?_
        refine w_getf (i := 0) (v := .int (Int32.ofNat (pz + 1))) X14 hx hZ hown (wd18 hw) P14 rfl F4 1 rfl rfl (hb hby d6_42) (pc' := 45) rfl ?_
        intro T15 X15 P15
        refine w_dupX1 X15 hx (hb hby d6_45) rfl rfl (pc' := 46) rfl ?_
        refine w_iconst (v := (1 : Int32)) X15 hx (hb hby d6_46) rfl (pc' := 47) rfl ?_
        refine w_iadd X15 hx (hb hby d6_47) (pc' := 48) rfl ?_
        refine w_eqI (z := (Int32.ofNat ((pz + 1) + 1))) (own_oadd (pz + 1) 1) ?_
        refine w_putf (i := 0) (ty := .int) X15 hx hZ hown (wd18 hw) N5 P15 rfl F4 (di_C0 hw) 1 rfl (Or.inl (wd19 hw)) (wd2 hw) (by decide) rfl rfl (hb hby d6_48) (pc' := 51) rfl ?_
        intro T16 L8 c6 N8 X16 P16 F6
        replace P16 : HP n0 T16.heap [c6, q1, AC kk (List.map Value.int (pA.set pz (nar .byte (Int8.toInt32 (Int32.toInt8 (Int64.toInt32 ((Int64.ofNat pn) ||| (128 : Int64))))))))] := P16
        replace F6 : ObjF Z c6 "com/example/dirichlet/dirichlet/index/ByteSink" fl_C0 [.ref (n0 + 2), .int (Int32.ofNat ((pz + 1) + 1))] := F6
        refine w_lloadN X16 hx (hb hby d6_51) rfl (pc' := 52) rfl ?_
        refine w_ldc2 X16 hx (hb hby d6_52) hown (mvT hZ (wd48 hw)) (pc' := 55) rfl ?_
        refine w_lor X16 hx (hb hby d6_55) (pc' := 56) rfl ?_
        refine w_l2i X16 hx (hb hby d6_56) (pc' := 57) rfl ?_
        refine w_i2b X16 hx (hb hby d6_57) (pc' := 58) rfl ?_
        refine w_bastoreEL (i := 2) (jn := (pz + 1)) X16 hx hZ N8 P16 rfl hkk (hb hby d6_58) rfl (own_oN (by omega)) (own_llt (own_sl hpA) (by omega)) (pc' := 59) rfl ?_
        intro T17 L9 N9 X17 P17
        replace P17 : HP n0 T17.heap [c6, q1, AC kk (List.map Value.int ((pA.set pz (nar .byte (Int8.toInt32 (Int32.toInt8 (Int64.toInt32 ((Int64.ofNat pn) ||| (128 : Int64))))))).set (pz + 1) (nar .byte (Int8.toInt32 (Int32.toInt8 (Int64.toInt32 ((Int64.ofNat (pn / 128)) ||| (128 : Int64))))))))] := P17
        refine w_lloadN X17 hx (hb hby d6_59) rfl (pc' := 60) rfl ?_
        refine w_bipush (v := (7 : Int32)) X17 hx (hb hby d6_60) rfl (pc' := 62) rfl ?_
        refine w_lushr X17 hx (hb hby d6_62) (pc' := 63) rfl ?_
        refine w_eqJ (z := (Int64.ofNat (pn / 128 / 128))) (own_jshr (by omega)) ?_
        refine w_lstoreN (l' := #[.val (.ref (n0 + 0)), .val (.long (Int64.ofNat pn)), .second, .val (.long (Int64.ofNat (pn / 128 / 128))), .second]) X17 hx (hb hby d6_63) rfl (pc' := 64) rfl ?_
        refine w_goto X17 hx (hb hby d6_64) (by decide) (pc' := 28) (by decide) ?_
        refine w_lloadN X17 hx (hb hby d6_28) rfl (pc' := 29) rfl ?_
        refine w_ldc2 X17 hx (hb hby d6_29) hown (mvT hZ (wd48 hw)) (pc' := 32) rfl ?_
        refine w_lcmp_lt X17 hx (hb hby d6_32) rfl (hb hby d6_33) (by decide) (pcY := 67) (by decide) (pc' := 36) rfl (fun h3 => ?_) (fun h3 => ?_)
        · refine w_aloadN X17 hx (hb hby d6_67) rfl rfl (pc' := 68) rfl ?_
          refine w_getf (i := 0) (v := .ref (n0 + 2)) X17 hx hZ hown (wd11 hw) P17 rfl F6 0 rfl rfl (hb hby d6_68) (pc' := 71) rfl ?_
          intro T18 X18 P18
          refine w_aloadN X18 hx (hb hby d6_71) rfl rfl (pc' := 72) rfl ?_
          refine w_dup X18 hx (hb hby d6_72) rfl (pc' := 73) rfl ?_
          refine w_getf (i := 0) (v := .int (Int32.ofNat ((pz + 1) + 1))) X18 hx hZ hown (wd18 hw) P18 rfl F6 1 rfl rfl (hb hby d6_73) (pc' := 76) rfl ?_
          intro T19 X19 P19
          refine w_dupX1 X19 hx (hb hby d6_76) rfl rfl (pc' := 77) rfl ?_
          refine w_iconst (v := (1 : Int32)) X19 hx (hb hby d6_77) rfl (pc' := 78) rfl ?_
          refine w_iadd X19 hx (hb hby d6_78) (pc' := 79) rfl ?_
          refine w_eqI (z := (Int32.ofNat (((pz + 1) + 1) + 1))) (own_oadd ((pz + 1) + 1) 1) ?_
          refine w_putf (i := 0) (ty := .int) X19 hx hZ hown (wd18 hw) N9 P19 rfl F6 (di_C0 hw) 1 rfl (Or.inl (wd19 hw)) (wd2 hw) (by decide) rfl rfl (hb hby d6_79) (pc' := 82) rfl ?_
          intro T20 L10 c7 N10 X20 P20 F7
          replace P20 : HP n0 T20.heap [c7, q1, AC kk (List.map Value.int ((pA.set pz (nar .byte (Int8.toInt32 (Int32.toInt8 (Int64.toInt32 ((Int64.ofNat pn) ||| (128 : Int64))))))).set (pz + 1) (nar .byte (Int8.toInt32 (Int32.toInt8 (Int64.toInt32 ((Int64.ofNat (pn / 128)) ||| (128 : Int64))))))))] := P20
          replace F7 : ObjF Z c7 "com/example/dirichlet/dirichlet/index/ByteSink" fl_C0 [.ref (n0 + 2), .int (Int32.ofNat (((pz + 1) + 1) + 1))] := F7
          refine w_lloadN X20 hx (hb hby d6_82) rfl (pc' := 83) rfl ?_
          refine w_l2i X20 hx (hb hby d6_83) (pc' := 84) rfl ?_
          refine w_i2b X20 hx (hb hby d6_84) (pc' := 85) rfl ?_
          refine w_bastoreEL (i := 2) (jn := ((pz + 1) + 1)) X20 hx hZ N10 P20 rfl hkk (hb hby d6_85) rfl (own_oN (by omega)) (own_llt (own_sl (own_sl hpA)) (by omega)) (pc' := 86) rfl ?_
          intro T21 L11 N11 X21 P21
          replace P21 : HP n0 T21.heap [c7, q1, AC kk (List.map Value.int (((pA.set pz (nar .byte (Int8.toInt32 (Int32.toInt8 (Int64.toInt32 ((Int64.ofNat pn) ||| (128 : Int64))))))).set (pz + 1) (nar .byte (Int8.toInt32 (Int32.toInt8 (Int64.toInt32 ((Int64.ofNat (pn / 128)) ||| (128 : Int64))))))).set ((pz + 1) + 1) (nar .byte (Int8.toInt32 (Int32.toInt8 (Int64.toInt32 (Int64.ofNat (pn / 128 / 128))))))))] := P21
          have eB : own_bytes 8 pn = [own_hi (pn), own_hi (pn / 128), own_lo (pn / 128 / 128)] := by rw [own_bS, if_neg h1, own_bS, if_neg h2, own_bS, if_pos h3]
          exact w_ret_v X21 hx hret hlk (hb hby d6_86) (by decide) (by decide) ⟨rfl, N11, Or.inl ⟨hgr, own_puts pA pz (own_bytes 8 pn), (by rw [own_pl]; exact hpA), own_Bput _ _ _ hB (own_Bb _ _), own_W1 (by rw [hpl, hpA]; omega), c7, (by rw [← hpe, ← hpl, eB]; exact F7), (by rw [eB]; exact P21)⟩⟩
        · refine w_aloadN X17 hx (hb hby d6_36) rfl rfl (pc' := 37) rfl ?_
          refine w_getf (i := 0) (v := .ref (n0 + 2)) X17 hx hZ hown (wd11 hw) P17 rfl F6 0 rfl rfl (hb hby d6_37) (pc' := 40) rfl ?_
          intro T22 X22 P22
          refine w_aloadN X22 hx (hb hby d6_40) rfl rfl (pc' := 41) rfl ?_
          refine w_dup X22 hx (hb hby d6_41) rfl (pc' := 42) rfl ?_
          refine w_getf (i := 0) (v := .int (Int32.ofNat ((pz + 1) + 1))) X22 hx hZ hown (wd18 hw) P22 rfl F6 1 rfl rfl (hb hby d6_42) (pc' := 45) rfl ?_
          intro T23 X23 P23
          refine w_dupX1 X23 hx (hb hby d6_45) rfl rfl (pc' := 46) rfl ?_
          refine w_iconst (v := (1 : Int32)) X23 hx (hb hby d6_46) rfl (pc' := 47) rfl ?_
          refine w_iadd X23 hx (hb hby d6_47) (pc' := 48) rfl ?_
          refine w_eqI (z := (Int32.ofNat (((pz + 1) + 1) + 1))) (own_oadd ((pz + 1) + 1) 1) ?_
          refine w_putf (i := 0) (ty := .int) X23 hx hZ hown (wd18 hw) N9 P23 rfl F6 (di_C0 hw) 1 rfl (Or.inl (wd19 hw)) (wd2 hw) (by decide) rfl rfl (hb hby d6_48) (pc' := 51) rfl ?_
          intro T24 L12 c8 N12 X24 P24 F8
          replace P24 : HP n0 T24.heap [c8, q1, AC kk (List.map Value.int ((pA.set pz (nar .byte (Int8.toInt32 (Int32.toInt8 (Int64.toInt32 ((Int64.ofNat pn) ||| (128 : Int64))))))).set (pz + 1) (nar .byte (Int8.toInt32 (Int32.toInt8 (Int64.toInt32 ((Int64.ofNat (pn / 128)) ||| (128 : Int64))))))))] := P24
          replace F8 : ObjF Z c8 "com/example/dirichlet/dirichlet/index/ByteSink" fl_C0 [.ref (n0 + 2), .int (Int32.ofNat (((pz + 1) + 1) + 1))] := F8
          refine w_lloadN X24 hx (hb hby d6_51) rfl (pc' := 52) rfl ?_
          refine w_ldc2 X24 hx (hb hby d6_52) hown (mvT hZ (wd48 hw)) (pc' := 55) rfl ?_
          refine w_lor X24 hx (hb hby d6_55) (pc' := 56) rfl ?_
          refine w_l2i X24 hx (hb hby d6_56) (pc' := 57) rfl ?_
          refine w_i2b X24 hx (hb hby d6_57) (pc' := 58) rfl ?_
          refine w_bastoreEL (i := 2) (jn := ((pz + 1) + 1)) X24 hx hZ N12 P24 rfl hkk (hb hby d6_58) rfl (own_oN (by omega)) (own_llt (own_sl (own_sl hpA)) (by omega)) (pc' := 59) rfl ?_
          intro T25 L13 N13 X25 P25
          replace P25 : HP n0 T25.heap [c8, q1, AC kk (List.map Value.int (((pA.set pz (nar .byte (Int8.toInt32 (Int32.toInt8 (Int64.toInt32 ((Int64.ofNat pn) ||| (128 : Int64))))))).set (pz + 1) (nar .byte (Int8.toInt32 (Int32.toInt8 (Int64.toInt32 ((Int64.ofNat (pn / 128)) ||| (128 : Int64))))))).set ((pz + 1) + 1) (nar .byte (Int8.toInt32 (Int32.toInt8 (Int64.toInt32 ((Int64.ofNat (pn / 128 / 128)) ||| (128 : Int64))))))))] := P25
          refine w_lloadN X25 hx (hb hby d6_59) rfl (pc' := 60) rfl ?_
          refine w_bipush (v := (7 : Int32)) X25 hx (hb hby d6_60) rfl (pc' := 62) rfl ?_
          refine w_lushr X25 hx (hb hby d6_62) (pc' := 63) rfl ?_
          refine w_eqJ (z := (Int64.ofNat (pn / 128 / 128 / 128))) (own_jshr (by omega)) ?_
          refine w_lstoreN (l' := #[.val (.ref (n0 + 0)), .val (.long (Int64.ofNat pn)), .second, .val (.long (Int64.ofNat (pn / 128 / 128 / 128))), .second]) X25 hx (hb hby d6_63) rfl (pc' := 64) rfl ?_
          refine w_goto X25 hx (hb hby d6_64) (by decide) (pc' := 28) (by decide) ?_
          refine w_lloadN X25 hx (hb hby d6_28) rfl (pc' := 29) rfl ?_
          refine w_ldc2 X25 hx (hb hby d6_29) hown (mvT hZ (wd48 hw)) (pc' := 32) rfl ?_
          refine w_lcmp_lt X25 hx (hb hby d6_32) rfl (hb hby d6_33) (by decide) (pcY := 67) (by decide) (pc' := 36) rfl (fun h4 => ?_) (fun h4 => ?_)
          · refine w_aloadN X25 hx (hb hby d6_67) rfl rfl (pc' := 68) rfl ?_
            refine w_getf (i := 0) (v := .ref (n0 + 2)) X25 hx hZ hown (wd11 hw) P25 rfl F8 0 rfl rfl (hb hby d6_68) (pc' := 71) rfl ?_
            intro T26 X26 P26
            refine w_aloadN X26 hx (hb hby d6_71) rfl rfl (pc' := 72) rfl ?_
            refine w_dup X26 hx (hb hby d6_72) rfl (pc' := 73) rfl ?_
            refine w_getf (i := 0) (v := .int (Int32.ofNat (((pz + 1) + 1) + 1))) X26 hx hZ hown (wd18 hw) P26 rfl F8 1 rfl rfl (hb hby d6_73) (pc' := 76) rfl ?_
            intro T27 X27 P27
            refine w_dupX1 X27 hx (hb hby d6_76) rfl rfl (pc' := 77) rfl ?_
            refine w_iconst (v := (1 : Int32)) X27 hx (hb hby d6_77) rfl (pc' := 78) rfl ?_
            refine w_iadd X27 hx (hb hby d6_78) (pc' := 79) rfl ?_
            refine w_eqI (z := (Int32.ofNat ((((pz + 1) + 1) + 1) + 1))) (own_oadd (((pz + 1) + 1) + 1) 1) ?_
            refine w_putf (i := 0) (ty := .int) X27 hx hZ hown (wd18 hw) N13 P27 rfl F8 (di_C0 hw) 1 rfl (Or.inl (wd19 hw)) (wd2 hw) (by decide) rfl rfl (hb hby d6_79) (pc' := 82) rfl ?_
            intro T28 L14 c9 N14 X28 P28 F9
            replace P28 : HP n0 T28.heap [c9, q1, AC kk (List.map Value.int (((pA.set pz (nar .byte (Int8.toInt32 (Int32.toInt8 (Int64.toInt32 ((Int64.ofNat pn) ||| (128 : Int64))))))).set (pz + 1) (nar .byte (Int8.toInt32 (Int32.toInt8 (Int64.toInt32 ((Int64.ofNat (pn / 128)) ||| (128 : Int64))))))).set ((pz + 1) + 1) (nar .byte (Int8.toInt32 (Int32.toInt8 (Int64.toInt32 ((Int64.ofNat (pn / 128 / 128)) ||| (128 : Int64))))))))] := P28
            replace F9 : ObjF Z c9 "com/example/dirichlet/dirichlet/index/ByteSink" fl_C0 [.ref (n0 + 2), .int (Int32.ofNat ((((pz + 1) + 1) + 1) + 1))] := F9
            refine w_lloadN X28 hx (hb hby d6_82) rfl (pc' := 83) rfl ?_
            refine w_l2i X28 hx (hb hby d6_83) (pc' := 84) rfl ?_
            refine w_i2b X28 hx (hb hby d6_84) (pc' := 85) rfl ?_
            refine w_bastoreEL (i := 2) (jn := (((pz + 1) + 1) + 1)) X28 hx hZ N14 P28 rfl hkk (hb hby d6_85) rfl (own_oN (by omega)) (own_llt (own_sl (own_sl (own_sl hpA))) (by omega)) (pc' := 86) rfl ?_
            intro T29 L15 N15 X29 P29
            replace P29 : HP n0 T29.heap [c9, q1, AC kk (List.map Value.int ((((pA.set pz (nar .byte (Int8.toInt32 (Int32.toInt8 (Int64.toInt32 ((Int64.ofNat pn) ||| (128 : Int64))))))).set (pz + 1) (nar .byte (Int8.toInt32 (Int32.toInt8 (Int64.toInt32 ((Int64.ofNat (pn / 128)) ||| (128 : Int64))))))).set ((pz + 1) + 1) (nar .byte (Int8.toInt32 (Int32.toInt8 (Int64.toInt32 ((Int64.ofNat (pn / 128 / 128)) ||| (128 : Int64))))))).set (((pz + 1) + 1) + 1) (nar .byte (Int8.toInt32 (Int32.toInt8 (Int64.toInt32 (Int64.ofNat (pn / 128 / 128 / 128))))))))] := P29
            have eB : own_bytes 8 pn = [own_hi (pn), own_hi (pn / 128), own_hi (pn / 128 / 128), own_lo (pn / 128 / 128 / 128)] := by rw [own_bS, if_neg h1, own_bS, if_neg h2, own_bS, if_neg h3, own_bS, if_pos h4]
            exact w_ret_v X29 hx hret hlk (hb hby d6_86) (by decide) (by decide) ⟨rfl, N15, Or.inl ⟨hgr, own_puts pA pz (own_bytes 8 pn), (by rw [own_pl]; exact hpA), own_Bput _ _ _ hB (own_Bb _ _), own_W1 (by rw [hpl, hpA]; omega), c9, (by rw [← hpe, ← hpl, eB]; exact F9), (by rw [eB]; exact P29)⟩⟩
          · refine w_aloadN X25 hx (hb hby d6_36) rfl rfl (pc' := 37) rfl ?_
            refine w_getf (i := 0) (v := .ref (n0 + 2)) X25 hx hZ hown (wd11 hw) P25 rfl F8 0 rfl rfl (hb hby d6_37) (pc' := 40) rfl ?_
            intro T30 X30 P30
            refine w_aloadN X30 hx (hb hby d6_40) rfl rfl (pc' := 41) rfl ?_
            refine w_dup X30 hx (hb hby d6_41) rfl (pc' := 42) rfl ?_
            refine w_getf (i := 0) (v := .int (Int32.ofNat (((pz + 1) + 1) + 1))) X30 hx hZ hown (wd18 hw) P30 rfl F8 1 rfl rfl (hb hby d6_42) (pc' := 45) rfl ?_
            intro T31 X31 P31
            refine w_dupX1 X31 hx (hb hby d6_45) rfl rfl (pc' := 46) rfl ?_
            refine w_iconst (v := (1 : Int32)) X31 hx (hb hby d6_46) rfl (pc' := 47) rfl ?_
            refine w_iadd X31 hx (hb hby d6_47) (pc' := 48) rfl ?_
            refine w_eqI (z := (Int32.ofNat ((((pz + 1) + 1) + 1) + 1))) (own_oadd (((pz + 1) + 1) + 1) 1) ?_
            refine w_putf (i := 0) (ty := .int) X31 hx hZ hown (wd18 hw) N13 P31 rfl F8 (di_C0 hw) 1 rfl (Or.inl (wd19 hw)) (wd2 hw) (by decide) rfl rfl (hb hby d6_48) (pc' := 51) rfl ?_
            intro T32 L16 c10 N16 X32 P32 F10
            replace P32 : HP n0 T32.heap [c10, q1, AC kk (List.map Value.int (((pA.set pz (nar .byte (Int8.toInt32 (Int32.toInt8 (Int64.toInt32 ((Int64.ofNat pn) ||| (128 : Int64))))))).set (pz + 1) (nar .byte (Int8.toInt32 (Int32.toInt8 (Int64.toInt32 ((Int64.ofNat (pn / 128)) ||| (128 : Int64))))))).set ((pz + 1) + 1) (nar .byte (Int8.toInt32 (Int32.toInt8 (Int64.toInt32 ((Int64.ofNat (pn / 128 / 128)) ||| (128 : Int64))))))))] := P32
            replace F10 : ObjF Z c10 "com/example/dirichlet/dirichlet/index/ByteSink" fl_C0 [.ref (n0 + 2), .int (Int32.ofNat ((((pz + 1) + 1) + 1) + 1))] := F10
            refine w_lloadN X32 hx (hb hby d6_51) rfl (pc' := 52) rfl ?_
            refine w_ldc2 X32 hx (hb hby d6_52) hown (mvT hZ (wd48 hw)) (pc' := 55) rfl ?_
            refine w_lor X32 hx (hb hby d6_55) (pc' := 56) rfl ?_
            refine w_l2i X32 hx (hb hby d6_56) (pc' := 57) rfl ?_
            refine w_i2b X32 hx (hb hby d6_57) (pc' := 58) rfl ?_
            refine w_bastoreEL (i := 2) (jn := (((pz + 1) + 1) + 1)) X32 hx hZ N16 P32 rfl hkk (hb hby d6_58) rfl (own_oN (by omega)) (own_llt (own_sl (own_sl (own_sl hpA))) (by omega)) (pc' := 59) rfl ?_
            intro T33 L17 N17 X33 P33
            replace P33 : HP n0 T33.heap [c10, q1, AC kk (List.map Value.int ((((pA.set pz (nar .byte (Int8.toInt32 (Int32.toInt8 (Int64.toInt32 ((Int64.ofNat pn) ||| (128 : Int64))))))).set (pz + 1) (nar .byte (Int8.toInt32 (Int32.toInt8 (Int64.toInt32 ((Int64.ofNat (pn / 128)) ||| (128 : Int64))))))).set ((pz + 1) + 1) (nar .byte (Int8.toInt32 (Int32.toInt8 (Int64.toInt32 ((Int64.ofNat (pn / 128 / 128)) ||| (128 : Int64))))))).set (((pz + 1) + 1) + 1) (nar .byte (Int8.toInt32 (Int32.toInt8 (Int64.toInt32 ((Int64.ofNat (pn / 128 / 128 / 128)) ||| (128 : Int64))))))))] := P33
            refine w_lloadN X33 hx (hb hby d6_59) rfl (pc' := 60) rfl ?_
            refine w_bipush (v := (7 : Int32)) X33 hx (hb hby d6_60) rfl (pc' := 62) rfl ?_
            refine w_lushr X33 hx (hb hby d6_62) (pc' := 63) rfl ?_
            refine w_eqJ (z := (Int64.ofNat (pn / 128 / 128 / 128 / 128))) (own_jshr (by omega)) ?_
            refine w_lstoreN (l' := #[.val (.ref (n0 + 0)), .val (.long (Int64.ofNat pn)), .second, .val (.long (Int64.ofNat (pn / 128 / 128 / 128 / 128))), .second]) X33 hx (hb hby d6_63) rfl (pc' := 64) rfl ?_
            refine w_goto X33 hx (hb hby d6_64) (by decide) (pc' := 28) (by decide) ?_
            refine w_lloadN X33 hx (hb hby d6_28) rfl (pc' := 29) rfl ?_
            refine w_ldc2 X33 hx (hb hby d6_29) hown (mvT hZ (wd48 hw)) (pc' := 32) rfl ?_
            refine w_lcmp_lt X33 hx (hb hby d6_32) rfl (hb hby d6_33) (by decide) (pcY := 67) (by decide) (pc' := 36) rfl (fun h5 => ?_) (fun h5 => ?_)
            · refine w_aloadN X33 hx (hb hby d6_67) rfl rfl (pc' := 68) rfl ?_
              refine w_getf (i := 0) (v := .ref (n0 + 2)) X33 hx hZ hown (wd11 hw) P33 rfl F10 0 rfl rfl (hb hby d6_68) (pc' := 71) rfl ?_
              intro T34 X34 P34
              refine w_aloadN X34 hx (hb hby d6_71) rfl rfl (pc' := 72) rfl ?_
              refine w_dup X34 hx (hb hby d6_72) rfl (pc' := 73) rfl ?_
              refine w_getf (i := 0) (v := .int (Int32.ofNat ((((pz + 1) + 1) + 1) + 1))) X34 hx hZ hown (wd18 hw) P34 rfl F10 1 rfl rfl (hb hby d6_73) (pc' := 76) rfl ?_
              intro T35 X35 P35
              refine w_dupX1 X35 hx (hb hby d6_76) rfl rfl (pc' := 77) rfl ?_
              refine w_iconst (v := (1 : Int32)) X35 hx (hb hby d6_77) rfl (pc' := 78) rfl ?_
              refine w_iadd X35 hx (hb hby d6_78) (pc' := 79) rfl ?_
              refine w_eqI (z := (Int32.ofNat (((((pz + 1) + 1) + 1) + 1) + 1))) (own_oadd ((((pz + 1) + 1) + 1) + 1) 1) ?_
              refine w_putf (i := 0) (ty := .int) X35 hx hZ hown (wd18 hw) N17 P35 rfl F10 (di_C0 hw) 1 rfl (Or.inl (wd19 hw)) (wd2 hw) (by decide) rfl rfl (hb hby d6_79) (pc' := 82) rfl ?_
              intro T36 L18 c11 N18 X36 P36 F11
              replace P36 : HP n0 T36.heap [c11, q1, AC kk (List.map Value.int ((((pA.set pz (nar .byte (Int8.toInt32 (Int32.toInt8 (Int64.toInt32 ((Int64.ofNat pn) ||| (128 : Int64))))))).set (pz + 1) (nar .byte (Int8.toInt32 (Int32.toInt8 (Int64.toInt32 ((Int64.ofNat (pn / 128)) ||| (128 : Int64))))))).set ((pz + 1) + 1) (nar .byte (Int8.toInt32 (Int32.toInt8 (Int64.toInt32 ((Int64.ofNat (pn / 128 / 128)) ||| (128 : Int64))))))).set (((pz + 1) + 1) + 1) (nar .byte (Int8.toInt32 (Int32.toInt8 (Int64.toInt32 ((Int64.ofNat (pn / 128 / 128 / 128)) ||| (128 : Int64))))))))] := P36
              replace F11 : ObjF Z c11 "com/example/dirichlet/dirichlet/index/ByteSink" fl_C0 [.ref (n0 + 2), .int (Int32.ofNat (((((pz + 1) + 1) + 1) + 1) + 1))] := F11
              refine w_lloadN X36 hx (hb hby d6_82) rfl (pc' := 83) rfl ?_
              refine w_l2i X36 hx (hb hby d6_83) (pc' := 84) rfl ?_
              refine w_i2b X36 hx (hb hby d6_84) (pc' := 85) rfl ?_
              refine w_bastoreEL (i := 2) (jn := ((((pz + 1) + 1) + 1) + 1)) X36 hx hZ N18 P36 rfl hkk (hb hby d6_85) rfl (own_oN (by omega)) (own_llt (own_sl (own_sl (own_sl (own_sl hpA)))) (by omega)) (pc' := 86) rfl ?_
              intro T37 L19 N19 X37 P37
              replace P37 : HP n0 T37.heap [c11, q1, AC kk (List.map Value.int (((((pA.set pz (nar .byte (Int8.toInt32 (Int32.toInt8 (Int64.toInt32 ((Int64.ofNat pn) ||| (128 : Int64))))))).set (pz + 1) (nar .byte (Int8.toInt32 (Int32.toInt8 (Int64.toInt32 ((Int64.ofNat (pn / 128)) ||| (128 : Int64))))))).set ((pz + 1) + 1) (nar .byte (Int8.toInt32 (Int32.toInt8 (Int64.toInt32 ((Int64.ofNat (pn / 128 / 128)) ||| (128 : Int64))))))).set (((pz + 1) + 1) + 1) (nar .byte (Int8.toInt32 (Int32.toInt8 (Int64.toInt32 ((Int64.ofNat (pn / 128 / 128 / 128)) ||| (128 : Int64))))))).set ((((pz + 1) + 1) + 1) + 1) (nar .byte (Int8.toInt32 (Int32.toInt8 (Int64.toInt32 (Int64.ofNat (pn / 128 / 128 / 128 / 128))))))))] := P37
              have eB : own_bytes 8 pn = [own_hi (pn), own_hi (pn / 128), own_hi (pn / 128 / 128), own_hi (pn / 128 / 128 / 128), own_lo (pn / 128 / 128 / 128 / 128)] := by rw [own_bS, if_neg h1, own_bS, if_neg h2, own_bS, if_neg h3, own_bS, if_neg h4, own_bS, if_pos h5]
              exact w_ret_v X37 hx hret hlk (hb hby d6_86) (by decide) (by decide) ⟨rfl, N19, Or.inl ⟨hgr, own_puts pA pz (own_bytes 8 pn), (by rw [own_pl]; exact hpA), own_Bput _ _ _ hB (own_Bb _ _), own_W1 (by rw [hpl, hpA]; omega), c11, (by rw [← hpe, ← hpl, eB]; exact F11), (by rw [eB]; exact P37)⟩⟩
            · refine w_aloadN X33 hx (hb hby d6_36) rfl rfl (pc' := 37) rfl ?_
              refine w_getf (i := 0) (v := .ref (n0 + 2)) X33 hx hZ hown (wd11 hw) P33 rfl F10 0 rfl rfl (hb hby d6_37) (pc' := 40) rfl ?_
              intro T38 X38 P38
              refine w_aloadN X38 hx (hb hby d6_40) rfl rfl (pc' := 41) rfl ?_
              refine w_dup X38 hx (hb hby d6_41) rfl (pc' := 42) rfl ?_
              refine w_getf (i := 0) (v := .int (Int32.ofNat ((((pz + 1) + 1) + 1) + 1))) X38 hx hZ hown (wd18 hw) P38 rfl F10 1 rfl rfl (hb hby d6_42) (pc' := 45) rfl ?_
              intro T39 X39 P39
              refine w_dupX1 X39 hx (hb hby d6_45) rfl rfl (pc' := 46) rfl ?_
              refine w_iconst (v := (1 : Int32)) X39 hx (hb hby d6_46) rfl (pc' := 47) rfl ?_
              refine w_iadd X39 hx (hb hby d6_47) (pc' := 48) rfl ?_
              refine w_eqI (z := (Int32.ofNat (((((pz + 1) + 1) + 1) + 1) + 1))) (own_oadd ((((pz + 1) + 1) + 1) + 1) 1) ?_
              refine w_putf (i := 0) (ty := .int) X39 hx hZ hown (wd18 hw) N17 P39 rfl F10 (di_C0 hw) 1 rfl (Or.inl (wd19 hw)) (wd2 hw) (by decide) rfl rfl (hb hby d6_48) (pc' := 51) rfl ?_
              intro T40 L20 c12 N20 X40 P40 F12
              replace P40 : HP n0 T40.heap [c12, q1, AC kk (List.map Value.int ((((pA.set pz (nar .byte (Int8.toInt32 (Int32.toInt8 (Int64.toInt32 ((Int64.ofNat pn) ||| (128 : Int64))))))).set (pz + 1) (nar .byte (Int8.toInt32 (Int32.toInt8 (Int64.toInt32 ((Int64.ofNat (pn / 128)) ||| (128 : Int64))))))).set ((pz + 1) + 1) (nar .byte (Int8.toInt32 (Int32.toInt8 (Int64.toInt32 ((Int64.ofNat (pn / 128 / 128)) ||| (128 : Int64))))))).set (((pz + 1) + 1) + 1) (nar .byte (Int8.toInt32 (Int32.toInt8 (Int64.toInt32 ((Int64.ofNat (pn / 128 / 128 / 128)) ||| (128 : Int64))))))))] := P40
              replace F12 : ObjF Z c12 "com/example/dirichlet/dirichlet/index/ByteSink" fl_C0 [.ref (n0 + 2), .int (Int32.ofNat (((((pz + 1) + 1) + 1) + 1) + 1))] := F12
              refine w_lloadN X40 hx (hb hby d6_51) rfl (pc' := 52) rfl ?_
              refine w_ldc2 X40 hx (hb hby d6_52) hown (mvT hZ (wd48 hw)) (pc' := 55) rfl ?_
              refine w_lor X40 hx (hb hby d6_55) (pc' := 56) rfl ?_
              refine w_l2i X40 hx (hb hby d6_56) (pc' := 57) rfl ?_
              refine w_i2b X40 hx (hb hby d6_57) (pc' := 58) rfl ?_
              refine w_bastoreEL (i := 2) (jn := ((((pz + 1) + 1) + 1) + 1)) X40 hx hZ N20 P40 rfl hkk (hb hby d6_58) rfl (own_oN (by omega)) (own_llt (own_sl (own_sl (own_sl (own_sl hpA)))) (by omega)) (pc' := 59) rfl ?_
              intro T41 L21 N21 X41 P41
              replace P41 : HP n0 T41.heap [c12, q1, AC kk (List.map Value.int (((((pA.set pz (nar .byte (Int8.toInt32 (Int32.toInt8 (Int64.toInt32 ((Int64.ofNat pn) ||| (128 : Int64))))))).set (pz + 1) (nar .byte (Int8.toInt32 (Int32.toInt8 (Int64.toInt32 ((Int64.ofNat (pn / 128)) ||| (128 : Int64))))))).set ((pz + 1) + 1) (nar .byte (Int8.toInt32 (Int32.toInt8 (Int64.toInt32 ((Int64.ofNat (pn / 128 / 128)) ||| (128 : Int64))))))).set (((pz + 1) + 1) + 1) (nar .byte (Int8.toInt32 (Int32.toInt8 (Int64.toInt32 ((Int64.ofNat (pn / 128 / 128 / 128)) ||| (128 : Int64))))))).set ((((pz + 1) + 1) + 1) + 1) (nar .byte (Int8.toInt32 (Int32.toInt8 (Int64.toInt32 ((Int64.ofNat (pn / 128 / 128 / 128 / 128)) ||| (128 : Int64))))))))] := P41
              refine w_lloadN X41 hx (hb hby d6_59) rfl (pc' := 60) rfl ?_
              refine w_bipush (v := (7 : Int32)) X41 hx (hb hby d6_60) rfl (pc' := 62) rfl ?_
              refine w_lushr X41 hx (hb hby d6_62) (pc' := 63) rfl ?_
              refine w_eqJ (z := (Int64.ofNat (pn / 128 / 128 / 128 / 128 / 128))) (own_jshr (by omega)) ?_
              refine w_lstoreN (l' := #[.val (.ref (n0 + 0)), .val (.long (Int64.ofNat pn)), .second, .val (.long (Int64.ofNat (pn / 128 / 128 / 128 / 128 / 128))), .second]) X41 hx (hb hby d6_63) rfl (pc' := 64) rfl ?_
              refine w_goto X41 hx (hb hby d6_64) (by decide) (pc' := 28) (by decide) ?_
              refine w_lloadN X41 hx (hb hby d6_28) rfl (pc' := 29) rfl ?_
              refine w_ldc2 X41 hx (hb hby d6_29) hown (mvT hZ (wd48 hw)) (pc' := 32) rfl ?_
              refine w_lcmp_lt X41 hx (hb hby d6_32) rfl (hb hby d6_33) (by decide) (pcY := 67) (by decide) (pc' := 36) rfl (fun h6 => ?_) (fun h6 => ?_)
              · refine w_aloadN X41 hx (hb hby d6_67) rfl rfl (pc' := 68) rfl ?_
                refine w_getf (i := 0) (v := .ref (n0 + 2)) X41 hx hZ hown (wd11 hw) P41 rfl F12 0 rfl rfl (hb hby d6_68) (pc' := 71) rfl ?_
                intro T42 X42 P42
                refine w_aloadN X42 hx (hb hby d6_71) rfl rfl (pc' := 72) rfl ?_
                refine w_dup X42 hx (hb hby d6_72) rfl (pc' := 73) rfl ?_
                refine w_getf (i := 0) (v := .int (Int32.ofNat (((((pz + 1) + 1) + 1) + 1) + 1))) X42 hx hZ hown (wd18 hw) P42 rfl F12 1 rfl rfl (hb hby d6_73) (pc' := 76) rfl ?_
                intro T43 X43 P43
                refine w_dupX1 X43 hx (hb hby d6_76) rfl rfl (pc' := 77) rfl ?_
                refine w_iconst (v := (1 : Int32)) X43 hx (hb hby d6_77) rfl (pc' := 78) rfl ?_
                refine w_iadd X43 hx (hb hby d6_78) (pc' := 79) rfl ?_
                refine w_eqI (z := (Int32.ofNat ((((((pz + 1) + 1) + 1) + 1) + 1) + 1))) (own_oadd (((((pz + 1) + 1) + 1) + 1) + 1) 1) ?_
                refine w_putf (i := 0) (ty := .int) X43 hx hZ hown (wd18 hw) N21 P43 rfl F12 (di_C0 hw) 1 rfl (Or.inl (wd19 hw)) (wd2 hw) (by decide) rfl rfl (hb hby d6_79) (pc' := 82) rfl ?_
                intro T44 L22 c13 N22 X44 P44 F13
                replace P44 : HP n0 T44.heap [c13, q1, AC kk (List.map Value.int (((((pA.set pz (nar .byte (Int8.toInt32 (Int32.toInt8 (Int64.toInt32 ((Int64.ofNat pn) ||| (128 : Int64))))))).set (pz + 1) (nar .byte (Int8.toInt32 (Int32.toInt8 (Int64.toInt32 ((Int64.ofNat (pn / 128)) ||| (128 : Int64))))))).set ((pz + 1) + 1) (nar .byte (Int8.toInt32 (Int32.toInt8 (Int64.toInt32 ((Int64.ofNat (pn / 128 / 128)) ||| (128 : Int64))))))).set (((pz + 1) + 1) + 1) (nar .byte (Int8.toInt32 (Int32.toInt8 (Int64.toInt32 ((Int64.ofNat (pn / 128 / 128 / 128)) ||| (128 : Int64))))))).set ((((pz + 1) + 1) + 1) + 1) (nar .byte (Int8.toInt32 (Int32.toInt8 (Int64.toInt32 ((Int64.ofNat (pn / 128 / 128 / 128 / 128)) ||| (128 : Int64))))))))] := P44
                replace F13 : ObjF Z c13 "com/example/dirichlet/dirichlet/index/ByteSink" fl_C0 [.ref (n0 + 2), .int (Int32.ofNat ((((((pz + 1) + 1) + 1) + 1) + 1) + 1))] := F13
                refine w_lloadN X44 hx (hb hby d6_82) rfl (pc' := 83) rfl ?_
                refine w_l2i X44 hx (hb hby d6_83) (pc' := 84) rfl ?_
                refine w_i2b X44 hx (hb hby d6_84) (pc' := 85) rfl ?_
                refine w_bastoreEL (i := 2) (jn := (((((pz + 1) + 1) + 1) + 1) + 1)) X44 hx hZ N22 P44 rfl hkk (hb hby d6_85) rfl (own_oN (by omega)) (own_llt (own_sl (own_sl (own_sl (own_sl (own_sl hpA))))) (by omega)) (pc' := 86) rfl ?_
                intro T45 L23 N23 X45 P45
                replace P45 : HP n0 T45.heap [c13, q1, AC kk (List.map Value.int ((((((pA.set pz (nar .byte (Int8.toInt32 (Int32.toInt8 (Int64.toInt32 ((Int64.ofNat pn) ||| (128 : Int64))))))).set (pz + 1) (nar .byte (Int8.toInt32 (Int32.toInt8 (Int64.toInt32 ((Int64.ofNat (pn / 128)) ||| (128 : Int64))))))).set ((pz + 1) + 1) (nar .byte (Int8.toInt32 (Int32.toInt8 (Int64.toInt32 ((Int64.ofNat (pn / 128 / 128)) ||| (128 : Int64))))))).set (((pz + 1) + 1) + 1) (nar .byte (Int8.toInt32 (Int32.toInt8 (Int64.toInt32 ((Int64.ofNat (pn / 128 / 128 / 128)) ||| (128 : Int64))))))).set ((((pz + 1) + 1) + 1) + 1) (nar .byte (Int8.toInt32 (Int32.toInt8 (Int64.toInt32 ((Int64.ofNat (pn / 128 / 128 / 128 / 128)) ||| (128 : Int64))))))).set (((((pz + 1) + 1) + 1) + 1) + 1) (nar .byte (Int8.toInt32 (Int32.toInt8 (Int64.toInt32 (Int64.ofNat (pn / 128 / 128 / 128 / 128 / 128))))))))] := P45
                have eB : own_bytes 8 pn = [own_hi (pn), own_hi (pn / 128), own_hi (pn / 128 / 128), own_hi (pn / 128 / 128 / 128), own_hi (pn / 128 / 128 / 128 / 128), own_lo (pn / 128 / 128 / 128 / 128 / 128)] := by rw [own_bS, if_neg h1, own_bS, if_neg h2, own_bS, if_neg h3, own_bS, if_neg h4, own_bS, if_neg h5, own_bS, if_pos h6]
                exact w_ret_v X45 hx hret hlk (hb hby d6_86) (by decide) (by decide) ⟨rfl, N23, Or.inl ⟨hgr, own_puts pA pz (own_bytes 8 pn), (by rw [own_pl]; exact hpA), own_Bput _ _ _ hB (own_Bb _ _), own_W1 (by rw [hpl, hpA]; omega), c13, (by rw [← hpe, ← hpl, eB]; exact F13), (by rw [eB]; exact P45)⟩⟩
              · refine w_aloadN X41 hx (hb hby d6_36) rfl rfl (pc' := 37) rfl ?_
                refine w_getf (i := 0) (v := .ref (n0 + 2)) X41 hx hZ hown (wd11 hw) P41 rfl F12 0 rfl rfl (hb hby d6_37) (pc' := 40) rfl ?_
                intro T46 X46 P46
                refine w_aloadN X46 hx (hb hby d6_40) rfl rfl (pc' := 41) rfl ?_
                refine w_dup X46 hx (hb hby d6_41) rfl (pc' := 42) rfl ?_
                refine w_getf (i := 0) (v := .int (Int32.ofNat (((((pz + 1) + 1) + 1) + 1) + 1))) X46 hx hZ hown (wd18 hw) P46 rfl F12 1 rfl rfl (hb hby d6_42) (pc' := 45) rfl ?_
                intro T47 X47 P47
                refine w_dupX1 X47 hx (hb hby d6_45) rfl rfl (pc' := 46) rfl ?_
                refine w_iconst (v := (1 : Int32)) X47 hx (hb hby d6_46) rfl (pc' := 47) rfl ?_
                refine w_iadd X47 hx (hb hby d6_47) (pc' := 48) rfl ?_
                refine w_eqI (z := (Int32.ofNat ((((((pz + 1) + 1) + 1) + 1) + 1) + 1))) (own_oadd (((((pz + 1) + 1) + 1) + 1) + 1) 1) ?_
                refine w_putf (i := 0) (ty := .int) X47 hx hZ hown (wd18 hw) N21 P47 rfl F12 (di_C0 hw) 1 rfl (Or.inl (wd19 hw)) (wd2 hw) (by decide) rfl rfl (hb hby d6_48) (pc' := 51) rfl ?_
                intro T48 L24 c14 N24 X48 P48 F14
                replace P48 : HP n0 T48.heap [c14, q1, AC kk (List.map Value.int (((((pA.set pz (nar .byte (Int8.toInt32 (Int32.toInt8 (Int64.toInt32 ((Int64.ofNat pn) ||| (128 : Int64))))))).set (pz + 1) (nar .byte (Int8.toInt32 (Int32.toInt8 (Int64.toInt32 ((Int64.ofNat (pn / 128)) ||| (128 : Int64))))))).set ((pz + 1) + 1) (nar .byte (Int8.toInt32 (Int32.toInt8 (Int64.toInt32 ((Int64.ofNat (pn / 128 / 128)) ||| (128 : Int64))))))).set (((pz + 1) + 1) + 1) (nar .byte (Int8.toInt32 (Int32.toInt8 (Int64.toInt32 ((Int64.ofNat (pn / 128 / 128 / 128)) ||| (128 : Int64))))))).set ((((pz + 1) + 1) + 1) + 1) (nar .byte (Int8.toInt32 (Int32.toInt8 (Int64.toInt32 ((Int64.ofNat (pn / 128 / 128 / 128 / 128)) ||| (128 : Int64))))))))] := P48
                replace F14 : ObjF Z c14 "com/example/dirichlet/dirichlet/index/ByteSink" fl_C0 [.ref (n0 + 2), .int (Int32.ofNat ((((((pz + 1) + 1) + 1) + 1) + 1) + 1))] := F14
                refine w_lloadN X48 hx (hb hby d6_51) rfl (pc' := 52) rfl ?_
                refine w_ldc2 X48 hx (hb hby d6_52) hown (mvT hZ (wd48 hw)) (pc' := 55) rfl ?_
                refine w_lor X48 hx (hb hby d6_55) (pc' := 56) rfl ?_
                refine w_l2i X48 hx (hb hby d6_56) (pc' := 57) rfl ?_
                refine w_i2b X48 hx (hb hby d6_57) (pc' := 58) rfl ?_
                refine w_bastoreEL (i := 2) (jn := (((((pz + 1) + 1) + 1) + 1) + 1)) X48 hx hZ N24 P48 rfl hkk (hb hby d6_58) rfl (own_oN (by omega)) (own_llt (own_sl (own_sl (own_sl (own_sl (own_sl hpA))))) (by omega)) (pc' := 59) rfl ?_
                intro T49 L25 N25 X49 P49
                replace P49 : HP n0 T49.heap [c14, q1, AC kk (List.map Value.int ((((((pA.set pz (nar .byte (Int8.toInt32 (Int32.toInt8 (Int64.toInt32 ((Int64.ofNat pn) ||| (128 : Int64))))))).set (pz + 1) (nar .byte (Int8.toInt32 (Int32.toInt8 (Int64.toInt32 ((Int64.ofNat (pn / 128)) ||| (128 : Int64))))))).set ((pz + 1) + 1) (nar .byte (Int8.toInt32 (Int32.toInt8 (Int64.toInt32 ((Int64.ofNat (pn / 128 / 128)) ||| (128 : Int64))))))).set (((pz + 1) + 1) + 1) (nar .byte (Int8.toInt32 (Int32.toInt8 (Int64.toInt32 ((Int64.ofNat (pn / 128 / 128 / 128)) ||| (128 : Int64))))))).set ((((pz + 1) + 1) + 1) + 1) (nar .byte (Int8.toInt32 (Int32.toInt8 (Int64.toInt32 ((Int64.ofNat (pn / 128 / 128 / 128 / 128)) ||| (128 : Int64))))))).set (((((pz + 1) + 1) + 1) + 1) + 1) (nar .byte (Int8.toInt32 (Int32.toInt8 (Int64.toInt32 ((Int64.ofNat (pn / 128 / 128 / 128 / 128 / 128)) ||| (128 : Int64))))))))] := P49
                refine w_lloadN X49 hx (hb hby d6_59) rfl (pc' := 60) rfl ?_
                refine w_bipush (v := (7 : Int32)) X49 hx (hb hby d6_60) rfl (pc' := 62) rfl ?_
                refine w_lushr X49 hx (hb hby d6_62) (pc' := 63) rfl ?_
                refine w_eqJ (z := (Int64.ofNat (pn / 128 / 128 / 128 / 128 / 128 / 128))) (own_jshr (by omega)) ?_
                refine w_lstoreN (l' := #[.val (.ref (n0 + 0)), .val (.long (Int64.ofNat pn)), .second, .val (.long (Int64.ofNat (pn / 128 / 128 / 128 / 128 / 128 / 128))), .second]) X49 hx (hb hby d6_63) rfl (pc' := 64) rfl ?_
                refine w_goto X49 hx (hb hby d6_64) (by decide) (pc' := 28) (by decide) ?_
                refine w_lloadN X49 hx (hb hby d6_28) rfl (pc' := 29) rfl ?_
                refine w_ldc2 X49 hx (hb hby d6_29) hown (mvT hZ (wd48 hw)) (pc' := 32) rfl ?_
                refine w_lcmp_lt X49 hx (hb hby d6_32) rfl (hb hby d6_33) (by decide) (pcY := 67) (by decide) (pc' := 36) rfl (fun h7 => ?_) (fun h7 => ?_)
                · refine w_aloadN X49 hx (hb hby d6_67) rfl rfl (pc' := 68) rfl ?_
                  refine w_getf (i := 0) (v := .ref (n0 + 2)) X49 hx hZ hown (wd11 hw) P49 rfl F14 0 rfl rfl (hb hby d6_68) (pc' := 71) rfl ?_
                  intro T50 X50 P50
                  refine w_aloadN X50 hx (hb hby d6_71) rfl rfl (pc' := 72) rfl ?_
                  refine w_dup X50 hx (hb hby d6_72) rfl (pc' := 73) rfl ?_
                  refine w_getf (i := 0) (v := .int (Int32.ofNat ((((((pz + 1) + 1) + 1) + 1) + 1) + 1))) X50 hx hZ hown (wd18 hw) P50 rfl F14 1 rfl rfl (hb hby d6_73) (pc' := 76) rfl ?_
                  intro T51 X51 P51
                  refine w_dupX1 X51 hx (hb hby d6_76) rfl rfl (pc' := 77) rfl ?_
                  refine w_iconst (v := (1 : Int32)) X51 hx (hb hby d6_77) rfl (pc' := 78) rfl ?_
                  refine w_iadd X51 hx (hb hby d6_78) (pc' := 79) rfl ?_
                  refine w_eqI (z := (Int32.ofNat (((((((pz + 1) + 1) + 1) + 1) + 1) + 1) + 1))) (own_oadd ((((((pz + 1) + 1) + 1) + 1) + 1) + 1) 1) ?_
                  refine w_putf (i := 0) (ty := .int) X51 hx hZ hown (wd18 hw) N25 P51 rfl F14 (di_C0 hw) 1 rfl (Or.inl (wd19 hw)) (wd2 hw) (by decide) rfl rfl (hb hby d6_79) (pc' := 82) rfl ?_
                  intro T52 L26 c15 N26 X52 P52 F15
                  replace P52 : HP n0 T52.heap [c15, q1, AC kk (List.map Value.int ((((((pA.set pz (nar .byte (Int8.toInt32 (Int32.toInt8 (Int64.toInt32 ((Int64.ofNat pn) ||| (128 : Int64))))))).set (pz + 1) (nar .byte (Int8.toInt32 (Int32.toInt8 (Int64.toInt32 ((Int64.ofNat (pn / 128)) ||| (128 : Int64))))))).set ((pz + 1) + 1) (nar .byte (Int8.toInt32 (Int32.toInt8 (Int64.toInt32 ((Int64.ofNat (pn / 128 / 128)) ||| (128 : Int64))))))).set (((pz + 1) + 1) + 1) (nar .byte (Int8.toInt32 (Int32.toInt8 (Int64.toInt32 ((Int64.ofNat (pn / 128 / 128 / 128)) ||| (128 : Int64))))))).set ((((pz + 1) + 1) + 1) + 1) (nar .byte (Int8.toInt32 (Int32.toInt8 (Int64.toInt32 ((Int64.ofNat (pn / 128 / 128 / 128 / 128)) ||| (128 : Int64))))))).set (((((pz + 1) + 1) + 1) + 1) + 1) (nar .byte (Int8.toInt32 (Int32.toInt8 (Int64.toInt32 ((Int64.ofNat (pn / 128 / 128 / 128 / 128 / 128)) ||| (128 : Int64))))))))] := P52
                  replace F15 : ObjF Z c15 "com/example/dirichlet/dirichlet/index/ByteSink" fl_C0 [.ref (n0 + 2), .int (Int32.ofNat (((((((pz + 1) + 1) + 1) + 1) + 1) + 1) + 1))] := F15
                  refine w_lloadN X52 hx (hb hby d6_82) rfl (pc' := 83) rfl ?_
                  refine w_l2i X52 hx (hb hby d6_83) (pc' := 84) rfl ?_
                  refine w_i2b X52 hx (hb hby d6_84) (pc' := 85) rfl ?_
                  refine w_bastoreEL (i := 2) (jn := ((((((pz + 1) + 1) + 1) + 1) + 1) + 1)) X52 hx hZ N26 P52 rfl hkk (hb hby d6_85) rfl (own_oN (by omega)) (own_llt (own_sl (own_sl (own_sl (own_sl (own_sl (own_sl hpA)))))) (by omega)) (pc' := 86) rfl ?_
                  intro T53 L27 N27 X53 P53
                  replace P53 : HP n0 T53.heap [c15, q1, AC kk (List.map Value.int (((((((pA.set pz (nar .byte (Int8.toInt32 (Int32.toInt8 (Int64.toInt32 ((Int64.ofNat pn) ||| (128 : Int64))))))).set (pz + 1) (nar .byte (Int8.toInt32 (Int32.toInt8 (Int64.toInt32 ((Int64.ofNat (pn / 128)) ||| (128 : Int64))))))).set ((pz + 1) + 1) (nar .byte (Int8.toInt32 (Int32.toInt8 (Int64.toInt32 ((Int64.ofNat (pn / 128 / 128)) ||| (128 : Int64))))))).set (((pz + 1) + 1) + 1) (nar .byte (Int8.toInt32 (Int32.toInt8 (Int64.toInt32 ((Int64.ofNat (pn / 128 / 128 / 128)) ||| (128 : Int64))))))).set ((((pz + 1) + 1) + 1) + 1) (nar .byte (Int8.toInt32 (Int32.toInt8 (Int64.toInt32 ((Int64.ofNat (pn / 128 / 128 / 128 / 128)) ||| (128 : Int64))))))).set (((((pz + 1) + 1) + 1) + 1) + 1) (nar .byte (Int8.toInt32 (Int32.toInt8 (Int64.toInt32 ((Int64.ofNat (pn / 128 / 128 / 128 / 128 / 128)) ||| (128 : Int64))))))).set ((((((pz + 1) + 1) + 1) + 1) + 1) + 1) (nar .byte (Int8.toInt32 (Int32.toInt8 (Int64.toInt32 (Int64.ofNat (pn / 128 / 128 / 128 / 128 / 128 / 128))))))))] := P53
                  have eB : own_bytes 8 pn = [own_hi (pn), own_hi (pn / 128), own_hi (pn / 128 / 128), own_hi (pn / 128 / 128 / 128), own_hi (pn / 128 / 128 / 128 / 128), own_hi (pn / 128 / 128 / 128 / 128 / 128), own_lo (pn / 128 / 128 / 128 / 128 / 128 / 128)] := by rw [own_bS, if_neg h1, own_bS, if_neg h2, own_bS, if_neg h3, own_bS, if_neg h4, own_bS, if_neg h5, own_bS, if_neg h6, own_bS, if_pos h7]
                  exact w_ret_v X53 hx hret hlk (hb hby d6_86) (by decide) (by decide) ⟨rfl, N27, Or.inl ⟨hgr, own_puts pA pz (own_bytes 8 pn), (by rw [own_pl]; exact hpA), own_Bput _ _ _ hB (own_Bb _ _), own_W1 (by rw [hpl, hpA]; omega), c15, (by rw [← hpe, ← hpl, eB]; exact F15), (by rw [eB]; exact P53)⟩⟩
                · refine w_aloadN X49 hx (hb hby d6_36) rfl rfl (pc' := 37) rfl ?_
                  refine w_getf (i := 0) (v := .ref (n0 + 2)) X49 hx hZ hown (wd11 hw) P49 rfl F14 0 rfl rfl (hb hby d6_37) (pc' := 40) rfl ?_
                  intro T54 X54 P54
                  refine w_aloadN X54 hx (hb hby d6_40) rfl rfl (pc' := 41) rfl ?_
                  refine w_dup X54 hx (hb hby d6_41) rfl (pc' := 42) rfl ?_
                  refine w_getf (i := 0) (v := .int (Int32.ofNat ((((((pz + 1) + 1) + 1) + 1) + 1) + 1))) X54 hx hZ hown (wd18 hw) P54 rfl F14 1 rfl rfl (hb hby d6_42) (pc' := 45) rfl ?_
                  intro T55 X55 P55
                  refine w_dupX1 X55 hx (hb hby d6_45) rfl rfl (pc' := 46) rfl ?_
                  refine w_iconst (v := (1 : Int32)) X55 hx (hb hby d6_46) rfl (pc' := 47) rfl ?_
                  refine w_iadd X55 hx (hb hby d6_47) (pc' := 48) rfl ?_
                  refine w_eqI (z := (Int32.ofNat (((((((pz + 1) + 1) + 1) + 1) + 1) + 1) + 1))) (own_oadd ((((((pz + 1) + 1) + 1) + 1) + 1) + 1) 1) ?_
                  refine w_putf (i := 0) (ty := .int) X55 hx hZ hown (wd18 hw) N25 P55 rfl F14 (di_C0 hw) 1 rfl (Or.inl (wd19 hw)) (wd2 hw) (by decide) rfl rfl (hb hby d6_48) (pc' := 51) rfl ?_
                  intro T56 L28 c16 N28 X56 P56 F16
                  replace P56 : HP n0 T56.heap [c16, q1, AC kk (List.map Value.int ((((((pA.set pz (nar .byte (Int8.toInt32 (Int32.toInt8 (Int64.toInt32 ((Int64.ofNat pn) ||| (128 : Int64))))))).set (pz + 1) (nar .byte (Int8.toInt32 (Int32.toInt8 (Int64.toInt32 ((Int64.ofNat (pn / 128)) ||| (128 : Int64))))))).set ((pz + 1) + 1) (nar .byte (Int8.toInt32 (Int32.toInt8 (Int64.toInt32 ((Int64.ofNat (pn / 128 / 128)) ||| (128 : Int64))))))).set (((pz + 1) + 1) + 1) (nar .byte (Int8.toInt32 (Int32.toInt8 (Int64.toInt32 ((Int64.ofNat (pn / 128 / 128 / 128)) ||| (128 : Int64))))))).set ((((pz + 1) + 1) + 1) + 1) (nar .byte (Int8.toInt32 (Int32.toInt8 (Int64.toInt32 ((Int64.ofNat (pn / 128 / 128 / 128 / 128)) ||| (128 : Int64))))))).set (((((pz + 1) + 1) + 1) + 1) + 1) (nar .byte (Int8.toInt32 (Int32.toInt8 (Int64.toInt32 ((Int64.ofNat (pn / 128 / 128 / 128 / 128 / 128)) ||| (128 : Int64))))))))] := P56
                  replace F16 : ObjF Z c16 "com/example/dirichlet/dirichlet/index/ByteSink" fl_C0 [.ref (n0 + 2), .int (Int32.ofNat (((((((pz + 1) + 1) + 1) + 1) + 1) + 1) + 1))] := F16
                  refine w_lloadN X56 hx (hb hby d6_51) rfl (pc' := 52) rfl ?_
                  refine w_ldc2 X56 hx (hb hby d6_52) hown (mvT hZ (wd48 hw)) (pc' := 55) rfl ?_
                  refine w_lor X56 hx (hb hby d6_55) (pc' := 56) rfl ?_
                  refine w_l2i X56 hx (hb hby d6_56) (pc' := 57) rfl ?_
                  refine w_i2b X56 hx (hb hby d6_57) (pc' := 58) rfl ?_
                  refine w_bastoreEL (i := 2) (jn := ((((((pz + 1) + 1) + 1) + 1) + 1) + 1)) X56 hx hZ N28 P56 rfl hkk (hb hby d6_58) rfl (own_oN (by omega)) (own_llt (own_sl (own_sl (own_sl (own_sl (own_sl (own_sl hpA)))))) (by omega)) (pc' := 59) rfl ?_
                  intro T57 L29 N29 X57 P57
                  replace P57 : HP n0 T57.heap [c16, q1, AC kk (List.map Value.int (((((((pA.set pz (nar .byte (Int8.toInt32 (Int32.toInt8 (Int64.toInt32 ((Int64.ofNat pn) ||| (128 : Int64))))))).set (pz + 1) (nar .byte (Int8.toInt32 (Int32.toInt8 (Int64.toInt32 ((Int64.ofNat (pn / 128)) ||| (128 : Int64))))))).set ((pz + 1) + 1) (nar .byte (Int8.toInt32 (Int32.toInt8 (Int64.toInt32 ((Int64.ofNat (pn / 128 / 128)) ||| (128 : Int64))))))).set (((pz + 1) + 1) + 1) (nar .byte (Int8.toInt32 (Int32.toInt8 (Int64.toInt32 ((Int64.ofNat (pn / 128 / 128 / 128)) ||| (128 : Int64))))))).set ((((pz + 1) + 1) + 1) + 1) (nar .byte (Int8.toInt32 (Int32.toInt8 (Int64.toInt32 ((Int64.ofNat (pn / 128 / 128 / 128 / 128)) ||| (128 : Int64))))))).set (((((pz + 1) + 1) + 1) + 1) + 1) (nar .byte (Int8.toInt32 (Int32.toInt8 (Int64.toInt32 ((Int64.ofNat (pn / 128 / 128 / 128 / 128 / 128)) ||| (128 : Int64))))))).set ((((((pz + 1) + 1) + 1) + 1) + 1) + 1) (nar .byte (Int8.toInt32 (Int32.toInt8 (Int64.toInt32 ((Int64.ofNat (pn / 128 / 128 / 128 / 128 / 128 / 128)) ||| (128 : Int64))))))))] := P57
                  refine w_lloadN X57 hx (hb hby d6_59) rfl (pc' := 60) rfl ?_
                  refine w_bipush (v := (7 : Int32)) X57 hx (hb hby d6_60) rfl (pc' := 62) rfl ?_
                  refine w_lushr X57 hx (hb hby d6_62) (pc' := 63) rfl ?_
                  refine w_eqJ (z := (Int64.ofNat (pn / 128 / 128 / 128 / 128 / 128 / 128 / 128))) (own_jshr (by omega)) ?_
                  refine w_lstoreN (l' := #[.val (.ref (n0 + 0)), .val (.long (Int64.ofNat pn)), .second, .val (.long (Int64.ofNat (pn / 128 / 128 / 128 / 128 / 128 / 128 / 128))), .second]) X57 hx (hb hby d6_63) rfl (pc' := 64) rfl ?_
                  refine w_goto X57 hx (hb hby d6_64) (by decide) (pc' := 28) (by decide) ?_
                  refine w_lloadN X57 hx (hb hby d6_28) rfl (pc' := 29) rfl ?_
                  refine w_ldc2 X57 hx (hb hby d6_29) hown (mvT hZ (wd48 hw)) (pc' := 32) rfl ?_
                  refine w_lcmp_lt X57 hx (hb hby d6_32) rfl (hb hby d6_33) (by decide) (pcY := 67) (by decide) (pc' := 36) rfl (fun h8 => ?_) (fun h8 => ?_)
                  · refine w_aloadN X57 hx (hb hby d6_67) rfl rfl (pc' := 68) rfl ?_
                    refine w_getf (i := 0) (v := .ref (n0 + 2)) X57 hx hZ hown (wd11 hw) P57 rfl F16 0 rfl rfl (hb hby d6_68) (pc' := 71) rfl ?_
                    intro T58 X58 P58
                    refine w_aloadN X58 hx (hb hby d6_71) rfl rfl (pc' := 72) rfl ?_
                    refine w_dup X58 hx (hb hby d6_72) rfl (pc' := 73) rfl ?_
                    refine w_getf (i := 0) (v := .int (Int32.ofNat (((((((pz + 1) + 1) + 1) + 1) + 1) + 1) + 1))) X58 hx hZ hown (wd18 hw) P58 rfl F16 1 rfl rfl (hb hby d6_73) (pc' := 76) rfl ?_
                    intro T59 X59 P59
                    refine w_dupX1 X59 hx (hb hby d6_76) rfl rfl (pc' := 77) rfl ?_
                    refine w_iconst (v := (1 : Int32)) X59 hx (hb hby d6_77) rfl (pc' := 78) rfl ?_
                    refine w_iadd X59 hx (hb hby d6_78) (pc' := 79) rfl ?_
                    refine w_eqI (z := (Int32.ofNat ((((((((pz + 1) + 1) + 1) + 1) + 1) + 1) + 1) + 1))) (own_oadd (((((((pz + 1) + 1) + 1) + 1) + 1) + 1) + 1) 1) ?_
                    refine w_putf (i := 0) (ty := .int) X59 hx hZ hown (wd18 hw) N29 P59 rfl F16 (di_C0 hw) 1 rfl (Or.inl (wd19 hw)) (wd2 hw) (by decide) rfl rfl (hb hby d6_79) (pc' := 82) rfl ?_
                    intro T60 L30 c17 N30 X60 P60 F17
                    replace P60 : HP n0 T60.heap [c17, q1, AC kk (List.map Value.int (((((((pA.set pz (nar .byte (Int8.toInt32 (Int32.toInt8 (Int64.toInt32 ((Int64.ofNat pn) ||| (128 : Int64))))))).set (pz + 1) (nar .byte (Int8.toInt32 (Int32.toInt8 (Int64.toInt32 ((Int64.ofNat (pn / 128)) ||| (128 : Int64))))))).set ((pz + 1) + 1) (nar .byte (Int8.toInt32 (Int32.toInt8 (Int64.toInt32 ((Int64.ofNat (pn / 128 / 128)) ||| (128 : Int64))))))).set (((pz + 1) + 1) + 1) (nar .byte (Int8.toInt32 (Int32.toInt8 (Int64.toInt32 ((Int64.ofNat (pn / 128 / 128 / 128)) ||| (128 : Int64))))))).set ((((pz + 1) + 1) + 1) + 1) (nar .byte (Int8.toInt32 (Int32.toInt8 (Int64.toInt32 ((Int64.ofNat (pn / 128 / 128 / 128 / 128)) ||| (128 : Int64))))))).set (((((pz + 1) + 1) + 1) + 1) + 1) (nar .byte (Int8.toInt32 (Int32.toInt8 (Int64.toInt32 ((Int64.ofNat (pn / 128 / 128 / 128 / 128 / 128)) ||| (128 : Int64))))))).set ((((((pz + 1) + 1) + 1) + 1) + 1) + 1) (nar .byte (Int8.toInt32 (Int32.toInt8 (Int64.toInt32 ((Int64.ofNat (pn / 128 / 128 / 128 / 128 / 128 / 128)) ||| (128 : Int64))))))))] := P60
                    replace F17 : ObjF Z c17 "com/example/dirichlet/dirichlet/index/ByteSink" fl_C0 [.ref (n0 + 2), .int (Int32.ofNat ((((((((pz + 1) + 1) + 1) + 1) + 1) + 1) + 1) + 1))] := F17
                    refine w_lloadN X60 hx (hb hby d6_82) rfl (pc' := 83) rfl ?_
                    refine w_l2i X60 hx (hb hby d6_83) (pc' := 84) rfl ?_
                    refine w_i2b X60 hx (hb hby d6_84) (pc' := 85) rfl ?_
                    refine w_bastoreEL (i := 2) (jn := (((((((pz + 1) + 1) + 1) + 1) + 1) + 1) + 1)) X60 hx hZ N30 P60 rfl hkk (hb hby d6_85) rfl (own_oN (by omega)) (own_llt (own_sl (own_sl (own_sl (own_sl (own_sl (own_sl (own_sl hpA))))))) (by omega)) (pc' := 86) rfl ?_
                    intro T61 L31 N31 X61 P61
                    replace P61 : HP n0 T61.heap [c17, q1, AC kk (List.map Value.int ((((((((pA.set pz (nar .byte (Int8.toInt32 (Int32.toInt8 (Int64.toInt32 ((Int64.ofNat pn) ||| (128 : Int64))))))).set (pz + 1) (nar .byte (Int8.toInt32 (Int32.toInt8 (Int64.toInt32 ((Int64.ofNat (pn / 128)) ||| (128 : Int64))))))).set ((pz + 1) + 1) (nar .byte (Int8.toInt32 (Int32.toInt8 (Int64.toInt32 ((Int64.ofNat (pn / 128 / 128)) ||| (128 : Int64))))))).set (((pz + 1) + 1) + 1) (nar .byte (Int8.toInt32 (Int32.toInt8 (Int64.toInt32 ((Int64.ofNat (pn / 128 / 128 / 128)) ||| (128 : Int64))))))).set ((((pz + 1) + 1) + 1) + 1) (nar .byte (Int8.toInt32 (Int32.toInt8 (Int64.toInt32 ((Int64.ofNat (pn / 128 / 128 / 128 / 128)) ||| (128 : Int64))))))).set (((((pz + 1) + 1) + 1) + 1) + 1) (nar .byte (Int8.toInt32 (Int32.toInt8 (Int64.toInt32 ((Int64.ofNat (pn / 128 / 128 / 128 / 128 / 128)) ||| (128 : Int64))))))).set ((((((pz + 1) + 1) + 1) + 1) + 1) + 1) (nar .byte (Int8.toInt32 (Int32.toInt8 (Int64.toInt32 ((Int64.ofNat (pn / 128 / 128 / 128 / 128 / 128 / 128)) ||| (128 : Int64))))))).set (((((((pz + 1) + 1) + 1) + 1) + 1) + 1) + 1) (nar .byte (Int8.toInt32 (Int32.toInt8 (Int64.toInt32 (Int64.ofNat (pn / 128 / 128 / 128 / 128 / 128 / 128 / 128))))))))] := P61
                    have eB : own_bytes 8 pn = [own_hi (pn), own_hi (pn / 128), own_hi (pn / 128 / 128), own_hi (pn / 128 / 128 / 128), own_hi (pn / 128 / 128 / 128 / 128), own_hi (pn / 128 / 128 / 128 / 128 / 128), own_hi (pn / 128 / 128 / 128 / 128 / 128 / 128), own_lo (pn / 128 / 128 / 128 / 128 / 128 / 128 / 128)] := by rw [own_bS, if_neg h1, own_bS, if_neg h2, own_bS, if_neg h3, own_bS, if_neg h4, own_bS, if_neg h5, own_bS, if_neg h6, own_bS, if_neg h7, own_bS, if_pos h8]
                    exact w_ret_v X61 hx hret hlk (hb hby d6_86) (by decide) (by decide) ⟨rfl, N31, Or.inl ⟨hgr, own_puts pA pz (own_bytes 8 pn), (by rw [own_pl]; exact hpA), own_Bput _ _ _ hB (own_Bb _ _), own_W1 (by rw [hpl, hpA]; omega), c17, (by rw [← hpe, ← hpl, eB]; exact F17), (by rw [eB]; exact P61)⟩⟩
                  · refine w_aloadN X57 hx (hb hby d6_36) rfl rfl (pc' := 37) rfl ?_
                    refine w_getf (i := 0) (v := .ref (n0 + 2)) X57 hx hZ hown (wd11 hw) P57 rfl F16 0 rfl rfl (hb hby d6_37) (pc' := 40) rfl ?_
                    intro T62 X62 P62
                    refine w_aloadN X62 hx (hb hby d6_40) rfl rfl (pc' := 41) rfl ?_
                    refine w_dup X62 hx (hb hby d6_41) rfl (pc' := 42) rfl ?_
                    refine w_getf (i := 0) (v := .int (Int32.ofNat (((((((pz + 1) + 1) + 1) + 1) + 1) + 1) + 1))) X62 hx hZ hown (wd18 hw) P62 rfl F16 1 rfl rfl (hb hby d6_42) (pc' := 45) rfl ?_
                    intro T63 X63 P63
                    refine w_dupX1 X63 hx (hb hby d6_45) rfl rfl (pc' := 46) rfl ?_
                    refine w_iconst (v := (1 : Int32)) X63 hx (hb hby d6_46) rfl (pc' := 47) rfl ?_
                    refine w_iadd X63 hx (hb hby d6_47) (pc' := 48) rfl ?_
                    refine w_eqI (z := (Int32.ofNat ((((((((pz + 1) + 1) + 1) + 1) + 1) + 1) + 1) + 1))) (own_oadd (((((((pz + 1) + 1) + 1) + 1) + 1) + 1) + 1) 1) ?_
                    refine w_putf (i := 0) (ty := .int) X63 hx hZ hown (wd18 hw) N29 P63 rfl F16 (di_C0 hw) 1 rfl (Or.inl (wd19 hw)) (wd2 hw) (by decide) rfl rfl (hb hby d6_48) (pc' := 51) rfl ?_
                    intro T64 L32 c18 N32 X64 P64 F18
                    replace P64 : HP n0 T64.heap [c18, q1, AC kk (List.map Value.int (((((((pA.set pz (nar .byte (Int8.toInt32 (Int32.toInt8 (Int64.toInt32 ((Int64.ofNat pn) ||| (128 : Int64))))))).set (pz + 1) (nar .byte (Int8.toInt32 (Int32.toInt8 (Int64.toInt32 ((Int64.ofNat (pn / 128)) ||| (128 : Int64))))))).set ((pz + 1) + 1) (nar .byte (Int8.toInt32 (Int32.toInt8 (Int64.toInt32 ((Int64.ofNat (pn / 128 / 128)) ||| (128 : Int64))))))).set (((pz + 1) + 1) + 1) (nar .byte (Int8.toInt32 (Int32.toInt8 (Int64.toInt32 ((Int64.ofNat (pn / 128 / 128 / 128)) ||| (128 : Int64))))))).set ((((pz + 1) + 1) + 1) + 1) (nar .byte (Int8.toInt32 (Int32.toInt8 (Int64.toInt32 ((Int64.ofNat (pn / 128 / 128 / 128 / 128)) ||| (128 : Int64))))))).set (((((pz + 1) + 1) + 1) + 1) + 1) (nar .byte (Int8.toInt32 (Int32.toInt8 (Int64.toInt32 ((Int64.ofNat (pn / 128 / 128 / 128 / 128 / 128)) ||| (128 : Int64))))))).set ((((((pz + 1) + 1) + 1) + 1) + 1) + 1) (nar .byte (Int8.toInt32 (Int32.toInt8 (Int64.toInt32 ((Int64.ofNat (pn / 128 / 128 / 128 / 128 / 128 / 128)) ||| (128 : Int64))))))))] := P64
                    replace F18 : ObjF Z c18 "com/example/dirichlet/dirichlet/index/ByteSink" fl_C0 [.ref (n0 + 2), .int (Int32.ofNat ((((((((pz + 1) + 1) + 1) + 1) + 1) + 1) + 1) + 1))] := F18
                    refine w_lloadN X64 hx (hb hby d6_51) rfl (pc' := 52) rfl ?_
                    refine w_ldc2 X64 hx (hb hby d6_52) hown (mvT hZ (wd48 hw)) (pc' := 55) rfl ?_
                    refine w_lor X64 hx (hb hby d6_55) (pc' := 56) rfl ?_
                    refine w_l2i X64 hx (hb hby d6_56) (pc' := 57) rfl ?_
                    refine w_i2b X64 hx (hb hby d6_57) (pc' := 58) rfl ?_
                    refine w_bastoreEL (i := 2) (jn := (((((((pz + 1) + 1) + 1) + 1) + 1) + 1) + 1)) X64 hx hZ N32 P64 rfl hkk (hb hby d6_58) rfl (own_oN (by omega)) (own_llt (own_sl (own_sl (own_sl (own_sl (own_sl (own_sl (own_sl hpA))))))) (by omega)) (pc' := 59) rfl ?_
                    intro T65 L33 N33 X65 P65
                    replace P65 : HP n0 T65.heap [c18, q1, AC kk (List.map Value.int ((((((((pA.set pz (nar .byte (Int8.toInt32 (Int32.toInt8 (Int64.toInt32 ((Int64.ofNat pn) ||| (128 : Int64))))))).set (pz + 1) (nar .byte (Int8.toInt32 (Int32.toInt8 (Int64.toInt32 ((Int64.ofNat (pn / 128)) ||| (128 : Int64))))))).set ((pz + 1) + 1) (nar .byte (Int8.toInt32 (Int32.toInt8 (Int64.toInt32 ((Int64.ofNat (pn / 128 / 128)) ||| (128 : Int64))))))).set (((pz + 1) + 1) + 1) (nar .byte (Int8.toInt32 (Int32.toInt8 (Int64.toInt32 ((Int64.ofNat (pn / 128 / 128 / 128)) ||| (128 : Int64))))))).set ((((pz + 1) + 1) + 1) + 1) (nar .byte (Int8.toInt32 (Int32.toInt8 (Int64.toInt32 ((Int64.ofNat (pn / 128 / 128 / 128 / 128)) ||| (128 : Int64))))))).set (((((pz + 1) + 1) + 1) + 1) + 1) (nar .byte (Int8.toInt32 (Int32.toInt8 (Int64.toInt32 ((Int64.ofNat (pn / 128 / 128 / 128 / 128 / 128)) ||| (128 : Int64))))))).set ((((((pz + 1) + 1) + 1) + 1) + 1) + 1) (nar .byte (Int8.toInt32 (Int32.toInt8 (Int64.toInt32 ((Int64.ofNat (pn / 128 / 128 / 128 / 128 / 128 / 128)) ||| (128 : Int64))))))).set (((((((pz + 1) + 1) + 1) + 1) + 1) + 1) + 1) (nar .byte (Int8.toInt32 (Int32.toInt8 (Int64.toInt32 ((Int64.ofNat (pn / 128 / 128 / 128 / 128 / 128 / 128 / 128)) ||| (128 : Int64))))))))] := P65
                    refine w_lloadN X65 hx (hb hby d6_59) rfl (pc' := 60) rfl ?_
                    refine w_bipush (v := (7 : Int32)) X65 hx (hb hby d6_60) rfl (pc' := 62) rfl ?_
                    refine w_lushr X65 hx (hb hby d6_62) (pc' := 63) rfl ?_
                    refine w_eqJ (z := (Int64.ofNat (pn / 128 / 128 / 128 / 128 / 128 / 128 / 128 / 128))) (own_jshr (by omega)) ?_
                    refine w_lstoreN (l' := #[.val (.ref (n0 + 0)), .val (.long (Int64.ofNat pn)), .second, .val (.long (Int64.ofNat (pn / 128 / 128 / 128 / 128 / 128 / 128 / 128 / 128))), .second]) X65 hx (hb hby d6_63) rfl (pc' := 64) rfl ?_
                    refine w_goto X65 hx (hb hby d6_64) (by decide) (pc' := 28) (by decide) ?_
                    refine w_lloadN X65 hx (hb hby d6_28) rfl (pc' := 29) rfl ?_
                    refine w_ldc2 X65 hx (hb hby d6_29) hown (mvT hZ (wd48 hw)) (pc' := 32) rfl ?_
                    refine w_lcmp_lt X65 hx (hb hby d6_32) rfl (hb hby d6_33) (by decide) (pcY := 67) (by decide) (pc' := 36) rfl (fun h9 => ?_) (fun h9 => absurd ((own_jlt (a := pn / 128 / 128 / 128 / 128 / 128 / 128 / 128 / 128) (b := 128) (c := 128) rfl (by omega) (by decide)).mpr (by omega)) h9)
                    refine w_aloadN X65 hx (hb hby d6_67) rfl rfl (pc' := 68) rfl ?_
                    refine w_getf (i := 0) (v := .ref (n0 + 2)) X65 hx hZ hown (wd11 hw) P65 rfl F18 0 rfl rfl (hb hby d6_68) (pc' := 71) rfl ?_
                    intro T66 X66 P66
                    refine w_aloadN X66 hx (hb hby d6_71) rfl rfl (pc' := 72) rfl ?_
                    refine w_dup X66 hx (hb hby d6_72) rfl (pc' := 73) rfl ?_
                    refine w_getf (i := 0) (v := .int (Int32.ofNat ((((((((pz + 1) + 1) + 1) + 1) + 1) + 1) + 1) + 1))) X66 hx hZ hown (wd18 hw) P66 rfl F18 1 rfl rfl (hb hby d6_73) (pc' := 76) rfl ?_
                    intro T67 X67 P67
                    refine w_dupX1 X67 hx (hb hby d6_76) rfl rfl (pc' := 77) rfl ?_
                    refine w_iconst (v := (1 : Int32)) X67 hx (hb hby d6_77) rfl (pc' := 78) rfl ?_
                    refine w_iadd X67 hx (hb hby d6_78) (pc' := 79) rfl ?_
                    refine w_eqI (z := (Int32.ofNat (((((((((pz + 1) + 1) + 1) + 1) + 1) + 1) + 1) + 1) + 1))) (own_oadd ((((((((pz + 1) + 1) + 1) + 1) + 1) + 1) + 1) + 1) 1) ?_
                    refine w_putf (i := 0) (ty := .int) X67 hx hZ hown (wd18 hw) N33 P67 rfl F18 (di_C0 hw) 1 rfl (Or.inl (wd19 hw)) (wd2 hw) (by decide) rfl rfl (hb hby d6_79) (pc' := 82) rfl ?_
                    intro T68 L34 c19 N34 X68 P68 F19
                    replace P68 : HP n0 T68.heap [c19, q1, AC kk (List.map Value.int ((((((((pA.set pz (nar .byte (Int8.toInt32 (Int32.toInt8 (Int64.toInt32 ((Int64.ofNat pn) ||| (128 : Int64))))))).set (pz + 1) (nar .byte (Int8.toInt32 (Int32.toInt8 (Int64.toInt32 ((Int64.ofNat (pn / 128)) ||| (128 : Int64))))))).set ((pz + 1) + 1) (nar .byte (Int8.toInt32 (Int32.toInt8 (Int64.toInt32 ((Int64.ofNat (pn / 128 / 128)) ||| (128 : Int64))))))).set (((pz + 1) + 1) + 1) (nar .byte (Int8.toInt32 (Int32.toInt8 (Int64.toInt32 ((Int64.ofNat (pn / 128 / 128 / 128)) ||| (128 : Int64))))))).set ((((pz + 1) + 1) + 1) + 1) (nar .byte (Int8.toInt32 (Int32.toInt8 (Int64.toInt32 ((Int64.ofNat (pn / 128 / 128 / 128 / 128)) ||| (128 : Int64))))))).set (((((pz + 1) + 1) + 1) + 1) + 1) (nar .byte (Int8.toInt32 (Int32.toInt8 (Int64.toInt32 ((Int64.ofNat (pn / 128 / 128 / 128 / 128 / 128)) ||| (128 : Int64))))))).set ((((((pz + 1) + 1) + 1) + 1) + 1) + 1) (nar .byte (Int8.toInt32 (Int32.toInt8 (Int64.toInt32 ((Int64.ofNat (pn / 128 / 128 / 128 / 128 / 128 / 128)) ||| (128 : Int64))))))).set (((((((pz + 1) + 1) + 1) + 1) + 1) + 1) + 1) (nar .byte (Int8.toInt32 (Int32.toInt8 (Int64.toInt32 ((Int64.ofNat (pn / 128 / 128 / 128 / 128 / 128 / 128 / 128)) ||| (128 : Int64))))))))] := P68
                    replace F19 : ObjF Z c19 "com/example/dirichlet/dirichlet/index/ByteSink" fl_C0 [.ref (n0 + 2), .int (Int32.ofNat (((((((((pz + 1) + 1) + 1) + 1) + 1) + 1) + 1) + 1) + 1))] := F19
                    refine w_lloadN X68 hx (hb hby d6_82) rfl (pc' := 83) rfl ?_
                    refine w_l2i X68 hx (hb hby d6_83) (pc' := 84) rfl ?_
                    refine w_i2b X68 hx (hb hby d6_84) (pc' := 85) rfl ?_
                    refine w_bastoreEL (i := 2) (jn := ((((((((pz + 1) + 1) + 1) + 1) + 1) + 1) + 1) + 1)) X68 hx hZ N34 P68 rfl hkk (hb hby d6_85) rfl (own_oN (by omega)) (own_llt (own_sl (own_sl (own_sl (own_sl (own_sl (own_sl (own_sl (own_sl hpA)))))))) (by omega)) (pc' := 86) rfl ?_
                    intro T69 L35 N35 X69 P69
                    replace P69 : HP n0 T69.heap [c19, q1, AC kk (List.map Value.int (((((((((pA.set pz (nar .byte (Int8.toInt32 (Int32.toInt8 (Int64.toInt32 ((Int64.ofNat pn) ||| (128 : Int64))))))).set (pz + 1) (nar .byte (Int8.toInt32 (Int32.toInt8 (Int64.toInt32 ((Int64.ofNat (pn / 128)) ||| (128 : Int64))))))).set ((pz + 1) + 1) (nar .byte (Int8.toInt32 (Int32.toInt8 (Int64.toInt32 ((Int64.ofNat (pn / 128 / 128)) ||| (128 : Int64))))))).set (((pz + 1) + 1) + 1) (nar .byte (Int8.toInt32 (Int32.toInt8 (Int64.toInt32 ((Int64.ofNat (pn / 128 / 128 / 128)) ||| (128 : Int64))))))).set ((((pz + 1) + 1) + 1) + 1) (nar .byte (Int8.toInt32 (Int32.toInt8 (Int64.toInt32 ((Int64.ofNat (pn / 128 / 128 / 128 / 128)) ||| (128 : Int64))))))).set (((((pz + 1) + 1) + 1) + 1) + 1) (nar .byte (Int8.toInt32 (Int32.toInt8 (Int64.toInt32 ((Int64.ofNat (pn / 128 / 128 / 128 / 128 / 128)) ||| (128 : Int64))))))).set ((((((pz + 1) + 1) + 1) + 1) + 1) + 1) (nar .byte (Int8.toInt32 (Int32.toInt8 (Int64.toInt32 ((Int64.ofNat (pn / 128 / 128 / 128 / 128 / 128 / 128)) ||| (128 : Int64))))))).set (((((((pz + 1) + 1) + 1) + 1) + 1) + 1) + 1) (nar .byte (Int8.toInt32 (Int32.toInt8 (Int64.toInt32 ((Int64.ofNat (pn / 128 / 128 / 128 / 128 / 128 / 128 / 128)) ||| (128 : Int64))))))).set ((((((((pz + 1) + 1) + 1) + 1) + 1) + 1) + 1) + 1) (nar .byte (Int8.toInt32 (Int32.toInt8 (Int64.toInt32 (Int64.ofNat (pn / 128 / 128 / 128 / 128 / 128 / 128 / 128 / 128))))))))] := P69
                    have eB : own_bytes 8 pn = [own_hi (pn), own_hi (pn / 128), own_hi (pn / 128 / 128), own_hi (pn / 128 / 128 / 128), own_hi (pn / 128 / 128 / 128 / 128), own_hi (pn / 128 / 128 / 128 / 128 / 128), own_hi (pn / 128 / 128 / 128 / 128 / 128 / 128), own_hi (pn / 128 / 128 / 128 / 128 / 128 / 128 / 128), own_lo (pn / 128 / 128 / 128 / 128 / 128 / 128 / 128 / 128)] := by rw [own_bS, if_neg h1, own_bS, if_neg h2, own_bS, if_neg h3, own_bS, if_neg h4, own_bS, if_neg h5, own_bS, if_neg h6, own_bS, if_neg h7, own_bS, if_neg h8, own_b0]
                    exact w_ret_v X69 hx hret hlk (hb hby d6_86) (by decide) (by decide) ⟨rfl, N35, Or.inl ⟨hgr, own_puts pA pz (own_bytes 8 pn), (by rw [own_pl]; exact hpA), own_Bput _ _ _ hB (own_Bb _ _), own_W1 (by rw [hpl, hpA]; omega), c19, (by rw [← hpe, ← hpl, eB]; exact F19), (by rw [eB]; exact P69)⟩⟩
  · replace P1 : HP n0 T1.heap [c1, q1, AC kk (List.map Value.int pA), AC kA2 (List.map Value.int (pA ++ List.replicate (pM - pN) 0))] := P1
    refine w_lloadN X1 hx (hb hby d6_26) rfl (pc' := 27) rfl ?_
    refine w_lstoreN (l' := #[.val (.ref (n0 + 0)), .val (.long (Int64.ofNat pn)), .second, .val (.long (Int64.ofNat pn)), .second]) X1 hx (hb hby d6_27) rfl (pc' := 28) rfl ?_
    refine w_lloadN X1 hx (hb hby d6_28) rfl (pc' := 29) rfl ?_
    refine w_ldc2 X1 hx (hb hby d6_29) hown (mvT hZ (wd48 hw)) (pc' := 32) rfl ?_
    refine w_lcmp_lt X1 hx (hb hby d6_32) rfl (hb hby d6_33) (by decide) (pcY := 67) (by decide) (pc' := 36) rfl (fun h10 => ?_) (fun h10 => ?_)
    · refine w_aloadN X1 hx (hb hby d6_67) rfl rfl (pc' := 68) rfl ?_
      refine w_getf (i := 0) (v := .ref (n0 + 3)) X1 hx hZ hown (wd11 hw) P1 rfl F1 0 rfl rfl (hb hby d6_68) (pc' := 71) rfl ?_
      intro T70 X70 P70
      refine w_aloadN X70 hx (hb hby d6_71) rfl rfl (pc' := 72) rfl ?_
      refine w_dup X70 hx (hb hby d6_72) rfl (pc' := 73) rfl ?_
      refine w_getf (i := 0) (v := .int (Int32.ofNat pz)) X70 hx hZ hown (wd18 hw) P70 rfl F1 1 rfl rfl (hb hby d6_73) (pc' := 76) rfl ?_
      intro T71 X71 P71
      refine w_dupX1 X71 hx (hb hby d6_76) rfl rfl (pc' := 77) rfl ?_
      refine w_iconst (v := (1 : Int32)) X71 hx (hb hby d6_77) rfl (pc' := 78) rfl ?_
      refine w_iadd X71 hx (hb hby d6_78) (pc' := 79) rfl ?_
      refine w_eqI (z := (Int32.ofNat (pz + 1))) (own_oadd pz 1) ?_
      refine w_putf (i := 0) (ty := .int) X71 hx hZ hown (wd18 hw) N1 P71 rfl F1 (di_C0 hw) 1 rfl (Or.inl (wd19 hw)) (wd2 hw) (by decide) rfl rfl (hb hby d6_79) (pc' := 82) rfl ?_
      intro T72 L36 c20 N36 X72 P72 F20
      replace P72 : HP n0 T72.heap [c20, q1, AC kk (List.map Value.int pA), AC kA2 (List.map Value.int (pA ++ List.replicate (pM - pN) 0))] := P72
      replace F20 : ObjF Z c20 "com/example/dirichlet/dirichlet/index/ByteSink" fl_C0 [.ref (n0 + 3), .int (Int32.ofNat (pz + 1))] := F20
      refine w_lloadN X72 hx (hb hby d6_82) rfl (pc' := 83) rfl ?_
      refine w_l2i X72 hx (hb hby d6_83) (pc' := 84) rfl ?_
      refine w_i2b X72 hx (hb hby d6_84) (pc' := 85) rfl ?_
      refine w_bastoreEL (i := 3) (jn := pz) X72 hx hZ N36 P72 rfl hkA2 (hb hby d6_85) rfl (own_oN (by omega)) (own_llt (own_cgl hpA (by omega)) (by omega)) (pc' := 86) rfl ?_
      intro T73 L37 N37 X73 P73
      replace P73 : HP n0 T73.heap [c20, q1, AC kk (List.map Value.int pA), AC kA2 (List.map Value.int ((pA ++ List.replicate (pM - pN) 0).set pz (nar .byte (Int8.toInt32 (Int32.toInt8 (Int64.toInt32 (Int64.ofNat pn)))))))] := P73
      have eB : own_bytes 8 pn = [own_lo (pn)] := by rw [own_bS, if_pos h10]
      exact w_ret_v X73 hx hret hlk (hb hby d6_86) (by decide) (by decide) ⟨rfl, N37, Or.inr ⟨hgr, kA2, hkA2, own_puts (pA ++ List.replicate (pM - pN) 0) pz (own_bytes 8 pn), (by rw [own_pl]; exact (own_cgl hpA (by omega))), own_Bput _ _ _ (own_Bapp hB) (own_Bb _ _), own_W2 (by rw [hpA]; omega) (by rw [hpl, own_cgl hpA (by omega)]; omega), c20, (by rw [← hpe, ← hpl, eB]; exact F20), (by rw [eB]; exact P73)⟩⟩
    · refine w_aloadN X1 hx (hb hby d6_36) rfl rfl (pc' := 37) rfl ?_
      refine w_getf (i := 0) (v := .ref (n0 + 3)) X1 hx hZ hown (wd11 hw) P1 rfl F1 0 rfl rfl (hb hby d6_37) (pc' := 40) rfl ?_
      intro T74 X74 P74
      refine w_aloadN X74 hx (hb hby d6_40) rfl rfl (pc' := 41) rfl ?_
      refine w_dup X74 hx (hb hby d6_41) rfl (pc' := 42) rfl ?_
      refine w_getf (i := 0) (v := .int (Int32.ofNat pz)) X74 hx hZ hown (wd18 hw) P74 rfl F1 1 rfl rfl (hb hby d6_42) (pc' := 45) rfl ?_
      intro T75 X75 P75
      refine w_dupX1 X75 hx (hb hby d6_45) rfl rfl (pc' := 46) rfl ?_
      refine w_iconst (v := (1 : Int32)) X75 hx (hb hby d6_46) rfl (pc' := 47) rfl ?_
      refine w_iadd X75 hx (hb hby d6_47) (pc' := 48) rfl ?_
      refine w_eqI (z := (Int32.ofNat (pz + 1))) (own_oadd pz 1) ?_
      refine w_putf (i := 0) (ty := .int) X75 hx hZ hown (wd18 hw) N1 P75 rfl F1 (di_C0 hw) 1 rfl (Or.inl (wd19 hw)) (wd2 hw) (by decide) rfl rfl (hb hby d6_48) (pc' := 51) rfl ?_
      intro T76 L38 c21 N38 X76 P76 F21
      replace P76 : HP n0 T76.heap [c21, q1, AC kk (List.map Value.int pA), AC kA2 (List.map Value.int (pA ++ List.replicate (pM - pN) 0))] := P76
      replace F21 : ObjF Z c21 "com/example/dirichlet/dirichlet/index/ByteSink" fl_C0 [.ref (n0 + 3), .int (Int32.ofNat (pz + 1))] := F21
      refine w_lloadN X76 hx (hb hby d6_51) rfl (pc' := 52) rfl ?_
      refine w_ldc2 X76 hx (hb hby d6_52) hown (mvT hZ (wd48 hw)) (pc' := 55) rfl ?_
      refine w_lor X76 hx (hb hby d6_55) (pc' := 56) rfl ?_
      refine w_l2i X76 hx (hb hby d6_56) (pc' := 57) rfl ?_
      refine w_i2b X76 hx (hb hby d6_57) (pc' := 58) rfl ?_
      refine w_bastoreEL (i := 3) (jn := pz) X76 hx hZ N38 P76 rfl hkA2 (hb hby d6_58) rfl (own_oN (by omega)) (own_llt (own_cgl hpA (by omega)) (by omega)) (pc' := 59) rfl ?_
      intro T77 L39 N39 X77 P77
      replace P77 : HP n0 T77.heap [c21, q1, AC kk (List.map Value.int pA), AC kA2 (List.map Value.int ((pA ++ List.replicate (pM - pN) 0).set pz (nar .byte (Int8.toInt32 (Int32.toInt8 (Int64.toInt32 ((Int64.ofNat pn) ||| (128 : Int64))))))))] := P77
      refine w_lloadN X77 hx (hb hby d6_59) rfl (pc' := 60) rfl ?_
      refine w_bipush (v := (7 : Int32)) X77 hx (hb hby d6_60) rfl (pc' := 62) rfl ?_
      refine w_lushr X77 hx (hb hby d6_62) (pc' := 63) rfl ?_
      refine w_eqJ (z := (Int64.ofNat (pn / 128))) (own_jshr (by omega)) ?_
      refine w_lstoreN (l' := #[.val (.ref (n0 + 0)), .val (.long (Int64.ofNat pn)), .second, .val (.long (Int64.ofNat (pn / 128))), .second]) X77 hx (hb hby d6_63) rfl (pc' := 64) rfl ?_
      refine w_goto X77 hx (hb hby d6_64) (by decide) (pc' := 28) (by decide) ?_
      refine w_lloadN X77 hx (hb hby d6_28) rfl (pc' := 29) rfl ?_
      refine w_ldc2 X77 hx (hb hby d6_29) hown (mvT hZ (wd48 hw)) (pc' := 32) rfl ?_
      refine w_lcmp_lt X77 hx (hb hby d6_32) rfl (hb hby d6_33) (by decide) (pcY := 67) (by decide) (pc' := 36) rfl (fun h11 => ?_) (fun h11 => ?_)
      · refine w_aloadN X77 hx (hb hby d6_67) rfl rfl (pc' := 68) rfl ?_
        refine w_getf (i := 0) (v := .ref (n0 + 3)) X77 hx hZ hown (wd11 hw) P77 rfl F21 0 rfl rfl (hb hby d6_68) (pc' := 71) rfl ?_
        intro T78 X78 P78
        refine w_aloadN X78 hx (hb hby d6_71) rfl rfl (pc' := 72) rfl ?_
        refine w_dup X78 hx (hb hby d6_72) rfl (pc' := 73) rfl ?_
        refine w_getf (i := 0) (v := .int (Int32.ofNat (pz + 1))) X78 hx hZ hown (wd18 hw) P78 rfl F21 1 rfl rfl (hb hby d6_73) (pc' := 76) rfl ?_
        intro T79 X79 P79
        refine w_dupX1 X79 hx (hb hby d6_76) rfl rfl (pc' := 77) rfl ?_
        refine w_iconst (v := (1 : Int32)) X79 hx (hb hby d6_77) rfl (pc' := 78) rfl ?_
        refine w_iadd X79 hx (hb hby d6_78) (pc' := 79) rfl ?_
        refine w_eqI (z := (Int32.ofNat ((pz + 1) + 1))) (own_oadd (pz + 1) 1) ?_
        refine w_putf (i := 0) (ty := .int) X79 hx hZ hown (wd18 hw) N39 P79 rfl F21 (di_C0 hw) 1 rfl (Or.inl (wd19 hw)) (wd2 hw) (by decide) rfl rfl (hb hby d6_79) (pc' := 82) rfl ?_
        intro T80 L40 c22 N40 X80 P80 F22
        replace P80 : HP n0 T80.heap [c22, q1, AC kk (List.map Value.int pA), AC kA2 (List.map Value.int ((pA ++ List.replicate (pM - pN) 0).set pz (nar .byte (Int8.toInt32 (Int32.toInt8 (Int64.toInt32 ((Int64.ofNat pn) ||| (128 : Int64))))))))] := P80
        replace F22 : ObjF Z c22 "com/example/dirichlet/dirichlet/index/ByteSink" fl_C0 [.ref (n0 + 3), .int (Int32.ofNat ((pz + 1) + 1))] := F22
        refine w_lloadN X80 hx (hb hby d6_82) rfl (pc' := 83) rfl ?_
        refine w_l2i X80 hx (hb hby d6_83) (pc' := 84) rfl ?_
        refine w_i2b X80 hx (hb hby d6_84) (pc' := 85) rfl ?_
        refine w_bastoreEL (i := 3) (jn := (pz + 1)) X80 hx hZ N40 P80 rfl hkA2 (hb hby d6_85) rfl (own_oN (by omega)) (own_llt (own_sl (own_cgl hpA (by omega))) (by omega)) (pc' := 86) rfl ?_
        intro T81 L41 N41 X81 P81
        replace P81 : HP n0 T81.heap [c22, q1, AC kk (List.map Value.int pA), AC kA2 (List.map Value.int (((pA ++ List.replicate (pM - pN) 0).set pz (nar .byte (Int8.toInt32 (Int32.toInt8 (Int64.toInt32 ((Int64.ofNat pn) ||| (128 : Int64))))))).set (pz + 1) (nar .byte (Int8.toInt32 (Int32.toInt8 (Int64.toInt32 (Int64.ofNat (pn / 128))))))))] := P81
        have eB : own_bytes 8 pn = [own_hi (pn), own_lo (pn / 128)] := by rw [own_bS, if_neg h10, own_bS, if_pos h11]
        exact w_ret_v X81 hx hret hlk (hb hby d6_86) (by decide) (by decide) ⟨rfl, N41, Or.inr ⟨hgr, kA2, hkA2, own_puts (pA ++ List.replicate (pM - pN) 0) pz (own_bytes 8 pn), (by rw [own_pl]; exact (own_cgl hpA (by omega))), own_Bput _ _ _ (own_Bapp hB) (own_Bb _ _), own_W2 (by rw [hpA]; omega) (by rw [hpl, own_cgl hpA (by omega)]; omega), c22, (by rw [← hpe, ← hpl, eB]; exact F22), (by rw [eB]; exact P81)⟩⟩
      · refine w_aloadN X77 hx (hb hby d6_36) rfl rfl (pc' := 37) rfl ?_
        refine w_getf (i := 0) (v := .ref (n0 + 3)) X77 hx hZ hown (wd11 hw) P77 rfl F21 0 rfl rfl (hb hby d6_37) (pc' := 40) rfl ?_
        intro T82 X82 P82
        refine w_aloadN X82 hx (hb hby d6_40) rfl rfl (pc' := 41) rfl ?_
        refine w_dup X82 hx (hb hby d6_41) rfl (pc' := 42) rfl ?_
        refine w_getf (i := 0) (v := .int (Int32.ofNat (pz + 1))) X82 hx hZ hown (wd18 hw) P82 rfl F21 1 rfl rfl (hb hby d6_42) (pc' := 45) rfl ?_
        intro T83 X83 P83
        refine w_dupX1 X83 hx (hb hby d6_45) rfl rfl (pc' := 46) rfl ?_
        refine w_iconst (v := (1 : Int32)) X83 hx (hb hby d6_46) rfl (pc' := 47) rfl ?_
        refine w_iadd X83 hx (hb hby d6_47) (pc' := 48) rfl ?_
        refine w_eqI (z := (Int32.ofNat ((pz + 1) + 1))) (own_oadd (pz + 1) 1) ?_
        refine w_putf (i := 0) (ty := .int) X83 hx hZ hown (wd18 hw) N39 P83 rfl F21 (di_C0 hw) 1 rfl (Or.inl (wd19 hw)) (wd2 hw) (by decide) rfl rfl (hb hby d6_48) (pc' := 51) rfl ?_
        intro T84 L42 c23 N42 X84 P84 F23
        replace P84 : HP n0 T84.heap [c23, q1, AC kk (List.map Value.int pA), AC kA2 (List.map Value.int ((pA ++ List.replicate (pM - pN) 0).set pz (nar .byte (Int8.toInt32 (Int32.toInt8 (Int64.toInt32 ((Int64.ofNat pn) ||| (128 : Int64))))))))] := P84
        replace F23 : ObjF Z c23 "com/example/dirichlet/dirichlet/index/ByteSink" fl_C0 [.ref (n0 + 3), .int (Int32.ofNat ((pz + 1) + 1))] := F23
        refine w_lloadN X84 hx (hb hby d6_51) rfl (pc' := 52) rfl ?_
        refine w_ldc2 X84 hx (hb hby d6_52) hown (mvT hZ (wd48 hw)) (pc' := 55) rfl ?_
        refine w_lor X84 hx (hb hby d6_55) (pc' := 56) rfl ?_
        refine w_l2i X84 hx (hb hby d6_56) (pc' := 57) rfl ?_
        refine w_i2b X84 hx (hb hby d6_57) (pc' := 58) rfl ?_
        refine w_bastoreEL (i := 3) (jn := (pz + 1)) X84 hx hZ N42 P84 rfl hkA2 (hb hby d6_58) rfl (own_oN (by omega)) (own_llt (own_sl (own_cgl hpA (by omega))) (by omega)) (pc' := 59) rfl ?_
        intro T85 L43 N43 X85 P85
        replace P85 : HP n0 T85.heap [c23, q1, AC kk (List.map Value.int pA), AC kA2 (List.map Value.int (((pA ++ List.replicate (pM - pN) 0).set pz (nar .byte (Int8.toInt32 (Int32.toInt8 (Int64.toInt32 ((Int64.ofNat pn) ||| (128 : Int64))))))).set (pz + 1) (nar .byte (Int8.toInt32 (Int32.toInt8 (Int64.toInt32 ((Int64.ofNat (pn / 128)) ||| (128 : Int64))))))))] := P85
        refine w_lloadN X85 hx (hb hby d6_59) rfl (pc' := 60) rfl ?_
        refine w_bipush (v := (7 : Int32)) X85 hx (hb hby d6_60) rfl (pc' := 62) rfl ?_
        refine w_lushr X85 hx (hb hby d6_62) (pc' := 63) rfl ?_
        refine w_eqJ (z := (Int64.ofNat (pn / 128 / 128))) (own_jshr (by omega)) ?_
        refine w_lstoreN (l' := #[.val (.ref (n0 + 0)), .val (.long (Int64.ofNat pn)), .second, .val (.long (Int64.ofNat (pn / 128 / 128))), .second]) X85 hx (hb hby d6_63) rfl (pc' := 64) rfl ?_
        refine w_goto X85 hx (hb hby d6_64) (by decide) (pc' := 28) (by decide) ?_
        refine w_lloadN X85 hx (hb hby d6_28) rfl (pc' := 29) rfl ?_
        refine w_ldc2 X85 hx (hb hby d6_29) hown (mvT hZ (wd48 hw)) (pc' := 32) rfl ?_
        refine w_lcmp_lt X85 hx (hb hby d6_32) rfl (hb hby d6_33) (by decide) (pcY := 67) (by decide) (pc' := 36) rfl (fun h12 => ?_) (fun h12 => ?_)
        · refine w_aloadN X85 hx (hb hby d6_67) rfl rfl (pc' := 68) rfl ?_
          refine w_getf (i := 0) (v := .ref (n0 + 3)) X85 hx hZ hown (wd11 hw) P85 rfl F23 0 rfl rfl (hb hby d6_68) (pc' := 71) rfl ?_
          intro T86 X86 P86
          refine w_aloadN X86 hx (hb hby d6_71) rfl rfl (pc' := 72) rfl ?_
          refine w_dup X86 hx (hb hby d6_72) rfl (pc' := 73) rfl ?_
          refine w_getf (i := 0) (v := .int (Int32.ofNat ((pz + 1) + 1))) X86 hx hZ hown (wd18 hw) P86 rfl F23 1 rfl rfl (hb hby d6_73) (pc' := 76) rfl ?_
          intro T87 X87 P87
          refine w_dupX1 X87 hx (hb hby d6_76) rfl rfl (pc' := 77) rfl ?_
          refine w_iconst (v := (1 : Int32)) X87 hx (hb hby d6_77) rfl (pc' := 78) rfl ?_
          refine w_iadd X87 hx (hb hby d6_78) (pc' := 79) rfl ?_
          refine w_eqI (z := (Int32.ofNat (((pz + 1) + 1) + 1))) (own_oadd ((pz + 1) + 1) 1) ?_
          refine w_putf (i := 0) (ty := .int) X87 hx hZ hown (wd18 hw) N43 P87 rfl F23 (di_C0 hw) 1 rfl (Or.inl (wd19 hw)) (wd2 hw) (by decide) rfl rfl (hb hby d6_79) (pc' := 82) rfl ?_
          intro T88 L44 c24 N44 X88 P88 F24
          replace P88 : HP n0 T88.heap [c24, q1, AC kk (List.map Value.int pA), AC kA2 (List.map Value.int (((pA ++ List.replicate (pM - pN) 0).set pz (nar .byte (Int8.toInt32 (Int32.toInt8 (Int64.toInt32 ((Int64.ofNat pn) ||| (128 : Int64))))))).set (pz + 1) (nar .byte (Int8.toInt32 (Int32.toInt8 (Int64.toInt32 ((Int64.ofNat (pn / 128)) ||| (128 : Int64))))))))] := P88
          replace F24 : ObjF Z c24 "com/example/dirichlet/dirichlet/index/ByteSink" fl_C0 [.ref (n0 + 3), .int (Int32.ofNat (((pz + 1) + 1) + 1))] := F24
          refine w_lloadN X88 hx (hb hby d6_82) rfl (pc' := 83) rfl ?_
          refine w_l2i X88 hx (hb hby d6_83) (pc' := 84) rfl ?_
          refine w_i2b X88 hx (hb hby d6_84) (pc' := 85) rfl ?_
          refine w_bastoreEL (i := 3) (jn := ((pz + 1) + 1)) X88 hx hZ N44 P88 rfl hkA2 (hb hby d6_85) rfl (own_oN (by omega)) (own_llt (own_sl (own_sl (own_cgl hpA (by omega)))) (by omega)) (pc' := 86) rfl ?_
          intro T89 L45 N45 X89 P89
          replace P89 : HP n0 T89.heap [c24, q1, AC kk (List.map Value.int pA), AC kA2 (List.map Value.int ((((pA ++ List.replicate (pM - pN) 0).set pz (nar .byte (Int8.toInt32 (Int32.toInt8 (Int64.toInt32 ((Int64.ofNat pn) ||| (128 : Int64))))))).set (pz + 1) (nar .byte (Int8.toInt32 (Int32.toInt8 (Int64.toInt32 ((Int64.ofNat (pn / 128)) ||| (128 : Int64))))))).set ((pz + 1) + 1) (nar .byte (Int8.toInt32 (Int32.toInt8 (Int64.toInt32 (Int64.ofNat (pn / 128 / 128))))))))] := P89
          have eB : own_bytes 8 pn = [own_hi (pn), own_hi (pn / 128), own_lo (pn / 128 / 128)] := by rw [own_bS, if_neg h10, own_bS, if_neg h11, own_bS, if_pos h12]
          exact w_ret_v X89 hx hret hlk (hb hby d6_86) (by decide) (by decide) ⟨rfl, N45, Or.inr ⟨hgr, kA2, hkA2, own_puts (pA ++ List.replicate (pM - pN) 0) pz (own_bytes 8 pn), (by rw [own_pl]; exact (own_cgl hpA (by omega))), own_Bput _ _ _ (own_Bapp hB) (own_Bb _ _), own_W2 (by rw [hpA]; omega) (by rw [hpl, own_cgl hpA (by omega)]; omega), c24, (by rw [← hpe, ← hpl, eB]; exact F24), (by rw [eB]; exact P89)⟩⟩
        · refine w_aloadN X85 hx (hb hby d6_36) rfl rfl (pc' := 37) rfl ?_
          refine w_getf (i := 0) (v := .ref (n0 + 3)) X85 hx hZ hown (wd11 hw) P85 rfl F23 0 rfl rfl (hb hby d6_37) (pc' := 40) rfl ?_
          intro T90 X90 P90
          refine w_aloadN X90 hx (hb hby d6_40) rfl rfl (pc' := 41) rfl ?_
          refine w_dup X90 hx (hb hby d6_41) rfl (pc' := 42) rfl ?_
          refine w_getf (i := 0) (v := .int (Int32.ofNat ((pz + 1) + 1))) X90 hx hZ hown (wd18 hw) P90 rfl F23 1 rfl rfl (hb hby d6_42) (pc' := 45) rfl ?_
          intro T91 X91 P91
          refine w_dupX1 X91 hx (hb hby d6_45) rfl rfl (pc' := 46) rfl ?_
          refine w_iconst (v := (1 : Int32)) X91 hx (hb hby d6_46) rfl (pc' := 47) rfl ?_
          refine w_iadd X91 hx (hb hby d6_47) (pc' := 48) rfl ?_
          refine w_eqI (z := (Int32.ofNat (((pz + 1) + 1) + 1))) (own_oadd ((pz + 1) + 1) 1) ?_
          refine w_putf (i := 0) (ty := .int) X91 hx hZ hown (wd18 hw) N43 P91 rfl F23 (di_C0 hw) 1 rfl (Or.inl (wd19 hw)) (wd2 hw) (by decide) rfl rfl (hb hby d6_48) (pc' := 51) rfl ?_
          intro T92 L46 c25 N46 X92 P92 F25
          replace P92 : HP n0 T92.heap [c25, q1, AC kk (List.map Value.int pA), AC kA2 (List.map Value.int (((pA ++ List.replicate (pM - pN) 0).set pz (nar .byte (Int8.toInt32 (Int32.toInt8 (Int64.toInt32 ((Int64.ofNat pn) ||| (128 : Int64))))))).set (pz + 1) (nar .byte (Int8.toInt32 (Int32.toInt8 (Int64.toInt32 ((Int64.ofNat (pn / 128)) ||| (128 : Int64))))))))] := P92
          replace F25 : ObjF Z c25 "com/example/dirichlet/dirichlet/index/ByteSink" fl_C0 [.ref (n0 + 3), .int (Int32.ofNat (((pz + 1) + 1) + 1))] := F25
          refine w_lloadN X92 hx (hb hby d6_51) rfl (pc' := 52) rfl ?_
          refine w_ldc2 X92 hx (hb hby d6_52) hown (mvT hZ (wd48 hw)) (pc' := 55) rfl ?_
          refine w_lor X92 hx (hb hby d6_55) (pc' := 56) rfl ?_
          refine w_l2i X92 hx (hb hby d6_56) (pc' := 57) rfl ?_
          refine w_i2b X92 hx (hb hby d6_57) (pc' := 58) rfl ?_
          refine w_bastoreEL (i := 3) (jn := ((pz + 1) + 1)) X92 hx hZ N46 P92 rfl hkA2 (hb hby d6_58) rfl (own_oN (by omega)) (own_llt (own_sl (own_sl (own_cgl hpA (by omega)))) (by omega)) (pc' := 59) rfl ?_
          intro T93 L47 N47 X93 P93
          replace P93 : HP n0 T93.heap [c25, q1, AC kk (List.map Value.int pA), AC kA2 (List.map Value.int ((((pA ++ List.replicate (pM - pN) 0).set pz (nar .byte (Int8.toInt32 (Int32.toInt8 (Int64.toInt32 ((Int64.ofNat pn) ||| (128 : Int64))))))).set (pz + 1) (nar .byte (Int8.toInt32 (Int32.toInt8 (Int64.toInt32 ((Int64.ofNat (pn / 128)) ||| (128 : Int64))))))).set ((pz + 1) + 1) (nar .byte (Int8.toInt32 (Int32.toInt8 (Int64.toInt32 ((Int64.ofNat (pn / 128 / 128)) ||| (128 : Int64))))))))] := P93
          refine w_lloadN X93 hx (hb hby d6_59) rfl (pc' := 60) rfl ?_
          refine w_bipush (v := (7 : Int32)) X93 hx (hb hby d6_60) rfl (pc' := 62) rfl ?_
          refine w_lushr X93 hx (hb hby d6_62) (pc' := 63) rfl ?_
          refine w_eqJ (z := (Int64.ofNat (pn / 128 / 128 / 128))) (own_jshr (by omega)) ?_
          refine w_lstoreN (l' := #[.val (.ref (n0 + 0)), .val (.long (Int64.ofNat pn)), .second, .val (.long (Int64.ofNat (pn / 128 / 128 / 128))), .second]) X93 hx (hb hby d6_63) rfl (pc' := 64) rfl ?_
          refine w_goto X93 hx (hb hby d6_64) (by decide) (pc' := 28) (by decide) ?_
          refine w_lloadN X93 hx (hb hby d6_28) rfl (pc' := 29) rfl ?_
          refine w_ldc2 X93 hx (hb hby d6_29) hown (mvT hZ (wd48 hw)) (pc' := 32) rfl ?_
          refine w_lcmp_lt X93 hx (hb hby d6_32) rfl (hb hby d6_33) (by decide) (pcY := 67) (by decide) (pc' := 36) rfl (fun h13 => ?_) (fun h13 => ?_)
          · refine w_aloadN X93 hx (hb hby d6_67) rfl rfl (pc' := 68) rfl ?_
            refine w_getf (i := 0) (v := .ref (n0 + 3)) X93 hx hZ hown (wd11 hw) P93 rfl F25 0 rfl rfl (hb hby d6_68) (pc' := 71) rfl ?_
            intro T94 X94 P94
            refine w_aloadN X94 hx (hb hby d6_71) rfl rfl (pc' := 72) rfl ?_
            refine w_dup X94 hx (hb hby d6_72) rfl (pc' := 73) rfl ?_
            refine w_getf (i := 0) (v := .int (Int32.ofNat (((pz + 1) + 1) + 1))) X94 hx hZ hown (wd18 hw) P94 rfl F25 1 rfl rfl (hb hby d6_73) (pc' := 76) rfl ?_
            intro T95 X95 P95
            refine w_dupX1 X95 hx (hb hby d6_76) rfl rfl (pc' := 77) rfl ?_
            refine w_iconst (v := (1 : Int32)) X95 hx (hb hby d6_77) rfl (pc' := 78) rfl ?_
            refine w_iadd X95 hx (hb hby d6_78) (pc' := 79) rfl ?_
            refine w_eqI (z := (Int32.ofNat ((((pz + 1) + 1) + 1) + 1))) (own_oadd (((pz + 1) + 1) + 1) 1) ?_
            refine w_putf (i := 0) (ty := .int) X95 hx hZ hown (wd18 hw) N47 P95 rfl F25 (di_C0 hw) 1 rfl (Or.inl (wd19 hw)) (wd2 hw) (by decide) rfl rfl (hb hby d6_79) (pc' := 82) rfl ?_
            intro T96 L48 c26 N48 X96 P96 F26
            replace P96 : HP n0 T96.heap [c26, q1, AC kk (List.map Value.int pA), AC kA2 (List.map Value.int ((((pA ++ List.replicate (pM - pN) 0).set pz (nar .byte (Int8.toInt32 (Int32.toInt8 (Int64.toInt32 ((Int64.ofNat pn) ||| (128 : Int64))))))).set (pz + 1) (nar .byte (Int8.toInt32 (Int32.toInt8 (Int64.toInt32 ((Int64.ofNat (pn / 128)) ||| (128 : Int64))))))).set ((pz + 1) + 1) (nar .byte (Int8.toInt32 (Int32.toInt8 (Int64.toInt32 ((Int64.ofNat (pn / 128 / 128)) ||| (128 : Int64))))))))] := P96
            replace F26 : ObjF Z c26 "com/example/dirichlet/dirichlet/index/ByteSink" fl_C0 [.ref (n0 + 3), .int (Int32.ofNat ((((pz + 1) + 1) + 1) + 1))] := F26
            refine w_lloadN X96 hx (hb hby d6_82) rfl (pc' := 83) rfl ?_
            refine w_l2i X96 hx (hb hby d6_83) (pc' := 84) rfl ?_
            refine w_i2b X96 hx (hb hby d6_84) (pc' := 85) rfl ?_
            refine w_bastoreEL (i := 3) (jn := (((pz + 1) + 1) + 1)) X96 hx hZ N48 P96 rfl hkA2 (hb hby d6_85) rfl (own_oN (by omega)) (own_llt (own_sl (own_sl (own_sl (own_cgl hpA (by omega))))) (by omega)) (pc' := 86) rfl ?_
            intro T97 L49 N49 X97 P97
            replace P97 : HP n0 T97.heap [c26, q1, AC kk (List.map Value.int pA), AC kA2 (List.map Value.int (((((pA ++ List.replicate (pM - pN) 0).set pz (nar .byte (Int8.toInt32 (Int32.toInt8 (Int64.toInt32 ((Int64.ofNat pn) ||| (128 : Int64))))))).set (pz + 1) (nar .byte (Int8.toInt32 (Int32.toInt8 (Int64.toInt32 ((Int64.ofNat (pn / 128)) ||| (128 : Int64))))))).set ((pz + 1) + 1) (nar .byte (Int8.toInt32 (Int32.toInt8 (Int64.toInt32 ((Int64.ofNat (pn / 128 / 128)) ||| (128 : Int64))))))).set (((pz + 1) + 1) + 1) (nar .byte (Int8.toInt32 (Int32.toInt8 (Int64.toInt32 (Int64.ofNat (pn / 128 / 128 / 128))))))))] := P97
            have eB : own_bytes 8 pn = [own_hi (pn), own_hi (pn / 128), own_hi (pn / 128 / 128), own_lo (pn / 128 / 128 / 128)] := by rw [own_bS, if_neg h10, own_bS, if_neg h11, own_bS, if_neg h12, own_bS, if_pos h13]
            exact w_ret_v X97 hx hret hlk (hb hby d6_86) (by decide) (by decide) ⟨rfl, N49, Or.inr ⟨hgr, kA2, hkA2, own_puts (pA ++ List.replicate (pM - pN) 0) pz (own_bytes 8 pn), (by rw [own_pl]; exact (own_cgl hpA (by omega))), own_Bput _ _ _ (own_Bapp hB) (own_Bb _ _), own_W2 (by rw [hpA]; omega) (by rw [hpl, own_cgl hpA (by omega)]; omega), c26, (by rw [← hpe, ← hpl, eB]; exact F26), (by rw [eB]; exact P97)⟩⟩
          · refine w_aloadN X93 hx (hb hby d6_36) rfl rfl (pc' := 37) rfl ?_
            refine w_getf (i := 0) (v := .ref (n0 + 3)) X93 hx hZ hown (wd11 hw) P93 rfl F25 0 rfl rfl (hb hby d6_37) (pc' := 40) rfl ?_
            intro T98 X98 P98
            refine w_aloadN X98 hx (hb hby d6_40) rfl rfl (pc' := 41) rfl ?_
            refine w_dup X98 hx (hb hby d6_41) rfl (pc' := 42) rfl ?_
            refine w_getf (i := 0) (v := .int (Int32.ofNat (((pz + 1) + 1) + 1))) X98 hx hZ hown (wd18 hw) P98 rfl F25 1 rfl rfl (hb hby d6_42) (pc' := 45) rfl ?_
            intro T99 X99 P99
            refine w_dupX1 X99 hx (hb hby d6_45) rfl rfl (pc' := 46) rfl ?_
            refine w_iconst (v := (1 : Int32)) X99 hx (hb hby d6_46) rfl (pc' := 47) rfl ?_
            refine w_iadd X99 hx (hb hby d6_47) (pc' := 48) rfl ?_
            refine w_eqI (z := (Int32.ofNat ((((pz + 1) + 1) + 1) + 1))) (own_oadd (((pz + 1) + 1) + 1) 1) ?_
            refine w_putf (i := 0) (ty := .int) X99 hx hZ hown (wd18 hw) N47 P99 rfl F25 (di_C0 hw) 1 rfl (Or.inl (wd19 hw)) (wd2 hw) (by decide) rfl rfl (hb hby d6_48) (pc' := 51) rfl ?_
            intro T100 L50 c27 N50 X100 P100 F27
            replace P100 : HP n0 T100.heap [c27, q1, AC kk (List.map Value.int pA), AC kA2 (List.map Value.int ((((pA ++ List.replicate (pM - pN) 0).set pz (nar .byte (Int8.toInt32 (Int32.toInt8 (Int64.toInt32 ((Int64.ofNat pn) ||| (128 : Int64))))))).set (pz + 1) (nar .byte (Int8.toInt32 (Int32.toInt8 (Int64.toInt32 ((Int64.ofNat (pn / 128)) ||| (128 : Int64))))))).set ((pz + 1) + 1) (nar .byte (Int8.toInt32 (Int32.toInt8 (Int64.toInt32 ((Int64.ofNat (pn / 128 / 128)) ||| (128 : Int64))))))))] := P100
            replace F27 : ObjF Z c27 "com/example/dirichlet/dirichlet/index/ByteSink" fl_C0 [.ref (n0 + 3), .int (Int32.ofNat ((((pz + 1) + 1) + 1) + 1))] := F27
            refine w_lloadN X100 hx (hb hby d6_51) rfl (pc' := 52) rfl ?_
            refine w_ldc2 X100 hx (hb hby d6_52) hown (mvT hZ (wd48 hw)) (pc' := 55) rfl ?_
            refine w_lor X100 hx (hb hby d6_55) (pc' := 56) rfl ?_
            refine w_l2i X100 hx (hb hby d6_56) (pc' := 57) rfl ?_
            refine w_i2b X100 hx (hb hby d6_57) (pc' := 58) rfl ?_
            refine w_bastoreEL (i := 3) (jn := (((pz + 1) + 1) + 1)) X100 hx hZ N50 P100 rfl hkA2 (hb hby d6_58) rfl (own_oN (by omega)) (own_llt (own_sl (own_sl (own_sl (own_cgl hpA (by omega))))) (by omega)) (pc' := 59) rfl ?_
            intro T101 L51 N51 X101 P101
            replace P101 : HP n0 T101.heap [c27, q1, AC kk (List.map Value.int pA), AC kA2 (List.map Value.int (((((pA ++ List.replicate (pM - pN) 0).set pz (nar .byte (Int8.toInt32 (Int32.toInt8 (Int64.toInt32 ((Int64.ofNat pn) ||| (128 : Int64))))))).set (pz + 1) (nar .byte (Int8.toInt32 (Int32.toInt8 (Int64.toInt32 ((Int64.ofNat (pn / 128)) ||| (128 : Int64))))))).set ((pz + 1) + 1) (nar .byte (Int8.toInt32 (Int32.toInt8 (Int64.toInt32 ((Int64.ofNat (pn / 128 / 128)) ||| (128 : Int64))))))).set (((pz + 1) + 1) + 1) (nar .byte (Int8.toInt32 (Int32.toInt8 (Int64.toInt32 ((Int64.ofNat (pn / 128 / 128 / 128)) ||| (128 : Int64))))))))] := P101
            refine w_lloadN X101 hx (hb hby d6_59) rfl (pc' := 60) rfl ?_
            refine w_bipush (v := (7 : Int32)) X101 hx (hb hby d6_60) rfl (pc' := 62) rfl ?_
            refine w_lushr X101 hx (hb hby d6_62) (pc' := 63) rfl ?_
            refine w_eqJ (z := (Int64.ofNat (pn / 128 / 128 / 128 / 128))) (own_jshr (by omega)) ?_
            refine w_lstoreN (l' := #[.val (.ref (n0 + 0)), .val (.long (Int64.ofNat pn)), .second, .val (.long (Int64.ofNat (pn / 128 / 128 / 128 / 128))), .second]) X101 hx (hb hby d6_63) rfl (pc' := 64) rfl ?_
            refine w_goto X101 hx (hb hby d6_64) (by decide) (pc' := 28) (by decide) ?_
            refine w_lloadN X101 hx (hb hby d6_28) rfl (pc' := 29) rfl ?_
            refine w_ldc2 X101 hx (hb hby d6_29) hown (mvT hZ (wd48 hw)) (pc' := 32) rfl ?_
            refine w_lcmp_lt X101 hx (hb hby d6_32) rfl (hb hby d6_33) (by decide) (pcY := 67) (by decide) (pc' := 36) rfl (fun h14 => ?_) (fun h14 => ?_)
            · refine w_aloadN X101 hx (hb hby d6_67) rfl rfl (pc' := 68) rfl ?_
              refine w_getf (i := 0) (v := .ref (n0 + 3)) X101 hx hZ hown (wd11 hw) P101 rfl F27 0 rfl rfl (hb hby d6_68) (pc' := 71) rfl ?_
              intro T102 X102 P102
              refine w_aloadN X102 hx (hb hby d6_71) rfl rfl (pc' := 72) rfl ?_
              refine w_dup X102 hx (hb hby d6_72) rfl (pc' := 73) rfl ?_
              refine w_getf (i := 0) (v := .int (Int32.ofNat ((((pz + 1) + 1) + 1) + 1))) X102 hx hZ hown (wd18 hw) P102 rfl F27 1 rfl rfl (hb hby d6_73) (pc' := 76) rfl ?_
              intro T103 X103 P103
              refine w_dupX1 X103 hx (hb hby d6_76) rfl rfl (pc' := 77) rfl ?_
              refine w_iconst (v := (1 : Int32)) X103 hx (hb hby d6_77) rfl (pc' := 78) rfl ?_
              refine w_iadd X103 hx (hb hby d6_78) (pc' := 79) rfl ?_
              refine w_eqI (z := (Int32.ofNat (((((pz + 1) + 1) + 1) + 1) + 1))) (own_oadd ((((pz + 1) + 1) + 1) + 1) 1) ?_
              refine w_putf (i := 0) (ty := .int) X103 hx hZ hown (wd18 hw) N51 P103 rfl F27 (di_C0 hw) 1 rfl (Or.inl (wd19 hw)) (wd2 hw) (by decide) rfl rfl (hb hby d6_79) (pc' := 82) rfl ?_
              intro T104 L52 c28 N52 X104 P104 F28
              replace P104 : HP n0 T104.heap [c28, q1, AC kk (List.map Value.int pA), AC kA2 (List.map Value.int (((((pA ++ List.replicate (pM - pN) 0).set pz (nar .byte (Int8.toInt32 (Int32.toInt8 (Int64.toInt32 ((Int64.ofNat pn) ||| (128 : Int64))))))).set (pz + 1) (nar .byte (Int8.toInt32 (Int32.toInt8 (Int64.toInt32 ((Int64.ofNat (pn / 128)) ||| (128 : Int64))))))).set ((pz + 1) + 1) (nar .byte (Int8.toInt32 (Int32.toInt8 (Int64.toInt32 ((Int64.ofNat (pn / 128 / 128)) ||| (128 : Int64))))))).set (((pz + 1) + 1) + 1) (nar .byte (Int8.toInt32 (Int32.toInt8 (Int64.toInt32 ((Int64.ofNat (pn / 128 / 128 / 128)) ||| (128 : Int64))))))))] := P104
              replace F28 : ObjF Z c28 "com/example/dirichlet/dirichlet/index/ByteSink" fl_C0 [.ref (n0 + 3), .int (Int32.ofNat (((((pz + 1) + 1) + 1) + 1) + 1))] := F28
              refine w_lloadN X104 hx (hb hby d6_82) rfl (pc' := 83) rfl ?_
              refine w_l2i X104 hx (hb hby d6_83) (pc' := 84) rfl ?_
              refine w_i2b X104 hx (hb hby d6_84) (pc' := 85) rfl ?_
              refine w_bastoreEL (i := 3) (jn := ((((pz + 1) + 1) + 1) + 1)) X104 hx hZ N52 P104 rfl hkA2 (hb hby d6_85) rfl (own_oN (by omega)) (own_llt (own_sl (own_sl (own_sl (own_sl (own_cgl hpA (by omega)))))) (by omega)) (pc' := 86) rfl ?_
              intro T105 L53 N53 X105 P105
              replace P105 : HP n0 T105.heap [c28, q1, AC kk (List.map Value.int pA), AC kA2 (List.map Value.int ((((((pA ++ List.replicate (pM - pN) 0).set pz (nar .byte (Int8.toInt32 (Int32.toInt8 (Int64.toInt32 ((Int64.ofNat pn) ||| (128 : Int64))))))).set (pz + 1) (nar .byte (Int8.toInt32 (Int32.toInt8 (Int64.toInt32 ((Int64.ofNat (pn / 128)) ||| (128 : Int64))))))).set ((pz + 1) + 1) (nar .byte (Int8.toInt32 (Int32.toInt8 (Int64.toInt32 ((Int64.ofNat (pn / 128 / 128)) ||| (128 : Int64))))))).set (((pz + 1) + 1) + 1) (nar .byte (Int8.toInt32 (Int32.toInt8 (Int64.toInt32 ((Int64.ofNat (pn / 128 / 128 / 128)) ||| (128 : Int64))))))).set ((((pz + 1) + 1) + 1) + 1) (nar .byte (Int8.toInt32 (Int32.toInt8 (Int64.toInt32 (Int64.ofNat (pn / 128 / 128 / 128 / 128))))))))] := P105
              have eB : own_bytes 8 pn = [own_hi (pn), own_hi (pn / 128), own_hi (pn / 128 / 128), own_hi (pn / 128 / 128 / 128), own_lo (pn / 128 / 128 / 128 / 128)] := by rw [own_bS, if_neg h10, own_bS, if_neg h11, own_bS, if_neg h12, own_bS, if_neg h13, own_bS, if_pos h14]
              exact w_ret_v X105 hx hret hlk (hb hby d6_86) (by decide) (by decide) ⟨rfl, N53, Or.inr ⟨hgr, kA2, hkA2, own_puts (pA ++ List.replicate (pM - pN) 0) pz (own_bytes 8 pn), (by rw [own_pl]; exact (own_cgl hpA (by omega))), own_Bput _ _ _ (own_Bapp hB) (own_Bb _ _), own_W2 (by rw [hpA]; omega) (by rw [hpl, own_cgl hpA (by omega)]; omega), c28, (by rw [← hpe, ← hpl, eB]; exact F28), (by rw [eB]; exact P105)⟩⟩
            · refine w_aloadN X101 hx (hb hby d6_36) rfl rfl (pc' := 37) rfl ?_
              refine w_getf (i := 0) (v := .ref (n0 + 3)) X101 hx hZ hown (wd11 hw) P101 rfl F27 0 rfl rfl (hb hby d6_37) (pc' := 40) rfl ?_
              intro T106 X106 P106
              refine w_aloadN X106 hx (hb hby d6_40) rfl rfl (pc' := 41) rfl ?_
              refine w_dup X106 hx (hb hby d6_41) rfl (pc' := 42) rfl ?_
              refine w_getf (i := 0) (v := .int (Int32.ofNat ((((pz + 1) + 1) + 1) + 1))) X106 hx hZ hown (wd18 hw) P106 rfl F27 1 rfl rfl (hb hby d6_42) (pc' := 45) rfl ?_
              intro T107 X107 P107
              refine w_dupX1 X107 hx (hb hby d6_45) rfl rfl (pc' := 46) rfl ?_
              refine w_iconst (v := (1 : Int32)) X107 hx (hb hby d6_46) rfl (pc' := 47) rfl ?_
              refine w_iadd X107 hx (hb hby d6_47) (pc' := 48) rfl ?_
              refine w_eqI (z := (Int32.ofNat (((((pz + 1) + 1) + 1) + 1) + 1))) (own_oadd ((((pz + 1) + 1) + 1) + 1) 1) ?_
              refine w_putf (i := 0) (ty := .int) X107 hx hZ hown (wd18 hw) N51 P107 rfl F27 (di_C0 hw) 1 rfl (Or.inl (wd19 hw)) (wd2 hw) (by decide) rfl rfl (hb hby d6_48) (pc' := 51) rfl ?_
              intro T108 L54 c29 N54 X108 P108 F29
              replace P108 : HP n0 T108.heap [c29, q1, AC kk (List.map Value.int pA), AC kA2 (List.map Value.int (((((pA ++ List.replicate (pM - pN) 0).set pz (nar .byte (Int8.toInt32 (Int32.toInt8 (Int64.toInt32 ((Int64.ofNat pn) ||| (128 : Int64))))))).set (pz + 1) (nar .byte (Int8.toInt32 (Int32.toInt8 (Int64.toInt32 ((Int64.ofNat (pn / 128)) ||| (128 : Int64))))))).set ((pz + 1) + 1) (nar .byte (Int8.toInt32 (Int32.toInt8 (Int64.toInt32 ((Int64.ofNat (pn / 128 / 128)) ||| (128 : Int64))))))).set (((pz + 1) + 1) + 1) (nar .byte (Int8.toInt32 (Int32.toInt8 (Int64.toInt32 ((Int64.ofNat (pn / 128 / 128 / 128)) ||| (128 : Int64))))))))] := P108
              replace F29 : ObjF Z c29 "com/example/dirichlet/dirichlet/index/ByteSink" fl_C0 [.ref (n0 + 3), .int (Int32.ofNat (((((pz + 1) + 1) + 1) + 1) + 1))] := F29
              refine w_lloadN X108 hx (hb hby d6_51) rfl (pc' := 52) rfl ?_
              refine w_ldc2 X108 hx (hb hby d6_52) hown (mvT hZ (wd48 hw)) (pc' := 55) rfl ?_
              refine w_lor X108 hx (hb hby d6_55) (pc' := 56) rfl ?_
              refine w_l2i X108 hx (hb hby d6_56) (pc' := 57) rfl ?_
              refine w_i2b X108 hx (hb hby d6_57) (pc' := 58) rfl ?_
              refine w_bastoreEL (i := 3) (jn := ((((pz + 1) + 1) + 1) + 1)) X108 hx hZ N54 P108 rfl hkA2 (hb hby d6_58) rfl (own_oN (by omega)) (own_llt (own_sl (own_sl (own_sl (own_sl (own_cgl hpA (by omega)))))) (by omega)) (pc' := 59) rfl ?_
              intro T109 L55 N55 X109 P109
              replace P109 : HP n0 T109.heap [c29, q1, AC kk (List.map Value.int pA), AC kA2 (List.map Value.int ((((((pA ++ List.replicate (pM - pN) 0).set pz (nar .byte (Int8.toInt32 (Int32.toInt8 (Int64.toInt32 ((Int64.ofNat pn) ||| (128 : Int64))))))).set (pz + 1) (nar .byte (Int8.toInt32 (Int32.toInt8 (Int64.toInt32 ((Int64.ofNat (pn / 128)) ||| (128 : Int64))))))).set ((pz + 1) + 1) (nar .byte (Int8.toInt32 (Int32.toInt8 (Int64.toInt32 ((Int64.ofNat (pn / 128 / 128)) ||| (128 : Int64))))))).set (((pz + 1) + 1) + 1) (nar .byte (Int8.toInt32 (Int32.toInt8 (Int64.toInt32 ((Int64.ofNat (pn / 128 / 128 / 128)) ||| (128 : Int64))))))).set ((((pz + 1) + 1) + 1) + 1) (nar .byte (Int8.toInt32 (Int32.toInt8 (Int64.toInt32 ((Int64.ofNat (pn / 128 / 128 / 128 / 128)) ||| (128 : Int64))))))))] := P109
              refine w_lloadN X109 hx (hb hby d6_59) rfl (pc' := 60) rfl ?_
              refine w_bipush (v := (7 : Int32)) X109 hx (hb hby d6_60) rfl (pc' := 62) rfl ?_
              refine w_lushr X109 hx (hb hby d6_62) (pc' := 63) rfl ?_
              refine w_eqJ (z := (Int64.ofNat (pn / 128 / 128 / 128 / 128 / 128))) (own_jshr (by omega)) ?_
              refine w_lstoreN (l' := #[.val (.ref (n0 + 0)), .val (.long (Int64.ofNat pn)), .second, .val (.long (Int64.ofNat (pn / 128 / 128 / 128 / 128 / 128))), .second]) X109 hx (hb hby d6_63) rfl (pc' := 64) rfl ?_
              refine w_goto X109 hx (hb hby d6_64) (by decide) (pc' := 28) (by decide) ?_
              refine w_lloadN X109 hx (hb hby d6_28) rfl (pc' := 29) rfl ?_
              refine w_ldc2 X109 hx (hb hby d6_29) hown (mvT hZ (wd48 hw)) (pc' := 32) rfl ?_
              refine w_lcmp_lt X109 hx (hb hby d6_32) rfl (hb hby d6_33) (by decide) (pcY := 67) (by decide) (pc' := 36) rfl (fun h15 => ?_) (fun h15 => ?_)
              · refine w_aloadN X109 hx (hb hby d6_67) rfl rfl (pc' := 68) rfl ?_
                refine w_getf (i := 0) (v := .ref (n0 + 3)) X109 hx hZ hown (wd11 hw) P109 rfl F29 0 rfl rfl (hb hby d6_68) (pc' := 71) rfl ?_
                intro T110 X110 P110
                refine w_aloadN X110 hx (hb hby d6_71) rfl rfl (pc' := 72) rfl ?_
                refine w_dup X110 hx (hb hby d6_72) rfl (pc' := 73) rfl ?_
                refine w_getf (i := 0) (v := .int (Int32.ofNat (((((pz + 1) + 1) + 1) + 1) + 1))) X110 hx hZ hown (wd18 hw) P110 rfl F29 1 rfl rfl (hb hby d6_73) (pc' := 76) rfl ?_
                intro T111 X111 P111
                refine w_dupX1 X111 hx (hb hby d6_76) rfl rfl (pc' := 77) rfl ?_
                refine w_iconst (v := (1 : Int32)) X111 hx (hb hby d6_77) rfl (pc' := 78) rfl ?_
                refine w_iadd X111 hx (hb hby d6_78) (pc' := 79) rfl ?_
                refine w_eqI (z := (Int32.ofNat ((((((pz + 1) + 1) + 1) + 1) + 1) + 1))) (own_oadd (((((pz + 1) + 1) + 1) + 1) + 1) 1) ?_
                refine w_putf (i := 0) (ty := .int) X111 hx hZ hown (wd18 hw) N55 P111 rfl F29 (di_C0 hw) 1 rfl (Or.inl (wd19 hw)) (wd2 hw) (by decide) rfl rfl (hb hby d6_79) (pc' := 82) rfl ?_
                intro T112 L56 c30 N56 X112 P112 F30
                replace P112 : HP n0 T112.heap [c30, q1, AC kk (List.map Value.int pA), AC kA2 (List.map Value.int ((((((pA ++ List.replicate (pM - pN) 0).set pz (nar .byte (Int8.toInt32 (Int32.toInt8 (Int64.toInt32 ((Int64.ofNat pn) ||| (128 : Int64))))))).set (pz + 1) (nar .byte (Int8.toInt32 (Int32.toInt8 (Int64.toInt32 ((Int64.ofNat (pn / 128)) ||| (128 : Int64))))))).set ((pz + 1) + 1) (nar .byte (Int8.toInt32 (Int32.toInt8 (Int64.toInt32 ((Int64.ofNat (pn / 128 / 128)) ||| (128 : Int64))))))).set (((pz + 1) + 1) + 1) (nar .byte (Int8.toInt32 (Int32.toInt8 (Int64.toInt32 ((Int64.ofNat (pn / 128 / 128 / 128)) ||| (128 : Int64))))))).set ((((pz + 1) + 1) + 1) + 1) (nar .byte (Int8.toInt32 (Int32.toInt8 (Int64.toInt32 ((Int64.ofNat (pn / 128 / 128 / 128 / 128)) ||| (128 : Int64))))))))] := P112
                replace F30 : ObjF Z c30 "com/example/dirichlet/dirichlet/index/ByteSink" fl_C0 [.ref (n0 + 3), .int (Int32.ofNat ((((((pz + 1) + 1) + 1) + 1) + 1) + 1))] := F30
                refine w_lloadN X112 hx (hb hby d6_82) rfl (pc' := 83) rfl ?_
                refine w_l2i X112 hx (hb hby d6_83) (pc' := 84) rfl ?_
                refine w_i2b X112 hx (hb hby d6_84) (pc' := 85) rfl ?_
                refine w_bastoreEL (i := 3) (jn := (((((pz + 1) + 1) + 1) + 1) + 1)) X112 hx hZ N56 P112 rfl hkA2 (hb hby d6_85) rfl (own_oN (by omega)) (own_llt (own_sl (own_sl (own_sl (own_sl (own_sl (own_cgl hpA (by omega))))))) (by omega)) (pc' := 86) rfl ?_
                intro T113 L57 N57 X113 P113
                replace P113 : HP n0 T113.heap [c30, q1, AC kk (List.map Value.int pA), AC kA2 (List.map Value.int (((((((pA ++ List.replicate (pM - pN) 0).set pz (nar .byte (Int8.toInt32 (Int32.toInt8 (Int64.toInt32 ((Int64.ofNat pn) ||| (128 : Int64))))))).set (pz + 1) (nar .byte (Int8.toInt32 (Int32.toInt8 (Int64.toInt32 ((Int64.ofNat (pn / 128)) ||| (128 : Int64))))))).set ((pz + 1) + 1) (nar .byte (Int8.toInt32 (Int32.toInt8 (Int64.toInt32 ((Int64.ofNat (pn / 128 / 128)) ||| (128 : Int64))))))).set (((pz + 1) + 1) + 1) (nar .byte (Int8.toInt32 (Int32.toInt8 (Int64.toInt32 ((Int64.ofNat (pn / 128 / 128 / 128)) ||| (128 : Int64))))))).set ((((pz + 1) + 1) + 1) + 1) (nar .byte (Int8.toInt32 (Int32.toInt8 (Int64.toInt32 ((Int64.ofNat (pn / 128 / 128 / 128 / 128)) ||| (128 : Int64))))))).set (((((pz + 1) + 1) + 1) + 1) + 1) (nar .byte (Int8.toInt32 (Int32.toInt8 (Int64.toInt32 (Int64.ofNat (pn / 128 / 128 / 128 / 128 / 128))))))))] := P113
                have eB : own_bytes 8 pn = [own_hi (pn), own_hi (pn / 128), own_hi (pn / 128 / 128), own_hi (pn / 128 / 128 / 128), own_hi (pn / 128 / 128 / 128 / 128), own_lo (pn / 128 / 128 / 128 / 128 / 128)] := by rw [own_bS, if_neg h10, own_bS, if_neg h11, own_bS, if_neg h12, own_bS, if_neg h13, own_bS, if_neg h14, own_bS, if_pos h15]
                exact w_ret_v X113 hx hret hlk (hb hby d6_86) (by decide) (by decide) ⟨rfl, N57, Or.inr ⟨hgr, kA2, hkA2, own_puts (pA ++ List.replicate (pM - pN) 0) pz (own_bytes 8 pn), (by rw [own_pl]; exact (own_cgl hpA (by omega))), own_Bput _ _ _ (own_Bapp hB) (own_Bb _ _), own_W2 (by rw [hpA]; omega) (by rw [hpl, own_cgl hpA (by omega)]; omega), c30, (by rw [← hpe, ← hpl, eB]; exact F30), (by rw [eB]; exact P113)⟩⟩
              · refine w_aloadN X109 hx (hb hby d6_36) rfl rfl (pc' := 37) rfl ?_
                refine w_getf (i := 0) (v := .ref (n0 + 3)) X109 hx hZ hown (wd11 hw) P109 rfl F29 0 rfl rfl (hb hby d6_37) (pc' := 40) rfl ?_
                intro T114 X114 P114
                refine w_aloadN X114 hx (hb hby d6_40) rfl rfl (pc' := 41) rfl ?_
                refine w_dup X114 hx (hb hby d6_41) rfl (pc' := 42) rfl ?_
                refine w_getf (i := 0) (v := .int (Int32.ofNat (((((pz + 1) + 1) + 1) + 1) + 1))) X114 hx hZ hown (wd18 hw) P114 rfl F29 1 rfl rfl (hb hby d6_42) (pc' := 45) rfl ?_
                intro T115 X115 P115
                refine w_dupX1 X115 hx (hb hby d6_45) rfl rfl (pc' := 46) rfl ?_
                refine w_iconst (v := (1 : Int32)) X115 hx (hb hby d6_46) rfl (pc' := 47) rfl ?_
                refine w_iadd X115 hx (hb hby d6_47) (pc' := 48) rfl ?_
                refine w_eqI (z := (Int32.ofNat ((((((pz + 1) + 1) + 1) + 1) + 1) + 1))) (own_oadd (((((pz + 1) + 1) + 1) + 1) + 1) 1) ?_
                refine w_putf (i := 0) (ty := .int) X115 hx hZ hown (wd18 hw) N55 P115 rfl F29 (di_C0 hw) 1 rfl (Or.inl (wd19 hw)) (wd2 hw) (by decide) rfl rfl (hb hby d6_48) (pc' := 51) rfl ?_
                intro T116 L58 c31 N58 X116 P116 F31
                replace P116 : HP n0 T116.heap [c31, q1, AC kk (List.map Value.int pA), AC kA2 (List.map Value.int ((((((pA ++ List.replicate (pM - pN) 0).set pz (nar .byte (Int8.toInt32 (Int32.toInt8 (Int64.toInt32 ((Int64.ofNat pn) ||| (128 : Int64))))))).set (pz + 1) (nar .byte (Int8.toInt32 (Int32.toInt8 (Int64.toInt32 ((Int64.ofNat (pn / 128)) ||| (128 : Int64))))))).set ((pz + 1) + 1) (nar .byte (Int8.toInt32 (Int32.toInt8 (Int64.toInt32 ((Int64.ofNat (pn / 128 / 128)) ||| (128 : Int64))))))).set (((pz + 1) + 1) + 1) (nar .byte (Int8.toInt32 (Int32.toInt8 (Int64.toInt32 ((Int64.ofNat (pn / 128 / 128 / 128)) ||| (128 : Int64))))))).set ((((pz + 1) + 1) + 1) + 1) (nar .byte (Int8.toInt32 (Int32.toInt8 (Int64.toInt32 ((Int64.ofNat (pn / 128 / 128 / 128 / 128)) ||| (128 : Int64))))))))] := P116
                replace F31 : ObjF Z c31 "com/example/dirichlet/dirichlet/index/ByteSink" fl_C0 [.ref (n0 + 3), .int (Int32.ofNat ((((((pz + 1) + 1) + 1) + 1) + 1) + 1))] := F31
                refine w_lloadN X116 hx (hb hby d6_51) rfl (pc' := 52) rfl ?_
                refine w_ldc2 X116 hx (hb hby d6_52) hown (mvT hZ (wd48 hw)) (pc' := 55) rfl ?_
                refine w_lor X116 hx (hb hby d6_55) (pc' := 56) rfl ?_
                refine w_l2i X116 hx (hb hby d6_56) (pc' := 57) rfl ?_
                refine w_i2b X116 hx (hb hby d6_57) (pc' := 58) rfl ?_
                refine w_bastoreEL (i := 3) (jn := (((((pz + 1) + 1) + 1) + 1) + 1)) X116 hx hZ N58 P116 rfl hkA2 (hb hby d6_58) rfl (own_oN (by omega)) (own_llt (own_sl (own_sl (own_sl (own_sl (own_sl (own_cgl hpA (by omega))))))) (by omega)) (pc' := 59) rfl ?_
                intro T117 L59 N59 X117 P117
                replace P117 : HP n0 T117.heap [c31, q1, AC kk (List.map Value.int pA), AC kA2 (List.map Value.int (((((((pA ++ List.replicate (pM - pN) 0).set pz (nar .byte (Int8.toInt32 (Int32.toInt8 (Int64.toInt32 ((Int64.ofNat pn) ||| (128 : Int64))))))).set (pz + 1) (nar .byte (Int8.toInt32 (Int32.toInt8 (Int64.toInt32 ((Int64.ofNat (pn / 128)) ||| (128 : Int64))))))).set ((pz + 1) + 1) (nar .byte (Int8.toInt32 (Int32.toInt8 (Int64.toInt32 ((Int64.ofNat (pn / 128 / 128)) ||| (128 : Int64))))))).set (((pz + 1) + 1) + 1) (nar .byte (Int8.toInt32 (Int32.toInt8 (Int64.toInt32 ((Int64.ofNat (pn / 128 / 128 / 128)) ||| (128 : Int64))))))).set ((((pz + 1) + 1) + 1) + 1) (nar .byte (Int8.toInt32 (Int32.toInt8 (Int64.toInt32 ((Int64.ofNat (pn / 128 / 128 / 128 / 128)) ||| (128 : Int64))))))).set (((((pz + 1) + 1) + 1) + 1) + 1) (nar .byte (Int8.toInt32 (Int32.toInt8 (Int64.toInt32 ((Int64.ofNat (pn / 128 / 128 / 128 / 128 / 128)) ||| (128 : Int64))))))))] := P117
                refine w_lloadN X117 hx (hb hby d6_59) rfl (pc' := 60) rfl ?_
                refine w_bipush (v := (7 : Int32)) X117 hx (hb hby d6_60) rfl (pc' := 62) rfl ?_
                refine w_lushr X117 hx (hb hby d6_62) (pc' := 63) rfl ?_
                refine w_eqJ (z := (Int64.ofNat (pn / 128 / 128 / 128 / 128 / 128 / 128))) (own_jshr (by omega)) ?_
                refine w_lstoreN (l' := #[.val (.ref (n0 + 0)), .val (.long (Int64.ofNat pn)), .second, .val (.long (Int64.ofNat (pn / 128 / 128 / 128 / 128 / 128 / 128))), .second]) X117 hx (hb hby d6_63) rfl (pc' := 64) rfl ?_
                refine w_goto X117 hx (hb hby d6_64) (by decide) (pc' := 28) (by decide) ?_
                refine w_lloadN X117 hx (hb hby d6_28) rfl (pc' := 29) rfl ?_
                refine w_ldc2 X117 hx (hb hby d6_29) hown (mvT hZ (wd48 hw)) (pc' := 32) rfl ?_
                refine w_lcmp_lt X117 hx (hb hby d6_32) rfl (hb hby d6_33) (by decide) (pcY := 67) (by decide) (pc' := 36) rfl (fun h16 => ?_) (fun h16 => ?_)
                · refine w_aloadN X117 hx (hb hby d6_67) rfl rfl (pc' := 68) rfl ?_
                  refine w_getf (i := 0) (v := .ref (n0 + 3)) X117 hx hZ hown (wd11 hw) P117 rfl F31 0 rfl rfl (hb hby d6_68) (pc' := 71) rfl ?_
                  intro T118 X118 P118
                  refine w_aloadN X118 hx (hb hby d6_71) rfl rfl (pc' := 72) rfl ?_
                  refine w_dup X118 hx (hb hby d6_72) rfl (pc' := 73) rfl ?_
                  refine w_getf (i := 0) (v := .int (Int32.ofNat ((((((pz + 1) + 1) + 1) + 1) + 1) + 1))) X118 hx hZ hown (wd18 hw) P118 rfl F31 1 rfl rfl (hb hby d6_73) (pc' := 76) rfl ?_
                  intro T119 X119 P119
                  refine w_dupX1 X119 hx (hb hby d6_76) rfl rfl (pc' := 77) rfl ?_
                  refine w_iconst (v := (1 : Int32)) X119 hx (hb hby d6_77) rfl (pc' := 78) rfl ?_
                  refine w_iadd X119 hx (hb hby d6_78) (pc' := 79) rfl ?_
                  refine w_eqI (z := (Int32.ofNat (((((((pz + 1) + 1) + 1) + 1) + 1) + 1) + 1))) (own_oadd ((((((pz + 1) + 1) + 1) + 1) + 1) + 1) 1) ?_
                  refine w_putf (i := 0) (ty := .int) X119 hx hZ hown (wd18 hw) N59 P119 rfl F31 (di_C0 hw) 1 rfl (Or.inl (wd19 hw)) (wd2 hw) (by decide) rfl rfl (hb hby d6_79) (pc' := 82) rfl ?_
                  intro T120 L60 c32 N60 X120 P120 F32
                  replace P120 : HP n0 T120.heap [c32, q1, AC kk (List.map Value.int pA), AC kA2 (List.map Value.int (((((((pA ++ List.replicate (pM - pN) 0).set pz (nar .byte (Int8.toInt32 (Int32.toInt8 (Int64.toInt32 ((Int64.ofNat pn) ||| (128 : Int64))))))).set (pz + 1) (nar .byte (Int8.toInt32 (Int32.toInt8 (Int64.toInt32 ((Int64.ofNat (pn / 128)) ||| (128 : Int64))))))).set ((pz + 1) + 1) (nar .byte (Int8.toInt32 (Int32.toInt8 (Int64.toInt32 ((Int64.ofNat (pn / 128 / 128)) ||| (128 : Int64))))))).set (((pz + 1) + 1) + 1) (nar .byte (Int8.toInt32 (Int32.toInt8 (Int64.toInt32 ((Int64.ofNat (pn / 128 / 128 / 128)) ||| (128 : Int64))))))).set ((((pz + 1) + 1) + 1) + 1) (nar .byte (Int8.toInt32 (Int32.toInt8 (Int64.toInt32 ((Int64.ofNat (pn / 128 / 128 / 128 / 128)) ||| (128 : Int64))))))).set (((((pz + 1) + 1) + 1) + 1) + 1) (nar .byte (Int8.toInt32 (Int32.toInt8 (Int64.toInt32 ((Int64.ofNat (pn / 128 / 128 / 128 / 128 / 128)) ||| (128 : Int64))))))))] := P120
                  replace F32 : ObjF Z c32 "com/example/dirichlet/dirichlet/index/ByteSink" fl_C0 [.ref (n0 + 3), .int (Int32.ofNat (((((((pz + 1) + 1) + 1) + 1) + 1) + 1) + 1))] := F32
                  refine w_lloadN X120 hx (hb hby d6_82) rfl (pc' := 83) rfl ?_
                  refine w_l2i X120 hx (hb hby d6_83) (pc' := 84) rfl ?_
                  refine w_i2b X120 hx (hb hby d6_84) (pc' := 85) rfl ?_
                  refine w_bastoreEL (i := 3) (jn := ((((((pz + 1) + 1) + 1) + 1) + 1) + 1)) X120 hx hZ N60 P120 rfl hkA2 (hb hby d6_85) rfl (own_oN (by omega)) (own_llt (own_sl (own_sl (own_sl (own_sl (own_sl (own_sl (own_cgl hpA (by omega)))))))) (by omega)) (pc' := 86) rfl ?_
                  intro T121 L61 N61 X121 P121
                  replace P121 : HP n0 T121.heap [c32, q1, AC kk (List.map Value.int pA), AC kA2 (List.map Value.int ((((((((pA ++ List.replicate (pM - pN) 0).set pz (nar .byte (Int8.toInt32 (Int32.toInt8 (Int64.toInt32 ((Int64.ofNat pn) ||| (128 : Int64))))))).set (pz + 1) (nar .byte (Int8.toInt32 (Int32.toInt8 (Int64.toInt32 ((Int64.ofNat (pn / 128)) ||| (128 : Int64))))))).set ((pz + 1) + 1) (nar .byte (Int8.toInt32 (Int32.toInt8 (Int64.toInt32 ((Int64.ofNat (pn / 128 / 128)) ||| (128 : Int64))))))).set (((pz + 1) + 1) + 1) (nar .byte (Int8.toInt32 (Int32.toInt8 (Int64.toInt32 ((Int64.ofNat (pn / 128 / 128 / 128)) ||| (128 : Int64))))))).set ((((pz + 1) + 1) + 1) + 1) (nar .byte (Int8.toInt32 (Int32.toInt8 (Int64.toInt32 ((Int64.ofNat (pn / 128 / 128 / 128 / 128)) ||| (128 : Int64))))))).set (((((pz + 1) + 1) + 1) + 1) + 1) (nar .byte (Int8.toInt32 (Int32.toInt8 (Int64.toInt32 ((Int64.ofNat (pn / 128 / 128 / 128 / 128 / 128)) ||| (128 : Int64))))))).set ((((((pz + 1) + 1) + 1) + 1) + 1) + 1) (nar .byte (Int8.toInt32 (Int32.toInt8 (Int64.toInt32 (Int64.ofNat (pn / 128 / 128 / 128 / 128 / 128 / 128))))))))] := P121
                  have eB : own_bytes 8 pn = [own_hi (pn), own_hi (pn / 128), own_hi (pn / 128 / 128), own_hi (pn / 128 / 128 / 128), own_hi (pn / 128 / 128 / 128 / 128), own_hi (pn / 128 / 128 / 128 / 128 / 128), own_lo (pn / 128 / 128 / 128 / 128 / 128 / 128)] := by rw [own_bS, if_neg h10, own_bS, if_neg h11, own_bS, if_neg h12, own_bS, if_neg h13, own_bS, if_neg h14, own_bS, if_neg h15, own_bS, if_pos h16]
                  exact w_ret_v X121 hx hret hlk (hb hby d6_86) (by decide) (by decide) ⟨rfl, N61, Or.inr ⟨hgr, kA2, hkA2, own_puts (pA ++ List.replicate (pM - pN) 0) pz (own_bytes 8 pn), (by rw [own_pl]; exact (own_cgl hpA (by omega))), own_Bput _ _ _ (own_Bapp hB) (own_Bb _ _), own_W2 (by rw [hpA]; omega) (by rw [hpl, own_cgl hpA (by omega)]; omega), c32, (by rw [← hpe, ← hpl, eB]; exact F32), (by rw [eB]; exact P121)⟩⟩
                · refine w_aloadN X117 hx (hb hby d6_36) rfl rfl (pc' := 37) rfl ?_
                  refine w_getf (i := 0) (v := .ref (n0 + 3)) X117 hx hZ hown (wd11 hw) P117 rfl F31 0 rfl rfl (hb hby d6_37) (pc' := 40) rfl ?_
                  intro T122 X122 P122
                  refine w_aloadN X122 hx (hb hby d6_40) rfl rfl (pc' := 41) rfl ?_
                  refine w_dup X122 hx (hb hby d6_41) rfl (pc' := 42) rfl ?_
                  refine w_getf (i := 0) (v := .int (Int32.ofNat ((((((pz + 1) + 1) + 1) + 1) + 1) + 1))) X122 hx hZ hown (wd18 hw) P122 rfl F31 1 rfl rfl (hb hby d6_42) (pc' := 45) rfl ?_
                  intro T123 X123 P123
                  refine w_dupX1 X123 hx (hb hby d6_45) rfl rfl (pc' := 46) rfl ?_
                  refine w_iconst (v := (1 : Int32)) X123 hx (hb hby d6_46) rfl (pc' := 47) rfl ?_
                  refine w_iadd X123 hx (hb hby d6_47) (pc' := 48) rfl ?_
                  refine w_eqI (z := (Int32.ofNat (((((((pz + 1) + 1) + 1) + 1) + 1) + 1) + 1))) (own_oadd ((((((pz + 1) + 1) + 1) + 1) + 1) + 1) 1) ?_
                  refine w_putf (i := 0) (ty := .int) X123 hx hZ hown (wd18 hw) N59 P123 rfl F31 (di_C0 hw) 1 rfl (Or.inl (wd19 hw)) (wd2 hw) (by decide) rfl rfl (hb hby d6_48) (pc' := 51) rfl ?_
                  intro T124 L62 c33 N62 X124 P124 F33
                  replace P124 : HP n0 T124.heap [c33, q1, AC kk (List.map Value.int pA), AC kA2 (List.map Value.int (((((((pA ++ List.replicate (pM - pN) 0).set pz (nar .byte (Int8.toInt32 (Int32.toInt8 (Int64.toInt32 ((Int64.ofNat pn) ||| (128 : Int64))))))).set (pz + 1) (nar .byte (Int8.toInt32 (Int32.toInt8 (Int64.toInt32 ((Int64.ofNat (pn / 128)) ||| (128 : Int64))))))).set ((pz + 1) + 1) (nar .byte (Int8.toInt32 (Int32.toInt8 (Int64.toInt32 ((Int64.ofNat (pn / 128 / 128)) ||| (128 : Int64))))))).set (((pz + 1) + 1) + 1) (nar .byte (Int8.toInt32 (Int32.toInt8 (Int64.toInt32 ((Int64.ofNat (pn / 128 / 128 / 128)) ||| (128 : Int64))))))).set ((((pz + 1) + 1) + 1) + 1) (nar .byte (Int8.toInt32 (Int32.toInt8 (Int64.toInt32 ((Int64.ofNat (pn / 128 / 128 / 128 / 128)) ||| (128 : Int64))))))).set (((((pz + 1) + 1) + 1) + 1) + 1) (nar .byte (Int8.toInt32 (Int32.toInt8 (Int64.toInt32 ((Int64.ofNat (pn / 128 / 128 / 128 / 128 / 128)) ||| (128 : Int64))))))))] := P124
                  replace F33 : ObjF Z c33 "com/example/dirichlet/dirichlet/index/ByteSink" fl_C0 [.ref (n0 + 3), .int (Int32.ofNat (((((((pz + 1) + 1) + 1) + 1) + 1) + 1) + 1))] := F33
                  refine w_lloadN X124 hx (hb hby d6_51) rfl (pc' := 52) rfl ?_
                  refine w_ldc2 X124 hx (hb hby d6_52) hown (mvT hZ (wd48 hw)) (pc' := 55) rfl ?_
                  refine w_lor X124 hx (hb hby d6_55) (pc' := 56) rfl ?_
                  refine w_l2i X124 hx (hb hby d6_56) (pc' := 57) rfl ?_
                  refine w_i2b X124 hx (hb hby d6_57) (pc' := 58) rfl ?_
                  refine w_bastoreEL (i := 3) (jn := ((((((pz + 1) + 1) + 1) + 1) + 1) + 1)) X124 hx hZ N62 P124 rfl hkA2 (hb hby d6_58) rfl (own_oN (by omega)) (own_llt (own_sl (own_sl (own_sl (own_sl (own_sl (own_sl (own_cgl hpA (by omega)))))))) (by omega)) (pc' := 59) rfl ?_
                  intro T125 L63 N63 X125 P125
                  replace P125 : HP n0 T125.heap [c33, q1, AC kk (List.map Value.int pA), AC kA2 (List.map Value.int ((((((((pA ++ List.replicate (pM - pN) 0).set pz (nar .byte (Int8.toInt32 (Int32.toInt8 (Int64.toInt32 ((Int64.ofNat pn) ||| (128 : Int64))))))).set (pz + 1) (nar .byte (Int8.toInt32 (Int32.toInt8 (Int64.toInt32 ((Int64.ofNat (pn / 128)) ||| (128 : Int64))))))).set ((pz + 1) + 1) (nar .byte (Int8.toInt32 (Int32.toInt8 (Int64.toInt32 ((Int64.ofNat (pn / 128 / 128)) ||| (128 : Int64))))))).set (((pz + 1) + 1) + 1) (nar .byte (Int8.toInt32 (Int32.toInt8 (Int64.toInt32 ((Int64.ofNat (pn / 128 / 128 / 128)) ||| (128 : Int64))))))).set ((((pz + 1) + 1) + 1) + 1) (nar .byte (Int8.toInt32 (Int32.toInt8 (Int64.toInt32 ((Int64.ofNat (pn / 128 / 128 / 128 / 128)) ||| (128 : Int64))))))).set (((((pz + 1) + 1) + 1) + 1) + 1) (nar .byte (Int8.toInt32 (Int32.toInt8 (Int64.toInt32 ((Int64.ofNat (pn / 128 / 128 / 128 / 128 / 128)) ||| (128 : Int64))))))).set ((((((pz + 1) + 1) + 1) + 1) + 1) + 1) (nar .byte (Int8.toInt32 (Int32.toInt8 (Int64.toInt32 ((Int64.ofNat (pn / 128 / 128 / 128 / 128 / 128 / 128)) ||| (128 : Int64))))))))] := P125
                  refine w_lloadN X125 hx (hb hby d6_59) rfl (pc' := 60) rfl ?_
                  refine w_bipush (v := (7 : Int32)) X125 hx (hb hby d6_60) rfl (pc' := 62) rfl ?_
                  refine w_lushr X125 hx (hb hby d6_62) (pc' := 63) rfl ?_
                  refine w_eqJ (z := (Int64.ofNat (pn / 128 / 128 / 128 / 128 / 128 / 128 / 128))) (own_jshr (by omega)) ?_
                  refine w_lstoreN (l' := #[.val (.ref (n0 + 0)), .val (.long (Int64.ofNat pn)), .second, .val (.long (Int64.ofNat (pn / 128 / 128 / 128 / 128 / 128 / 128 / 128))), .second]) X125 hx (hb hby d6_63) rfl (pc' := 64) rfl ?_
                  refine w_goto X125 hx (hb hby d6_64) (by decide) (pc' := 28) (by decide) ?_
                  refine w_lloadN X125 hx (hb hby d6_28) rfl (pc' := 29) rfl ?_
                  refine w_ldc2 X125 hx (hb hby d6_29) hown (mvT hZ (wd48 hw)) (pc' := 32) rfl ?_
                  refine w_lcmp_lt X125 hx (hb hby d6_32) rfl (hb hby d6_33) (by decide) (pcY := 67) (by decide) (pc' := 36) rfl (fun h17 => ?_) (fun h17 => ?_)
                  · refine w_aloadN X125 hx (hb hby d6_67) rfl rfl (pc' := 68) rfl ?_
                    refine w_getf (i := 0) (v := .ref (n0 + 3)) X125 hx hZ hown (wd11 hw) P125 rfl F33 0 rfl rfl (hb hby d6_68) (pc' := 71) rfl ?_
                    intro T126 X126 P126
                    refine w_aloadN X126 hx (hb hby d6_71) rfl rfl (pc' := 72) rfl ?_
                    refine w_dup X126 hx (hb hby d6_72) rfl (pc' := 73) rfl ?_
                    refine w_getf (i := 0) (v := .int (Int32.ofNat (((((((pz + 1) + 1) + 1) + 1) + 1) + 1) + 1))) X126 hx hZ hown (wd18 hw) P126 rfl F33 1 rfl rfl (hb hby d6_73) (pc' := 76) rfl ?_
                    intro T127 X127 P127
                    refine w_dupX1 X127 hx (hb hby d6_76) rfl rfl (pc' := 77) rfl ?_
                    refine w_iconst (v := (1 : Int32)) X127 hx (hb hby d6_77) rfl (pc' := 78) rfl ?_
                    refine w_iadd X127 hx (hb hby d6_78) (pc' := 79) rfl ?_
                    refine w_eqI (z := (Int32.ofNat ((((((((pz + 1) + 1) + 1) + 1) + 1) + 1) + 1) + 1))) (own_oadd (((((((pz + 1) + 1) + 1) + 1) + 1) + 1) + 1) 1) ?_
                    refine w_putf (i := 0) (ty := .int) X127 hx hZ hown (wd18 hw) N63 P127 rfl F33 (di_C0 hw) 1 rfl (Or.inl (wd19 hw)) (wd2 hw) (by decide) rfl rfl (hb hby d6_79) (pc' := 82) rfl ?_
                    intro T128 L64 c34 N64 X128 P128 F34
                    replace P128 : HP n0 T128.heap [c34, q1, AC kk (List.map Value.int pA), AC kA2 (List.map Value.int ((((((((pA ++ List.replicate (pM - pN) 0).set pz (nar .byte (Int8.toInt32 (Int32.toInt8 (Int64.toInt32 ((Int64.ofNat pn) ||| (128 : Int64))))))).set (pz + 1) (nar .byte (Int8.toInt32 (Int32.toInt8 (Int64.toInt32 ((Int64.ofNat (pn / 128)) ||| (128 : Int64))))))).set ((pz + 1) + 1) (nar .byte (Int8.toInt32 (Int32.toInt8 (Int64.toInt32 ((Int64.ofNat (pn / 128 / 128)) ||| (128 : Int64))))))).set (((pz + 1) + 1) + 1) (nar .byte (Int8.toInt32 (Int32.toInt8 (Int64.toInt32 ((Int64.ofNat (pn / 128 / 128 / 128)) ||| (128 : Int64))))))).set ((((pz + 1) + 1) + 1) + 1) (nar .byte (Int8.toInt32 (Int32.toInt8 (Int64.toInt32 ((Int64.ofNat (pn / 128 / 128 / 128 / 128)) ||| (128 : Int64))))))).set (((((pz + 1) + 1) + 1) + 1) + 1) (nar .byte (Int8.toInt32 (Int32.toInt8 (Int64.toInt32 ((Int64.ofNat (pn / 128 / 128 / 128 / 128 / 128)) ||| (128 : Int64))))))).set ((((((pz + 1) + 1) + 1) + 1) + 1) + 1) (nar .byte (Int8.toInt32 (Int32.toInt8 (Int64.toInt32 ((Int64.ofNat (pn / 128 / 128 / 128 / 128 / 128 / 128)) ||| (128 : Int64))))))))] := P128
                    replace F34 : ObjF Z c34 "com/example/dirichlet/dirichlet/index/ByteSink" fl_C0 [.ref (n0 + 3), .int (Int32.ofNat ((((((((pz + 1) + 1) + 1) + 1) + 1) + 1) + 1) + 1))] := F34
                    refine w_lloadN X128 hx (hb hby d6_82) rfl (pc' := 83) rfl ?_
                    refine w_l2i X128 hx (hb hby d6_83) (pc' := 84) rfl ?_
                    refine w_i2b X128 hx (hb hby d6_84) (pc' := 85) rfl ?_
                    refine w_bastoreEL (i := 3) (jn := (((((((pz + 1) + 1) + 1) + 1) + 1) + 1) + 1)) X128 hx hZ N64 P128 rfl hkA2 (hb hby d6_85) rfl (own_oN (by omega)) (own_llt (own_sl (own_sl (own_sl (own_sl (own_sl (own_sl (own_sl (own_cgl hpA (by omega))))))))) (by omega)) (pc' := 86) rfl ?_
                    intro T129 L65 N65 X129 P129
                    replace P129 : HP n0 T129.heap [c34, q1, AC kk (List.map Value.int pA), AC kA2 (List.map Value.int (((((((((pA ++ List.replicate (pM - pN) 0).set pz (nar .byte (Int8.toInt32 (Int32.toInt8 (Int64.toInt32 ((Int64.ofNat pn) ||| (128 : Int64))))))).set (pz + 1) (nar .byte (Int8.toInt32 (Int32.toInt8 (Int64.toInt32 ((Int64.ofNat (pn / 128)) ||| (128 : Int64))))))).set ((pz + 1) + 1) (nar .byte (Int8.toInt32 (Int32.toInt8 (Int64.toInt32 ((Int64.ofNat (pn / 128 / 128)) ||| (128 : Int64))))))).set (((pz + 1) + 1) + 1) (nar .byte (Int8.toInt32 (Int32.toInt8 (Int64.toInt32 ((Int64.ofNat (pn / 128 / 128 / 128)) ||| (128 : Int64))))))).set ((((pz + 1) + 1) + 1) + 1) (nar .byte (Int8.toInt32 (Int32.toInt8 (Int64.toInt32 ((Int64.ofNat (pn / 128 / 128 / 128 / 128)) ||| (128 : Int64))))))).set (((((pz + 1) + 1) + 1) + 1) + 1) (nar .byte (Int8.toInt32 (Int32.toInt8 (Int64.toInt32 ((Int64.ofNat (pn / 128 / 128 / 128 / 128 / 128)) ||| (128 : Int64))))))).set ((((((pz + 1) + 1) + 1) + 1) + 1) + 1) (nar .byte (Int8.toInt32 (Int32.toInt8 (Int64.toInt32 ((Int64.ofNat (pn / 128 / 128 / 128 / 128 / 128 / 128)) ||| (128 : Int64))))))).set (((((((pz + 1) + 1) + 1) + 1) + 1) + 1) + 1) (nar .byte (Int8.toInt32 (Int32.toInt8 (Int64.toInt32 (Int64.ofNat (pn / 128 / 128 / 128 / 128 / 128 / 128 / 128))))))))] := P129
                    have eB : own_bytes 8 pn = [own_hi (pn), own_hi (pn / 128), own_hi (pn / 128 / 128), own_hi (pn / 128 / 128 / 128), own_hi (pn / 128 / 128 / 128 / 128), own_hi (pn / 128 / 128 / 128 / 128 / 128), own_hi (pn / 128 / 128 / 128 / 128 / 128 / 128), own_lo (pn / 128 / 128 / 128 / 128 / 128 / 128 / 128)] := by rw [own_bS, if_neg h10, own_bS, if_neg h11, own_bS, if_neg h12, own_bS, if_neg h13, own_bS, if_neg h14, own_bS, if_neg h15, own_bS, if_neg h16, own_bS, if_pos h17]
                    exact w_ret_v X129 hx hret hlk (hb hby d6_86) (by decide) (by decide) ⟨rfl, N65, Or.inr ⟨hgr, kA2, hkA2, own_puts (pA ++ List.replicate (pM - pN) 0) pz (own_bytes 8 pn), (by rw [own_pl]; exact (own_cgl hpA (by omega))), own_Bput _ _ _ (own_Bapp hB) (own_Bb _ _), own_W2 (by rw [hpA]; omega) (by rw [hpl, own_cgl hpA (by omega)]; omega), c34, (by rw [← hpe, ← hpl, eB]; exact F34), (by rw [eB]; exact P129)⟩⟩
                  · refine w_aloadN X125 hx (hb hby d6_36) rfl rfl (pc' := 37) rfl ?_
                    refine w_getf (i := 0) (v := .ref (n0 + 3)) X125 hx hZ hown (wd11 hw) P125 rfl F33 0 rfl rfl (hb hby d6_37) (pc' := 40) rfl ?_
                    intro T130 X130 P130
                    refine w_aloadN X130 hx (hb hby d6_40) rfl rfl (pc' := 41) rfl ?_
                    refine w_dup X130 hx (hb hby d6_41) rfl (pc' := 42) rfl ?_
                    refine w_getf (i := 0) (v := .int (Int32.ofNat (((((((pz + 1) + 1) + 1) + 1) + 1) + 1) + 1))) X130 hx hZ hown (wd18 hw) P130 rfl F33 1 rfl rfl (hb hby d6_42) (pc' := 45) rfl ?_
                    intro T131 X131 P131
                    refine w_dupX1 X131 hx (hb hby d6_45) rfl rfl (pc' := 46) rfl ?_
                    refine w_iconst (v := (1 : Int32)) X131 hx (hb hby d6_46) rfl (pc' := 47) rfl ?_
                    refine w_iadd X131 hx (hb hby d6_47) (pc' := 48) rfl ?_
                    refine w_eqI (z := (Int32.ofNat ((((((((pz + 1) + 1) + 1) + 1) + 1) + 1) + 1) + 1))) (own_oadd (((((((pz + 1) + 1) + 1) + 1) + 1) + 1) + 1) 1) ?_
                    refine w_putf (i := 0) (ty := .int) X131 hx hZ hown (wd18 hw) N63 P131 rfl F33 (di_C0 hw) 1 rfl (Or.inl (wd19 hw)) (wd2 hw) (by decide) rfl rfl (hb hby d6_48) (pc' := 51) rfl ?_
                    intro T132 L66 c35 N66 X132 P132 F35
                    replace P132 : HP n0 T132.heap [c35, q1, AC kk (List.map Value.int pA), AC kA2 (List.map Value.int ((((((((pA ++ List.replicate (pM - pN) 0).set pz (nar .byte (Int8.toInt32 (Int32.toInt8 (Int64.toInt32 ((Int64.ofNat pn) ||| (128 : Int64))))))).set (pz + 1) (nar .byte (Int8.toInt32 (Int32.toInt8 (Int64.toInt32 ((Int64.ofNat (pn / 128)) ||| (128 : Int64))))))).set ((pz + 1) + 1) (nar .byte (Int8.toInt32 (Int32.toInt8 (Int64.toInt32 ((Int64.ofNat (pn / 128 / 128)) ||| (128 : Int64))))))).set (((pz + 1) + 1) + 1) (nar .byte (Int8.toInt32 (Int32.toInt8 (Int64.toInt32 ((Int64.ofNat (pn / 128 / 128 / 128)) ||| (128 : Int64))))))).set ((((pz + 1) + 1) + 1) + 1) (nar .byte (Int8.toInt32 (Int32.toInt8 (Int64.toInt32 ((Int64.ofNat (pn / 128 / 128 / 128 / 128)) ||| (128 : Int64))))))).set (((((pz + 1) + 1) + 1) + 1) + 1) (nar .byte (Int8.toInt32 (Int32.toInt8 (Int64.toInt32 ((Int64.ofNat (pn / 128 / 128 / 128 / 128 / 128)) ||| (128 : Int64))))))).set ((((((pz + 1) + 1) + 1) + 1) + 1) + 1) (nar .byte (Int8.toInt32 (Int32.toInt8 (Int64.toInt32 ((Int64.ofNat (pn / 128 / 128 / 128 / 128 / 128 / 128)) ||| (128 : Int64))))))))] := P132
                    replace F35 : ObjF Z c35 "com/example/dirichlet/dirichlet/index/ByteSink" fl_C0 [.ref (n0 + 3), .int (Int32.ofNat ((((((((pz + 1) + 1) + 1) + 1) + 1) + 1) + 1) + 1))] := F35
                    refine w_lloadN X132 hx (hb hby d6_51) rfl (pc' := 52) rfl ?_
                    refine w_ldc2 X132 hx (hb hby d6_52) hown (mvT hZ (wd48 hw)) (pc' := 55) rfl ?_
                    refine w_lor X132 hx (hb hby d6_55) (pc' := 56) rfl ?_
                    refine w_l2i X132 hx (hb hby d6_56) (pc' := 57) rfl ?_
                    refine w_i2b X132 hx (hb hby d6_57) (pc' := 58) rfl ?_
                    refine w_bastoreEL (i := 3) (jn := (((((((pz + 1) + 1) + 1) + 1) + 1) + 1) + 1)) X132 hx hZ N66 P132 rfl hkA2 (hb hby d6_58) rfl (own_oN (by omega)) (own_llt (own_sl (own_sl (own_sl (own_sl (own_sl (own_sl (own_sl (own_cgl hpA (by omega))))))))) (by omega)) (pc' := 59) rfl ?_
                    intro T133 L67 N67 X133 P133
                    replace P133 : HP n0 T133.heap [c35, q1, AC kk (List.map Value.int pA), AC kA2 (List.map Value.int (((((((((pA ++ List.replicate (pM - pN) 0).set pz (nar .byte (Int8.toInt32 (Int32.toInt8 (Int64.toInt32 ((Int64.ofNat pn) ||| (128 : Int64))))))).set (pz + 1) (nar .byte (Int8.toInt32 (Int32.toInt8 (Int64.toInt32 ((Int64.ofNat (pn / 128)) ||| (128 : Int64))))))).set ((pz + 1) + 1) (nar .byte (Int8.toInt32 (Int32.toInt8 (Int64.toInt32 ((Int64.ofNat (pn / 128 / 128)) ||| (128 : Int64))))))).set (((pz + 1) + 1) + 1) (nar .byte (Int8.toInt32 (Int32.toInt8 (Int64.toInt32 ((Int64.ofNat (pn / 128 / 128 / 128)) ||| (128 : Int64))))))).set ((((pz + 1) + 1) + 1) + 1) (nar .byte (Int8.toInt32 (Int32.toInt8 (Int64.toInt32 ((Int64.ofNat (pn / 128 / 128 / 128 / 128)) ||| (128 : Int64))))))).set (((((pz + 1) + 1) + 1) + 1) + 1) (nar .byte (Int8.toInt32 (Int32.toInt8 (Int64.toInt32 ((Int64.ofNat (pn / 128 / 128 / 128 / 128 / 128)) ||| (128 : Int64))))))).set ((((((pz + 1) + 1) + 1) + 1) + 1) + 1) (nar .byte (Int8.toInt32 (Int32.toInt8 (Int64.toInt32 ((Int64.ofNat (pn / 128 / 128 / 128 / 128 / 128 / 128)) ||| (128 : Int64))))))).set (((((((pz + 1) + 1) + 1) + 1) + 1) + 1) + 1) (nar .byte (Int8.toInt32 (Int32.toInt8 (Int64.toInt32 ((Int64.ofNat (pn / 128 / 128 / 128 / 128 / 128 / 128 / 128)) ||| (128 : Int64))))))))] := P133
                    refine w_lloadN X133 hx (hb hby d6_59) rfl (pc' := 60) rfl ?_
                    refine w_bipush (v := (7 : Int32)) X133 hx (hb hby d6_60) rfl (pc' := 62) rfl ?_
                    refine w_lushr X133 hx (hb hby d6_62) (pc' := 63) rfl ?_
                    refine w_eqJ (z := (Int64.ofNat (pn / 128 / 128 / 128 / 128 / 128 / 128 / 128 / 128))) (own_jshr (by omega)) ?_
                    refine w_lstoreN (l' := #[.val (.ref (n0 + 0)), .val (.long (Int64.ofNat pn)), .second, .val (.long (Int64.ofNat (pn / 128 / 128 / 128 / 128 / 128 / 128 / 128 / 128))), .second]) X133 hx (hb hby d6_63) rfl (pc' := 64) rfl ?_
                    refine w_goto X133 hx (hb hby d6_64) (by decide) (pc' := 28) (by decide) ?_
                    refine w_lloadN X133 hx (hb hby d6_28) rfl (pc' := 29) rfl ?_
                    refine w_ldc2 X133 hx (hb hby d6_29) hown (mvT hZ (wd48 hw)) (pc' := 32) rfl ?_
                    refine w_lcmp_lt X133 hx (hb hby d6_32) rfl (hb hby d6_33) (by decide) (pcY := 67) (by decide) (pc' := 36) rfl (fun h18 => ?_) (fun h18 => absurd ((own_jlt (a := pn / 128 / 128 / 128 / 128 / 128 / 128 / 128 / 128) (b := 128) (c := 128) rfl (by omega) (by decide)).mpr (by omega)) h18)
                    refine w_aloadN X133 hx (hb hby d6_67) rfl rfl (pc' := 68) rfl ?_
                    refine w_getf (i := 0) (v := .ref (n0 + 3)) X133 hx hZ hown (wd11 hw) P133 rfl F35 0 rfl rfl (hb hby d6_68) (pc' := 71) rfl ?_
                    intro T134 X134 P134
                    refine w_aloadN X134 hx (hb hby d6_71) rfl rfl (pc' := 72) rfl ?_
                    refine w_dup X134 hx (hb hby d6_72) rfl (pc' := 73) rfl ?_
                    refine w_getf (i := 0) (v := .int (Int32.ofNat ((((((((pz + 1) + 1) + 1) + 1) + 1) + 1) + 1) + 1))) X134 hx hZ hown (wd18 hw) P134 rfl F35 1 rfl rfl (hb hby d6_73) (pc' := 76) rfl ?_
                    intro T135 X135 P135
                    refine w_dupX1 X135 hx (hb hby d6_76) rfl rfl (pc' := 77) rfl ?_
                    refine w_iconst (v := (1 : Int32)) X135 hx (hb hby d6_77) rfl (pc' := 78) rfl ?_
                    refine w_iadd X135 hx (hb hby d6_78) (pc' := 79) rfl ?_
                    refine w_eqI (z := (Int32.ofNat (((((((((pz + 1) + 1) + 1) + 1) + 1) + 1) + 1) + 1) + 1))) (own_oadd ((((((((pz + 1) + 1) + 1) + 1) + 1) + 1) + 1) + 1) 1) ?_
                    refine w_putf (i := 0) (ty := .int) X135 hx hZ hown (wd18 hw) N67 P135 rfl F35 (di_C0 hw) 1 rfl (Or.inl (wd19 hw)) (wd2 hw) (by decide) rfl rfl (hb hby d6_79) (pc' := 82) rfl ?_
                    intro T136 L68 c36 N68 X136 P136 F36
                    replace P136 : HP n0 T136.heap [c36, q1, AC kk (List.map Value.int pA), AC kA2 (List.map Value.int (((((((((pA ++ List.replicate (pM - pN) 0).set pz (nar .byte (Int8.toInt32 (Int32.toInt8 (Int64.toInt32 ((Int64.ofNat pn) ||| (128 : Int64))))))).set (pz + 1) (nar .byte (Int8.toInt32 (Int32.toInt8 (Int64.toInt32 ((Int64.ofNat (pn / 128)) ||| (128 : Int64))))))).set ((pz + 1) + 1) (nar .byte (Int8.toInt32 (Int32.toInt8 (Int64.toInt32 ((Int64.ofNat (pn / 128 / 128)) ||| (128 : Int64))))))).set (((pz + 1) + 1) + 1) (nar .byte (Int8.toInt32 (Int32.toInt8 (Int64.toInt32 ((Int64.ofNat (pn / 128 / 128 / 128)) ||| (128 : Int64))))))).set ((((pz + 1) + 1) + 1) + 1) (nar .byte (Int8.toInt32 (Int32.toInt8 (Int64.toInt32 ((Int64.ofNat (pn / 128 / 128 / 128 / 128)) ||| (128 : Int64))))))).set (((((pz + 1) + 1) + 1) + 1) + 1) (nar .byte (Int8.toInt32 (Int32.toInt8 (Int64.toInt32 ((Int64.ofNat (pn / 128 / 128 / 128 / 128 / 128)) ||| (128 : Int64))))))).set ((((((pz + 1) + 1) + 1) + 1) + 1) + 1) (nar .byte (Int8.toInt32 (Int32.toInt8 (Int64.toInt32 ((Int64.ofNat (pn / 128 / 128 / 128 / 128 / 128 / 128)) ||| (128 : Int64))))))).set (((((((pz + 1) + 1) + 1) + 1) + 1) + 1) + 1) (nar .byte (Int8.toInt32 (Int32.toInt8 (Int64.toInt32 ((Int64.ofNat (pn / 128 / 128 / 128 / 128 / 128 / 128 / 128)) ||| (128 : Int64))))))))] := P136
                    replace F36 : ObjF Z c36 "com/example/dirichlet/dirichlet/index/ByteSink" fl_C0 [.ref (n0 + 3), .int (Int32.ofNat (((((((((pz + 1) + 1) + 1) + 1) + 1) + 1) + 1) + 1) + 1))] := F36
                    refine w_lloadN X136 hx (hb hby d6_82) rfl (pc' := 83) rfl ?_
                    refine w_l2i X136 hx (hb hby d6_83) (pc' := 84) rfl ?_
                    refine w_i2b X136 hx (hb hby d6_84) (pc' := 85) rfl ?_
                    refine w_bastoreEL (i := 3) (jn := ((((((((pz + 1) + 1) + 1) + 1) + 1) + 1) + 1) + 1)) X136 hx hZ N68 P136 rfl hkA2 (hb hby d6_85) rfl (own_oN (by omega)) (own_llt (own_sl (own_sl (own_sl (own_sl (own_sl (own_sl (own_sl (own_sl (own_cgl hpA (by omega)))))))))) (by omega)) (pc' := 86) rfl ?_
                    intro T137 L69 N69 X137 P137
                    replace P137 : HP n0 T137.heap [c36, q1, AC kk (List.map Value.int pA), AC kA2 (List.map Value.int ((((((((((pA ++ List.replicate (pM - pN) 0).set pz (nar .byte (Int8.toInt32 (Int32.toInt8 (Int64.toInt32 ((Int64.ofNat pn) ||| (128 : Int64))))))).set (pz + 1) (nar .byte (Int8.toInt32 (Int32.toInt8 (Int64.toInt32 ((Int64.ofNat (pn / 128)) ||| (128 : Int64))))))).set ((pz + 1) + 1) (nar .byte (Int8.toInt32 (Int32.toInt8 (Int64.toInt32 ((Int64.ofNat (pn / 128 / 128)) ||| (128 : Int64))))))).set (((pz + 1) + 1) + 1) (nar .byte (Int8.toInt32 (Int32.toInt8 (Int64.toInt32 ((Int64.ofNat (pn / 128 / 128 / 128)) ||| (128 : Int64))))))).set ((((pz + 1) + 1) + 1) + 1) (nar .byte (Int8.toInt32 (Int32.toInt8 (Int64.toInt32 ((Int64.ofNat (pn / 128 / 128 / 128 / 128)) ||| (128 : Int64))))))).set (((((pz + 1) + 1) + 1) + 1) + 1) (nar .byte (Int8.toInt32 (Int32.toInt8 (Int64.toInt32 ((Int64.ofNat (pn / 128 / 128 / 128 / 128 / 128)) ||| (128 : Int64))))))).set ((((((pz + 1) + 1) + 1) + 1) + 1) + 1) (nar .byte (Int8.toInt32 (Int32.toInt8 (Int64.toInt32 ((Int64.ofNat (pn / 128 / 128 / 128 / 128 / 128 / 128)) ||| (128 : Int64))))))).set (((((((pz + 1) + 1) + 1) + 1) + 1) + 1) + 1) (nar .byte (Int8.toInt32 (Int32.toInt8 (Int64.toInt32 ((Int64.ofNat (pn / 128 / 128 / 128 / 128 / 128 / 128 / 128)) ||| (128 : Int64))))))).set ((((((((pz + 1) + 1) + 1) + 1) + 1) + 1) + 1) + 1) (nar .byte (Int8.toInt32 (Int32.toInt8 (Int64.toInt32 (Int64.ofNat (pn / 128 / 128 / 128 / 128 / 128 / 128 / 128 / 128))))))))] := P137
                    have eB : own_bytes 8 pn = [own_hi (pn), own_hi (pn / 128), own_hi (pn / 128 / 128), own_hi (pn / 128 / 128 / 128), own_hi (pn / 128 / 128 / 128 / 128), own_hi (pn / 128 / 128 / 128 / 128 / 128), own_hi (pn / 128 / 128 / 128 / 128 / 128 / 128), own_hi (pn / 128 / 128 / 128 / 128 / 128 / 128 / 128), own_lo (pn / 128 / 128 / 128 / 128 / 128 / 128 / 128 / 128)] := by rw [own_bS, if_neg h10, own_bS, if_neg h11, own_bS, if_neg h12, own_bS, if_neg h13, own_bS, if_neg h14, own_bS, if_neg h15, own_bS, if_neg h16, own_bS, if_neg h17, own_b0]
                    exact w_ret_v X137 hx hret hlk (hb hby d6_86) (by decide) (by decide) ⟨rfl, N69, Or.inr ⟨hgr, kA2, hkA2, own_puts (pA ++ List.replicate (pM - pN) 0) pz (own_bytes 8 pn), (by rw [own_pl]; exact (own_cgl hpA (by omega))), own_Bput _ _ _ (own_Bapp hB) (own_Bb _ _), own_W2 (by rw [hpA]; omega) (by rw [hpl, own_cgl hpA (by omega)]; omega), c36, (by rw [← hpe, ← hpl, eB]; exact F36), (by rw [eB]; exact P137)⟩⟩
theorem pn0 : plainFor (⟨"com/example/dirichlet/dirichlet/index/ByteSinkToArrayPinLaw", "law", "(IJJII)Z"⟩ : MethodName) = true := plainFor_of_name (by first | (simp [plainName, overriddenIn]; done) | decide +kernel)
theorem pd0 : parseMethodDescriptor (⟨"com/example/dirichlet/dirichlet/index/ByteSinkToArrayPinLaw", "law", "(IJJII)Z"⟩ : MethodName).desc = some ⟨[.int, .long, .long, .int, .int], some .boolean⟩ := by decide +kernel
theorem ef0 (m : MethodId) (x0 : Int32) (x1 : Int64) (x2 : Int64) (x3 : Int32) (x4 : Int32) : entryFrame m #[Value.int x0, Value.long x1, Value.long x2, Value.int x3, Value.int x4] maxLocals = mkF m 0 #[.val (.int x0), .val (.long x1), .second, .val (.long x2), .second, .val (.int x3), .val (.int x4), .unset, .unset, .unset, .unset, .unset, .unset, .unset, .unset, .unset, .unset, .unset, .unset, .unset, .unset, .unset] [] := by first | (simp [entryFrame, mkF, argsToLocals, Value.category, maxLocals]; done) | rfl
def LawQ (n0 : Nat) (v : Option Value) (h : Heap) (L : List Loc) : Prop := v = some (.int 1) ∧ Fr n0 L
set_option maxRecDepth 65536 in
set_option maxHeartbeats 40000000 in
theorem rm0 (l : Launch) (Z : State) (a0 : Array Value) (hw : ∀ d ∈ tables_1, d.before a0 Z = true) (ws : List Jvm.Cond) (x0 : Int32) (x1 : Int64) (x2 : Int64) (x3 : Int32) (x4 : Int32) (h0 : Heap) (n0 : Nat) (Z0 : h0.size = n0) :
    MetFree l x (head1 (Jvm.Cond.code x code maxLocals ret :: ws) room_1) (fun aa U => aa = #[Value.int x0, Value.long x1, Value.long x2, Value.int x3, Value.int x4] ∧ Z.Warmed39 U.vm ∧ U.heap = h0) (fun _ _ _ _ _ => True) (fun _ U o U' => ∃ v L, o = .returned v ∧ LawQ n0 v U'.heap L ∧ FrameEnd U o U' L room_1.cells room_1.slots) := by
  refine own_body pn0 ?_
  intro p e s m below meth c T0 hx hby hml hret hlk hown hnm hZ X0 e0
  subst e0 Z0
  have P0 := HP.nil T0.heap
  generalize T0.heap.size = n0 at P0 ⊢
  have N0 : Fr n0 [] := Fr.nil n0
  refine own_cast (ef0 m x0 x1 x2 x3 x4) ?_
  obtain ⟨c0, hc0, ec0⟩ := own_andk x0 15 15 (by decide)
  obtain ⟨na, hna, ena⟩ := own_jmask x1
  obtain ⟨la, hla⟩ : ∃ z, (own_bytes 8 na).length = z := ⟨_, rfl⟩
  have hla1 := own_bpos 8 na
  have hla9 := own_ble 8 na
  have ela := own_lenE hna
  rw [hla] at hla1 hla9 ela
  obtain ⟨nb, hnb, enb⟩ := own_jmask x2
  obtain ⟨lb, hlb⟩ : ∃ z, (own_bytes 8 nb).length = z := ⟨_, rfl⟩
  have hlb1 := own_bpos 8 nb
  have hlb9 := own_ble 8 nb
  have elb := own_lenE hnb
  rw [hlb] at hlb1 hlb9 elb
  have Jt1 : ∀ (T1 : State) (L1 : List Loc) (tf7 tf8 tf9 : Int32) (tla tlb tN : Nat) (tA : List Int32) (tk : ClassId) (to : Jvm.Cell), Fr n0 L1 → Stand p l e room_1 s m #[Value.int x0, Value.long x1, Value.long x2, Value.int x3, Value.int x4] below meth c T1 L1 4 89 → IsA Z tk .byte → tA.length = tN → own_B tA → tla + tlb ≤ tN → (tla + tlb = tN → tN = 0) → tla ≤ 9 → tlb ≤ 9 → tN ≤ 36 → (∀ j, j < tla → tA.getD j 0 &&& 255 = sp10 (Int64.ofNat na) (Int32.ofNat j) (Int32.ofNat tla)) → (∀ i, tla ≤ i → i < tla + tlb → tA.getD i 0 &&& 255 = sp10 (Int64.ofNat nb) (Int32.ofNat (i - tla)) (Int32.ofNat tlb)) → HP n0 T1.heap [to, AC tk (List.map Value.int tA)] → ObjF Z to "com/example/dirichlet/dirichlet/index/ByteSink" fl_C0 [.ref (n0 + 1), .int (Int32.ofNat (tla + tlb))] → Wp p e s below room_1.cells room_1.slots (LawQ n0) T1 (mkF m 147 #[.val (.int x0), .val (.long x1), .second, .val (.long x2), .second, .val (.int x3), .val (.int x4), .val (.int tf7), .val (.int tf8), .val (.int tf9), .val (.long (Int64.ofNat na)), .second, .val (.long (Int64.ofNat nb)), .second, .val (.ref (n0 + 0)), .val (.int (Int32.ofNat tla)), .val (.int (Int32.ofNat tlb)), .val (.int (Int32.ofNat (tla + tlb))), .unset, .unset, .unset, .unset] []) := by
    intro T1 L1 tf7 tf8 tf9 tla tlb tN tA tk to N1 X1 thk htA htB htn htz htla9 htlb9 htN hcA hcB P1 tF
    refine w_aload X1 hx (hb hby at_147) rfl rfl (pc' := 149) rfl ?_
    refine own_callV (W := 0) X1 hx hZ rfl hown hml.symm (wd13 hw) (wd14 hw) (wd16 hw) (wd15 hw) (wd3 hw) (wd17 hw) (rm_toA10 l Z a0 hw [] n0 to tk tA tN (tla + tlb) _ P1 thk htA tF htB htn htz (by omega) htN) (a := (n0 + 0)) (P1.exa (i := 0) rfl tF.1) (by decide) (by decide) (by decide) (by decide) (by decide) (argsL := []) (rest := []) pd3 rfl rfl rfl (Nat.le_of_eq rfl) (hb hby at_149) (pc' := 152) rfl ?_
    intro v2 T2 L2 X2 hq
    obtain ⟨rfl, N2, kA1, hkA1, P2⟩ := hq
    replace N2 := Fr.app N1 N2
    replace P2 : HP n0 T2.heap [to, AC tk (List.map Value.int tA), AC kA1 (List.map Value.int (List.take (tla + tlb) tA))] := P2
    refine w_astore (l' := #[.val (.int x0), .val (.long x1), .second, .val (.long x2), .second, .val (.int x3), .val (.int x4), .val (.int tf7), .val (.int tf8), .val (.int tf9), .val (.long (Int64.ofNat na)), .second, .val (.long (Int64.ofNat nb)), .second, .val (.ref (n0 + 0)), .val (.int (Int32.ofNat tla)), .val (.int (Int32.ofNat tlb)), .val (.int (Int32.ofNat (tla + tlb))), .val (.ref (n0 + 2)), .unset, .unset, .unset]) X2 hx (hb hby at_152) rfl rfl (pc' := 154) rfl ?_
    refine w_aload X2 hx (hb hby at_154) rfl rfl (pc' := 156) rfl ?_
    refine w_arrlen (i := 2) X2 hx hZ P2 rfl hkA1 (hb hby at_156) (z := (Int32.ofNat (tla + tlb))) (own_len (own_tk htA (by omega))) (pc' := 157) rfl ?_
    refine w_iload X2 hx (hb hby at_157) rfl (pc' := 159) rfl ?_
    refine w_icmp_ne X2 hx (hb hby at_159) (by decide) (pcY := 172) (by decide) (pc' := 162) rfl (fun h0 => absurd rfl h0) (fun h0 => ?_)
    refine w_aload X2 hx (hb hby at_162) rfl rfl (pc' := 164) rfl ?_
    refine own_callV (W := 0) X2 hx hZ rfl hown hml.symm (wd33 hw) (wd34 hw) (wd36 hw) (wd35 hw) (wd3 hw) (wd37 hw) (rm_size l Z a0 hw [] n0 to (n0 + 1) (Int32.ofNat (tla + tlb)) ([AC tk (List.map Value.int tA), AC kA1 (List.map Value.int (List.take (tla + tlb) tA))]) _ P2 tF) (a := (n0 + 0)) (P2.exa (i := 0) rfl tF.1) (by decide) (by decide) (by decide) (by decide) (by decide) (argsL := []) (rest := []) pd5 rfl rfl rfl (Nat.le_of_eq rfl) (hb hby at_164) (pc' := 167) rfl ?_
    intro v3 T3 L3 X3 hq
    obtain ⟨rfl, N3, P3⟩ := hq
    replace N3 := Fr.app N2 N3
    replace P3 : HP n0 T3.heap [to, AC tk (List.map Value.int tA), AC kA1 (List.map Value.int (List.take (tla + tlb) tA))] := P3
    refine w_iload X3 hx (hb hby at_167) rfl (pc' := 169) rfl ?_
    refine w_icmp_eq X3 hx (hb hby at_169) (by decide) (pcY := 174) (by decide) (pc' := 172) rfl (fun h1 => ?_) (fun h1 => absurd rfl h1)
    refine w_iload X3 hx (hb hby at_174) rfl (pc' := 176) rfl ?_
    refine w_if_ne X3 hx (hb hby at_176) (by decide) (pcY := 181) (by decide) (pc' := 179) rfl (fun h2 => ?_) (fun h2 => ?_)
    · have h2n : ¬ (tla + tlb) = 0 := fun q => h2 ((own_oeq (a := (tla + tlb)) (b := 0) (by omega) (by omega)).mpr q)
      obtain ⟨ti, hti, eti⟩ := own_rem x4 (Int32.ofNat (tla + tlb)) (tla + tlb) (own_oN (by omega)) (by omega)
      refine w_iload X3 hx (hb hby at_181) rfl (pc' := 183) rfl ?_
      refine w_ldc X3 hx (hb hby at_183) hown (mvT hZ (wd62 hw)) (pc' := 185) rfl ?_
      refine w_iand X3 hx (hb hby at_185) (pc' := 186) rfl ?_
      refine w_iload X3 hx (hb hby at_186) rfl (pc' := 188) rfl ?_
      refine w_irem X3 hx (hb hby at_188) (own_nz (by omega) (by omega)) (pc' := 189) rfl ?_
      refine w_eqI (z := (Int32.ofNat ti)) eti ?_
      refine w_istore (l' := #[.val (.int x0), .val (.long x1), .second, .val (.long x2), .second, .val (.int x3), .val (.int x4), .val (.int tf7), .val (.int tf8), .val (.int tf9), .val (.long (Int64.ofNat na)), .second, .val (.long (Int64.ofNat nb)), .second, .val (.ref (n0 + 0)), .val (.int (Int32.ofNat tla)), .val (.int (Int32.ofNat tlb)), .val (.int (Int32.ofNat (tla + tlb))), .val (.ref (n0 + 2)), .val (.int (Int32.ofNat ti)), .unset, .unset]) X3 hx (hb hby at_189) rfl (pc' := 191) rfl ?_
      refine w_iload X3 hx (hb hby at_191) rfl (pc' := 193) rfl ?_
      refine w_iload X3 hx (hb hby at_193) rfl (pc' := 195) rfl ?_
      refine w_icmp_ge X3 hx (hb hby at_195) (by decide) (pcY := 210) (by decide) (pc' := 198) rfl (fun h3 => ?_) (fun h3 => ?_)
      · have h3n : ¬ ti < tla := fun q => h3 ((own_olt (a := ti) (b := tla) (by omega) (by omega)).mpr q)
        refine w_lload X3 hx (hb hby at_210) rfl (pc' := 212) rfl ?_
        refine w_iload X3 hx (hb hby at_212) rfl (pc' := 214) rfl ?_
        refine w_iload X3 hx (hb hby at_214) rfl (pc' := 216) rfl ?_
        refine w_isub X3 hx (hb hby at_216) (pc' := 217) rfl ?_
        refine w_eqI (z := (Int32.ofNat (ti - tla))) (own_osub (a := ti) (b := tla) (by omega)) ?_
        refine w_iload X3 hx (hb hby at_217) rfl (pc' := 219) rfl ?_
        refine w_callP (W := 0) X3 hx hZ rfl hown hml.symm (wd63 hw) (wd64 hw) (wd51 hw) (wd65 hw) (rm10 l Z a0 hw [] (Int64.ofNat nb) (Int32.ofNat (ti - tla)) (Int32.ofNat tlb) _) (by decide) (by decide) (by decide) rfl rfl (by decide) (by decide) (argsL := [.long (Int64.ofNat nb), .int (Int32.ofNat (ti - tla)), .int (Int32.ofNat tlb)]) (rest := []) pd10 rfl rfl rfl (Nat.le_of_eq rfl) (hb hby at_219) (pc' := 222) rfl ?_
        intro T4 X4 e4
        have P4 : HP n0 T4.heap [to, AC tk (List.map Value.int tA), AC kA1 (List.map Value.int (List.take (tla + tlb) tA))] := by rw [e4]; exact P3
        refine w_istore (l' := #[.val (.int x0), .val (.long x1), .second, .val (.long x2), .second, .val (.int x3), .val (.int x4), .val (.int tf7), .val (.int tf8), .val (.int tf9), .val (.long (Int64.ofNat na)), .second, .val (.long (Int64.ofNat nb)), .second, .val (.ref (n0 + 0)), .val (.int (Int32.ofNat tla)), .val (.int (Int32.ofNat tlb)), .val (.int (Int32.ofNat (tla + tlb))), .val (.ref (n0 + 2)), .val (.int (Int32.ofNat ti)), .val (.int (sp10 (Int64.ofNat nb) (Int32.ofNat (ti - tla)) (Int32.ofNat tlb))), .unset]) X4 hx (hb hby at_222) rfl (pc' := 224) rfl ?_
        refine w_aload X4 hx (hb hby at_224) rfl rfl (pc' := 226) rfl ?_
        refine w_iload X4 hx (hb hby at_226) rfl (pc' := 228) rfl ?_
        refine w_baloadL (i := 2) (jn := ti) X4 hx hZ P4 rfl hkA1 (hb hby at_228) (own_oN (by omega)) (own_llt (own_tk htA (by omega)) (by omega)) (pc' := 229) rfl ?_
        refine w_sipush (v := (255 : Int32)) X4 hx (hb hby at_229) rfl (pc' := 232) rfl ?_
        refine w_iand X4 hx (hb hby at_232) (pc' := 233) rfl ?_
        refine w_iload X4 hx (hb hby at_233) rfl (pc' := 235) rfl ?_
        refine w_icmp_eq X4 hx (hb hby at_235) (by decide) (pcY := 240) (by decide) (pc' := 238) rfl (fun h4 => ?_) (fun h4 => absurd (by rw [own_tkg hti]; exact hcB ti (by omega) hti) h4)
        refine w_aload X4 hx (hb hby at_240) rfl rfl (pc' := 242) rfl ?_
        refine w_iload X4 hx (hb hby at_242) rfl (pc' := 244) rfl ?_
        refine w_aload X4 hx (hb hby at_244) rfl rfl (pc' := 246) rfl ?_
        refine w_iload X4 hx (hb hby at_246) rfl (pc' := 248) rfl ?_
        refine w_baloadL (i := 2) (jn := ti) X4 hx hZ P4 rfl hkA1 (hb hby at_248) (own_oN (by omega)) (own_llt (own_tk htA (by omega)) (by omega)) (pc' := 249) rfl ?_
        refine w_iconst (v := (1 : Int32)) X4 hx (hb hby at_249) rfl (pc' := 250) rfl ?_
        refine w_ixor X4 hx (hb hby at_250) (pc' := 251) rfl ?_
        refine w_i2b X4 hx (hb hby at_251) (pc' := 252) rfl ?_
        refine w_bastoreEL (i := 2) (jn := ti) X4 hx hZ N3 P4 rfl hkA1 (hb hby at_252) rfl (own_oN (by omega)) (own_llt (own_tk htA (by omega)) (by omega)) (pc' := 253) rfl ?_
        intro T5 L4 N4 X5 P5
        replace P5 : HP n0 T5.heap [to, AC tk (List.map Value.int tA), AC kA1 (List.map Value.int ((List.take (tla + tlb) tA).set ti (nar .byte (Int8.toInt32 (Int32.toInt8 (((List.take (tla + tlb) tA).getD ti 0) ^^^ (1 : Int32)))))))] := P5
        refine w_aload X5 hx (hb hby at_253) rfl rfl (pc' := 255) rfl ?_
        refine own_callV (W := 0) X5 hx hZ rfl hown hml.symm (wd13 hw) (wd14 hw) (wd16 hw) (wd15 hw) (wd3 hw) (wd17 hw) (rm_toA11 l Z a0 hw [] n0 to (AC kA1 (List.map Value.int ((List.take (tla + tlb) tA).set ti (nar .byte (Int8.toInt32 (Int32.toInt8 (((List.take (tla + tlb) tA).getD ti 0) ^^^ (1 : Int32)))))))) tk tA tN (tla + tlb) _ P5 thk htA tF htB htn htz (by omega) htN) (a := (n0 + 0)) (P5.exa (i := 0) rfl tF.1) (by decide) (by decide) (by decide) (by decide) (by decide) (argsL := []) (rest := []) pd3 rfl rfl rfl (Nat.le_of_eq rfl) (hb hby at_255) (pc' := 258) rfl ?_
        intro v6 T6 L5 X6 hq
        obtain ⟨rfl, N5, kA2, hkA2, P6⟩ := hq
        replace N5 := Fr.app N4 N5
        replace P6 : HP n0 T6.heap [to, AC tk (List.map Value.int tA), AC kA1 (List.map Value.int ((List.take (tla + tlb) tA).set ti (nar .byte (Int8.toInt32 (Int32.toInt8 (((List.take (tla + tlb) tA).getD ti 0) ^^^ (1 : Int32))))))), AC kA2 (List.map Value.int (List.take (tla + tlb) tA))] := P6
        refine w_astore (l' := #[.val (.int x0), .val (.long x1), .second, .val (.long x2), .second, .val (.int x3), .val (.int x4), .val (.int tf7), .val (.int tf8), .val (.int tf9), .val (.long (Int64.ofNat na)), .second, .val (.long (Int64.ofNat nb)), .second, .val (.ref (n0 + 0)), .val (.int (Int32.ofNat tla)), .val (.int (Int32.ofNat tlb)), .val (.int (Int32.ofNat (tla + tlb))), .val (.ref (n0 + 2)), .val (.int (Int32.ofNat ti)), .val (.int (sp10 (Int64.ofNat nb) (Int32.ofNat (ti - tla)) (Int32.ofNat tlb))), .val (.ref (n0 + 3))]) X6 hx (hb hby at_258) rfl rfl (pc' := 260) rfl ?_
        refine w_aload X6 hx (hb hby at_260) rfl rfl (pc' := 262) rfl ?_
        refine w_aload X6 hx (hb hby at_262) rfl rfl (pc' := 264) rfl ?_
        refine w_acmpeqN X6 hx (hb hby at_264) rfl rfl (fun q => absurd (Nat.add_left_cancel (Value.ref.inj q)) (by decide)) (pc' := 267) rfl ?_
        refine w_aload X6 hx (hb hby at_267) rfl rfl (pc' := 269) rfl ?_
        refine w_arrlen (i := 3) X6 hx hZ P6 rfl hkA2 (hb hby at_269) (z := (Int32.ofNat (tla + tlb))) (own_len (own_tk htA (by omega))) (pc' := 270) rfl ?_
        refine w_iload X6 hx (hb hby at_270) rfl (pc' := 272) rfl ?_
        refine w_icmp_ne X6 hx (hb hby at_272) (by decide) (pcY := 303) (by decide) (pc' := 275) rfl (fun h5 => absurd rfl h5) (fun h5 => ?_)
        refine w_aload X6 hx (hb hby at_275) rfl rfl (pc' := 277) rfl ?_
        refine w_iload X6 hx (hb hby at_277) rfl (pc' := 279) rfl ?_
        refine w_baloadL (i := 3) (jn := ti) X6 hx hZ P6 rfl hkA2 (hb hby at_279) (own_oN (by omega)) (own_llt (own_tk htA (by omega)) (by omega)) (pc' := 280) rfl ?_
        refine w_sipush (v := (255 : Int32)) X6 hx (hb hby at_280) rfl (pc' := 283) rfl ?_
        refine w_iand X6 hx (hb hby at_283) (pc' := 284) rfl ?_
        refine w_iload X6 hx (hb hby at_284) rfl (pc' := 286) rfl ?_
        refine w_icmp_ne X6 hx (hb hby at_286) (by decide) (pcY := 303) (by decide) (pc' := 289) rfl (fun h6 => absurd (by rw [own_tkg hti]; exact hcB ti (by omega) hti) h6) (fun h6 => ?_)
        refine w_aload X6 hx (hb hby at_289) rfl rfl (pc' := 291) rfl ?_
        refine own_callV (W := 0) X6 hx hZ rfl hown hml.symm (wd33 hw) (wd34 hw) (wd36 hw) (wd35 hw) (wd3 hw) (wd37 hw) (rm_size l Z a0 hw [] n0 to (n0 + 1) (Int32.ofNat (tla + tlb)) ([AC tk (List.map Value.int tA), AC kA1 (List.map Value.int ((List.take (tla + tlb) tA).set ti (nar .byte (Int8.toInt32 (Int32.toInt8 (((List.take (tla + tlb) tA).getD ti 0) ^^^ (1 : Int32))))))), AC kA2 (List.map Value.int (List.take (tla + tlb) tA))]) _ P6 tF) (a := (n0 + 0)) (P6.exa (i := 0) rfl tF.1) (by decide) (by decide) (by decide) (by decide) (by decide) (argsL := []) (rest := []) pd5 rfl rfl rfl (Nat.le_of_eq rfl) (hb hby at_291) (pc' := 294) rfl ?_
        intro v7 T7 L6 X7 hq
        obtain ⟨rfl, N6, P7⟩ := hq
        replace N6 := Fr.app N5 N6
        replace P7 : HP n0 T7.heap [to, AC tk (List.map Value.int tA), AC kA1 (List.map Value.int ((List.take (tla + tlb) tA).set ti (nar .byte (Int8.toInt32 (Int32.toInt8 (((List.take (tla + tlb) tA).getD ti 0) ^^^ (1 : Int32))))))), AC kA2 (List.map Value.int (List.take (tla + tlb) tA))] := P7
        refine w_iload X7 hx (hb hby at_294) rfl (pc' := 296) rfl ?_
        refine w_icmp_ne X7 hx (hb hby at_296) (by decide) (pcY := 303) (by decide) (pc' := 299) rfl (fun h7 => absurd rfl h7) (fun h7 => ?_)
        refine w_iconst (v := (1 : Int32)) X7 hx (hb hby at_299) rfl (pc' := 300) rfl ?_
        refine w_goto X7 hx (hb hby at_300) (by decide) (pc' := 304) (by decide) ?_
        exact w_ret_n (t := .boolean) X7 hx hret hlk (by simp) (hb hby at_304) (z' := (1 : Int32)) rfl (by decide) (by decide) ⟨rfl, N6⟩
      · have h3n : ti < tla := (own_olt (a := ti) (b := tla) (by omega) (by omega)).mp h3
        refine w_lload X3 hx (hb hby at_198) rfl (pc' := 200) rfl ?_
        refine w_iload X3 hx (hb hby at_200) rfl (pc' := 202) rfl ?_
        refine w_iload X3 hx (hb hby at_202) rfl (pc' := 204) rfl ?_
        refine w_callP (W := 0) X3 hx hZ rfl hown hml.symm (wd63 hw) (wd64 hw) (wd51 hw) (wd65 hw) (rm10 l Z a0 hw [] (Int64.ofNat na) (Int32.ofNat ti) (Int32.ofNat tla) _) (by decide) (by decide) (by decide) rfl rfl (by decide) (by decide) (argsL := [.long (Int64.ofNat na), .int (Int32.ofNat ti), .int (Int32.ofNat tla)]) (rest := []) pd10 rfl rfl rfl (Nat.le_of_eq rfl) (hb hby at_204) (pc' := 207) rfl ?_
        intro T8 X8 e8
        have P8 : HP n0 T8.heap [to, AC tk (List.map Value.int tA), AC kA1 (List.map Value.int (List.take (tla + tlb) tA))] := by rw [e8]; exact P3
        refine w_goto X8 hx (hb hby at_207) (by decide) (pc' := 222) (by decide) ?_
        refine w_istore (l' := #[.val (.int x0), .val (.long x1), .second, .val (.long x2), .second, .val (.int x3), .val (.int x4), .val (.int tf7), .val (.int tf8), .val (.int tf9), .val (.long (Int64.ofNat na)), .second, .val (.long (Int64.ofNat nb)), .second, .val (.ref (n0 + 0)), .val (.int (Int32.ofNat tla)), .val (.int (Int32.ofNat tlb)), .val (.int (Int32.ofNat (tla + tlb))), .val (.ref (n0 + 2)), .val (.int (Int32.ofNat ti)), .val (.int (sp10 (Int64.ofNat na) (Int32.ofNat ti) (Int32.ofNat tla))), .unset]) X8 hx (hb hby at_222) rfl (pc' := 224) rfl ?_
        refine w_aload X8 hx (hb hby at_224) rfl rfl (pc' := 226) rfl ?_
        refine w_iload X8 hx (hb hby at_226) rfl (pc' := 228) rfl ?_
        refine w_baloadL (i := 2) (jn := ti) X8 hx hZ P8 rfl hkA1 (hb hby at_228) (own_oN (by omega)) (own_llt (own_tk htA (by omega)) (by omega)) (pc' := 229) rfl ?_
        refine w_sipush (v := (255 : Int32)) X8 hx (hb hby at_229) rfl (pc' := 232) rfl ?_
        refine w_iand X8 hx (hb hby at_232) (pc' := 233) rfl ?_
        refine w_iload X8 hx (hb hby at_233) rfl (pc' := 235) rfl ?_
        refine w_icmp_eq X8 hx (hb hby at_235) (by decide) (pcY := 240) (by decide) (pc' := 238) rfl (fun h8 => ?_) (fun h8 => absurd (by rw [own_tkg hti]; exact hcA ti (by omega)) h8)
        refine w_aload X8 hx (hb hby at_240) rfl rfl (pc' := 242) rfl ?_
        refine w_iload X8 hx (hb hby at_242) rfl (pc' := 244) rfl ?_
        refine w_aload X8 hx (hb hby at_244) rfl rfl (pc' := 246) rfl ?_
        refine w_iload X8 hx (hb hby at_246) rfl (pc' := 248) rfl ?_
        refine w_baloadL (i := 2) (jn := ti) X8 hx hZ P8 rfl hkA1 (hb hby at_248) (own_oN (by omega)) (own_llt (own_tk htA (by omega)) (by omega)) (pc' := 249) rfl ?_
        refine w_iconst (v := (1 : Int32)) X8 hx (hb hby at_249) rfl (pc' := 250) rfl ?_
        refine w_ixor X8 hx (hb hby at_250) (pc' := 251) rfl ?_
        refine w_i2b X8 hx (hb hby at_251) (pc' := 252) rfl ?_
        refine w_bastoreEL (i := 2) (jn := ti) X8 hx hZ N3 P8 rfl hkA1 (hb hby at_252) rfl (own_oN (by omega)) (own_llt (own_tk htA (by omega)) (by omega)) (pc' := 253) rfl ?_
        intro T9 L7 N7 X9 P9
        replace P9 : HP n0 T9.heap [to, AC tk (List.map Value.int tA), AC kA1 (List.map Value.int ((List.take (tla + tlb) tA).set ti (nar .byte (Int8.toInt32 (Int32.toInt8 (((List.take (tla + tlb) tA).getD ti 0) ^^^ (1 : Int32)))))))] := P9
        refine w_aload X9 hx (hb hby at_253) rfl rfl (pc' := 255) rfl ?_
        refine own_callV (W := 0) X9 hx hZ rfl hown hml.symm (wd13 hw) (wd14 hw) (wd16 hw) (wd15 hw) (wd3 hw) (wd17 hw) (rm_toA11 l Z a0 hw [] n0 to (AC kA1 (List.map Value.int ((List.take (tla + tlb) tA).set ti (nar .byte (Int8.toInt32 (Int32.toInt8 (((List.take (tla + tlb) tA).getD ti 0) ^^^ (1 : Int32)))))))) tk tA tN (tla + tlb) _ P9 thk htA tF htB htn htz (by omega) htN) (a := (n0 + 0)) (P9.exa (i := 0) rfl tF.1) (by decide) (by decide) (by decide) (by decide) (by decide) (argsL := []) (rest := []) pd3 rfl rfl rfl (Nat.le_of_eq rfl) (hb hby at_255) (pc' := 258) rfl ?_
        intro v10 T10 L8 X10 hq
        obtain ⟨rfl, N8, kA3, hkA3, P10⟩ := hq
        replace N8 := Fr.app N7 N8
        replace P10 : HP n0 T10.heap [to, AC tk (List.map Value.int tA), AC kA1 (List.map Value.int ((List.take (tla + tlb) tA).set ti (nar .byte (Int8.toInt32 (Int32.toInt8 (((List.take (tla + tlb) tA).getD ti 0) ^^^ (1 : Int32))))))), AC kA3 (List.map Value.int (List.take (tla + tlb) tA))] := P10
        refine w_astore (l' := #[.val (.int x0), .val (.long x1), .second, .val (.long x2), .second, .val (.int x3), .val (.int x4), .val (.int tf7), .val (.int tf8), .val (.int tf9), .val (.long (Int64.ofNat na)), .second, .val (.long (Int64.ofNat nb)), .second, .val (.ref (n0 + 0)), .val (.int (Int32.ofNat tla)), .val (.int (Int32.ofNat tlb)), .val (.int (Int32.ofNat (tla + tlb))), .val (.ref (n0 + 2)), .val (.int (Int32.ofNat ti)), .val (.int (sp10 (Int64.ofNat na) (Int32.ofNat ti) (Int32.ofNat tla))), .val (.ref (n0 + 3))]) X10 hx (hb hby at_258) rfl rfl (pc' := 260) rfl ?_
        refine w_aload X10 hx (hb hby at_260) rfl rfl (pc' := 262) rfl ?_
        refine w_aload X10 hx (hb hby at_262) rfl rfl (pc' := 264) rfl ?_
        refine w_acmpeqN X10 hx (hb hby at_264) rfl rfl (fun q => absurd (Nat.add_left_cancel (Value.ref.inj q)) (by decide)) (pc' := 267) rfl ?_
        refine w_aload X10 hx (hb hby at_267) rfl rfl (pc' := 269) rfl ?_
        refine w_arrlen (i := 3) X10 hx hZ P10 rfl hkA3 (hb hby at_269) (z := (Int32.ofNat (tla + tlb))) (own_len (own_tk htA (by omega))) (pc' := 270) rfl ?_
        refine w_iload X10 hx (hb hby at_270) rfl (pc' := 272) rfl ?_
        refine w_icmp_ne X10 hx (hb hby at_272) (by decide) (pcY := 303) (by decide) (pc' := 275) rfl (fun h9 => absurd rfl h9) (fun h9 => ?_)
        refine w_aload X10 hx (hb hby at_275) rfl rfl (pc' := 277) rfl ?_
        refine w_iload X10 hx (hb hby at_277) rfl (pc' := 279) rfl ?_
        refine w_baloadL (i := 3) (jn := ti) X10 hx hZ P10 rfl hkA3 (hb hby at_279) (own_oN (by omega)) (own_llt (own_tk htA (by omega)) (by omega)) (pc' := 280) rfl ?_
        refine w_sipush (v := (255 : Int32)) X10 hx (hb hby at_280) rfl (pc' := 283) rfl ?_
        refine w_iand X10 hx (hb hby at_283) (pc' := 284) rfl ?_
        refine w_iload X10 hx (hb hby at_284) rfl (pc' := 286) rfl ?_
        refine w_icmp_ne X10 hx (hb hby at_286) (by decide) (pcY := 303) (by decide) (pc' := 289) rfl (fun h10 => absurd (by rw [own_tkg hti]; exact hcA ti (by omega)) h10) (fun h10 => ?_)
        refine w_aload X10 hx (hb hby at_289) rfl rfl (pc' := 291) rfl ?_
        refine own_callV (W := 0) X10 hx hZ rfl hown hml.symm (wd33 hw) (wd34 hw) (wd36 hw) (wd35 hw) (wd3 hw) (wd37 hw) (rm_size l Z a0 hw [] n0 to (n0 + 1) (Int32.ofNat (tla + tlb)) ([AC tk (List.map Value.int tA), AC kA1 (List.map Value.int ((List.take (tla + tlb) tA).set ti (nar .byte (Int8.toInt32 (Int32.toInt8 (((List.take (tla + tlb) tA).getD ti 0) ^^^ (1 : Int32))))))), AC kA3 (List.map Value.int (List.take (tla + tlb) tA))]) _ P10 tF) (a := (n0 + 0)) (P10.exa (i := 0) rfl tF.1) (by decide) (by decide) (by decide) (by decide) (by decide) (argsL := []) (rest := []) pd5 rfl rfl rfl (Nat.le_of_eq rfl) (hb hby at_291) (pc' := 294) rfl ?_
        intro v11 T11 L9 X11 hq
        obtain ⟨rfl, N9, P11⟩ := hq
        replace N9 := Fr.app N8 N9
        replace P11 : HP n0 T11.heap [to, AC tk (List.map Value.int tA), AC kA1 (List.map Value.int ((List.take (tla + tlb) tA).set ti (nar .byte (Int8.toInt32 (Int32.toInt8 (((List.take (tla + tlb) tA).getD ti 0) ^^^ (1 : Int32))))))), AC kA3 (List.map Value.int (List.take (tla + tlb) tA))] := P11
        refine w_iload X11 hx (hb hby at_294) rfl (pc' := 296) rfl ?_
        refine w_icmp_ne X11 hx (hb hby at_296) (by decide) (pcY := 303) (by decide) (pc' := 299) rfl (fun h11 => absurd rfl h11) (fun h11 => ?_)
        refine w_iconst (v := (1 : Int32)) X11 hx (hb hby at_299) rfl (pc' := 300) rfl ?_
        refine w_goto X11 hx (hb hby at_300) (by decide) (pc' := 304) (by decide) ?_
        exact w_ret_n (t := .boolean) X11 hx hret hlk (by simp) (hb hby at_304) (z' := (1 : Int32)) rfl (by decide) (by decide) ⟨rfl, N9⟩
    · have h2n : (tla + tlb) = 0 := (own_oeq (a := (tla + tlb)) (b := 0) (by omega) (by omega)).mp h2
      refine w_iconst (v := (1 : Int32)) X3 hx (hb hby at_179) rfl (pc' := 180) rfl ?_
      exact w_ret_n (t := .boolean) X3 hx hret hlk (by simp) (hb hby at_180) (z' := (1 : Int32)) rfl (by decide) (by decide) ⟨rfl, N3⟩
  have Jt2 : ∀ (T12 : State) (L10 : List Loc) (tf7 tf8 tf9 : Int32) (tla tlb tN : Nat) (tA : List Int32) (tk : ClassId) (tq1 : Jvm.Cell) (to : Jvm.Cell), Fr n0 L10 → Stand p l e room_1 s m #[Value.int x0, Value.long x1, Value.long x2, Value.int x3, Value.int x4] below meth c T12 L10 4 89 → IsA Z tk .byte → tA.length = tN → own_B tA → tla + tlb ≤ tN → (tla + tlb = tN → tN = 0) → tla ≤ 9 → tlb ≤ 9 → tN ≤ 36 → (∀ j, j < tla → tA.getD j 0 &&& 255 = sp10 (Int64.ofNat na) (Int32.ofNat j) (Int32.ofNat tla)) → (∀ i, tla ≤ i → i < tla + tlb → tA.getD i 0 &&& 255 = sp10 (Int64.ofNat nb) (Int32.ofNat (i - tla)) (Int32.ofNat tlb)) → HP n0 T12.heap [to, tq1, AC tk (List.map Value.int tA)] → ObjF Z to "com/example/dirichlet/dirichlet/index/ByteSink" fl_C0 [.ref (n0 + 2), .int (Int32.ofNat (tla + tlb))] → Wp p e s below room_1.cells room_1.slots (LawQ n0) T12 (mkF m 147 #[.val (.int x0), .val (.long x1), .second, .val (.long x2), .second, .val (.int x3), .val (.int x4), .val (.int tf7), .val (.int tf8), .val (.int tf9), .val (.long (Int64.ofNat na)), .second, .val (.long (Int64.ofNat nb)), .second, .val (.ref (n0 + 0)), .val (.int (Int32.ofNat tla)), .val (.int (Int32.ofNat tlb)), .val (.int (Int32.ofNat (tla + tlb))), .unset, .unset, .unset, .unset] []) := by
    intro T12 L10 tf7 tf8 tf9 tla tlb tN tA tk tq1 to N10 X12 thk htA htB htn htz htla9 htlb9 htN hcA hcB P12 tF
    refine w_aload X12 hx (hb hby at_147) rfl rfl (pc' := 149) rfl ?_
    refine own_callV (W := 0) X12 hx hZ rfl hown hml.symm (wd13 hw) (wd14 hw) (wd16 hw) (wd15 hw) (wd3 hw) (wd17 hw) (rm_toA20 l Z a0 hw [] n0 to tq1 tk tA tN (tla + tlb) _ P12 thk htA tF htB htn htz (by omega) htN) (a := (n0 + 0)) (P12.exa (i := 0) rfl tF.1) (by decide) (by decide) (by decide) (by decide) (by decide) (argsL := []) (rest := []) pd3 rfl rfl rfl (Nat.le_of_eq rfl) (hb hby at_149) (pc' := 152) rfl ?_
    intro v13 T13 L11 X13 hq
    obtain ⟨rfl, N11, kA4, hkA4, P13⟩ := hq
    replace N11 := Fr.app N10 N11
    replace P13 : HP n0 T13.heap [to, tq1, AC tk (List.map Value.int tA), AC kA4 (List.map Value.int (List.take (tla + tlb) tA))] := P13
    refine w_astore (l' := #[.val (.int x0), .val (.long x1), .second, .val (.long x2), .second, .val (.int x3), .val (.int x4), .val (.int tf7), .val (.int tf8), .val (.int tf9), .val (.long (Int64.ofNat na)), .second, .val (.long (Int64.ofNat nb)), .second, .val (.ref (n0 + 0)), .val (.int (Int32.ofNat tla)), .val (.int (Int32.ofNat tlb)), .val (.int (Int32.ofNat (tla + tlb))), .val (.ref (n0 + 3)), .unset, .unset, .unset]) X13 hx (hb hby at_152) rfl rfl (pc' := 154) rfl ?_
    refine w_aload X13 hx (hb hby at_154) rfl rfl (pc' := 156) rfl ?_
    refine w_arrlen (i := 3) X13 hx hZ P13 rfl hkA4 (hb hby at_156) (z := (Int32.ofNat (tla + tlb))) (own_len (own_tk htA (by omega))) (pc' := 157) rfl ?_
    refine w_iload X13 hx (hb hby at_157) rfl (pc' := 159) rfl ?_
    refine w_icmp_ne X13 hx (hb hby at_159) (by decide) (pcY := 172) (by decide) (pc' := 162) rfl (fun h12 => absurd rfl h12) (fun h12 => ?_)
    refine w_aload X13 hx (hb hby at_162) rfl rfl (pc' := 164) rfl ?_
    refine own_callV (W := 0) X13 hx hZ rfl hown hml.symm (wd33 hw) (wd34 hw) (wd36 hw) (wd35 hw) (wd3 hw) (wd37 hw) (rm_size l Z a0 hw [] n0 to (n0 + 2) (Int32.ofNat (tla + tlb)) ([tq1, AC tk (List.map Value.int tA), AC kA4 (List.map Value.int (List.take (tla + tlb) tA))]) _ P13 tF) (a := (n0 + 0)) (P13.exa (i := 0) rfl tF.1) (by decide) (by decide) (by decide) (by decide) (by decide) (argsL := []) (rest := []) pd5 rfl rfl rfl (Nat.le_of_eq rfl) (hb hby at_164) (pc' := 167) rfl ?_
    intro v14 T14 L12 X14 hq
    obtain ⟨rfl, N12, P14⟩ := hq
    replace N12 := Fr.app N11 N12
    replace P14 : HP n0 T14.heap [to, tq1, AC tk (List.map Value.int tA), AC kA4 (List.map Value.int (List.take (tla + tlb) tA))] := P14
    refine w_iload X14 hx (hb hby at_167) rfl (pc' := 169) rfl ?_
    refine w_icmp_eq X14 hx (hb hby at_169) (by decide) (pcY := 174) (by decide) (pc' := 172) rfl (fun h13 => ?_) (fun h13 => absurd rfl h13)
    refine w_iload X14 hx (hb hby at_174) rfl (pc' := 176) rfl ?_
    refine w_if_ne X14 hx (hb hby at_176) (by decide) (pcY := 181) (by decide) (pc' := 179) rfl (fun h14 => ?_) (fun h14 => ?_)
    · have h14n : ¬ (tla + tlb) = 0 := fun q => h14 ((own_oeq (a := (tla + tlb)) (b := 0) (by omega) (by omega)).mpr q)
      obtain ⟨ti, hti, eti⟩ := own_rem x4 (Int32.ofNat (tla + tlb)) (tla + tlb) (own_oN (by omega)) (by omega)
      refine w_iload X14 hx (hb hby at_181) rfl (pc' := 183) rfl ?_
      refine w_ldc X14 hx (hb hby at_183) hown (mvT hZ (wd62 hw)) (pc' := 185) rfl ?_
      refine w_iand X14 hx (hb hby at_185) (pc' := 186) rfl ?_
      refine w_iload X14 hx (hb hby at_186) rfl (pc' := 188) rfl ?_
      refine w_irem X14 hx (hb hby at_188) (own_nz (by omega) (by omega)) (pc' := 189) rfl ?_
      refine w_eqI (z := (Int32.ofNat ti)) eti ?_
      refine w_istore (l' := #[.val (.int x0), .val (.long x1), .second, .val (.long x2), .second, .val (.int x3), .val (.int x4), .val (.int tf7), .val (.int tf8), .val (.int tf9), .val (.long (Int64.ofNat na)), .second, .val (.long (Int64.ofNat nb)), .second, .val (.ref (n0 + 0)), .val (.int (Int32.ofNat tla)), .val (.int (Int32.ofNat tlb)), .val (.int (Int32.ofNat (tla + tlb))), .val (.ref (n0 + 3)), .val (.int (Int32.ofNat ti)), .unset, .unset]) X14 hx (hb hby at_189) rfl (pc' := 191) rfl ?_
      refine w_iload X14 hx (hb hby at_191) rfl (pc' := 193) rfl ?_
      refine w_iload X14 hx (hb hby at_193) rfl (pc' := 195) rfl ?_
      refine w_icmp_ge X14 hx (hb hby at_195) (by decide) (pcY := 210) (by decide) (pc' := 198) rfl (fun h15 => ?_) (fun h15 => ?_)
      · have h15n : ¬ ti < tla := fun q => h15 ((own_olt (a := ti) (b := tla) (by omega) (by omega)).mpr q)
        refine w_lload X14 hx (hb hby at_210) rfl (pc' := 212) rfl ?_
        refine w_iload X14 hx (hb hby at_212) rfl (pc' := 214) rfl ?_
        refine w_iload X14 hx (hb hby at_214) rfl (pc' := 216) rfl ?_
        refine w_isub X14 hx (hb hby at_216) (pc' := 217) rfl ?_
        refine w_eqI (z := (Int32.ofNat (ti - tla))) (own_osub (a := ti) (b := tla) (by omega)) ?_
        refine w_iload X14 hx (hb hby at_217) rfl (pc' := 219) rfl ?_
        refine w_callP (W := 0) X14 hx hZ rfl hown hml.symm (wd63 hw) (wd64 hw) (wd51 hw) (wd65 hw) (rm10 l Z a0 hw [] (Int64.ofNat nb) (Int32.ofNat (ti - tla)) (Int32.ofNat tlb) _) (by decide) (by decide) (by decide) rfl rfl (by decide) (by decide) (argsL := [.long (Int64.ofNat nb), .int (Int32.ofNat (ti - tla)), .int (Int32.ofNat tlb)]) (rest := []) pd10 rfl rfl rfl (Nat.le_of_eq rfl) (hb hby at_219) (pc' := 222) rfl ?_
        intro T15 X15 e15
        have P15 : HP n0 T15.heap [to, tq1, AC tk (List.map Value.int tA), AC kA4 (List.map Value.int (List.take (tla + tlb) tA))] := by rw [e15]; exact P14
        refine w_istore (l' := #[.val (.int x0), .val (.long x1), .second, .val (.long x2), .second, .val (.int x3), .val (.int x4), .val (.int tf7), .val (.int tf8), .val (.int tf9), .val (.long (Int64.ofNat na)), .second, .val (.long (Int64.ofNat nb)), .second, .val (.ref (n0 + 0)), .val (.int (Int32.ofNat tla)), .val (.int (Int32.ofNat tlb)), .val (.int (Int32.ofNat (tla + tlb))), .val (.ref (n0 + 3)), .val (.int (Int32.ofNat ti)), .val (.int (sp10 (Int64.ofNat nb) (Int32.ofNat (ti - tla)) (Int32.ofNat tlb))), .unset]) X15 hx (hb hby at_222) rfl (pc' := 224) rfl ?_
        refine w_aload X15 hx (hb hby at_224) rfl rfl (pc' := 226) rfl ?_
        refine w_iload X15 hx (hb hby at_226) rfl (pc' := 228) rfl ?_
        refine w_baloadL (i := 3) (jn := ti) X15 hx hZ P15 rfl hkA4 (hb hby at_228) (own_oN (by omega)) (own_llt (own_tk htA (by omega)) (by omega)) (pc' := 229) rfl ?_
        refine w_sipush (v := (255 : Int32)) X15 hx (hb hby at_229) rfl (pc' := 232) rfl ?_
        refine w_iand X15 hx (hb hby at_232) (pc' := 233) rfl ?_
        refine w_iload X15 hx (hb hby at_233) rfl (pc' := 235) rfl ?_
        refine w_icmp_eq X15 hx (hb hby at_235) (by decide) (pcY := 240) (by decide) (pc' := 238) rfl (fun h16 => ?_) (fun h16 => absurd (by rw [own_tkg hti]; exact hcB ti (by omega) hti) h16)
        refine w_aload X15 hx (hb hby at_240) rfl rfl (pc' := 242) rfl ?_
        refine w_iload X15 hx (hb hby at_242) rfl (pc' := 244) rfl ?_
        refine w_aload X15 hx (hb hby at_244) rfl rfl (pc' := 246) rfl ?_
        refine w_iload X15 hx (hb hby at_246) rfl (pc' := 248) rfl ?_
        refine w_baloadL (i := 3) (jn := ti) X15 hx hZ P15 rfl hkA4 (hb hby at_248) (own_oN (by omega)) (own_llt (own_tk htA (by omega)) (by omega)) (pc' := 249) rfl ?_
        refine w_iconst (v := (1 : Int32)) X15 hx (hb hby at_249) rfl (pc' := 250) rfl ?_
        refine w_ixor X15 hx (hb hby at_250) (pc' := 251) rfl ?_
        refine w_i2b X15 hx (hb hby at_251) (pc' := 252) rfl ?_
        refine w_bastoreEL (i := 3) (jn := ti) X15 hx hZ N12 P15 rfl hkA4 (hb hby at_252) rfl (own_oN (by omega)) (own_llt (own_tk htA (by omega)) (by omega)) (pc' := 253) rfl ?_
        intro T16 L13 N13 X16 P16
        replace P16 : HP n0 T16.heap [to, tq1, AC tk (List.map Value.int tA), AC kA4 (List.map Value.int ((List.take (tla + tlb) tA).set ti (nar .byte (Int8.toInt32 (Int32.toInt8 (((List.take (tla + tlb) tA).getD ti 0) ^^^ (1 : Int32)))))))] := P16
        refine w_aload X16 hx (hb hby at_253) rfl rfl (pc' := 255) rfl ?_
        refine own_callV (W := 0) X16 hx hZ rfl hown hml.symm (wd13 hw) (wd14 hw) (wd16 hw) (wd15 hw) (wd3 hw) (wd17 hw) (rm_toA21 l Z a0 hw [] n0 to tq1 (AC kA4 (List.map Value.int ((List.take (tla + tlb) tA).set ti (nar .byte (Int8.toInt32 (Int32.toInt8 (((List.take (tla + tlb) tA).getD ti 0) ^^^ (1 : Int32)))))))) tk tA tN (tla + tlb) _ P16 thk htA tF htB htn htz (by omega) htN) (a := (n0 + 0)) (P16.exa (i := 0) rfl tF.1) (by decide) (by decide) (by decide) (by decide) (by decide) (argsL := []) (rest := []) pd3 rfl rfl rfl (Nat.le_of_eq rfl) (hb hby at_255) (pc' := 258) rfl ?_
        intro v17 T17 L14 X17 hq
        obtain ⟨rfl, N14, kA5, hkA5, P17⟩ := hq
        replace N14 := Fr.app N13 N14
        replace P17 : HP n0 T17.heap [to, tq1, AC tk (List.map Value.int tA), AC kA4 (List.map Value.int ((List.take (tla + tlb) tA).set ti (nar .byte (Int8.toInt32 (Int32.toInt8 (((List.take (tla + tlb) tA).getD ti 0) ^^^ (1 : Int32))))))), AC kA5 (List.map Value.int (List.take (tla + tlb) tA))] := P17
        refine w_astore (l' := #[.val (.int x0), .val (.long x1), .second, .val (.long x2), .second, .val (.int x3), .val (.int x4), .val (.int tf7), .val (.int tf8), .val (.int tf9), .val (.long (Int64.ofNat na)), .second, .val (.long (Int64.ofNat nb)), .second, .val (.ref (n0 + 0)), .val (.int (Int32.ofNat tla)), .val (.int (Int32.ofNat tlb)), .val (.int (Int32.ofNat (tla + tlb))), .val (.ref (n0 + 3)), .val (.int (Int32.ofNat ti)), .val (.int (sp10 (Int64.ofNat nb) (Int32.ofNat (ti - tla)) (Int32.ofNat tlb))), .val (.ref (n0 + 4))]) X17 hx (hb hby at_258) rfl rfl (pc' := 260) rfl ?_
        refine w_aload X17 hx (hb hby at_260) rfl rfl (pc' := 262) rfl ?_
        refine w_aload X17 hx (hb hby at_262) rfl rfl (pc' := 264) rfl ?_
        refine w_acmpeqN X17 hx (hb hby at_264) rfl rfl (fun q => absurd (Nat.add_left_cancel (Value.ref.inj q)) (by decide)) (pc' := 267) rfl ?_
        refine w_aload X17 hx (hb hby at_267) rfl rfl (pc' := 269) rfl ?_
        refine w_arrlen (i := 4) X17 hx hZ P17 rfl hkA5 (hb hby at_269) (z := (Int32.ofNat (tla + tlb))) (own_len (own_tk htA (by omega))) (pc' := 270) rfl ?_
        refine w_iload X17 hx (hb hby at_270) rfl (pc' := 272) rfl ?_
        refine w_icmp_ne X17 hx (hb hby at_272) (by decide) (pcY := 303) (by decide) (pc' := 275) rfl (fun h17 => absurd rfl h17) (fun h17 => ?_)
        refine w_aload X17 hx (hb hby at_275) rfl rfl (pc' := 277) rfl ?_
        refine w_iload X17 hx (hb hby at_277) rfl (pc' := 279) rfl ?_
        refine w_baloadL (i := 4) (jn := ti) X17 hx hZ P17 rfl hkA5 (hb hby at_279) (own_oN (by omega)) (own_llt (own_tk htA (by omega)) (by omega)) (pc' := 280) rfl ?_
        refine w_sipush (v := (255 : Int32)) X17 hx (hb hby at_280) rfl (pc' := 283) rfl ?_
        refine w_iand X17 hx (hb hby at_283) (pc' := 284) rfl ?_
        refine w_iload X17 hx (hb hby at_284) rfl (pc' := 286) rfl ?_
        refine w_icmp_ne X17 hx (hb hby at_286) (by decide) (pcY := 303) (by decide) (pc' := 289) rfl (fun h18 => absurd (by rw [own_tkg hti]; exact hcB ti (by omega) hti) h18) (fun h18 => ?_)
        refine w_aload X17 hx (hb hby at_289) rfl rfl (pc' := 291) rfl ?_
        refine own_callV (W := 0) X17 hx hZ rfl hown hml.symm (wd33 hw) (wd34 hw) (wd36 hw) (wd35 hw) (wd3 hw) (wd37 hw) (rm_size l Z a0 hw [] n0 to (n0 + 2) (Int32.ofNat (tla + tlb)) ([tq1, AC tk (List.map Value.int tA), AC kA4 (List.map Value.int ((List.take (tla + tlb) tA).set ti (nar .byte (Int8.toInt32 (Int32.toInt8 (((List.take (tla + tlb) tA).getD ti 0) ^^^ (1 : Int32))))))), AC kA5 (List.map Value.int (List.take (tla + tlb) tA))]) _ P17 tF) (a := (n0 + 0)) (P17.exa (i := 0) rfl tF.1) (by decide) (by decide) (by decide) (by decide) (by decide) (argsL := []) (rest := []) pd5 rfl rfl rfl (Nat.le_of_eq rfl) (hb hby at_291) (pc' := 294) rfl ?_
        intro v18 T18 L15 X18 hq
        obtain ⟨rfl, N15, P18⟩ := hq
        replace N15 := Fr.app N14 N15
        replace P18 : HP n0 T18.heap [to, tq1, AC tk (List.map Value.int tA), AC kA4 (List.map Value.int ((List.take (tla + tlb) tA).set ti (nar .byte (Int8.toInt32 (Int32.toInt8 (((List.take (tla + tlb) tA).getD ti 0) ^^^ (1 : Int32))))))), AC kA5 (List.map Value.int (List.take (tla + tlb) tA))] := P18
        refine w_iload X18 hx (hb hby at_294) rfl (pc' := 296) rfl ?_
        refine w_icmp_ne X18 hx (hb hby at_296) (by decide) (pcY := 303) (by decide) (pc' := 299) rfl (fun h19 => absurd rfl h19) (fun h19 => ?_)
        refine w_iconst (v := (1 : Int32)) X18 hx (hb hby at_299) rfl (pc' := 300) rfl ?_
        refine w_goto X18 hx (hb hby at_300) (by decide) (pc' := 304) (by decide) ?_
        exact w_ret_n (t := .boolean) X18 hx hret hlk (by simp) (hb hby at_304) (z' := (1 : Int32)) rfl (by decide) (by decide) ⟨rfl, N15⟩
      · have h15n : ti < tla := (own_olt (a := ti) (b := tla) (by omega) (by omega)).mp h15
        refine w_lload X14 hx (hb hby at_198) rfl (pc' := 200) rfl ?_
        refine w_iload X14 hx (hb hby at_200) rfl (pc' := 202) rfl ?_
        refine w_iload X14 hx (hb hby at_202) rfl (pc' := 204) rfl ?_
        refine w_callP (W := 0) X14 hx hZ rfl hown hml.symm (wd63 hw) (wd64 hw) (wd51 hw) (wd65 hw) (rm10 l Z a0 hw [] (Int64.ofNat na) (Int32.ofNat ti) (Int32.ofNat tla) _) (by decide) (by decide) (by decide) rfl rfl (by decide) (by decide) (argsL := [.long (Int64.ofNat na), .int (Int32.ofNat ti), .int (Int32.ofNat tla)]) (rest := []) pd10 rfl rfl rfl (Nat.le_of_eq rfl) (hb hby at_204) (pc' := 207) rfl ?_
        intro T19 X19 e19
        have P19 : HP n0 T19.heap [to, tq1, AC tk (List.map Value.int tA), AC kA4 (List.map Value.int (List.take (tla + tlb) tA))] := by rw [e19]; exact P14
        refine w_goto X19 hx (hb hby at_207) (by decide) (pc' := 222) (by decide) ?_
        refine w_istore (l' := #[.val (.int x0), .val (.long x1), .second, .val (.long x2), .second, .val (.int x3), .val (.int x4), .val (.int tf7), .val (.int tf8), .val (.int tf9), .val (.long (Int64.ofNat na)), .second, .val (.long (Int64.ofNat nb)), .second, .val (.ref (n0 + 0)), .val (.int (Int32.ofNat tla)), .val (.int (Int32.ofNat tlb)), .val (.int (Int32.ofNat (tla + tlb))), .val (.ref (n0 + 3)), .val (.int (Int32.ofNat ti)), .val (.int (sp10 (Int64.ofNat na) (Int32.ofNat ti) (Int32.ofNat tla))), .unset]) X19 hx (hb hby at_222) rfl (pc' := 224) rfl ?_
        refine w_aload X19 hx (hb hby at_224) rfl rfl (pc' := 226) rfl ?_
        refine w_iload X19 hx (hb hby at_226) rfl (pc' := 228) rfl ?_
        refine w_baloadL (i := 3) (jn := ti) X19 hx hZ P19 rfl hkA4 (hb hby at_228) (own_oN (by omega)) (own_llt (own_tk htA (by omega)) (by omega)) (pc' := 229) rfl ?_
        refine w_sipush (v := (255 : Int32)) X19 hx (hb hby at_229) rfl (pc' := 232) rfl ?_
        refine w_iand X19 hx (hb hby at_232) (pc' := 233) rfl ?_
        refine w_iload X19 hx (hb hby at_233) rfl (pc' := 235) rfl ?_
        refine w_icmp_eq X19 hx (hb hby at_235) (by decide) (pcY := 240) (by decide) (pc' := 238) rfl (fun h20 => ?_) (fun h20 => absurd (by rw [own_tkg hti]; exact hcA ti (by omega)) h20)
        refine w_aload X19 hx (hb hby at_240) rfl rfl (pc' := 242) rfl ?_
        refine w_iload X19 hx (hb hby at_242) rfl (pc' := 244) rfl ?_
        refine w_aload X19 hx (hb hby at_244) rfl rfl (pc' := 246) rfl ?_
        refine w_iload X19 hx (hb hby at_246) rfl (pc' := 248) rfl ?_
        refine w_baloadL (i := 3) (jn := ti) X19 hx hZ P19 rfl hkA4 (hb hby at_248) (own_oN (by omega)) (own_llt (own_tk htA (by omega)) (by omega)) (pc' := 249) rfl ?_
        refine w_iconst (v := (1 : Int32)) X19 hx (hb hby at_249) rfl (pc' := 250) rfl ?_
        refine w_ixor X19 hx (hb hby at_250) (pc' := 251) rfl ?_
        refine w_i2b X19 hx (hb hby at_251) (pc' := 252) rfl ?_
        refine w_bastoreEL (i := 3) (jn := ti) X19 hx hZ N12 P19 rfl hkA4 (hb hby at_252) rfl (own_oN (by omega)) (own_llt (own_tk htA (by omega)) (by omega)) (pc' := 253) rfl ?_
        intro T20 L16 N16 X20 P20
        replace P20 : HP n0 T20.heap [to, tq1, AC tk (List.map Value.int tA), AC kA4 (List.map Value.int ((List.take (tla + tlb) tA).set ti (nar .byte (Int8.toInt32 (Int32.toInt8 (((List.take (tla + tlb) tA).getD ti 0) ^^^ (1 : Int32)))))))] := P20
        refine w_aload X20 hx (hb hby at_253) rfl rfl (pc' := 255) rfl ?_
        refine own_callV (W := 0) X20 hx hZ rfl hown hml.symm (wd13 hw) (wd14 hw) (wd16 hw) (wd15 hw) (wd3 hw) (wd17 hw) (rm_toA21 l Z a0 hw [] n0 to tq1 (AC kA4 (List.map Value.int ((List.take (tla + tlb) tA).set ti (nar .byte (Int8.toInt32 (Int32.toInt8 (((List.take (tla + tlb) tA).getD ti 0) ^^^ (1 : Int32)))))))) tk tA tN (tla + tlb) _ P20 thk htA tF htB htn htz (by omega) htN) (a := (n0 + 0)) (P20.exa (i := 0) rfl tF.1) (by decide) (by decide) (by decide) (by decide) (by decide) (argsL := []) (rest := []) pd3 rfl rfl rfl (Nat.le_of_eq rfl) (hb hby at_255) (pc' := 258) rfl ?_
        intro v21 T21 L17 X21 hq
        obtain ⟨rfl, N17, kA6, hkA6, P21⟩ := hq
        replace N17 := Fr.app N16 N17
        replace P21 : HP n0 T21.heap [to, tq1, AC tk (List.map Value.int tA), AC kA4 (List.map Value.int ((List.take (tla + tlb) tA).set ti (nar .byte (Int8.toInt32 (Int32.toInt8 (((List.take (tla + tlb) tA).getD ti 0) ^^^ (1 : Int32))))))), AC kA6 (List.map Value.int (List.take (tla + tlb) tA))] := P21
        refine w_astore (l' := #[.val (.int x0), .val (.long x1), .second, .val (.long x2), .second, .val (.int x3), .val (.int x4), .val (.int tf7), .val (.int tf8), .val (.int tf9), .val (.long (Int64.ofNat na)), .second, .val (.long (Int64.ofNat nb)), .second, .val (.ref (n0 + 0)), .val (.int (Int32.ofNat tla)), .val (.int (Int32.ofNat tlb)), .val (.int (Int32.ofNat (tla + tlb))), .val (.ref (n0 + 3)), .val (.int (Int32.ofNat ti)), .val (.int (sp10 (Int64.ofNat na) (Int32.ofNat ti) (Int32.ofNat tla))), .val (.ref (n0 + 4))]) X21 hx (hb hby at_258) rfl rfl (pc' := 260) rfl ?_
        refine w_aload X21 hx (hb hby at_260) rfl rfl (pc' := 262) rfl ?_
        refine w_aload X21 hx (hb hby at_262) rfl rfl (pc' := 264) rfl ?_
        refine w_acmpeqN X21 hx (hb hby at_264) rfl rfl (fun q => absurd (Nat.add_left_cancel (Value.ref.inj q)) (by decide)) (pc' := 267) rfl ?_
        refine w_aload X21 hx (hb hby at_267) rfl rfl (pc' := 269) rfl ?_
        refine w_arrlen (i := 4) X21 hx hZ P21 rfl hkA6 (hb hby at_269) (z := (Int32.ofNat (tla + tlb))) (own_len (own_tk htA (by omega))) (pc' := 270) rfl ?_
        refine w_iload X21 hx (hb hby at_270) rfl (pc' := 272) rfl ?_
        refine w_icmp_ne X21 hx (hb hby at_272) (by decide) (pcY := 303) (by decide) (pc' := 275) rfl (fun h21 => absurd rfl h21) (fun h21 => ?_)
        refine w_aload X21 hx (hb hby at_275) rfl rfl (pc' := 277) rfl ?_
        refine w_iload X21 hx (hb hby at_277) rfl (pc' := 279) rfl ?_
        refine w_baloadL (i := 4) (jn := ti) X21 hx hZ P21 rfl hkA6 (hb hby at_279) (own_oN (by omega)) (own_llt (own_tk htA (by omega)) (by omega)) (pc' := 280) rfl ?_
        refine w_sipush (v := (255 : Int32)) X21 hx (hb hby at_280) rfl (pc' := 283) rfl ?_
        refine w_iand X21 hx (hb hby at_283) (pc' := 284) rfl ?_
        refine w_iload X21 hx (hb hby at_284) rfl (pc' := 286) rfl ?_
        refine w_icmp_ne X21 hx (hb hby at_286) (by decide) (pcY := 303) (by decide) (pc' := 289) rfl (fun h22 => absurd (by rw [own_tkg hti]; exact hcA ti (by omega)) h22) (fun h22 => ?_)
        refine w_aload X21 hx (hb hby at_289) rfl rfl (pc' := 291) rfl ?_
        refine own_callV (W := 0) X21 hx hZ rfl hown hml.symm (wd33 hw) (wd34 hw) (wd36 hw) (wd35 hw) (wd3 hw) (wd37 hw) (rm_size l Z a0 hw [] n0 to (n0 + 2) (Int32.ofNat (tla + tlb)) ([tq1, AC tk (List.map Value.int tA), AC kA4 (List.map Value.int ((List.take (tla + tlb) tA).set ti (nar .byte (Int8.toInt32 (Int32.toInt8 (((List.take (tla + tlb) tA).getD ti 0) ^^^ (1 : Int32))))))), AC kA6 (List.map Value.int (List.take (tla + tlb) tA))]) _ P21 tF) (a := (n0 + 0)) (P21.exa (i := 0) rfl tF.1) (by decide) (by decide) (by decide) (by decide) (by decide) (argsL := []) (rest := []) pd5 rfl rfl rfl (Nat.le_of_eq rfl) (hb hby at_291) (pc' := 294) rfl ?_
        intro v22 T22 L18 X22 hq
        obtain ⟨rfl, N18, P22⟩ := hq
        replace N18 := Fr.app N17 N18
        replace P22 : HP n0 T22.heap [to, tq1, AC tk (List.map Value.int tA), AC kA4 (List.map Value.int ((List.take (tla + tlb) tA).set ti (nar .byte (Int8.toInt32 (Int32.toInt8 (((List.take (tla + tlb) tA).getD ti 0) ^^^ (1 : Int32))))))), AC kA6 (List.map Value.int (List.take (tla + tlb) tA))] := P22
        refine w_iload X22 hx (hb hby at_294) rfl (pc' := 296) rfl ?_
        refine w_icmp_ne X22 hx (hb hby at_296) (by decide) (pcY := 303) (by decide) (pc' := 299) rfl (fun h23 => absurd rfl h23) (fun h23 => ?_)
        refine w_iconst (v := (1 : Int32)) X22 hx (hb hby at_299) rfl (pc' := 300) rfl ?_
        refine w_goto X22 hx (hb hby at_300) (by decide) (pc' := 304) (by decide) ?_
        exact w_ret_n (t := .boolean) X22 hx hret hlk (by simp) (hb hby at_304) (z' := (1 : Int32)) rfl (by decide) (by decide) ⟨rfl, N18⟩
    · have h14n : (tla + tlb) = 0 := (own_oeq (a := (tla + tlb)) (b := 0) (by omega) (by omega)).mp h14
      refine w_iconst (v := (1 : Int32)) X14 hx (hb hby at_179) rfl (pc' := 180) rfl ?_
      exact w_ret_n (t := .boolean) X14 hx hret hlk (by simp) (hb hby at_180) (z' := (1 : Int32)) rfl (by decide) (by decide) ⟨rfl, N12⟩
  have Jt3 : ∀ (T23 : State) (L19 : List Loc) (tf7 tf8 tf9 : Int32) (tla tlb tN : Nat) (tA : List Int32) (tk : ClassId) (tq1 tq2 : Jvm.Cell) (to : Jvm.Cell), Fr n0 L19 → Stand p l e room_1 s m #[Value.int x0, Value.long x1, Value.long x2, Value.int x3, Value.int x4] below meth c T23 L19 4 89 → IsA Z tk .byte → tA.length = tN → own_B tA → tla + tlb ≤ tN → (tla + tlb = tN → tN = 0) → tla ≤ 9 → tlb ≤ 9 → tN ≤ 36 → (∀ j, j < tla → tA.getD j 0 &&& 255 = sp10 (Int64.ofNat na) (Int32.ofNat j) (Int32.ofNat tla)) → (∀ i, tla ≤ i → i < tla + tlb → tA.getD i 0 &&& 255 = sp10 (Int64.ofNat nb) (Int32.ofNat (i - tla)) (Int32.ofNat tlb)) → HP n0 T23.heap [to, tq1, tq2, AC tk (List.map Value.int tA)] → ObjF Z to "com/example/dirichlet/dirichlet/index/ByteSink" fl_C0 [.ref (n0 + 3), .int (Int32.ofNat (tla + tlb))] → Wp p e s below room_1.cells room_1.slots (LawQ n0) T23 (mkF m 147 #[.val (.int x0), .val (.long x1), .second, .val (.long x2), .second, .val (.int x3), .val (.int x4), .val (.int tf7), .val (.int tf8), .val (.int tf9), .val (.long (Int64.ofNat na)), .second, .val (.long (Int64.ofNat nb)), .second, .val (.ref (n0 + 0)), .val (.int (Int32.ofNat tla)), .val (.int (Int32.ofNat tlb)), .val (.int (Int32.ofNat (tla + tlb))), .unset, .unset, .unset, .unset] []) := by
    intro T23 L19 tf7 tf8 tf9 tla tlb tN tA tk tq1 tq2 to N19 X23 thk htA htB htn htz htla9 htlb9 htN hcA hcB P23 tF
    refine w_aload X23 hx (hb hby at_147) rfl rfl (pc' := 149) rfl ?_
    refine own_callV (W := 0) X23 hx hZ rfl hown hml.symm (wd13 hw) (wd14 hw) (wd16 hw) (wd15 hw) (wd3 hw) (wd17 hw) (rm_toA30 l Z a0 hw [] n0 to tq1 tq2 tk tA tN (tla + tlb) _ P23 thk htA tF htB htn htz (by omega) htN) (a := (n0 + 0)) (P23.exa (i := 0) rfl tF.1) (by decide) (by decide) (by decide) (by decide) (by decide) (argsL := []) (rest := []) pd3 rfl rfl rfl (Nat.le_of_eq rfl) (hb hby at_149) (pc' := 152) rfl ?_
    intro v24 T24 L20 X24 hq
    obtain ⟨rfl, N20, kA7, hkA7, P24⟩ := hq
    replace N20 := Fr.app N19 N20
    replace P24 : HP n0 T24.heap [to, tq1, tq2, AC tk (List.map Value.int tA), AC kA7 (List.map Value.int (List.take (tla + tlb) tA))] := P24
    refine w_astore (l' := #[.val (.int x0), .val (.long x1), .second, .val (.long x2), .second, .val (.int x3), .val (.int x4), .val (.int tf7), .val (.int tf8), .val (.int tf9), .val (.long (Int64.ofNat na)), .second, .val (.long (Int64.ofNat nb)), .second, .val (.ref (n0 + 0)), .val (.int (Int32.ofNat tla)), .val (.int (Int32.ofNat tlb)), .val (.int (Int32.ofNat (tla + tlb))), .val (.ref (n0 + 4)), .unset, .unset, .unset]) X24 hx (hb hby at_152) rfl rfl (pc' := 154) rfl ?_
    refine w_aload X24 hx (hb hby at_154) rfl rfl (pc' := 156) rfl ?_
    refine w_arrlen (i := 4) X24 hx hZ P24 rfl hkA7 (hb hby at_156) (z := (Int32.ofNat (tla + tlb))) (own_len (own_tk htA (by omega))) (pc' := 157) rfl ?_
    refine w_iload X24 hx (hb hby at_157) rfl (pc' := 159) rfl ?_
    refine w_icmp_ne X24 hx (hb hby at_159) (by decide) (pcY := 172) (by decide) (pc' := 162) rfl (fun h24 => absurd rfl h24) (fun h24 => ?_)
    refine w_aload X24 hx (hb hby at_162) rfl rfl (pc' := 164) rfl ?_
    refine own_callV (W := 0) X24 hx hZ rfl hown hml.symm (wd33 hw) (wd34 hw) (wd36 hw) (wd35 hw) (wd3 hw) (wd37 hw) (rm_size l Z a0 hw [] n0 to (n0 + 3) (Int32.ofNat (tla + tlb)) ([tq1, tq2, AC tk (List.map Value.int tA), AC kA7 (List.map Value.int (List.take (tla + tlb) tA))]) _ P24 tF) (a := (n0 + 0)) (P24.exa (i := 0) rfl tF.1) (by decide) (by decide) (by decide) (by decide) (by decide) (argsL := []) (rest := []) pd5 rfl rfl rfl (Nat.le_of_eq rfl) (hb hby at_164) (pc' := 167) rfl ?_
    intro v25 T25 L21 X25 hq
    obtain ⟨rfl, N21, P25⟩ := hq
    replace N21 := Fr.app N20 N21
    replace P25 : HP n0 T25.heap [to, tq1, tq2, AC tk (List.map Value.int tA), AC kA7 (List.map Value.int (List.take (tla + tlb) tA))] := P25
    refine w_iload X25 hx (hb hby at_167) rfl (pc' := 169) rfl ?_
    refine w_icmp_eq X25 hx (hb hby at_169) (by decide) (pcY := 174) (by decide) (pc' := 172) rfl (fun h25 => ?_) (fun h25 => absurd rfl h25)
    refine w_iload X25 hx (hb hby at_174) rfl (pc' := 176) rfl ?_
    refine w_if_ne X25 hx (hb hby at_176) (by decide) (pcY := 181) (by decide) (pc' := 179) rfl (fun h26 => ?_) (fun h26 => ?_)
    · have h26n : ¬ (tla + tlb) = 0 := fun q => h26 ((own_oeq (a := (tla + tlb)) (b := 0) (by omega) (by omega)).mpr q)
      obtain ⟨ti, hti, eti⟩ := own_rem x4 (Int32.ofNat (tla + tlb)) (tla + tlb) (own_oN (by omega)) (by omega)
      refine w_iload X25 hx (hb hby at_181) rfl (pc' := 183) rfl ?_
      refine w_ldc X25 hx (hb hby at_183) hown (mvT hZ (wd62 hw)) (pc' := 185) rfl ?_
      refine w_iand X25 hx (hb hby at_185) (pc' := 186) rfl ?_
      refine w_iload X25 hx (hb hby at_186) rfl (pc' := 188) rfl ?_
      refine w_irem X25 hx (hb hby at_188) (own_nz (by omega) (by omega)) (pc' := 189) rfl ?_
      refine w_eqI (z := (Int32.ofNat ti)) eti ?_
      refine w_istore (l' := #[.val (.int x0), .val (.long x1), .second, .val (.long x2), .second, .val (.int x3), .val (.int x4), .val (.int tf7), .val (.int tf8), .val (.int tf9), .val (.long (Int64.ofNat na)), .second, .val (.long (Int64.ofNat nb)), .second, .val (.ref (n0 + 0)), .val (.int (Int32.ofNat tla)), .val (.int (Int32.ofNat tlb)), .val (.int (Int32.ofNat (tla + tlb))), .val (.ref (n0 + 4)), .val (.int (Int32.ofNat ti)), .unset, .unset]) X25 hx (hb hby at_189) rfl (pc' := 191) rfl ?_
      refine w_iload X25 hx (hb hby at_191) rfl (pc' := 193) rfl ?_
      refine w_iload X25 hx (hb hby at_193) rfl (pc' := 195) rfl ?_
      refine w_icmp_ge X25 hx (hb hby at_195) (by decide) (pcY := 210) (by decide) (pc' := 198) rfl (fun h27 => ?_) (fun h27 => ?_)
      · have h27n : ¬ ti < tla := fun q => h27 ((own_olt (a := ti) (b := tla) (by omega) (by omega)).mpr q)
        refine w_lload X25 hx (hb hby at_210) rfl (pc' := 212) rfl ?_
        refine w_iload X25 hx (hb hby at_212) rfl (pc' := 214) rfl ?_
        refine w_iload X25 hx (hb hby at_214) rfl (pc' := 216) rfl ?_
        refine w_isub X25 hx (hb hby at_216) (pc' := 217) rfl ?_
        refine w_eqI (z := (Int32.ofNat (ti - tla))) (own_osub (a := ti) (b := tla) (by omega)) ?_
        refine w_iload X25 hx (hb hby at_217) rfl (pc' := 219) rfl ?_
        refine w_callP (W := 0) X25 hx hZ rfl hown hml.symm (wd63 hw) (wd64 hw) (wd51 hw) (wd65 hw) (rm10 l Z a0 hw [] (Int64.ofNat nb) (Int32.ofNat (ti - tla)) (Int32.ofNat tlb) _) (by decide) (by decide) (by decide) rfl rfl (by decide) (by decide) (argsL := [.long (Int64.ofNat nb), .int (Int32.ofNat (ti - tla)), .int (Int32.ofNat tlb)]) (rest := []) pd10 rfl rfl rfl (Nat.le_of_eq rfl) (hb hby at_219) (pc' := 222) rfl ?_
        intro T26 X26 e26
        have P26 : HP n0 T26.heap [to, tq1, tq2, AC tk (List.map Value.int tA), AC kA7 (List.map Value.int (List.take (tla + tlb) tA))] := by rw [e26]; exact P25
        refine w_istore (l' := #[.val (.int x0), .val (.long x1), .second, .val (.long x2), .second, .val (.int x3), .val (.int x4), .val (.int tf7), .val (.int tf8), .val (.int tf9), .val (.long (Int64.ofNat na)), .second, .val (.long (Int64.ofNat nb)), .second, .val (.ref (n0 + 0)), .val (.int (Int32.ofNat tla)), .val (.int (Int32.ofNat tlb)), .val (.int (Int32.ofNat (tla + tlb))), .val (.ref (n0 + 4)), .val (.int (Int32.ofNat ti)), .val (.int (sp10 (Int64.ofNat nb) (Int32.ofNat (ti - tla)) (Int32.ofNat tlb))), .unset]) X26 hx (hb hby at_222) rfl (pc' := 224) rfl ?_
        refine w_aload X26 hx (hb hby at_224) rfl rfl (pc' := 226) rfl ?_
        refine w_iload X26 hx (hb hby at_226) rfl (pc' := 228) rfl ?_
        refine w_baloadL (i := 4) (jn := ti) X26 hx hZ P26 rfl hkA7 (hb hby at_228) (own_oN (by omega)) (own_llt (own_tk htA (by omega)) (by omega)) (pc' := 229) rfl ?_
        refine w_sipush (v := (255 : Int32)) X26 hx (hb hby at_229) rfl (pc' := 232) rfl ?_
        refine w_iand X26 hx (hb hby at_232) (pc' := 233) rfl ?_
        refine w_iload X26 hx (hb hby at_233) rfl (pc' := 235) rfl ?_
        refine w_icmp_eq X26 hx (hb hby at_235) (by decide) (pcY := 240) (by decide) (pc' := 238) rfl (fun h28 => ?_) (fun h28 => absurd (by rw [own_tkg hti]; exact hcB ti (by omega) hti) h28)
        refine w_aload X26 hx (hb hby at_240) rfl rfl (pc' := 242) rfl ?_
        refine w_iload X26 hx (hb hby at_242) rfl (pc' := 244) rfl ?_
        refine w_aload X26 hx (hb hby at_244) rfl rfl (pc' := 246) rfl ?_
        refine w_iload X26 hx (hb hby at_246) rfl (pc' := 248) rfl ?_
        refine w_baloadL (i := 4) (jn := ti) X26 hx hZ P26 rfl hkA7 (hb hby at_248) (own_oN (by omega)) (own_llt (own_tk htA (by omega)) (by omega)) (pc' := 249) rfl ?_
        refine w_iconst (v := (1 : Int32)) X26 hx (hb hby at_249) rfl (pc' := 250) rfl ?_
        refine w_ixor X26 hx (hb hby at_250) (pc' := 251) rfl ?_
        refine w_i2b X26 hx (hb hby at_251) (pc' := 252) rfl ?_
        refine w_bastoreEL (i := 4) (jn := ti) X26 hx hZ N21 P26 rfl hkA7 (hb hby at_252) rfl (own_oN (by omega)) (own_llt (own_tk htA (by omega)) (by omega)) (pc' := 253) rfl ?_
        intro T27 L22 N22 X27 P27
        replace P27 : HP n0 T27.heap [to, tq1, tq2, AC tk (List.map Value.int tA), AC kA7 (List.map Value.int ((List.take (tla + tlb) tA).set ti (nar .byte (Int8.toInt32 (Int32.toInt8 (((List.take (tla + tlb) tA).getD ti 0) ^^^ (1 : Int32)))))))] := P27
        refine w_aload X27 hx (hb hby at_253) rfl rfl (pc' := 255) rfl ?_
        refine own_callV (W := 0) X27 hx hZ rfl hown hml.symm (wd13 hw) (wd14 hw) (wd16 hw) (wd15 hw) (wd3 hw) (wd17 hw) (rm_toA31 l Z a0 hw [] n0 to tq1 tq2 (AC kA7 (List.map Value.int ((List.take (tla + tlb) tA).set ti (nar .byte (Int8.toInt32 (Int32.toInt8 (((List.take (tla + tlb) tA).getD ti 0) ^^^ (1 : Int32)))))))) tk tA tN (tla + tlb) _ P27 thk htA tF htB htn htz (by omega) htN) (a := (n0 + 0)) (P27.exa (i := 0) rfl tF.1) (by decide) (by decide) (by decide) (by decide) (by decide) (argsL := []) (rest := []) pd3 rfl rfl rfl (Nat.le_of_eq rfl) (hb hby at_255) (pc' := 258) rfl ?_
        intro v28 T28 L23 X28 hq
        obtain ⟨rfl, N23, kA8, hkA8, P28⟩ := hq
        replace N23 := Fr.app N22 N23
        replace P28 : HP n0 T28.heap [to, tq1, tq2, AC tk (List.map Value.int tA), AC kA7 (List.map Value.int ((List.take (tla + tlb) tA).set ti (nar .byte (Int8.toInt32 (Int32.toInt8 (((List.take (tla + tlb) tA).getD ti 0) ^^^ (1 : Int32))))))), AC kA8 (List.map Value.int (List.take (tla + tlb) tA))] := P28
        refine w_astore (l' := #[.val (.int x0), .val (.long x1), .second, .val (.long x2), .second, .val (.int x3), .val (.int x4), .val (.int tf7), .val (.int tf8), .val (.int tf9), .val (.long (Int64.ofNat na)), .second, .val (.long (Int64.ofNat nb)), .second, .val (.ref (n0 + 0)), .val (.int (Int32.ofNat tla)), .val (.int (Int32.ofNat tlb)), .val (.int (Int32.ofNat (tla + tlb))), .val (.ref (n0 + 4)), .val (.int (Int32.ofNat ti)), .val (.int (sp10 (Int64.ofNat nb) (Int32.ofNat (ti - tla)) (Int32.ofNat tlb))), .val (.ref (n0 + 5))]) X28 hx (hb hby at_258) rfl rfl (pc' := 260) rfl ?_
        refine w_aload X28 hx (hb hby at_260) rfl rfl (pc' := 262) rfl ?_
        refine w_aload X28 hx (hb hby at_262) rfl rfl (pc' := 264) rfl ?_
        refine w_acmpeqN X28 hx (hb hby at_264) rfl rfl (fun q => absurd (Nat.add_left_cancel (Value.ref.inj q)) (by decide)) (pc' := 267) rfl ?_
        refine w_aload X28 hx (hb hby at_267) rfl rfl (pc' := 269) rfl ?_
        refine w_arrlen (i := 5) X28 hx hZ P28 rfl hkA8 (hb hby at_269) (z := (Int32.ofNat (tla + tlb))) (own_len (own_tk htA (by omega))) (pc' := 270) rfl ?_
        refine w_iload X28 hx (hb hby at_270) rfl (pc' := 272) rfl ?_
        refine w_icmp_ne X28 hx (hb hby at_272) (by decide) (pcY := 303) (by decide) (pc' := 275) rfl (fun h29 => absurd rfl h29) (fun h29 => ?_)
        refine w_aload X28 hx (hb hby at_275) rfl rfl (pc' := 277) rfl ?_
        refine w_iload X28 hx (hb hby at_277) rfl (pc' := 279) rfl ?_
        refine w_baloadL (i := 5) (jn := ti) X28 hx hZ P28 rfl hkA8 (hb hby at_279) (own_oN (by omega)) (own_llt (own_tk htA (by omega)) (by omega)) (pc' := 280) rfl ?_
        refine w_sipush (v := (255 : Int32)) X28 hx (hb hby at_280) rfl (pc' := 283) rfl ?_
        refine w_iand X28 hx (hb hby at_283) (pc' := 284) rfl ?_
        refine w_iload X28 hx (hb hby at_284) rfl (pc' := 286) rfl ?_
        refine w_icmp_ne X28 hx (hb hby at_286) (by decide) (pcY := 303) (by decide) (pc' := 289) rfl (fun h30 => absurd (by rw [own_tkg hti]; exact hcB ti (by omega) hti) h30) (fun h30 => ?_)
        refine w_aload X28 hx (hb hby at_289) rfl rfl (pc' := 291) rfl ?_
        refine own_callV (W := 0) X28 hx hZ rfl hown hml.symm (wd33 hw) (wd34 hw) (wd36 hw) (wd35 hw) (wd3 hw) (wd37 hw) (rm_size l Z a0 hw [] n0 to (n0 + 3) (Int32.ofNat (tla + tlb)) ([tq1, tq2, AC tk (List.map Value.int tA), AC kA7 (List.map Value.int ((List.take (tla + tlb) tA).set ti (nar .byte (Int8.toInt32 (Int32.toInt8 (((List.take (tla + tlb) tA).getD ti 0) ^^^ (1 : Int32))))))), AC kA8 (List.map Value.int (List.take (tla + tlb) tA))]) _ P28 tF) (a := (n0 + 0)) (P28.exa (i := 0) rfl tF.1) (by decide) (by decide) (by decide) (by decide) (by decide) (argsL := []) (rest := []) pd5 rfl rfl rfl (Nat.le_of_eq rfl) (hb hby at_291) (pc' := 294) rfl ?_
        intro v29 T29 L24 X29 hq
        obtain ⟨rfl, N24, P29⟩ := hq
        replace N24 := Fr.app N23 N24
        replace P29 : HP n0 T29.heap [to, tq1, tq2, AC tk (List.map Value.int tA), AC kA7 (List.map Value.int ((List.take (tla + tlb) tA).set ti (nar .byte (Int8.toInt32 (Int32.toInt8 (((List.take (tla + tlb) tA).getD ti 0) ^^^ (1 : Int32))))))), AC kA8 (List.map Value.int (List.take (tla + tlb) tA))] := P29
        refine w_iload X29 hx (hb hby at_294) rfl (pc' := 296) rfl ?_
        refine w_icmp_ne X29 hx (hb hby at_296) (by decide) (pcY := 303) (by decide) (pc' := 299) rfl (fun h31 => absurd rfl h31) (fun h31 => ?_)
        refine w_iconst (v := (1 : Int32)) X29 hx (hb hby at_299) rfl (pc' := 300) rfl ?_
        refine w_goto X29 hx (hb hby at_300) (by decide) (pc' := 304) (by decide) ?_
        exact w_ret_n (t := .boolean) X29 hx hret hlk (by simp) (hb hby at_304) (z' := (1 : Int32)) rfl (by decide) (by decide) ⟨rfl, N24⟩
      · have h27n : ti < tla := (own_olt (a := ti) (b := tla) (by omega) (by omega)).mp h27
        refine w_lload X25 hx (hb hby at_198) rfl (pc' := 200) rfl ?_
        refine w_iload X25 hx (hb hby at_200) rfl (pc' := 202) rfl ?_
        refine w_iload X25 hx (hb hby at_202) rfl (pc' := 204) rfl ?_
        refine w_callP (W := 0) X25 hx hZ rfl hown hml.symm (wd63 hw) (wd64 hw) (wd51 hw) (wd65 hw) (rm10 l Z a0 hw [] (Int64.ofNat na) (Int32.ofNat ti) (Int32.ofNat tla) _) (by decide) (by decide) (by decide) rfl rfl (by decide) (by decide) (argsL := [.long (Int64.ofNat na), .int (Int32.ofNat ti), .int (Int32.ofNat tla)]) (rest := []) pd10 rfl rfl rfl (Nat.le_of_eq rfl) (hb hby at_204) (pc' := 207) rfl ?_
        intro T30 X30 e30
        have P30 : HP n0 T30.heap [to, tq1, tq2, AC tk (List.map Value.int tA), AC kA7 (List.map Value.int (List.take (tla + tlb) tA))] := by rw [e30]; exact P25
        refine w_goto X30 hx (hb hby at_207) (by decide) (pc' := 222) (by decide) ?_
        refine w_istore (l' := #[.val (.int x0), .val (.long x1), .second, .val (.long x2), .second, .val (.int x3), .val (.int x4), .val (.int tf7), .val (.int tf8), .val (.int tf9), .val (.long (Int64.ofNat na)), .second, .val (.long (Int64.ofNat nb)), .second, .val (.ref (n0 + 0)), .val (.int (Int32.ofNat tla)), .val (.int (Int32.ofNat tlb)), .val (.int (Int32.ofNat (tla + tlb))), .val (.ref (n0 + 4)), .val (.int (Int32.ofNat ti)), .val (.int (sp10 (Int64.ofNat na) (Int32.ofNat ti) (Int32.ofNat tla))), .unset]) X30 hx (hb hby at_222) rfl (pc' := 224) rfl ?_
        refine w_aload X30 hx (hb hby at_224) rfl rfl (pc' := 226) rfl ?_
        refine w_iload X30 hx (hb hby at_226) rfl (pc' := 228) rfl ?_
        refine w_baloadL (i := 4) (jn := ti) X30 hx hZ P30 rfl hkA7 (hb hby at_228) (own_oN (by omega)) (own_llt (own_tk htA (by omega)) (by omega)) (pc' := 229) rfl ?_
        refine w_sipush (v := (255 : Int32)) X30 hx (hb hby at_229) rfl (pc' := 232) rfl ?_
        refine w_iand X30 hx (hb hby at_232) (pc' := 233) rfl ?_
        refine w_iload X30 hx (hb hby at_233) rfl (pc' := 235) rfl ?_
        refine w_icmp_eq X30 hx (hb hby at_235) (by decide) (pcY := 240) (by decide) (pc' := 238) rfl (fun h32 => ?_) (fun h32 => absurd (by rw [own_tkg hti]; exact hcA ti (by omega)) h32)
        refine w_aload X30 hx (hb hby at_240) rfl rfl (pc' := 242) rfl ?_
        refine w_iload X30 hx (hb hby at_242) rfl (pc' := 244) rfl ?_
        refine w_aload X30 hx (hb hby at_244) rfl rfl (pc' := 246) rfl ?_
        refine w_iload X30 hx (hb hby at_246) rfl (pc' := 248) rfl ?_
        refine w_baloadL (i := 4) (jn := ti) X30 hx hZ P30 rfl hkA7 (hb hby at_248) (own_oN (by omega)) (own_llt (own_tk htA (by omega)) (by omega)) (pc' := 249) rfl ?_
        refine w_iconst (v := (1 : Int32)) X30 hx (hb hby at_249) rfl (pc' := 250) rfl ?_
        refine w_ixor X30 hx (hb hby at_250) (pc' := 251) rfl ?_
        refine w_i2b X30 hx (hb hby at_251) (pc' := 252) rfl ?_
        refine w_bastoreEL (i := 4) (jn := ti) X30 hx hZ N21 P30 rfl hkA7 (hb hby at_252) rfl (own_oN (by omega)) (own_llt (own_tk htA (by omega)) (by omega)) (pc' := 253) rfl ?_
        intro T31 L25 N25 X31 P31
        replace P31 : HP n0 T31.heap [to, tq1, tq2, AC tk (List.map Value.int tA), AC kA7 (List.map Value.int ((List.take (tla + tlb) tA).set ti (nar .byte (Int8.toInt32 (Int32.toInt8 (((List.take (tla + tlb) tA).getD ti 0) ^^^ (1 : Int32)))))))] := P31
        refine w_aload X31 hx (hb hby at_253) rfl rfl (pc' := 255) rfl ?_
        refine own_callV (W := 0) X31 hx hZ rfl hown hml.symm (wd13 hw) (wd14 hw) (wd16 hw) (wd15 hw) (wd3 hw) (wd17 hw) (rm_toA31 l Z a0 hw [] n0 to tq1 tq2 (AC kA7 (List.map Value.int ((List.take (tla + tlb) tA).set ti (nar .byte (Int8.toInt32 (Int32.toInt8 (((List.take (tla + tlb) tA).getD ti 0) ^^^ (1 : Int32)))))))) tk tA tN (tla + tlb) _ P31 thk htA tF htB htn htz (by omega) htN) (a := (n0 + 0)) (P31.exa (i := 0) rfl tF.1) (by decide) (by decide) (by decide) (by decide) (by decide) (argsL := []) (rest := []) pd3 rfl rfl rfl (Nat.le_of_eq rfl) (hb hby at_255) (pc' := 258) rfl ?_
        intro v32 T32 L26 X32 hq
        obtain ⟨rfl, N26, kA9, hkA9, P32⟩ := hq
        replace N26 := Fr.app N25 N26
        replace P32 : HP n0 T32.heap [to, tq1, tq2, AC tk (List.map Value.int tA), AC kA7 (List.map Value.int ((List.take (tla + tlb) tA).set ti (nar .byte (Int8.toInt32 (Int32.toInt8 (((List.take (tla + tlb) tA).getD ti 0) ^^^ (1 : Int32))))))), AC kA9 (List.map Value.int (List.take (tla + tlb) tA))] := P32
        refine w_astore (l' := #[.val (.int x0), .val (.long x1), .second, .val (.long x2), .second, .val (.int x3), .val (.int x4), .val (.int tf7), .val (.int tf8), .val (.int tf9), .val (.long (Int64.ofNat na)), .second, .val (.long (Int64.ofNat nb)), .second, .val (.ref (n0 + 0)), .val (.int (Int32.ofNat tla)), .val (.int (Int32.ofNat tlb)), .val (.int (Int32.ofNat (tla + tlb))), .val (.ref (n0 + 4)), .val (.int (Int32.ofNat ti)), .val (.int (sp10 (Int64.ofNat na) (Int32.ofNat ti) (Int32.ofNat tla))), .val (.ref (n0 + 5))]) X32 hx (hb hby at_258) rfl rfl (pc' := 260) rfl ?_
        refine w_aload X32 hx (hb hby at_260) rfl rfl (pc' := 262) rfl ?_
        refine w_aload X32 hx (hb hby at_262) rfl rfl (pc' := 264) rfl ?_
        refine w_acmpeqN X32 hx (hb hby at_264) rfl rfl (fun q => absurd (Nat.add_left_cancel (Value.ref.inj q)) (by decide)) (pc' := 267) rfl ?_
        refine w_aload X32 hx (hb hby at_267) rfl rfl (pc' := 269) rfl ?_
        refine w_arrlen (i := 5) X32 hx hZ P32 rfl hkA9 (hb hby at_269) (z := (Int32.ofNat (tla + tlb))) (own_len (own_tk htA (by omega))) (pc' := 270) rfl ?_
        refine w_iload X32 hx (hb hby at_270) rfl (pc' := 272) rfl ?_
        refine w_icmp_ne X32 hx (hb hby at_272) (by decide) (pcY := 303) (by decide) (pc' := 275) rfl (fun h33 => absurd rfl h33) (fun h33 => ?_)
        refine w_aload X32 hx (hb hby at_275) rfl rfl (pc' := 277) rfl ?_
        refine w_iload X32 hx (hb hby at_277) rfl (pc' := 279) rfl ?_
        refine w_baloadL (i := 5) (jn := ti) X32 hx hZ P32 rfl hkA9 (hb hby at_279) (own_oN (by omega)) (own_llt (own_tk htA (by omega)) (by omega)) (pc' := 280) rfl ?_
        refine w_sipush (v := (255 : Int32)) X32 hx (hb hby at_280) rfl (pc' := 283) rfl ?_
        refine w_iand X32 hx (hb hby at_283) (pc' := 284) rfl ?_
        refine w_iload X32 hx (hb hby at_284) rfl (pc' := 286) rfl ?_
        refine w_icmp_ne X32 hx (hb hby at_286) (by decide) (pcY := 303) (by decide) (pc' := 289) rfl (fun h34 => absurd (by rw [own_tkg hti]; exact hcA ti (by omega)) h34) (fun h34 => ?_)
        refine w_aload X32 hx (hb hby at_289) rfl rfl (pc' := 291) rfl ?_
        refine own_callV (W := 0) X32 hx hZ rfl hown hml.symm (wd33 hw) (wd34 hw) (wd36 hw) (wd35 hw) (wd3 hw) (wd37 hw) (rm_size l Z a0 hw [] n0 to (n0 + 3) (Int32.ofNat (tla + tlb)) ([tq1, tq2, AC tk (List.map Value.int tA), AC kA7 (List.map Value.int ((List.take (tla + tlb) tA).set ti (nar .byte (Int8.toInt32 (Int32.toInt8 (((List.take (tla + tlb) tA).getD ti 0) ^^^ (1 : Int32))))))), AC kA9 (List.map Value.int (List.take (tla + tlb) tA))]) _ P32 tF) (a := (n0 + 0)) (P32.exa (i := 0) rfl tF.1) (by decide) (by decide) (by decide) (by decide) (by decide) (argsL := []) (rest := []) pd5 rfl rfl rfl (Nat.le_of_eq rfl) (hb hby at_291) (pc' := 294) rfl ?_
        intro v33 T33 L27 X33 hq
        obtain ⟨rfl, N27, P33⟩ := hq
        replace N27 := Fr.app N26 N27
        replace P33 : HP n0 T33.heap [to, tq1, tq2, AC tk (List.map Value.int tA), AC kA7 (List.map Value.int ((List.take (tla + tlb) tA).set ti (nar .byte (Int8.toInt32 (Int32.toInt8 (((List.take (tla + tlb) tA).getD ti 0) ^^^ (1 : Int32))))))), AC kA9 (List.map Value.int (List.take (tla + tlb) tA))] := P33
        refine w_iload X33 hx (hb hby at_294) rfl (pc' := 296) rfl ?_
        refine w_icmp_ne X33 hx (hb hby at_296) (by decide) (pcY := 303) (by decide) (pc' := 299) rfl (fun h35 => absurd rfl h35) (fun h35 => ?_)
        refine w_iconst (v := (1 : Int32)) X33 hx (hb hby at_299) rfl (pc' := 300) rfl ?_
        refine w_goto X33 hx (hb hby at_300) (by decide) (pc' := 304) (by decide) ?_
        exact w_ret_n (t := .boolean) X33 hx hret hlk (by simp) (hb hby at_304) (z' := (1 : Int32)) rfl (by decide) (by decide) ⟨rfl, N27⟩
    · have h26n : (tla + tlb) = 0 := (own_oeq (a := (tla + tlb)) (b := 0) (by omega) (by omega)).mp h26
      refine w_iconst (v := (1 : Int32)) X25 hx (hb hby at_179) rfl (pc' := 180) rfl ?_
      exact w_ret_n (t := .boolean) X25 hx hret hlk (by simp) (hb hby at_180) (z' := (1 : Int32)) rfl (by decide) (by decide) ⟨rfl, N21⟩
  refine w_iload X0 hx (hb hby at_0) rfl (pc' := 2) rfl ?_
  refine w_iconst (v := (1 : Int32)) X0 hx (hb hby at_2) rfl (pc' := 3) rfl ?_
  refine w_iand X0 hx (hb hby at_3) (pc' := 4) rfl ?_
  refine w_if_eq X0 hx (hb hby at_4) (by decide) (pcY := 11) (by decide) (pc' := 7) rfl (fun h36 => ?_) (fun h36 => ?_)
  · refine w_iconst (v := (0 : Int32)) X0 hx (hb hby at_11) rfl (pc' := 12) rfl ?_
    refine w_istore (l' := #[.val (.int x0), .val (.long x1), .second, .val (.long x2), .second, .val (.int x3), .val (.int x4), .val (.int (0 : Int32)), .unset, .unset, .unset, .unset, .unset, .unset, .unset, .unset, .unset, .unset, .unset, .unset, .unset, .unset]) X0 hx (hb hby at_12) rfl (pc' := 14) rfl ?_
    refine w_iload X0 hx (hb hby at_14) rfl (pc' := 16) rfl ?_
    refine w_iconst (v := (2 : Int32)) X0 hx (hb hby at_16) rfl (pc' := 17) rfl ?_
    refine w_iand X0 hx (hb hby at_17) (pc' := 18) rfl ?_
    refine w_if_eq X0 hx (hb hby at_18) (by decide) (pcY := 25) (by decide) (pc' := 21) rfl (fun h37 => ?_) (fun h37 => ?_)
    · refine w_iconst (v := (0 : Int32)) X0 hx (hb hby at_25) rfl (pc' := 26) rfl ?_
      refine w_istore (l' := #[.val (.int x0), .val (.long x1), .second, .val (.long x2), .second, .val (.int x3), .val (.int x4), .val (.int (0 : Int32)), .val (.int (0 : Int32)), .unset, .unset, .unset, .unset, .unset, .unset, .unset, .unset, .unset, .unset, .unset, .unset, .unset]) X0 hx (hb hby at_26) rfl (pc' := 28) rfl ?_
      refine w_iload X0 hx (hb hby at_28) rfl (pc' := 30) rfl ?_
      refine w_iconst (v := (4 : Int32)) X0 hx (hb hby at_30) rfl (pc' := 31) rfl ?_
      refine w_iand X0 hx (hb hby at_31) (pc' := 32) rfl ?_
      refine w_if_eq X0 hx (hb hby at_32) (by decide) (pcY := 39) (by decide) (pc' := 35) rfl (fun h38 => ?_) (fun h38 => ?_)
      · refine w_iconst (v := (0 : Int32)) X0 hx (hb hby at_39) rfl (pc' := 40) rfl ?_
        refine w_istore (l' := #[.val (.int x0), .val (.long x1), .second, .val (.long x2), .second, .val (.int x3), .val (.int x4), .val (.int (0 : Int32)), .val (.int (0 : Int32)), .val (.int (0 : Int32)), .unset, .unset, .unset, .unset, .unset, .unset, .unset, .unset, .unset, .unset, .unset, .unset]) X0 hx (hb hby at_40) rfl (pc' := 42) rfl ?_
        refine w_lloadN X0 hx (hb hby at_42) rfl (pc' := 43) rfl ?_
        refine w_ldc2 X0 hx (hb hby at_43) hown (mvT hZ (wd0 hw)) (pc' := 46) rfl ?_
        refine w_land X0 hx (hb hby at_46) (pc' := 47) rfl ?_
        refine w_eqJ (z := (Int64.ofNat na)) ena ?_
        refine w_lstore (l' := #[.val (.int x0), .val (.long x1), .second, .val (.long x2), .second, .val (.int x3), .val (.int x4), .val (.int (0 : Int32)), .val (.int (0 : Int32)), .val (.int (0 : Int32)), .val (.long (Int64.ofNat na)), .second, .unset, .unset, .unset, .unset, .unset, .unset, .unset, .unset, .unset, .unset]) X0 hx (hb hby at_47) rfl (pc' := 49) rfl ?_
        refine w_lloadN X0 hx (hb hby at_49) rfl (pc' := 50) rfl ?_
        refine w_ldc2 X0 hx (hb hby at_50) hown (mvT hZ (wd0 hw)) (pc' := 53) rfl ?_
        refine w_land X0 hx (hb hby at_53) (pc' := 54) rfl ?_
        refine w_eqJ (z := (Int64.ofNat nb)) enb ?_
        refine w_lstore (l' := #[.val (.int x0), .val (.long x1), .second, .val (.long x2), .second, .val (.int x3), .val (.int x4), .val (.int (0 : Int32)), .val (.int (0 : Int32)), .val (.int (0 : Int32)), .val (.long (Int64.ofNat na)), .second, .val (.long (Int64.ofNat nb)), .second, .unset, .unset, .unset, .unset, .unset, .unset, .unset, .unset]) X0 hx (hb hby at_54) rfl (pc' := 56) rfl ?_
        refine w_new (j := 0) X0 hx hZ hown (wd1 hw) (wd2 hw) (wd3 hw) P0 fl_C0 dv_C0 rfl (ly_C0 hw) (hb hby at_56) (by decide) (by decide) rfl (pc' := 59) rfl ?_
        intro T34 c10 X34 P34 F10
        replace P34 : HP n0 T34.heap [c10] := P34
        refine w_dup X34 hx (hb hby at_59) rfl (pc' := 60) rfl ?_
        refine w_iloadN X34 hx (hb hby at_60) rfl (pc' := 61) rfl ?_
        refine w_bipush (v := (15 : Int32)) X34 hx (hb hby at_61) rfl (pc' := 63) rfl ?_
        refine w_iand X34 hx (hb hby at_63) (pc' := 64) rfl ?_
        refine w_eqI (z := (Int32.ofNat c0)) ec0 ?_
        refine own_callI (W := 1) X34 hx hZ rfl rfl hown hml.symm (wd4 hw) (wd5 hw) (wd3 hw) (wd6 hw) (rm_init l Z a0 hw [] n0 c10 c0 _ P34 F10 (by omega)) (by decide) (by decide) (by decide) (by decide) (by decide) (a := (n0 + 0)) (argsL := [.int (Int32.ofNat c0)]) (rest := [.ref (n0 + 0)]) pd1 rfl rfl rfl (Nat.le_of_eq rfl) (hb hby at_64) (pc' := 67) rfl ?_
        intro v35 T35 L28 X35 hq
        obtain ⟨rfl, N28, c11, F11, kA12, hkA12, P35⟩ := hq
        replace N28 := Fr.app N0 N28
        replace P35 : HP n0 T35.heap [c11, AC kA12 (List.map Value.int (List.replicate c0 0))] := P35
        refine w_astore (l' := #[.val (.int x0), .val (.long x1), .second, .val (.long x2), .second, .val (.int x3), .val (.int x4), .val (.int (0 : Int32)), .val (.int (0 : Int32)), .val (.int (0 : Int32)), .val (.long (Int64.ofNat na)), .second, .val (.long (Int64.ofNat nb)), .second, .val (.ref (n0 + 0)), .unset, .unset, .unset, .unset, .unset, .unset, .unset]) X35 hx (hb hby at_67) rfl rfl (pc' := 69) rfl ?_
        refine w_iload X35 hx (hb hby at_69) rfl (pc' := 71) rfl ?_
        refine w_if_eq X35 hx (hb hby at_71) (by decide) (pcY := 81) (by decide) (pc' := 74) rfl (fun h39 => ?_) (fun h39 => absurd h39 (by decide))
        refine w_iload X35 hx (hb hby at_81) rfl (pc' := 83) rfl ?_
        refine w_if_eq X35 hx (hb hby at_83) (by decide) (pcY := 91) (by decide) (pc' := 86) rfl (fun h40 => ?_) (fun h40 => absurd h40 (by decide))
        refine w_iload X35 hx (hb hby at_91) rfl (pc' := 93) rfl ?_
        refine w_if_eq X35 hx (hb hby at_93) (by decide) (pcY := 103) (by decide) (pc' := 96) rfl (fun h41 => ?_) (fun h41 => absurd h41 (by decide))
        refine w_iload X35 hx (hb hby at_103) rfl (pc' := 105) rfl ?_
        refine w_if_eq X35 hx (hb hby at_105) (by decide) (pcY := 121) (by decide) (pc' := 108) rfl (fun h42 => ?_) (fun h42 => absurd h42 (by decide))
        refine w_iconst (v := (0 : Int32)) X35 hx (hb hby at_121) rfl (pc' := 122) rfl ?_
        refine w_istore (l' := #[.val (.int x0), .val (.long x1), .second, .val (.long x2), .second, .val (.int x3), .val (.int x4), .val (.int (0 : Int32)), .val (.int (0 : Int32)), .val (.int (0 : Int32)), .val (.long (Int64.ofNat na)), .second, .val (.long (Int64.ofNat nb)), .second, .val (.ref (n0 + 0)), .val (.int (0 : Int32)), .unset, .unset, .unset, .unset, .unset, .unset]) X35 hx (hb hby at_122) rfl (pc' := 124) rfl ?_
        refine w_iload X35 hx (hb hby at_124) rfl (pc' := 126) rfl ?_
        refine w_if_eq X35 hx (hb hby at_126) (by decide) (pcY := 137) (by decide) (pc' := 129) rfl (fun h43 => ?_) (fun h43 => absurd h43 (by decide))
        refine w_iconst (v := (0 : Int32)) X35 hx (hb hby at_137) rfl (pc' := 138) rfl ?_
        refine w_istore (l' := #[.val (.int x0), .val (.long x1), .second, .val (.long x2), .second, .val (.int x3), .val (.int x4), .val (.int (0 : Int32)), .val (.int (0 : Int32)), .val (.int (0 : Int32)), .val (.long (Int64.ofNat na)), .second, .val (.long (Int64.ofNat nb)), .second, .val (.ref (n0 + 0)), .val (.int (0 : Int32)), .val (.int (0 : Int32)), .unset, .unset, .unset, .unset, .unset]) X35 hx (hb hby at_138) rfl (pc' := 140) rfl ?_
        refine w_iload X35 hx (hb hby at_140) rfl (pc' := 142) rfl ?_
        refine w_iload X35 hx (hb hby at_142) rfl (pc' := 144) rfl ?_
        refine w_iadd X35 hx (hb hby at_144) (pc' := 145) rfl ?_
        refine w_eqI (z := (0 : Int32)) (by decide) ?_
        refine w_istore (l' := #[.val (.int x0), .val (.long x1), .second, .val (.long x2), .second, .val (.int x3), .val (.int x4), .val (.int (0 : Int32)), .val (.int (0 : Int32)), .val (.int (0 : Int32)), .val (.long (Int64.ofNat na)), .second, .val (.long (Int64.ofNat nb)), .second, .val (.ref (n0 + 0)), .val (.int (0 : Int32)), .val (.int (0 : Int32)), .val (.int (0 : Int32)), .unset, .unset, .unset, .unset]) X35 hx (hb hby at_145) rfl (pc' := 147) rfl ?_
        exact Jt1 T35 _ (0 : Int32) (0 : Int32) (0 : Int32) 0 0 c0 (List.replicate c0 0) kA12 c11 N28 (X35.more (by decide) (by decide)) hkA12 (List.length_replicate (n := c0) (a := (0 : Int32))) (own_Br c0) (by omega) (by omega) (by omega) (by omega) (by omega) (fun j h => absurd h (Nat.not_lt_zero _)) (fun i h1 h2 => absurd h2 (by omega)) P35 F11
      · refine w_iconst (v := (1 : Int32)) X0 hx (hb hby at_35) rfl (pc' := 36) rfl ?_
        refine w_goto X0 hx (hb hby at_36) (by decide) (pc' := 40) (by decide) ?_
        refine w_istore (l' := #[.val (.int x0), .val (.long x1), .second, .val (.long x2), .second, .val (.int x3), .val (.int x4), .val (.int (0 : Int32)), .val (.int (0 : Int32)), .val (.int (1 : Int32)), .unset, .unset, .unset, .unset, .unset, .unset, .unset, .unset, .unset, .unset, .unset, .unset]) X0 hx (hb hby at_40) rfl (pc' := 42) rfl ?_
        refine w_lloadN X0 hx (hb hby at_42) rfl (pc' := 43) rfl ?_
        refine w_ldc2 X0 hx (hb hby at_43) hown (mvT hZ (wd0 hw)) (pc' := 46) rfl ?_
        refine w_land X0 hx (hb hby at_46) (pc' := 47) rfl ?_
        refine w_eqJ (z := (Int64.ofNat na)) ena ?_
        refine w_lstore (l' := #[.val (.int x0), .val (.long x1), .second, .val (.long x2), .second, .val (.int x3), .val (.int x4), .val (.int (0 : Int32)), .val (.int (0 : Int32)), .val (.int (1 : Int32)), .val (.long (Int64.ofNat na)), .second, .unset, .unset, .unset, .unset, .unset, .unset, .unset, .unset, .unset, .unset]) X0 hx (hb hby at_47) rfl (pc' := 49) rfl ?_
        refine w_lloadN X0 hx (hb hby at_49) rfl (pc' := 50) rfl ?_
        refine w_ldc2 X0 hx (hb hby at_50) hown (mvT hZ (wd0 hw)) (pc' := 53) rfl ?_
        refine w_land X0 hx (hb hby at_53) (pc' := 54) rfl ?_
        refine w_eqJ (z := (Int64.ofNat nb)) enb ?_
        refine w_lstore (l' := #[.val (.int x0), .val (.long x1), .second, .val (.long x2), .second, .val (.int x3), .val (.int x4), .val (.int (0 : Int32)), .val (.int (0 : Int32)), .val (.int (1 : Int32)), .val (.long (Int64.ofNat na)), .second, .val (.long (Int64.ofNat nb)), .second, .unset, .unset, .unset, .unset, .unset, .unset, .unset, .unset]) X0 hx (hb hby at_54) rfl (pc' := 56) rfl ?_
        refine w_new (j := 0) X0 hx hZ hown (wd1 hw) (wd2 hw) (wd3 hw) P0 fl_C0 dv_C0 rfl (ly_C0 hw) (hb hby at_56) (by decide) (by decide) rfl (pc' := 59) rfl ?_
        intro T36 c13 X36 P36 F13
        replace P36 : HP n0 T36.heap [c13] := P36
        refine w_dup X36 hx (hb hby at_59) rfl (pc' := 60) rfl ?_
        refine w_iloadN X36 hx (hb hby at_60) rfl (pc' := 61) rfl ?_
        refine w_bipush (v := (15 : Int32)) X36 hx (hb hby at_61) rfl (pc' := 63) rfl ?_
        refine w_iand X36 hx (hb hby at_63) (pc' := 64) rfl ?_
        refine w_eqI (z := (Int32.ofNat c0)) ec0 ?_
        refine own_callI (W := 1) X36 hx hZ rfl rfl hown hml.symm (wd4 hw) (wd5 hw) (wd3 hw) (wd6 hw) (rm_init l Z a0 hw [] n0 c13 c0 _ P36 F13 (by omega)) (by decide) (by decide) (by decide) (by decide) (by decide) (a := (n0 + 0)) (argsL := [.int (Int32.ofNat c0)]) (rest := [.ref (n0 + 0)]) pd1 rfl rfl rfl (Nat.le_of_eq rfl) (hb hby at_64) (pc' := 67) rfl ?_
        intro v37 T37 L29 X37 hq
        obtain ⟨rfl, N29, c14, F14, kA15, hkA15, P37⟩ := hq
        replace N29 := Fr.app N0 N29
        replace P37 : HP n0 T37.heap [c14, AC kA15 (List.map Value.int (List.replicate c0 0))] := P37
        refine w_astore (l' := #[.val (.int x0), .val (.long x1), .second, .val (.long x2), .second, .val (.int x3), .val (.int x4), .val (.int (0 : Int32)), .val (.int (0 : Int32)), .val (.int (1 : Int32)), .val (.long (Int64.ofNat na)), .second, .val (.long (Int64.ofNat nb)), .second, .val (.ref (n0 + 0)), .unset, .unset, .unset, .unset, .unset, .unset, .unset]) X37 hx (hb hby at_67) rfl rfl (pc' := 69) rfl ?_
        refine w_iload X37 hx (hb hby at_69) rfl (pc' := 71) rfl ?_
        refine w_if_eq X37 hx (hb hby at_71) (by decide) (pcY := 81) (by decide) (pc' := 74) rfl (fun h44 => ?_) (fun h44 => absurd h44 (by decide))
        refine w_iload X37 hx (hb hby at_81) rfl (pc' := 83) rfl ?_
        refine w_if_eq X37 hx (hb hby at_83) (by decide) (pcY := 91) (by decide) (pc' := 86) rfl (fun h45 => absurd h45 (by decide)) (fun h45 => ?_)
        refine w_aload X37 hx (hb hby at_86) rfl rfl (pc' := 88) rfl ?_
        refine own_callV (W := 0) X37 hx hZ rfl hown hml.symm (wd67 hw) (wd68 hw) (wd70 hw) (wd69 hw) (wd3 hw) (wd71 hw) (rm_clear l Z a0 hw [] n0 c14 (n0 + 1) (0 : Int32) ([AC kA15 (List.map Value.int (List.replicate c0 0))]) _ P37 F14) (a := (n0 + 0)) (P37.exa (i := 0) rfl F14.1) (by decide) (by decide) (by decide) (by decide) (by decide) (argsL := []) (rest := []) pd11 rfl rfl rfl (Nat.le_of_eq rfl) (hb hby at_88) (pc' := 91) rfl ?_
        intro v38 T38 L30 X38 hq
        obtain ⟨rfl, N30, c16, F16, P38⟩ := hq
        replace N30 := Fr.app N29 N30
        replace P38 : HP n0 T38.heap [c16, AC kA15 (List.map Value.int (List.replicate c0 0))] := P38
        refine w_iload X38 hx (hb hby at_91) rfl (pc' := 93) rfl ?_
        refine w_if_eq X38 hx (hb hby at_93) (by decide) (pcY := 103) (by decide) (pc' := 96) rfl (fun h46 => ?_) (fun h46 => absurd h46 (by decide))
        refine w_iload X38 hx (hb hby at_103) rfl (pc' := 105) rfl ?_
        refine w_if_eq X38 hx (hb hby at_105) (by decide) (pcY := 121) (by decide) (pc' := 108) rfl (fun h47 => ?_) (fun h47 => absurd h47 (by decide))
        refine w_iconst (v := (0 : Int32)) X38 hx (hb hby at_121) rfl (pc' := 122) rfl ?_
        refine w_istore (l' := #[.val (.int x0), .val (.long x1), .second, .val (.long x2), .second, .val (.int x3), .val (.int x4), .val (.int (0 : Int32)), .val (.int (0 : Int32)), .val (.int (1 : Int32)), .val (.long (Int64.ofNat na)), .second, .val (.long (Int64.ofNat nb)), .second, .val (.ref (n0 + 0)), .val (.int (0 : Int32)), .unset, .unset, .unset, .unset, .unset, .unset]) X38 hx (hb hby at_122) rfl (pc' := 124) rfl ?_
        refine w_iload X38 hx (hb hby at_124) rfl (pc' := 126) rfl ?_
        refine w_if_eq X38 hx (hb hby at_126) (by decide) (pcY := 137) (by decide) (pc' := 129) rfl (fun h48 => ?_) (fun h48 => absurd h48 (by decide))
        refine w_iconst (v := (0 : Int32)) X38 hx (hb hby at_137) rfl (pc' := 138) rfl ?_
        refine w_istore (l' := #[.val (.int x0), .val (.long x1), .second, .val (.long x2), .second, .val (.int x3), .val (.int x4), .val (.int (0 : Int32)), .val (.int (0 : Int32)), .val (.int (1 : Int32)), .val (.long (Int64.ofNat na)), .second, .val (.long (Int64.ofNat nb)), .second, .val (.ref (n0 + 0)), .val (.int (0 : Int32)), .val (.int (0 : Int32)), .unset, .unset, .unset, .unset, .unset]) X38 hx (hb hby at_138) rfl (pc' := 140) rfl ?_
        refine w_iload X38 hx (hb hby at_140) rfl (pc' := 142) rfl ?_
        refine w_iload X38 hx (hb hby at_142) rfl (pc' := 144) rfl ?_
        refine w_iadd X38 hx (hb hby at_144) (pc' := 145) rfl ?_
        refine w_eqI (z := (0 : Int32)) (by decide) ?_
        refine w_istore (l' := #[.val (.int x0), .val (.long x1), .second, .val (.long x2), .second, .val (.int x3), .val (.int x4), .val (.int (0 : Int32)), .val (.int (0 : Int32)), .val (.int (1 : Int32)), .val (.long (Int64.ofNat na)), .second, .val (.long (Int64.ofNat nb)), .second, .val (.ref (n0 + 0)), .val (.int (0 : Int32)), .val (.int (0 : Int32)), .val (.int (0 : Int32)), .unset, .unset, .unset, .unset]) X38 hx (hb hby at_145) rfl (pc' := 147) rfl ?_
        exact Jt1 T38 _ (0 : Int32) (0 : Int32) (1 : Int32) 0 0 c0 (List.replicate c0 0) kA15 c16 N30 (X38.more (by decide) (by decide)) hkA15 (List.length_replicate (n := c0) (a := (0 : Int32))) (own_Br c0) (by omega) (by omega) (by omega) (by omega) (by omega) (fun j h => absurd h (Nat.not_lt_zero _)) (fun i h1 h2 => absurd h2 (by omega)) P38 F16
    · refine w_iconst (v := (1 : Int32)) X0 hx (hb hby at_21) rfl (pc' := 22) rfl ?_
      refine w_goto X0 hx (hb hby at_22) (by decide) (pc' := 26) (by decide) ?_
      refine w_istore (l' := #[.val (.int x0), .val (.long x1), .second, .val (.long x2), .second, .val (.int x3), .val (.int x4), .val (.int (0 : Int32)), .val (.int (1 : Int32)), .unset, .unset, .unset, .unset, .unset, .unset, .unset, .unset, .unset, .unset, .unset, .unset, .unset]) X0 hx (hb hby at_26) rfl (pc' := 28) rfl ?_
      refine w_iload X0 hx (hb hby at_28) rfl (pc' := 30) rfl ?_
      refine w_iconst (v := (4 : Int32)) X0 hx (hb hby at_30) rfl (pc' := 31) rfl ?_
      refine w_iand X0 hx (hb hby at_31) (pc' := 32) rfl ?_
      refine w_if_eq X0 hx (hb hby at_32) (by decide) (pcY := 39) (by decide) (pc' := 35) rfl (fun h49 => ?_) (fun h49 => ?_)
      · refine w_iconst (v := (0 : Int32)) X0 hx (hb hby at_39) rfl (pc' := 40) rfl ?_
        refine w_istore (l' := #[.val (.int x0), .val (.long x1), .second, .val (.long x2), .second, .val (.int x3), .val (.int x4), .val (.int (0 : Int32)), .val (.int (1 : Int32)), .val (.int (0 : Int32)), .unset, .unset, .unset, .unset, .unset, .unset, .unset, .unset, .unset, .unset, .unset, .unset]) X0 hx (hb hby at_40) rfl (pc' := 42) rfl ?_
        refine w_lloadN X0 hx (hb hby at_42) rfl (pc' := 43) rfl ?_
        refine w_ldc2 X0 hx (hb hby at_43) hown (mvT hZ (wd0 hw)) (pc' := 46) rfl ?_
        refine w_land X0 hx (hb hby at_46) (pc' := 47) rfl ?_
        refine w_eqJ (z := (Int64.ofNat na)) ena ?_
        refine w_lstore (l' := #[.val (.int x0), .val (.long x1), .second, .val (.long x2), .second, .val (.int x3), .val (.int x4), .val (.int (0 : Int32)), .val (.int (1 : Int32)), .val (.int (0 : Int32)), .val (.long (Int64.ofNat na)), .second, .unset, .unset, .unset, .unset, .unset, .unset, .unset, .unset, .unset, .unset]) X0 hx (hb hby at_47) rfl (pc' := 49) rfl ?_
        refine w_lloadN X0 hx (hb hby at_49) rfl (pc' := 50) rfl ?_
        refine w_ldc2 X0 hx (hb hby at_50) hown (mvT hZ (wd0 hw)) (pc' := 53) rfl ?_
        refine w_land X0 hx (hb hby at_53) (pc' := 54) rfl ?_
        refine w_eqJ (z := (Int64.ofNat nb)) enb ?_
        refine w_lstore (l' := #[.val (.int x0), .val (.long x1), .second, .val (.long x2), .second, .val (.int x3), .val (.int x4), .val (.int (0 : Int32)), .val (.int (1 : Int32)), .val (.int (0 : Int32)), .val (.long (Int64.ofNat na)), .second, .val (.long (Int64.ofNat nb)), .second, .unset, .unset, .unset, .unset, .unset, .unset, .unset, .unset]) X0 hx (hb hby at_54) rfl (pc' := 56) rfl ?_
        refine w_new (j := 0) X0 hx hZ hown (wd1 hw) (wd2 hw) (wd3 hw) P0 fl_C0 dv_C0 rfl (ly_C0 hw) (hb hby at_56) (by decide) (by decide) rfl (pc' := 59) rfl ?_
        intro T39 c17 X39 P39 F17
        replace P39 : HP n0 T39.heap [c17] := P39
        refine w_dup X39 hx (hb hby at_59) rfl (pc' := 60) rfl ?_
        refine w_iloadN X39 hx (hb hby at_60) rfl (pc' := 61) rfl ?_
        refine w_bipush (v := (15 : Int32)) X39 hx (hb hby at_61) rfl (pc' := 63) rfl ?_
        refine w_iand X39 hx (hb hby at_63) (pc' := 64) rfl ?_
        refine w_eqI (z := (Int32.ofNat c0)) ec0 ?_
        refine own_callI (W := 1) X39 hx hZ rfl rfl hown hml.symm (wd4 hw) (wd5 hw) (wd3 hw) (wd6 hw) (rm_init l Z a0 hw [] n0 c17 c0 _ P39 F17 (by omega)) (by decide) (by decide) (by decide) (by decide) (by decide) (a := (n0 + 0)) (argsL := [.int (Int32.ofNat c0)]) (rest := [.ref (n0 + 0)]) pd1 rfl rfl rfl (Nat.le_of_eq rfl) (hb hby at_64) (pc' := 67) rfl ?_
        intro v40 T40 L31 X40 hq
        obtain ⟨rfl, N31, c18, F18, kA19, hkA19, P40⟩ := hq
        replace N31 := Fr.app N0 N31
        replace P40 : HP n0 T40.heap [c18, AC kA19 (List.map Value.int (List.replicate c0 0))] := P40
        refine w_astore (l' := #[.val (.int x0), .val (.long x1), .second, .val (.long x2), .second, .val (.int x3), .val (.int x4), .val (.int (0 : Int32)), .val (.int (1 : Int32)), .val (.int (0 : Int32)), .val (.long (Int64.ofNat na)), .second, .val (.long (Int64.ofNat nb)), .second, .val (.ref (n0 + 0)), .unset, .unset, .unset, .unset, .unset, .unset, .unset]) X40 hx (hb hby at_67) rfl rfl (pc' := 69) rfl ?_
        refine w_iload X40 hx (hb hby at_69) rfl (pc' := 71) rfl ?_
        refine w_if_eq X40 hx (hb hby at_71) (by decide) (pcY := 81) (by decide) (pc' := 74) rfl (fun h50 => ?_) (fun h50 => absurd h50 (by decide))
        refine w_iload X40 hx (hb hby at_81) rfl (pc' := 83) rfl ?_
        refine w_if_eq X40 hx (hb hby at_83) (by decide) (pcY := 91) (by decide) (pc' := 86) rfl (fun h51 => ?_) (fun h51 => absurd h51 (by decide))
        refine w_iload X40 hx (hb hby at_91) rfl (pc' := 93) rfl ?_
        refine w_if_eq X40 hx (hb hby at_93) (by decide) (pcY := 103) (by decide) (pc' := 96) rfl (fun h52 => absurd h52 (by decide)) (fun h52 => ?_)
        refine w_aload X40 hx (hb hby at_96) rfl rfl (pc' := 98) rfl ?_
        refine w_lload X40 hx (hb hby at_98) rfl (pc' := 100) rfl ?_
        obtain ⟨M1, hMa1, hMb1, hMc1⟩ := own_mx (2 * c0) (0 + 10)
        refine own_callV (W := 0) X40 hx hZ rfl hown hml.symm (wd38 hw) (wd39 hw) (wd41 hw) (wd40 hw) (wd3 hw) (wd42 hw) (rm_wr1 l Z a0 hw [] n0 c18 kA19 (List.replicate c0 0) c0 0 M1 nb lb (0 + lb) _ P40 hkA19 (List.length_replicate (n := c0) (a := (0 : Int32))) F18 (own_Br c0) (by omega) (by omega) (by omega) hMa1 hMb1 hMc1 hnb hlb (by omega) (by omega)) (a := (n0 + 0)) (P40.exa (i := 0) rfl F18.1) (by decide) (by decide) (by decide) (by decide) (by decide) (argsL := [.long (Int64.ofNat nb)]) (rest := []) pd6 rfl rfl rfl (Nat.le_of_eq rfl) (hb hby at_100) (pc' := 103) rfl ?_
        intro v41 T41 L32 X41 hq
        obtain ⟨rfl, N32, hq⟩ := hq
        replace N32 := Fr.app N31 N32
        rcases hq with ⟨hgr1, Aw1, hAw1, hBw1, hWw1, ow1, Fw1, P41⟩ | ⟨hgr1, kw1, hkw1, Aw1, hAw1, hBw1, hWw1, ow1, Fw1, P41⟩
        · replace P41 : HP n0 T41.heap [ow1, AC kA19 (List.map Value.int Aw1)] := P41
          refine w_iload X41 hx (hb hby at_103) rfl (pc' := 105) rfl ?_
          refine w_if_eq X41 hx (hb hby at_105) (by decide) (pcY := 121) (by decide) (pc' := 108) rfl (fun h53 => ?_) (fun h53 => absurd h53 (by decide))
          refine w_iconst (v := (0 : Int32)) X41 hx (hb hby at_121) rfl (pc' := 122) rfl ?_
          refine w_istore (l' := #[.val (.int x0), .val (.long x1), .second, .val (.long x2), .second, .val (.int x3), .val (.int x4), .val (.int (0 : Int32)), .val (.int (1 : Int32)), .val (.int (0 : Int32)), .val (.long (Int64.ofNat na)), .second, .val (.long (Int64.ofNat nb)), .second, .val (.ref (n0 + 0)), .val (.int (0 : Int32)), .unset, .unset, .unset, .unset, .unset, .unset]) X41 hx (hb hby at_122) rfl (pc' := 124) rfl ?_
          refine w_iload X41 hx (hb hby at_124) rfl (pc' := 126) rfl ?_
          refine w_if_eq X41 hx (hb hby at_126) (by decide) (pcY := 137) (by decide) (pc' := 129) rfl (fun h54 => absurd h54 (by decide)) (fun h54 => ?_)
          refine w_lload X41 hx (hb hby at_129) rfl (pc' := 131) rfl ?_
          refine w_callP (W := 0) X41 hx hZ rfl hown hml.symm (wd49 hw) (wd50 hw) (wd51 hw) (wd52 hw) (rm8 l Z a0 hw [] (Int64.ofNat nb) _) (by decide) (by decide) (by decide) rfl rfl (by decide) (by decide) (argsL := [.long (Int64.ofNat nb)]) (rest := []) pd8 rfl rfl rfl (Nat.le_of_eq rfl) (hb hby at_131) (pc' := 134) rfl ?_
          intro T42 X42 e42
          have P42 : HP n0 T42.heap [ow1, AC kA19 (List.map Value.int Aw1)] := by rw [e42]; exact P41
          refine w_eqI (z := (Int32.ofNat lb)) elb ?_
          refine w_goto X42 hx (hb hby at_134) (by decide) (pc' := 138) (by decide) ?_
          refine w_istore (l' := #[.val (.int x0), .val (.long x1), .second, .val (.long x2), .second, .val (.int x3), .val (.int x4), .val (.int (0 : Int32)), .val (.int (1 : Int32)), .val (.int (0 : Int32)), .val (.long (Int64.ofNat na)), .second, .val (.long (Int64.ofNat nb)), .second, .val (.ref (n0 + 0)), .val (.int (0 : Int32)), .val (.int (Int32.ofNat lb)), .unset, .unset, .unset, .unset, .unset]) X42 hx (hb hby at_138) rfl (pc' := 140) rfl ?_
          refine w_iload X42 hx (hb hby at_140) rfl (pc' := 142) rfl ?_
          refine w_iload X42 hx (hb hby at_142) rfl (pc' := 144) rfl ?_
          refine w_iadd X42 hx (hb hby at_144) (pc' := 145) rfl ?_
          refine w_eqI (z := (Int32.ofNat (0 + lb))) (own_oadd 0 lb) ?_
          refine w_istore (l' := #[.val (.int x0), .val (.long x1), .second, .val (.long x2), .second, .val (.int x3), .val (.int x4), .val (.int (0 : Int32)), .val (.int (1 : Int32)), .val (.int (0 : Int32)), .val (.long (Int64.ofNat na)), .second, .val (.long (Int64.ofNat nb)), .second, .val (.ref (n0 + 0)), .val (.int (0 : Int32)), .val (.int (Int32.ofNat lb)), .val (.int (Int32.ofNat (0 + lb))), .unset, .unset, .unset, .unset]) X42 hx (hb hby at_145) rfl (pc' := 147) rfl ?_
          exact Jt1 T42 _ (0 : Int32) (1 : Int32) (0 : Int32) 0 lb c0 Aw1 kA19 ow1 N32 (X42.more (by decide) (by decide)) hkA19 hAw1 hBw1 (by omega) (by omega) (by omega) (by omega) (by omega) (fun j h => absurd h (Nat.not_lt_zero _)) (own_cb hnb hlb hWw1) P42 Fw1
        · replace P41 : HP n0 T41.heap [ow1, AC kA19 (List.map Value.int (List.replicate c0 0)), AC kw1 (List.map Value.int Aw1)] := P41
          refine w_iload X41 hx (hb hby at_103) rfl (pc' := 105) rfl ?_
          refine w_if_eq X41 hx (hb hby at_105) (by decide) (pcY := 121) (by decide) (pc' := 108) rfl (fun h55 => ?_) (fun h55 => absurd h55 (by decide))
          refine w_iconst (v := (0 : Int32)) X41 hx (hb hby at_121) rfl (pc' := 122) rfl ?_
          refine w_istore (l' := #[.val (.int x0), .val (.long x1), .second, .val (.long x2), .second, .val (.int x3), .val (.int x4), .val (.int (0 : Int32)), .val (.int (1 : Int32)), .val (.int (0 : Int32)), .val (.long (Int64.ofNat na)), .second, .val (.long (Int64.ofNat nb)), .second, .val (.ref (n0 + 0)), .val (.int (0 : Int32)), .unset, .unset, .unset, .unset, .unset, .unset]) X41 hx (hb hby at_122) rfl (pc' := 124) rfl ?_
          refine w_iload X41 hx (hb hby at_124) rfl (pc' := 126) rfl ?_
          refine w_if_eq X41 hx (hb hby at_126) (by decide) (pcY := 137) (by decide) (pc' := 129) rfl (fun h56 => absurd h56 (by decide)) (fun h56 => ?_)
          refine w_lload X41 hx (hb hby at_129) rfl (pc' := 131) rfl ?_
          refine w_callP (W := 0) X41 hx hZ rfl hown hml.symm (wd49 hw) (wd50 hw) (wd51 hw) (wd52 hw) (rm8 l Z a0 hw [] (Int64.ofNat nb) _) (by decide) (by decide) (by decide) rfl rfl (by decide) (by decide) (argsL := [.long (Int64.ofNat nb)]) (rest := []) pd8 rfl rfl rfl (Nat.le_of_eq rfl) (hb hby at_131) (pc' := 134) rfl ?_
          intro T43 X43 e43
          have P43 : HP n0 T43.heap [ow1, AC kA19 (List.map Value.int (List.replicate c0 0)), AC kw1 (List.map Value.int Aw1)] := by rw [e43]; exact P41
          refine w_eqI (z := (Int32.ofNat lb)) elb ?_
          refine w_goto X43 hx (hb hby at_134) (by decide) (pc' := 138) (by decide) ?_
          refine w_istore (l' := #[.val (.int x0), .val (.long x1), .second, .val (.long x2), .second, .val (.int x3), .val (.int x4), .val (.int (0 : Int32)), .val (.int (1 : Int32)), .val (.int (0 : Int32)), .val (.long (Int64.ofNat na)), .second, .val (.long (Int64.ofNat nb)), .second, .val (.ref (n0 + 0)), .val (.int (0 : Int32)), .val (.int (Int32.ofNat lb)), .unset, .unset, .unset, .unset, .unset]) X43 hx (hb hby at_138) rfl (pc' := 140) rfl ?_
          refine w_iload X43 hx (hb hby at_140) rfl (pc' := 142) rfl ?_
          refine w_iload X43 hx (hb hby at_142) rfl (pc' := 144) rfl ?_
          refine w_iadd X43 hx (hb hby at_144) (pc' := 145) rfl ?_
          refine w_eqI (z := (Int32.ofNat (0 + lb))) (own_oadd 0 lb) ?_
          refine w_istore (l' := #[.val (.int x0), .val (.long x1), .second, .val (.long x2), .second, .val (.int x3), .val (.int x4), .val (.int (0 : Int32)), .val (.int (1 : Int32)), .val (.int (0 : Int32)), .val (.long (Int64.ofNat na)), .second, .val (.long (Int64.ofNat nb)), .second, .val (.ref (n0 + 0)), .val (.int (0 : Int32)), .val (.int (Int32.ofNat lb)), .val (.int (Int32.ofNat (0 + lb))), .unset, .unset, .unset, .unset]) X43 hx (hb hby at_145) rfl (pc' := 147) rfl ?_
          exact Jt2 T43 _ (0 : Int32) (1 : Int32) (0 : Int32) 0 lb M1 Aw1 kw1 (AC kA19 (List.map Value.int (List.replicate c0 0))) ow1 N32 (X43.more (by decide) (by decide)) hkw1 hAw1 hBw1 (by omega) (by omega) (by omega) (by omega) (by omega) (fun j h => absurd h (Nat.not_lt_zero _)) (own_cb hnb hlb hWw1) P43 Fw1
      · refine w_iconst (v := (1 : Int32)) X0 hx (hb hby at_35) rfl (pc' := 36) rfl ?_
        refine w_goto X0 hx (hb hby at_36) (by decide) (pc' := 40) (by decide) ?_
        refine w_istore (l' := #[.val (.int x0), .val (.long x1), .second, .val (.long x2), .second, .val (.int x3), .val (.int x4), .val (.int (0 : Int32)), .val (.int (1 : Int32)), .val (.int (1 : Int32)), .unset, .unset, .unset, .unset, .unset, .unset, .unset, .unset, .unset, .unset, .unset, .unset]) X0 hx (hb hby at_40) rfl (pc' := 42) rfl ?_
        refine w_lloadN X0 hx (hb hby at_42) rfl (pc' := 43) rfl ?_
        refine w_ldc2 X0 hx (hb hby at_43) hown (mvT hZ (wd0 hw)) (pc' := 46) rfl ?_
        refine w_land X0 hx (hb hby at_46) (pc' := 47) rfl ?_
        refine w_eqJ (z := (Int64.ofNat na)) ena ?_
        refine w_lstore (l' := #[.val (.int x0), .val (.long x1), .second, .val (.long x2), .second, .val (.int x3), .val (.int x4), .val (.int (0 : Int32)), .val (.int (1 : Int32)), .val (.int (1 : Int32)), .val (.long (Int64.ofNat na)), .second, .unset, .unset, .unset, .unset, .unset, .unset, .unset, .unset, .unset, .unset]) X0 hx (hb hby at_47) rfl (pc' := 49) rfl ?_
        refine w_lloadN X0 hx (hb hby at_49) rfl (pc' := 50) rfl ?_
        refine w_ldc2 X0 hx (hb hby at_50) hown (mvT hZ (wd0 hw)) (pc' := 53) rfl ?_
        refine w_land X0 hx (hb hby at_53) (pc' := 54) rfl ?_
        refine w_eqJ (z := (Int64.ofNat nb)) enb ?_
        refine w_lstore (l' := #[.val (.int x0), .val (.long x1), .second, .val (.long x2), .second, .val (.int x3), .val (.int x4), .val (.int (0 : Int32)), .val (.int (1 : Int32)), .val (.int (1 : Int32)), .val (.long (Int64.ofNat na)), .second, .val (.long (Int64.ofNat nb)), .second, .unset, .unset, .unset, .unset, .unset, .unset, .unset, .unset]) X0 hx (hb hby at_54) rfl (pc' := 56) rfl ?_
        refine w_new (j := 0) X0 hx hZ hown (wd1 hw) (wd2 hw) (wd3 hw) P0 fl_C0 dv_C0 rfl (ly_C0 hw) (hb hby at_56) (by decide) (by decide) rfl (pc' := 59) rfl ?_
        intro T44 c20 X44 P44 F20
        replace P44 : HP n0 T44.heap [c20] := P44
        refine w_dup X44 hx (hb hby at_59) rfl (pc' := 60) rfl ?_
        refine w_iloadN X44 hx (hb hby at_60) rfl (pc' := 61) rfl ?_
        refine w_bipush (v := (15 : Int32)) X44 hx (hb hby at_61) rfl (pc' := 63) rfl ?_
        refine w_iand X44 hx (hb hby at_63) (pc' := 64) rfl ?_
        refine w_eqI (z := (Int32.ofNat c0)) ec0 ?_
        refine own_callI (W := 1) X44 hx hZ rfl rfl hown hml.symm (wd4 hw) (wd5 hw) (wd3 hw) (wd6 hw) (rm_init l Z a0 hw [] n0 c20 c0 _ P44 F20 (by omega)) (by decide) (by decide) (by decide) (by decide) (by decide) (a := (n0 + 0)) (argsL := [.int (Int32.ofNat c0)]) (rest := [.ref (n0 + 0)]) pd1 rfl rfl rfl (Nat.le_of_eq rfl) (hb hby at_64) (pc' := 67) rfl ?_
        intro v45 T45 L33 X45 hq
        obtain ⟨rfl, N33, c21, F21, kA22, hkA22, P45⟩ := hq
        replace N33 := Fr.app N0 N33
        replace P45 : HP n0 T45.heap [c21, AC kA22 (List.map Value.int (List.replicate c0 0))] := P45
        refine w_astore (l' := #[.val (.int x0), .val (.long x1), .second, .val (.long x2), .second, .val (.int x3), .val (.int x4), .val (.int (0 : Int32)), .val (.int (1 : Int32)), .val (.int (1 : Int32)), .val (.long (Int64.ofNat na)), .second, .val (.long (Int64.ofNat nb)), .second, .val (.ref (n0 + 0)), .unset, .unset, .unset, .unset, .unset, .unset, .unset]) X45 hx (hb hby at_67) rfl rfl (pc' := 69) rfl ?_
        refine w_iload X45 hx (hb hby at_69) rfl (pc' := 71) rfl ?_
        refine w_if_eq X45 hx (hb hby at_71) (by decide) (pcY := 81) (by decide) (pc' := 74) rfl (fun h57 => ?_) (fun h57 => absurd h57 (by decide))
        refine w_iload X45 hx (hb hby at_81) rfl (pc' := 83) rfl ?_
        refine w_if_eq X45 hx (hb hby at_83) (by decide) (pcY := 91) (by decide) (pc' := 86) rfl (fun h58 => absurd h58 (by decide)) (fun h58 => ?_)
        refine w_aload X45 hx (hb hby at_86) rfl rfl (pc' := 88) rfl ?_
        refine own_callV (W := 0) X45 hx hZ rfl hown hml.symm (wd67 hw) (wd68 hw) (wd70 hw) (wd69 hw) (wd3 hw) (wd71 hw) (rm_clear l Z a0 hw [] n0 c21 (n0 + 1) (0 : Int32) ([AC kA22 (List.map Value.int (List.replicate c0 0))]) _ P45 F21) (a := (n0 + 0)) (P45.exa (i := 0) rfl F21.1) (by decide) (by decide) (by decide) (by decide) (by decide) (argsL := []) (rest := []) pd11 rfl rfl rfl (Nat.le_of_eq rfl) (hb hby at_88) (pc' := 91) rfl ?_
        intro v46 T46 L34 X46 hq
        obtain ⟨rfl, N34, c23, F23, P46⟩ := hq
        replace N34 := Fr.app N33 N34
        replace P46 : HP n0 T46.heap [c23, AC kA22 (List.map Value.int (List.replicate c0 0))] := P46
        refine w_iload X46 hx (hb hby at_91) rfl (pc' := 93) rfl ?_
        refine w_if_eq X46 hx (hb hby at_93) (by decide) (pcY := 103) (by decide) (pc' := 96) rfl (fun h59 => absurd h59 (by decide)) (fun h59 => ?_)
        refine w_aload X46 hx (hb hby at_96) rfl rfl (pc' := 98) rfl ?_
        refine w_lload X46 hx (hb hby at_98) rfl (pc' := 100) rfl ?_
        obtain ⟨M2, hMa2, hMb2, hMc2⟩ := own_mx (2 * c0) (0 + 10)
        refine own_callV (W := 0) X46 hx hZ rfl hown hml.symm (wd38 hw) (wd39 hw) (wd41 hw) (wd40 hw) (wd3 hw) (wd42 hw) (rm_wr1 l Z a0 hw [] n0 c23 kA22 (List.replicate c0 0) c0 0 M2 nb lb (0 + lb) _ P46 hkA22 (List.length_replicate (n := c0) (a := (0 : Int32))) F23 (own_Br c0) (by omega) (by omega) (by omega) hMa2 hMb2 hMc2 hnb hlb (by omega) (by omega)) (a := (n0 + 0)) (P46.exa (i := 0) rfl F23.1) (by decide) (by decide) (by decide) (by decide) (by decide) (argsL := [.long (Int64.ofNat nb)]) (rest := []) pd6 rfl rfl rfl (Nat.le_of_eq rfl) (hb hby at_100) (pc' := 103) rfl ?_
        intro v47 T47 L35 X47 hq
        obtain ⟨rfl, N35, hq⟩ := hq
        replace N35 := Fr.app N34 N35
        rcases hq with ⟨hgr2, Aw2, hAw2, hBw2, hWw2, ow2, Fw2, P47⟩ | ⟨hgr2, kw2, hkw2, Aw2, hAw2, hBw2, hWw2, ow2, Fw2, P47⟩
        · replace P47 : HP n0 T47.heap [ow2, AC kA22 (List.map Value.int Aw2)] := P47
          refine w_iload X47 hx (hb hby at_103) rfl (pc' := 105) rfl ?_
          refine w_if_eq X47 hx (hb hby at_105) (by decide) (pcY := 121) (by decide) (pc' := 108) rfl (fun h60 => ?_) (fun h60 => absurd h60 (by decide))
          refine w_iconst (v := (0 : Int32)) X47 hx (hb hby at_121) rfl (pc' := 122) rfl ?_
          refine w_istore (l' := #[.val (.int x0), .val (.long x1), .second, .val (.long x2), .second, .val (.int x3), .val (.int x4), .val (.int (0 : Int32)), .val (.int (1 : Int32)), .val (.int (1 : Int32)), .val (.long (Int64.ofNat na)), .second, .val (.long (Int64.ofNat nb)), .second, .val (.ref (n0 + 0)), .val (.int (0 : Int32)), .unset, .unset, .unset, .unset, .unset, .unset]) X47 hx (hb hby at_122) rfl (pc' := 124) rfl ?_
          refine w_iload X47 hx (hb hby at_124) rfl (pc' := 126) rfl ?_
          refine w_if_eq X47 hx (hb hby at_126) (by decide) (pcY := 137) (by decide) (pc' := 129) rfl (fun h61 => absurd h61 (by decide)) (fun h61 => ?_)
          refine w_lload X47 hx (hb hby at_129) rfl (pc' := 131) rfl ?_
          refine w_callP (W := 0) X47 hx hZ rfl hown hml.symm (wd49 hw) (wd50 hw) (wd51 hw) (wd52 hw) (rm8 l Z a0 hw [] (Int64.ofNat nb) _) (by decide) (by decide) (by decide) rfl rfl (by decide) (by decide) (argsL := [.long (Int64.ofNat nb)]) (rest := []) pd8 rfl rfl rfl (Nat.le_of_eq rfl) (hb hby at_131) (pc' := 134) rfl ?_
          intro T48 X48 e48
          have P48 : HP n0 T48.heap [ow2, AC kA22 (List.map Value.int Aw2)] := by rw [e48]; exact P47
          refine w_eqI (z := (Int32.ofNat lb)) elb ?_
          refine w_goto X48 hx (hb hby at_134) (by decide) (pc' := 138) (by decide) ?_
          refine w_istore (l' := #[.val (.int x0), .val (.long x1), .second, .val (.long x2), .second, .val (.int x3), .val (.int x4), .val (.int (0 : Int32)), .val (.int (1 : Int32)), .val (.int (1 : Int32)), .val (.long (Int64.ofNat na)), .second, .val (.long (Int64.ofNat nb)), .second, .val (.ref (n0 + 0)), .val (.int (0 : Int32)), .val (.int (Int32.ofNat lb)), .unset, .unset, .unset, .unset, .unset]) X48 hx (hb hby at_138) rfl (pc' := 140) rfl ?_
          refine w_iload X48 hx (hb hby at_140) rfl (pc' := 142) rfl ?_
          refine w_iload X48 hx (hb hby at_142) rfl (pc' := 144) rfl ?_
          refine w_iadd X48 hx (hb hby at_144) (pc' := 145) rfl ?_
          refine w_eqI (z := (Int32.ofNat (0 + lb))) (own_oadd 0 lb) ?_
          refine w_istore (l' := #[.val (.int x0), .val (.long x1), .second, .val (.long x2), .second, .val (.int x3), .val (.int x4), .val (.int (0 : Int32)), .val (.int (1 : Int32)), .val (.int (1 : Int32)), .val (.long (Int64.ofNat na)), .second, .val (.long (Int64.ofNat nb)), .second, .val (.ref (n0 + 0)), .val (.int (0 : Int32)), .val (.int (Int32.ofNat lb)), .val (.int (Int32.ofNat (0 + lb))), .unset, .unset, .unset, .unset]) X48 hx (hb hby at_145) rfl (pc' := 147) rfl ?_
          exact Jt1 T48 _ (0 : Int32) (1 : Int32) (1 : Int32) 0 lb c0 Aw2 kA22 ow2 N35 (X48.more (by decide) (by decide)) hkA22 hAw2 hBw2 (by omega) (by omega) (by omega) (by omega) (by omega) (fun j h => absurd h (Nat.not_lt_zero _)) (own_cb hnb hlb hWw2) P48 Fw2
        · replace P47 : HP n0 T47.heap [ow2, AC kA22 (List.map Value.int (List.replicate c0 0)), AC kw2 (List.map Value.int Aw2)] := P47
          refine w_iload X47 hx (hb hby at_103) rfl (pc' := 105) rfl ?_
          refine w_if_eq X47 hx (hb hby at_105) (by decide) (pcY := 121) (by decide) (pc' := 108) rfl (fun h62 => ?_) (fun h62 => absurd h62 (by decide))
          refine w_iconst (v := (0 : Int32)) X47 hx (hb hby at_121) rfl (pc' := 122) rfl ?_
          refine w_istore (l' := #[.val (.int x0), .val (.long x1), .second, .val (.long x2), .second, .val (.int x3), .val (.int x4), .val (.int (0 : Int32)), .val (.int (1 : Int32)), .val (.int (1 : Int32)), .val (.long (Int64.ofNat na)), .second, .val (.long (Int64.ofNat nb)), .second, .val (.ref (n0 + 0)), .val (.int (0 : Int32)), .unset, .unset, .unset, .unset, .unset, .unset]) X47 hx (hb hby at_122) rfl (pc' := 124) rfl ?_
          refine w_iload X47 hx (hb hby at_124) rfl (pc' := 126) rfl ?_
          refine w_if_eq X47 hx (hb hby at_126) (by decide) (pcY := 137) (by decide) (pc' := 129) rfl (fun h63 => absurd h63 (by decide)) (fun h63 => ?_)
          refine w_lload X47 hx (hb hby at_129) rfl (pc' := 131) rfl ?_
          refine w_callP (W := 0) X47 hx hZ rfl hown hml.symm (wd49 hw) (wd50 hw) (wd51 hw) (wd52 hw) (rm8 l Z a0 hw [] (Int64.ofNat nb) _) (by decide) (by decide) (by decide) rfl rfl (by decide) (by decide) (argsL := [.long (Int64.ofNat nb)]) (rest := []) pd8 rfl rfl rfl (Nat.le_of_eq rfl) (hb hby at_131) (pc' := 134) rfl ?_
          intro T49 X49 e49
          have P49 : HP n0 T49.heap [ow2, AC kA22 (List.map Value.int (List.replicate c0 0)), AC kw2 (List.map Value.int Aw2)] := by rw [e49]; exact P47
          refine w_eqI (z := (Int32.ofNat lb)) elb ?_
          refine w_goto X49 hx (hb hby at_134) (by decide) (pc' := 138) (by decide) ?_
          refine w_istore (l' := #[.val (.int x0), .val (.long x1), .second, .val (.long x2), .second, .val (.int x3), .val (.int x4), .val (.int (0 : Int32)), .val (.int (1 : Int32)), .val (.int (1 : Int32)), .val (.long (Int64.ofNat na)), .second, .val (.long (Int64.ofNat nb)), .second, .val (.ref (n0 + 0)), .val (.int (0 : Int32)), .val (.int (Int32.ofNat lb)), .unset, .unset, .unset, .unset, .unset]) X49 hx (hb hby at_138) rfl (pc' := 140) rfl ?_
          refine w_iload X49 hx (hb hby at_140) rfl (pc' := 142) rfl ?_
          refine w_iload X49 hx (hb hby at_142) rfl (pc' := 144) rfl ?_
          refine w_iadd X49 hx (hb hby at_144) (pc' := 145) rfl ?_
          refine w_eqI (z := (Int32.ofNat (0 + lb))) (own_oadd 0 lb) ?_
          refine w_istore (l' := #[.val (.int x0), .val (.long x1), .second, .val (.long x2), .second, .val (.int x3), .val (.int x4), .val (.int (0 : Int32)), .val (.int (1 : Int32)), .val (.int (1 : Int32)), .val (.long (Int64.ofNat na)), .second, .val (.long (Int64.ofNat nb)), .second, .val (.ref (n0 + 0)), .val (.int (0 : Int32)), .val (.int (Int32.ofNat lb)), .val (.int (Int32.ofNat (0 + lb))), .unset, .unset, .unset, .unset]) X49 hx (hb hby at_145) rfl (pc' := 147) rfl ?_
          exact Jt2 T49 _ (0 : Int32) (1 : Int32) (1 : Int32) 0 lb M2 Aw2 kw2 (AC kA22 (List.map Value.int (List.replicate c0 0))) ow2 N35 (X49.more (by decide) (by decide)) hkw2 hAw2 hBw2 (by omega) (by omega) (by omega) (by omega) (by omega) (fun j h => absurd h (Nat.not_lt_zero _)) (own_cb hnb hlb hWw2) P49 Fw2
  · refine w_iconst (v := (1 : Int32)) X0 hx (hb hby at_7) rfl (pc' := 8) rfl ?_
    refine w_goto X0 hx (hb hby at_8) (by decide) (pc' := 12) (by decide) ?_
    refine w_istore (l' := #[.val (.int x0), .val (.long x1), .second, .val (.long x2), .second, .val (.int x3), .val (.int x4), .val (.int (1 : Int32)), .unset, .unset, .unset, .unset, .unset, .unset, .unset, .unset, .unset, .unset, .unset, .unset, .unset, .unset]) X0 hx (hb hby at_12) rfl (pc' := 14) rfl ?_
    refine w_iload X0 hx (hb hby at_14) rfl (pc' := 16) rfl ?_
    refine w_iconst (v := (2 : Int32)) X0 hx (hb hby at_16) rfl (pc' := 17) rfl ?_
    refine w_iand X0 hx (hb hby at_17) (pc' := 18) rfl ?_
    refine w_if_eq X0 hx (hb hby at_18) (by decide) (pcY := 25) (by decide) (pc' := 21) rfl (fun h64 => ?_) (fun h64 => ?_)
    · refine w_iconst (v := (0 : Int32)) X0 hx (hb hby at_25) rfl (pc' := 26) rfl ?_
      refine w_istore (l' := #[.val (.int x0), .val (.long x1), .second, .val (.long x2), .second, .val (.int x3), .val (.int x4), .val (.int (1 : Int32)), .val (.int (0 : Int32)), .unset, .unset, .unset, .unset, .unset, .unset, .unset, .unset, .unset, .unset, .unset, .unset, .unset]) X0 hx (hb hby at_26) rfl (pc' := 28) rfl ?_
      refine w_iload X0 hx (hb hby at_28) rfl (pc' := 30) rfl ?_
      refine w_iconst (v := (4 : Int32)) X0 hx (hb hby at_30) rfl (pc' := 31) rfl ?_
      refine w_iand X0 hx (hb hby at_31) (pc' := 32) rfl ?_
      refine w_if_eq X0 hx (hb hby at_32) (by decide) (pcY := 39) (by decide) (pc' := 35) rfl (fun h65 => ?_) (fun h65 => ?_)
      · refine w_iconst (v := (0 : Int32)) X0 hx (hb hby at_39) rfl (pc' := 40) rfl ?_
        refine w_istore (l' := #[.val (.int x0), .val (.long x1), .second, .val (.long x2), .second, .val (.int x3), .val (.int x4), .val (.int (1 : Int32)), .val (.int (0 : Int32)), .val (.int (0 : Int32)), .unset, .unset, .unset, .unset, .unset, .unset, .unset, .unset, .unset, .unset, .unset, .unset]) X0 hx (hb hby at_40) rfl (pc' := 42) rfl ?_
        refine w_lloadN X0 hx (hb hby at_42) rfl (pc' := 43) rfl ?_
        refine w_ldc2 X0 hx (hb hby at_43) hown (mvT hZ (wd0 hw)) (pc' := 46) rfl ?_
        refine w_land X0 hx (hb hby at_46) (pc' := 47) rfl ?_
        refine w_eqJ (z := (Int64.ofNat na)) ena ?_
        refine w_lstore (l' := #[.val (.int x0), .val (.long x1), .second, .val (.long x2), .second, .val (.int x3), .val (.int x4), .val (.int (1 : Int32)), .val (.int (0 : Int32)), .val (.int (0 : Int32)), .val (.long (Int64.ofNat na)), .second, .unset, .unset, .unset, .unset, .unset, .unset, .unset, .unset, .unset, .unset]) X0 hx (hb hby at_47) rfl (pc' := 49) rfl ?_
        refine w_lloadN X0 hx (hb hby at_49) rfl (pc' := 50) rfl ?_
        refine w_ldc2 X0 hx (hb hby at_50) hown (mvT hZ (wd0 hw)) (pc' := 53) rfl ?_
        refine w_land X0 hx (hb hby at_53) (pc' := 54) rfl ?_
        refine w_eqJ (z := (Int64.ofNat nb)) enb ?_
        refine w_lstore (l' := #[.val (.int x0), .val (.long x1), .second, .val (.long x2), .second, .val (.int x3), .val (.int x4), .val (.int (1 : Int32)), .val (.int (0 : Int32)), .val (.int (0 : Int32)), .val (.long (Int64.ofNat na)), .second, .val (.long (Int64.ofNat nb)), .second, .unset, .unset, .unset, .unset, .unset, .unset, .unset, .unset]) X0 hx (hb hby at_54) rfl (pc' := 56) rfl ?_
        refine w_new (j := 0) X0 hx hZ hown (wd1 hw) (wd2 hw) (wd3 hw) P0 fl_C0 dv_C0 rfl (ly_C0 hw) (hb hby at_56) (by decide) (by decide) rfl (pc' := 59) rfl ?_
        intro T50 c24 X50 P50 F24
        replace P50 : HP n0 T50.heap [c24] := P50
        refine w_dup X50 hx (hb hby at_59) rfl (pc' := 60) rfl ?_
        refine w_iloadN X50 hx (hb hby at_60) rfl (pc' := 61) rfl ?_
        refine w_bipush (v := (15 : Int32)) X50 hx (hb hby at_61) rfl (pc' := 63) rfl ?_
        refine w_iand X50 hx (hb hby at_63) (pc' := 64) rfl ?_
        refine w_eqI (z := (Int32.ofNat c0)) ec0 ?_
        refine own_callI (W := 1) X50 hx hZ rfl rfl hown hml.symm (wd4 hw) (wd5 hw) (wd3 hw) (wd6 hw) (rm_init l Z a0 hw [] n0 c24 c0 _ P50 F24 (by omega)) (by decide) (by decide) (by decide) (by decide) (by decide) (a := (n0 + 0)) (argsL := [.int (Int32.ofNat c0)]) (rest := [.ref (n0 + 0)]) pd1 rfl rfl rfl (Nat.le_of_eq rfl) (hb hby at_64) (pc' := 67) rfl ?_
        intro v51 T51 L36 X51 hq
        obtain ⟨rfl, N36, c25, F25, kA26, hkA26, P51⟩ := hq
        replace N36 := Fr.app N0 N36
        replace P51 : HP n0 T51.heap [c25, AC kA26 (List.map Value.int (List.replicate c0 0))] := P51
        refine w_astore (l' := #[.val (.int x0), .val (.long x1), .second, .val (.long x2), .second, .val (.int x3), .val (.int x4), .val (.int (1 : Int32)), .val (.int (0 : Int32)), .val (.int (0 : Int32)), .val (.long (Int64.ofNat na)), .second, .val (.long (Int64.ofNat nb)), .second, .val (.ref (n0 + 0)), .unset, .unset, .unset, .unset, .unset, .unset, .unset]) X51 hx (hb hby at_67) rfl rfl (pc' := 69) rfl ?_
        refine w_iload X51 hx (hb hby at_69) rfl (pc' := 71) rfl ?_
        refine w_if_eq X51 hx (hb hby at_71) (by decide) (pcY := 81) (by decide) (pc' := 74) rfl (fun h66 => absurd h66 (by decide)) (fun h66 => ?_)
        refine w_aload X51 hx (hb hby at_74) rfl rfl (pc' := 76) rfl ?_
        refine w_lload X51 hx (hb hby at_76) rfl (pc' := 78) rfl ?_
        obtain ⟨M3, hMa3, hMb3, hMc3⟩ := own_mx (2 * c0) (0 + 10)
        refine own_callV (W := 0) X51 hx hZ rfl hown hml.symm (wd38 hw) (wd39 hw) (wd41 hw) (wd40 hw) (wd3 hw) (wd42 hw) (rm_wr1 l Z a0 hw [] n0 c25 kA26 (List.replicate c0 0) c0 0 M3 na la la _ P51 hkA26 (List.length_replicate (n := c0) (a := (0 : Int32))) F25 (own_Br c0) (by omega) (by omega) (by omega) hMa3 hMb3 hMc3 hna hla (by omega) (by omega)) (a := (n0 + 0)) (P51.exa (i := 0) rfl F25.1) (by decide) (by decide) (by decide) (by decide) (by decide) (argsL := [.long (Int64.ofNat na)]) (rest := []) pd6 rfl rfl rfl (Nat.le_of_eq rfl) (hb hby at_78) (pc' := 81) rfl ?_
        intro v52 T52 L37 X52 hq
        obtain ⟨rfl, N37, hq⟩ := hq
        replace N37 := Fr.app N36 N37
        rcases hq with ⟨hgr3, Aw3, hAw3, hBw3, hWw3, ow3, Fw3, P52⟩ | ⟨hgr3, kw3, hkw3, Aw3, hAw3, hBw3, hWw3, ow3, Fw3, P52⟩
        · replace P52 : HP n0 T52.heap [ow3, AC kA26 (List.map Value.int Aw3)] := P52
          refine w_iload X52 hx (hb hby at_81) rfl (pc' := 83) rfl ?_
          refine w_if_eq X52 hx (hb hby at_83) (by decide) (pcY := 91) (by decide) (pc' := 86) rfl (fun h67 => ?_) (fun h67 => absurd h67 (by decide))
          refine w_iload X52 hx (hb hby at_91) rfl (pc' := 93) rfl ?_
          refine w_if_eq X52 hx (hb hby at_93) (by decide) (pcY := 103) (by decide) (pc' := 96) rfl (fun h68 => ?_) (fun h68 => absurd h68 (by decide))
          refine w_iload X52 hx (hb hby at_103) rfl (pc' := 105) rfl ?_
          refine w_if_eq X52 hx (hb hby at_105) (by decide) (pcY := 121) (by decide) (pc' := 108) rfl (fun h69 => absurd h69 (by decide)) (fun h69 => ?_)
          refine w_iload X52 hx (hb hby at_108) rfl (pc' := 110) rfl ?_
          refine w_if_ne X52 hx (hb hby at_110) (by decide) (pcY := 121) (by decide) (pc' := 113) rfl (fun h70 => absurd h70 (by decide)) (fun h70 => ?_)
          refine w_lload X52 hx (hb hby at_113) rfl (pc' := 115) rfl ?_
          refine w_callP (W := 0) X52 hx hZ rfl hown hml.symm (wd49 hw) (wd50 hw) (wd51 hw) (wd52 hw) (rm8 l Z a0 hw [] (Int64.ofNat na) _) (by decide) (by decide) (by decide) rfl rfl (by decide) (by decide) (argsL := [.long (Int64.ofNat na)]) (rest := []) pd8 rfl rfl rfl (Nat.le_of_eq rfl) (hb hby at_115) (pc' := 118) rfl ?_
          intro T53 X53 e53
          have P53 : HP n0 T53.heap [ow3, AC kA26 (List.map Value.int Aw3)] := by rw [e53]; exact P52
          refine w_eqI (z := (Int32.ofNat la)) ela ?_
          refine w_goto X53 hx (hb hby at_118) (by decide) (pc' := 122) (by decide) ?_
          refine w_istore (l' := #[.val (.int x0), .val (.long x1), .second, .val (.long x2), .second, .val (.int x3), .val (.int x4), .val (.int (1 : Int32)), .val (.int (0 : Int32)), .val (.int (0 : Int32)), .val (.long (Int64.ofNat na)), .second, .val (.long (Int64.ofNat nb)), .second, .val (.ref (n0 + 0)), .val (.int (Int32.ofNat la)), .unset, .unset, .unset, .unset, .unset, .unset]) X53 hx (hb hby at_122) rfl (pc' := 124) rfl ?_
          refine w_iload X53 hx (hb hby at_124) rfl (pc' := 126) rfl ?_
          refine w_if_eq X53 hx (hb hby at_126) (by decide) (pcY := 137) (by decide) (pc' := 129) rfl (fun h71 => ?_) (fun h71 => absurd h71 (by decide))
          refine w_iconst (v := (0 : Int32)) X53 hx (hb hby at_137) rfl (pc' := 138) rfl ?_
          refine w_istore (l' := #[.val (.int x0), .val (.long x1), .second, .val (.long x2), .second, .val (.int x3), .val (.int x4), .val (.int (1 : Int32)), .val (.int (0 : Int32)), .val (.int (0 : Int32)), .val (.long (Int64.ofNat na)), .second, .val (.long (Int64.ofNat nb)), .second, .val (.ref (n0 + 0)), .val (.int (Int32.ofNat la)), .val (.int (0 : Int32)), .unset, .unset, .unset, .unset, .unset]) X53 hx (hb hby at_138) rfl (pc' := 140) rfl ?_
          refine w_iload X53 hx (hb hby at_140) rfl (pc' := 142) rfl ?_
          refine w_iload X53 hx (hb hby at_142) rfl (pc' := 144) rfl ?_
          refine w_iadd X53 hx (hb hby at_144) (pc' := 145) rfl ?_
          refine w_eqI (z := (Int32.ofNat (la + 0))) (own_oadd la 0) ?_
          refine w_istore (l' := #[.val (.int x0), .val (.long x1), .second, .val (.long x2), .second, .val (.int x3), .val (.int x4), .val (.int (1 : Int32)), .val (.int (0 : Int32)), .val (.int (0 : Int32)), .val (.long (Int64.ofNat na)), .second, .val (.long (Int64.ofNat nb)), .second, .val (.ref (n0 + 0)), .val (.int (Int32.ofNat la)), .val (.int (0 : Int32)), .val (.int (Int32.ofNat (la + 0))), .unset, .unset, .unset, .unset]) X53 hx (hb hby at_145) rfl (pc' := 147) rfl ?_
          exact Jt1 T53 _ (1 : Int32) (0 : Int32) (0 : Int32) la 0 c0 Aw3 kA26 ow3 N37 (X53.more (by decide) (by decide)) hkA26 hAw3 hBw3 (by omega) (by omega) (by omega) (by omega) (by omega) (own_ca hna hla hWw3) (fun i h1 h2 => absurd h2 (by omega)) P53 Fw3
        · replace P52 : HP n0 T52.heap [ow3, AC kA26 (List.map Value.int (List.replicate c0 0)), AC kw3 (List.map Value.int Aw3)] := P52
          refine w_iload X52 hx (hb hby at_81) rfl (pc' := 83) rfl ?_
          refine w_if_eq X52 hx (hb hby at_83) (by decide) (pcY := 91) (by decide) (pc' := 86) rfl (fun h72 => ?_) (fun h72 => absurd h72 (by decide))
          refine w_iload X52 hx (hb hby at_91) rfl (pc' := 93) rfl ?_
          refine w_if_eq X52 hx (hb hby at_93) (by decide) (pcY := 103) (by decide) (pc' := 96) rfl (fun h73 => ?_) (fun h73 => absurd h73 (by decide))
          refine w_iload X52 hx (hb hby at_103) rfl (pc' := 105) rfl ?_
          refine w_if_eq X52 hx (hb hby at_105) (by decide) (pcY := 121) (by decide) (pc' := 108) rfl (fun h74 => absurd h74 (by decide)) (fun h74 => ?_)
          refine w_iload X52 hx (hb hby at_108) rfl (pc' := 110) rfl ?_
          refine w_if_ne X52 hx (hb hby at_110) (by decide) (pcY := 121) (by decide) (pc' := 113) rfl (fun h75 => absurd h75 (by decide)) (fun h75 => ?_)
          refine w_lload X52 hx (hb hby at_113) rfl (pc' := 115) rfl ?_
          refine w_callP (W := 0) X52 hx hZ rfl hown hml.symm (wd49 hw) (wd50 hw) (wd51 hw) (wd52 hw) (rm8 l Z a0 hw [] (Int64.ofNat na) _) (by decide) (by decide) (by decide) rfl rfl (by decide) (by decide) (argsL := [.long (Int64.ofNat na)]) (rest := []) pd8 rfl rfl rfl (Nat.le_of_eq rfl) (hb hby at_115) (pc' := 118) rfl ?_
          intro T54 X54 e54
          have P54 : HP n0 T54.heap [ow3, AC kA26 (List.map Value.int (List.replicate c0 0)), AC kw3 (List.map Value.int Aw3)] := by rw [e54]; exact P52
          refine w_eqI (z := (Int32.ofNat la)) ela ?_
          refine w_goto X54 hx (hb hby at_118) (by decide) (pc' := 122) (by decide) ?_
          refine w_istore (l' := #[.val (.int x0), .val (.long x1), .second, .val (.long x2), .second, .val (.int x3), .val (.int x4), .val (.int (1 : Int32)), .val (.int (0 : Int32)), .val (.int (0 : Int32)), .val (.long (Int64.ofNat na)), .second, .val (.long (Int64.ofNat nb)), .second, .val (.ref (n0 + 0)), .val (.int (Int32.ofNat la)), .unset, .unset, .unset, .unset, .unset, .unset]) X54 hx (hb hby at_122) rfl (pc' := 124) rfl ?_
          refine w_iload X54 hx (hb hby at_124) rfl (pc' := 126) rfl ?_
          refine w_if_eq X54 hx (hb hby at_126) (by decide) (pcY := 137) (by decide) (pc' := 129) rfl (fun h76 => ?_) (fun h76 => absurd h76 (by decide))
          refine w_iconst (v := (0 : Int32)) X54 hx (hb hby at_137) rfl (pc' := 138) rfl ?_
          refine w_istore (l' := #[.val (.int x0), .val (.long x1), .second, .val (.long x2), .second, .val (.int x3), .val (.int x4), .val (.int (1 : Int32)), .val (.int (0 : Int32)), .val (.int (0 : Int32)), .val (.long (Int64.ofNat na)), .second, .val (.long (Int64.ofNat nb)), .second, .val (.ref (n0 + 0)), .val (.int (Int32.ofNat la)), .val (.int (0 : Int32)), .unset, .unset, .unset, .unset, .unset]) X54 hx (hb hby at_138) rfl (pc' := 140) rfl ?_
          refine w_iload X54 hx (hb hby at_140) rfl (pc' := 142) rfl ?_
          refine w_iload X54 hx (hb hby at_142) rfl (pc' := 144) rfl ?_
          refine w_iadd X54 hx (hb hby at_144) (pc' := 145) rfl ?_
          refine w_eqI (z := (Int32.ofNat (la + 0))) (own_oadd la 0) ?_
          refine w_istore (l' := #[.val (.int x0), .val (.long x1), .second, .val (.long x2), .second, .val (.int x3), .val (.int x4), .val (.int (1 : Int32)), .val (.int (0 : Int32)), .val (.int (0 : Int32)), .val (.long (Int64.ofNat na)), .second, .val (.long (Int64.ofNat nb)), .second, .val (.ref (n0 + 0)), .val (.int (Int32.ofNat la)), .val (.int (0 : Int32)), .val (.int (Int32.ofNat (la + 0))), .unset, .unset, .unset, .unset]) X54 hx (hb hby at_145) rfl (pc' := 147) rfl ?_
          exact Jt2 T54 _ (1 : Int32) (0 : Int32) (0 : Int32) la 0 M3 Aw3 kw3 (AC kA26 (List.map Value.int (List.replicate c0 0))) ow3 N37 (X54.more (by decide) (by decide)) hkw3 hAw3 hBw3 (by omega) (by omega) (by omega) (by omega) (by omega) (own_ca hna hla hWw3) (fun i h1 h2 => absurd h2 (by omega)) P54 Fw3
      · refine w_iconst (v := (1 : Int32)) X0 hx (hb hby at_35) rfl (pc' := 36) rfl ?_
        refine w_goto X0 hx (hb hby at_36) (by decide) (pc' := 40) (by decide) ?_
        refine w_istore (l' := #[.val (.int x0), .val (.long x1), .second, .val (.long x2), .second, .val (.int x3), .val (.int x4), .val (.int (1 : Int32)), .val (.int (0 : Int32)), .val (.int (1 : Int32)), .unset, .unset, .unset, .unset, .unset, .unset, .unset, .unset, .unset, .unset, .unset, .unset]) X0 hx (hb hby at_40) rfl (pc' := 42) rfl ?_
        refine w_lloadN X0 hx (hb hby at_42) rfl (pc' := 43) rfl ?_
        refine w_ldc2 X0 hx (hb hby at_43) hown (mvT hZ (wd0 hw)) (pc' := 46) rfl ?_
        refine w_land X0 hx (hb hby at_46) (pc' := 47) rfl ?_
        refine w_eqJ (z := (Int64.ofNat na)) ena ?_
        refine w_lstore (l' := #[.val (.int x0), .val (.long x1), .second, .val (.long x2), .second, .val (.int x3), .val (.int x4), .val (.int (1 : Int32)), .val (.int (0 : Int32)), .val (.int (1 : Int32)), .val (.long (Int64.ofNat na)), .second, .unset, .unset, .unset, .unset, .unset, .unset, .unset, .unset, .unset, .unset]) X0 hx (hb hby at_47) rfl (pc' := 49) rfl ?_
        refine w_lloadN X0 hx (hb hby at_49) rfl (pc' := 50) rfl ?_
        refine w_ldc2 X0 hx (hb hby at_50) hown (mvT hZ (wd0 hw)) (pc' := 53) rfl ?_
        refine w_land X0 hx (hb hby at_53) (pc' := 54) rfl ?_
        refine w_eqJ (z := (Int64.ofNat nb)) enb ?_
        refine w_lstore (l' := #[.val (.int x0), .val (.long x1), .second, .val (.long x2), .second, .val (.int x3), .val (.int x4), .val (.int (1 : Int32)), .val (.int (0 : Int32)), .val (.int (1 : Int32)), .val (.long (Int64.ofNat na)), .second, .val (.long (Int64.ofNat nb)), .second, .unset, .unset, .unset, .unset, .unset, .unset, .unset, .unset]) X0 hx (hb hby at_54) rfl (pc' := 56) rfl ?_
        refine w_new (j := 0) X0 hx hZ hown (wd1 hw) (wd2 hw) (wd3 hw) P0 fl_C0 dv_C0 rfl (ly_C0 hw) (hb hby at_56) (by decide) (by decide) rfl (pc' := 59) rfl ?_
        intro T55 c27 X55 P55 F27
        replace P55 : HP n0 T55.heap [c27] := P55
        refine w_dup X55 hx (hb hby at_59) rfl (pc' := 60) rfl ?_
        refine w_iloadN X55 hx (hb hby at_60) rfl (pc' := 61) rfl ?_
        refine w_bipush (v := (15 : Int32)) X55 hx (hb hby at_61) rfl (pc' := 63) rfl ?_
        refine w_iand X55 hx (hb hby at_63) (pc' := 64) rfl ?_
        refine w_eqI (z := (Int32.ofNat c0)) ec0 ?_
        refine own_callI (W := 1) X55 hx hZ rfl rfl hown hml.symm (wd4 hw) (wd5 hw) (wd3 hw) (wd6 hw) (rm_init l Z a0 hw [] n0 c27 c0 _ P55 F27 (by omega)) (by decide) (by decide) (by decide) (by decide) (by decide) (a := (n0 + 0)) (argsL := [.int (Int32.ofNat c0)]) (rest := [.ref (n0 + 0)]) pd1 rfl rfl rfl (Nat.le_of_eq rfl) (hb hby at_64) (pc' := 67) rfl ?_
        intro v56 T56 L38 X56 hq
        obtain ⟨rfl, N38, c28, F28, kA29, hkA29, P56⟩ := hq
        replace N38 := Fr.app N0 N38
        replace P56 : HP n0 T56.heap [c28, AC kA29 (List.map Value.int (List.replicate c0 0))] := P56
        refine w_astore (l' := #[.val (.int x0), .val (.long x1), .second, .val (.long x2), .second, .val (.int x3), .val (.int x4), .val (.int (1 : Int32)), .val (.int (0 : Int32)), .val (.int (1 : Int32)), .val (.long (Int64.ofNat na)), .second, .val (.long (Int64.ofNat nb)), .second, .val (.ref (n0 + 0)), .unset, .unset, .unset, .unset, .unset, .unset, .unset]) X56 hx (hb hby at_67) rfl rfl (pc' := 69) rfl ?_
        refine w_iload X56 hx (hb hby at_69) rfl (pc' := 71) rfl ?_
        refine w_if_eq X56 hx (hb hby at_71) (by decide) (pcY := 81) (by decide) (pc' := 74) rfl (fun h77 => absurd h77 (by decide)) (fun h77 => ?_)
        refine w_aload X56 hx (hb hby at_74) rfl rfl (pc' := 76) rfl ?_
        refine w_lload X56 hx (hb hby at_76) rfl (pc' := 78) rfl ?_
        obtain ⟨M4, hMa4, hMb4, hMc4⟩ := own_mx (2 * c0) (0 + 10)
        refine own_callV (W := 0) X56 hx hZ rfl hown hml.symm (wd38 hw) (wd39 hw) (wd41 hw) (wd40 hw) (wd3 hw) (wd42 hw) (rm_wr1 l Z a0 hw [] n0 c28 kA29 (List.replicate c0 0) c0 0 M4 na la la _ P56 hkA29 (List.length_replicate (n := c0) (a := (0 : Int32))) F28 (own_Br c0) (by omega) (by omega) (by omega) hMa4 hMb4 hMc4 hna hla (by omega) (by omega)) (a := (n0 + 0)) (P56.exa (i := 0) rfl F28.1) (by decide) (by decide) (by decide) (by decide) (by decide) (argsL := [.long (Int64.ofNat na)]) (rest := []) pd6 rfl rfl rfl (Nat.le_of_eq rfl) (hb hby at_78) (pc' := 81) rfl ?_
        intro v57 T57 L39 X57 hq
        obtain ⟨rfl, N39, hq⟩ := hq
        replace N39 := Fr.app N38 N39
        rcases hq with ⟨hgr4, Aw4, hAw4, hBw4, hWw4, ow4, Fw4, P57⟩ | ⟨hgr4, kw4, hkw4, Aw4, hAw4, hBw4, hWw4, ow4, Fw4, P57⟩
        · replace P57 : HP n0 T57.heap [ow4, AC kA29 (List.map Value.int Aw4)] := P57
          refine w_iload X57 hx (hb hby at_81) rfl (pc' := 83) rfl ?_
          refine w_if_eq X57 hx (hb hby at_83) (by decide) (pcY := 91) (by decide) (pc' := 86) rfl (fun h78 => absurd h78 (by decide)) (fun h78 => ?_)
          refine w_aload X57 hx (hb hby at_86) rfl rfl (pc' := 88) rfl ?_
          refine own_callV (W := 0) X57 hx hZ rfl hown hml.symm (wd67 hw) (wd68 hw) (wd70 hw) (wd69 hw) (wd3 hw) (wd71 hw) (rm_clear l Z a0 hw [] n0 ow4 (n0 + 1) (Int32.ofNat la) ([AC kA29 (List.map Value.int Aw4)]) _ P57 Fw4) (a := (n0 + 0)) (P57.exa (i := 0) rfl Fw4.1) (by decide) (by decide) (by decide) (by decide) (by decide) (argsL := []) (rest := []) pd11 rfl rfl rfl (Nat.le_of_eq rfl) (hb hby at_88) (pc' := 91) rfl ?_
          intro v58 T58 L40 X58 hq
          obtain ⟨rfl, N40, c30, F30, P58⟩ := hq
          replace N40 := Fr.app N39 N40
          replace P58 : HP n0 T58.heap [c30, AC kA29 (List.map Value.int Aw4)] := P58
          refine w_iload X58 hx (hb hby at_91) rfl (pc' := 93) rfl ?_
          refine w_if_eq X58 hx (hb hby at_93) (by decide) (pcY := 103) (by decide) (pc' := 96) rfl (fun h79 => ?_) (fun h79 => absurd h79 (by decide))
          refine w_iload X58 hx (hb hby at_103) rfl (pc' := 105) rfl ?_
          refine w_if_eq X58 hx (hb hby at_105) (by decide) (pcY := 121) (by decide) (pc' := 108) rfl (fun h80 => absurd h80 (by decide)) (fun h80 => ?_)
          refine w_iload X58 hx (hb hby at_108) rfl (pc' := 110) rfl ?_
          refine w_if_ne X58 hx (hb hby at_110) (by decide) (pcY := 121) (by decide) (pc' := 113) rfl (fun h81 => ?_) (fun h81 => absurd h81 (by decide))
          refine w_iconst (v := (0 : Int32)) X58 hx (hb hby at_121) rfl (pc' := 122) rfl ?_
          refine w_istore (l' := #[.val (.int x0), .val (.long x1), .second, .val (.long x2), .second, .val (.int x3), .val (.int x4), .val (.int (1 : Int32)), .val (.int (0 : Int32)), .val (.int (1 : Int32)), .val (.long (Int64.ofNat na)), .second, .val (.long (Int64.ofNat nb)), .second, .val (.ref (n0 + 0)), .val (.int (0 : Int32)), .unset, .unset, .unset, .unset, .unset, .unset]) X58 hx (hb hby at_122) rfl (pc' := 124) rfl ?_
          refine w_iload X58 hx (hb hby at_124) rfl (pc' := 126) rfl ?_
          refine w_if_eq X58 hx (hb hby at_126) (by decide) (pcY := 137) (by decide) (pc' := 129) rfl (fun h82 => ?_) (fun h82 => absurd h82 (by decide))
          refine w_iconst (v := (0 : Int32)) X58 hx (hb hby at_137) rfl (pc' := 138) rfl ?_
          refine w_istore (l' := #[.val (.int x0), .val (.long x1), .second, .val (.long x2), .second, .val (.int x3), .val (.int x4), .val (.int (1 : Int32)), .val (.int (0 : Int32)), .val (.int (1 : Int32)), .val (.long (Int64.ofNat na)), .second, .val (.long (Int64.ofNat nb)), .second, .val (.ref (n0 + 0)), .val (.int (0 : Int32)), .val (.int (0 : Int32)), .unset, .unset, .unset, .unset, .unset]) X58 hx (hb hby at_138) rfl (pc' := 140) rfl ?_
          refine w_iload X58 hx (hb hby at_140) rfl (pc' := 142) rfl ?_
          refine w_iload X58 hx (hb hby at_142) rfl (pc' := 144) rfl ?_
          refine w_iadd X58 hx (hb hby at_144) (pc' := 145) rfl ?_
          refine w_eqI (z := (0 : Int32)) (by decide) ?_
          refine w_istore (l' := #[.val (.int x0), .val (.long x1), .second, .val (.long x2), .second, .val (.int x3), .val (.int x4), .val (.int (1 : Int32)), .val (.int (0 : Int32)), .val (.int (1 : Int32)), .val (.long (Int64.ofNat na)), .second, .val (.long (Int64.ofNat nb)), .second, .val (.ref (n0 + 0)), .val (.int (0 : Int32)), .val (.int (0 : Int32)), .val (.int (0 : Int32)), .unset, .unset, .unset, .unset]) X58 hx (hb hby at_145) rfl (pc' := 147) rfl ?_
          exact Jt1 T58 _ (1 : Int32) (0 : Int32) (1 : Int32) 0 0 c0 Aw4 kA29 c30 N40 (X58.more (by decide) (by decide)) hkA29 hAw4 hBw4 (by omega) (by omega) (by omega) (by omega) (by omega) (fun j h => absurd h (Nat.not_lt_zero _)) (fun i h1 h2 => absurd h2 (by omega)) P58 F30
        · replace P57 : HP n0 T57.heap [ow4, AC kA29 (List.map Value.int (List.replicate c0 0)), AC kw4 (List.map Value.int Aw4)] := P57
          refine w_iload X57 hx (hb hby at_81) rfl (pc' := 83) rfl ?_
          refine w_if_eq X57 hx (hb hby at_83) (by decide) (pcY := 91) (by decide) (pc' := 86) rfl (fun h83 => absurd h83 (by decide)) (fun h83 => ?_)
          refine w_aload X57 hx (hb hby at_86) rfl rfl (pc' := 88) rfl ?_
          refine own_callV (W := 0) X57 hx hZ rfl hown hml.symm (wd67 hw) (wd68 hw) (wd70 hw) (wd69 hw) (wd3 hw) (wd71 hw) (rm_clear l Z a0 hw [] n0 ow4 (n0 + 2) (Int32.ofNat la) ([AC kA29 (List.map Value.int (List.replicate c0 0)), AC kw4 (List.map Value.int Aw4)]) _ P57 Fw4) (a := (n0 + 0)) (P57.exa (i := 0) rfl Fw4.1) (by decide) (by decide) (by decide) (by decide) (by decide) (argsL := []) (rest := []) pd11 rfl rfl rfl (Nat.le_of_eq rfl) (hb hby at_88) (pc' := 91) rfl ?_
          intro v59 T59 L41 X59 hq
          obtain ⟨rfl, N41, c31, F31, P59⟩ := hq
          replace N41 := Fr.app N39 N41
          replace P59 : HP n0 T59.heap [c31, AC kA29 (List.map Value.int (List.replicate c0 0)), AC kw4 (List.map Value.int Aw4)] := P59
          refine w_iload X59 hx (hb hby at_91) rfl (pc' := 93) rfl ?_
          refine w_if_eq X59 hx (hb hby at_93) (by decide) (pcY := 103) (by decide) (pc' := 96) rfl (fun h84 => ?_) (fun h84 => absurd h84 (by decide))
          refine w_iload X59 hx (hb hby at_103) rfl (pc' := 105) rfl ?_
          refine w_if_eq X59 hx (hb hby at_105) (by decide) (pcY := 121) (by decide) (pc' := 108) rfl (fun h85 => absurd h85 (by decide)) (fun h85 => ?_)
          refine w_iload X59 hx (hb hby at_108) rfl (pc' := 110) rfl ?_
          refine w_if_ne X59 hx (hb hby at_110) (by decide) (pcY := 121) (by decide) (pc' := 113) rfl (fun h86 => ?_) (fun h86 => absurd h86 (by decide))
          refine w_iconst (v := (0 : Int32)) X59 hx (hb hby at_121) rfl (pc' := 122) rfl ?_
          refine w_istore (l' := #[.val (.int x0), .val (.long x1), .second, .val (.long x2), .second, .val (.int x3), .val (.int x4), .val (.int (1 : Int32)), .val (.int (0 : Int32)), .val (.int (1 : Int32)), .val (.long (Int64.ofNat na)), .second, .val (.long (Int64.ofNat nb)), .second, .val (.ref (n0 + 0)), .val (.int (0 : Int32)), .unset, .unset, .unset, .unset, .unset, .unset]) X59 hx (hb hby at_122) rfl (pc' := 124) rfl ?_
          refine w_iload X59 hx (hb hby at_124) rfl (pc' := 126) rfl ?_
          refine w_if_eq X59 hx (hb hby at_126) (by decide) (pcY := 137) (by decide) (pc' := 129) rfl (fun h87 => ?_) (fun h87 => absurd h87 (by decide))
          refine w_iconst (v := (0 : Int32)) X59 hx (hb hby at_137) rfl (pc' := 138) rfl ?_
          refine w_istore (l' := #[.val (.int x0), .val (.long x1), .second, .val (.long x2), .second, .val (.int x3), .val (.int x4), .val (.int (1 : Int32)), .val (.int (0 : Int32)), .val (.int (1 : Int32)), .val (.long (Int64.ofNat na)), .second, .val (.long (Int64.ofNat nb)), .second, .val (.ref (n0 + 0)), .val (.int (0 : Int32)), .val (.int (0 : Int32)), .unset, .unset, .unset, .unset, .unset]) X59 hx (hb hby at_138) rfl (pc' := 140) rfl ?_
          refine w_iload X59 hx (hb hby at_140) rfl (pc' := 142) rfl ?_
          refine w_iload X59 hx (hb hby at_142) rfl (pc' := 144) rfl ?_
          refine w_iadd X59 hx (hb hby at_144) (pc' := 145) rfl ?_
          refine w_eqI (z := (0 : Int32)) (by decide) ?_
          refine w_istore (l' := #[.val (.int x0), .val (.long x1), .second, .val (.long x2), .second, .val (.int x3), .val (.int x4), .val (.int (1 : Int32)), .val (.int (0 : Int32)), .val (.int (1 : Int32)), .val (.long (Int64.ofNat na)), .second, .val (.long (Int64.ofNat nb)), .second, .val (.ref (n0 + 0)), .val (.int (0 : Int32)), .val (.int (0 : Int32)), .val (.int (0 : Int32)), .unset, .unset, .unset, .unset]) X59 hx (hb hby at_145) rfl (pc' := 147) rfl ?_
          exact Jt2 T59 _ (1 : Int32) (0 : Int32) (1 : Int32) 0 0 M4 Aw4 kw4 (AC kA29 (List.map Value.int (List.replicate c0 0))) c31 N41 (X59.more (by decide) (by decide)) hkw4 hAw4 hBw4 (by omega) (by omega) (by omega) (by omega) (by omega) (fun j h => absurd h (Nat.not_lt_zero _)) (fun i h1 h2 => absurd h2 (by omega)) P59 F31
    · refine w_iconst (v := (1 : Int32)) X0 hx (hb hby at_21) rfl (pc' := 22) rfl ?_
      refine w_goto X0 hx (hb hby at_22) (by decide) (pc' := 26) (by decide) ?_
      refine w_istore (l' := #[.val (.int x0), .val (.long x1), .second, .val (.long x2), .second, .val (.int x3), .val (.int x4), .val (.int (1 : Int32)), .val (.int (1 : Int32)), .unset, .unset, .unset, .unset, .unset, .unset, .unset, .unset, .unset, .unset, .unset, .unset, .unset]) X0 hx (hb hby at_26) rfl (pc' := 28) rfl ?_
      refine w_iload X0 hx (hb hby at_28) rfl (pc' := 30) rfl ?_
      refine w_iconst (v := (4 : Int32)) X0 hx (hb hby at_30) rfl (pc' := 31) rfl ?_
      refine w_iand X0 hx (hb hby at_31) (pc' := 32) rfl ?_
      refine w_if_eq X0 hx (hb hby at_32) (by decide) (pcY := 39) (by decide) (pc' := 35) rfl (fun h88 => ?_) (fun h88 => ?_)
      · refine w_iconst (v := (0 : Int32)) X0 hx (hb hby at_39) rfl (pc' := 40) rfl ?_
        refine w_istore (l' := #[.val (.int x0), .val (.long x1), .second, .val (.long x2), .second, .val (.int x3), .val (.int x4), .val (.int (1 : Int32)), .val (.int (1 : Int32)), .val (.int (0 : Int32)), .unset, .unset, .unset, .unset, .unset, .unset, .unset, .unset, .unset, .unset, .unset, .unset]) X0 hx (hb hby at_40) rfl (pc' := 42) rfl ?_
        refine w_lloadN X0 hx (hb hby at_42) rfl (pc' := 43) rfl ?_
        refine w_ldc2 X0 hx (hb hby at_43) hown (mvT hZ (wd0 hw)) (pc' := 46) rfl ?_
        refine w_land X0 hx (hb hby at_46) (pc' := 47) rfl ?_
        refine w_eqJ (z := (Int64.ofNat na)) ena ?_
        refine w_lstore (l' := #[.val (.int x0), .val (.long x1), .second, .val (.long x2), .second, .val (.int x3), .val (.int x4), .val (.int (1 : Int32)), .val (.int (1 : Int32)), .val (.int (0 : Int32)), .val (.long (Int64.ofNat na)), .second, .unset, .unset, .unset, .unset, .unset, .unset, .unset, .unset, .unset, .unset]) X0 hx (hb hby at_47) rfl (pc' := 49) rfl ?_
        refine w_lloadN X0 hx (hb hby at_49) rfl (pc' := 50) rfl ?_
        refine w_ldc2 X0 hx (hb hby at_50) hown (mvT hZ (wd0 hw)) (pc' := 53) rfl ?_
        refine w_land X0 hx (hb hby at_53) (pc' := 54) rfl ?_
        refine w_eqJ (z := (Int64.ofNat nb)) enb ?_
        refine w_lstore (l' := #[.val (.int x0), .val (.long x1), .second, .val (.long x2), .second, .val (.int x3), .val (.int x4), .val (.int (1 : Int32)), .val (.int (1 : Int32)), .val (.int (0 : Int32)), .val (.long (Int64.ofNat na)), .second, .val (.long (Int64.ofNat nb)), .second, .unset, .unset, .unset, .unset, .unset, .unset, .unset, .unset]) X0 hx (hb hby at_54) rfl (pc' := 56) rfl ?_
        refine w_new (j := 0) X0 hx hZ hown (wd1 hw) (wd2 hw) (wd3 hw) P0 fl_C0 dv_C0 rfl (ly_C0 hw) (hb hby at_56) (by decide) (by decide) rfl (pc' := 59) rfl ?_
        intro T60 c32 X60 P60 F32
        replace P60 : HP n0 T60.heap [c32] := P60
        refine w_dup X60 hx (hb hby at_59) rfl (pc' := 60) rfl ?_
        refine w_iloadN X60 hx (hb hby at_60) rfl (pc' := 61) rfl ?_
        refine w_bipush (v := (15 : Int32)) X60 hx (hb hby at_61) rfl (pc' := 63) rfl ?_
        refine w_iand X60 hx (hb hby at_63) (pc' := 64) rfl ?_
        refine w_eqI (z := (Int32.ofNat c0)) ec0 ?_
        refine own_callI (W := 1) X60 hx hZ rfl rfl hown hml.symm (wd4 hw) (wd5 hw) (wd3 hw) (wd6 hw) (rm_init l Z a0 hw [] n0 c32 c0 _ P60 F32 (by omega)) (by decide) (by decide) (by decide) (by decide) (by decide) (a := (n0 + 0)) (argsL := [.int (Int32.ofNat c0)]) (rest := [.ref (n0 + 0)]) pd1 rfl rfl rfl (Nat.le_of_eq rfl) (hb hby at_64) (pc' := 67) rfl ?_
        intro v61 T61 L42 X61 hq
        obtain ⟨rfl, N42, c33, F33, kA34, hkA34, P61⟩ := hq
        replace N42 := Fr.app N0 N42
        replace P61 : HP n0 T61.heap [c33, AC kA34 (List.map Value.int (List.replicate c0 0))] := P61
        refine w_astore (l' := #[.val (.int x0), .val (.long x1), .second, .val (.long x2), .second, .val (.int x3), .val (.int x4), .val (.int (1 : Int32)), .val (.int (1 : Int32)), .val (.int (0 : Int32)), .val (.long (Int64.ofNat na)), .second, .val (.long (Int64.ofNat nb)), .second, .val (.ref (n0 + 0)), .unset, .unset, .unset, .unset, .unset, .unset, .unset]) X61 hx (hb hby at_67) rfl rfl (pc' := 69) rfl ?_
        refine w_iload X61 hx (hb hby at_69) rfl (pc' := 71) rfl ?_
        refine w_if_eq X61 hx (hb hby at_71) (by decide) (pcY := 81) (by decide) (pc' := 74) rfl (fun h89 => absurd h89 (by decide)) (fun h89 => ?_)
        refine w_aload X61 hx (hb hby at_74) rfl rfl (pc' := 76) rfl ?_
        refine w_lload X61 hx (hb hby at_76) rfl (pc' := 78) rfl ?_
        obtain ⟨M5, hMa5, hMb5, hMc5⟩ := own_mx (2 * c0) (0 + 10)
        refine own_callV (W := 0) X61 hx hZ rfl hown hml.symm (wd38 hw) (wd39 hw) (wd41 hw) (wd40 hw) (wd3 hw) (wd42 hw) (rm_wr1 l Z a0 hw [] n0 c33 kA34 (List.replicate c0 0) c0 0 M5 na la la _ P61 hkA34 (List.length_replicate (n := c0) (a := (0 : Int32))) F33 (own_Br c0) (by omega) (by omega) (by omega) hMa5 hMb5 hMc5 hna hla (by omega) (by omega)) (a := (n0 + 0)) (P61.exa (i := 0) rfl F33.1) (by decide) (by decide) (by decide) (by decide) (by decide) (argsL := [.long (Int64.ofNat na)]) (rest := []) pd6 rfl rfl rfl (Nat.le_of_eq rfl) (hb hby at_78) (pc' := 81) rfl ?_
        intro v62 T62 L43 X62 hq
        obtain ⟨rfl, N43, hq⟩ := hq
        replace N43 := Fr.app N42 N43
        rcases hq with ⟨hgr5, Aw5, hAw5, hBw5, hWw5, ow5, Fw5, P62⟩ | ⟨hgr5, kw5, hkw5, Aw5, hAw5, hBw5, hWw5, ow5, Fw5, P62⟩
        · replace P62 : HP n0 T62.heap [ow5, AC kA34 (List.map Value.int Aw5)] := P62
          refine w_iload X62 hx (hb hby at_81) rfl (pc' := 83) rfl ?_
          refine w_if_eq X62 hx (hb hby at_83) (by decide) (pcY := 91) (by decide) (pc' := 86) rfl (fun h90 => ?_) (fun h90 => absurd h90 (by decide))
          refine w_iload X62 hx (hb hby at_91) rfl (pc' := 93) rfl ?_
          refine w_if_eq X62 hx (hb hby at_93) (by decide) (pcY := 103) (by decide) (pc' := 96) rfl (fun h91 => absurd h91 (by decide)) (fun h91 => ?_)
          refine w_aload X62 hx (hb hby at_96) rfl rfl (pc' := 98) rfl ?_
          refine w_lload X62 hx (hb hby at_98) rfl (pc' := 100) rfl ?_
          obtain ⟨M6, hMa6, hMb6, hMc6⟩ := own_mx (2 * c0) (la + 10)
          refine own_callV (W := 0) X62 hx hZ rfl hown hml.symm (wd38 hw) (wd39 hw) (wd41 hw) (wd40 hw) (wd3 hw) (wd42 hw) (rm_wr1 l Z a0 hw [] n0 ow5 kA34 Aw5 c0 la M6 nb lb (la + lb) _ P62 hkA34 hAw5 Fw5 hBw5 (by omega) (by omega) (by omega) hMa6 hMb6 hMc6 hnb hlb (by omega) (by omega)) (a := (n0 + 0)) (P62.exa (i := 0) rfl Fw5.1) (by decide) (by decide) (by decide) (by decide) (by decide) (argsL := [.long (Int64.ofNat nb)]) (rest := []) pd6 rfl rfl rfl (Nat.le_of_eq rfl) (hb hby at_100) (pc' := 103) rfl ?_
          intro v63 T63 L44 X63 hq
          obtain ⟨rfl, N44, hq⟩ := hq
          replace N44 := Fr.app N43 N44
          rcases hq with ⟨hgr6, Aw6, hAw6, hBw6, hWw6, ow6, Fw6, P63⟩ | ⟨hgr6, kw6, hkw6, Aw6, hAw6, hBw6, hWw6, ow6, Fw6, P63⟩
          · replace P63 : HP n0 T63.heap [ow6, AC kA34 (List.map Value.int Aw6)] := P63
            refine w_iload X63 hx (hb hby at_103) rfl (pc' := 105) rfl ?_
            refine w_if_eq X63 hx (hb hby at_105) (by decide) (pcY := 121) (by decide) (pc' := 108) rfl (fun h92 => absurd h92 (by decide)) (fun h92 => ?_)
            refine w_iload X63 hx (hb hby at_108) rfl (pc' := 110) rfl ?_
            refine w_if_ne X63 hx (hb hby at_110) (by decide) (pcY := 121) (by decide) (pc' := 113) rfl (fun h93 => absurd h93 (by decide)) (fun h93 => ?_)
            refine w_lload X63 hx (hb hby at_113) rfl (pc' := 115) rfl ?_
            refine w_callP (W := 0) X63 hx hZ rfl hown hml.symm (wd49 hw) (wd50 hw) (wd51 hw) (wd52 hw) (rm8 l Z a0 hw [] (Int64.ofNat na) _) (by decide) (by decide) (by decide) rfl rfl (by decide) (by decide) (argsL := [.long (Int64.ofNat na)]) (rest := []) pd8 rfl rfl rfl (Nat.le_of_eq rfl) (hb hby at_115) (pc' := 118) rfl ?_
            intro T64 X64 e64
            have P64 : HP n0 T64.heap [ow6, AC kA34 (List.map Value.int Aw6)] := by rw [e64]; exact P63
            refine w_eqI (z := (Int32.ofNat la)) ela ?_
            refine w_goto X64 hx (hb hby at_118) (by decide) (pc' := 122) (by decide) ?_
            refine w_istore (l' := #[.val (.int x0), .val (.long x1), .second, .val (.long x2), .second, .val (.int x3), .val (.int x4), .val (.int (1 : Int32)), .val (.int (1 : Int32)), .val (.int (0 : Int32)), .val (.long (Int64.ofNat na)), .second, .val (.long (Int64.ofNat nb)), .second, .val (.ref (n0 + 0)), .val (.int (Int32.ofNat la)), .unset, .unset, .unset, .unset, .unset, .unset]) X64 hx (hb hby at_122) rfl (pc' := 124) rfl ?_
            refine w_iload X64 hx (hb hby at_124) rfl (pc' := 126) rfl ?_
            refine w_if_eq X64 hx (hb hby at_126) (by decide) (pcY := 137) (by decide) (pc' := 129) rfl (fun h94 => absurd h94 (by decide)) (fun h94 => ?_)
            refine w_lload X64 hx (hb hby at_129) rfl (pc' := 131) rfl ?_
            refine w_callP (W := 0) X64 hx hZ rfl hown hml.symm (wd49 hw) (wd50 hw) (wd51 hw) (wd52 hw) (rm8 l Z a0 hw [] (Int64.ofNat nb) _) (by decide) (by decide) (by decide) rfl rfl (by decide) (by decide) (argsL := [.long (Int64.ofNat nb)]) (rest := []) pd8 rfl rfl rfl (Nat.le_of_eq rfl) (hb hby at_131) (pc' := 134) rfl ?_
            intro T65 X65 e65
            have P65 : HP n0 T65.heap [ow6, AC kA34 (List.map Value.int Aw6)] := by rw [e65]; exact P64
            refine w_eqI (z := (Int32.ofNat lb)) elb ?_
            refine w_goto X65 hx (hb hby at_134) (by decide) (pc' := 138) (by decide) ?_
            refine w_istore (l' := #[.val (.int x0), .val (.long x1), .second, .val (.long x2), .second, .val (.int x3), .val (.int x4), .val (.int (1 : Int32)), .val (.int (1 : Int32)), .val (.int (0 : Int32)), .val (.long (Int64.ofNat na)), .second, .val (.long (Int64.ofNat nb)), .second, .val (.ref (n0 + 0)), .val (.int (Int32.ofNat la)), .val (.int (Int32.ofNat lb)), .unset, .unset, .unset, .unset, .unset]) X65 hx (hb hby at_138) rfl (pc' := 140) rfl ?_
            refine w_iload X65 hx (hb hby at_140) rfl (pc' := 142) rfl ?_
            refine w_iload X65 hx (hb hby at_142) rfl (pc' := 144) rfl ?_
            refine w_iadd X65 hx (hb hby at_144) (pc' := 145) rfl ?_
            refine w_eqI (z := (Int32.ofNat (la + lb))) (own_oadd la lb) ?_
            refine w_istore (l' := #[.val (.int x0), .val (.long x1), .second, .val (.long x2), .second, .val (.int x3), .val (.int x4), .val (.int (1 : Int32)), .val (.int (1 : Int32)), .val (.int (0 : Int32)), .val (.long (Int64.ofNat na)), .second, .val (.long (Int64.ofNat nb)), .second, .val (.ref (n0 + 0)), .val (.int (Int32.ofNat la)), .val (.int (Int32.ofNat lb)), .val (.int (Int32.ofNat (la + lb))), .unset, .unset, .unset, .unset]) X65 hx (hb hby at_145) rfl (pc' := 147) rfl ?_
            exact Jt1 T65 _ (1 : Int32) (1 : Int32) (0 : Int32) la lb c0 Aw6 kA34 ow6 N44 (X65.more (by decide) (by decide)) hkA34 hAw6 hBw6 (by omega) (by omega) (by omega) (by omega) (by omega) (own_cab hna hla hWw5 hWw6) (own_cb hnb hlb hWw6) P65 Fw6
          · replace P63 : HP n0 T63.heap [ow6, AC kA34 (List.map Value.int Aw5), AC kw6 (List.map Value.int Aw6)] := P63
            refine w_iload X63 hx (hb hby at_103) rfl (pc' := 105) rfl ?_
            refine w_if_eq X63 hx (hb hby at_105) (by decide) (pcY := 121) (by decide) (pc' := 108) rfl (fun h95 => absurd h95 (by decide)) (fun h95 => ?_)
            refine w_iload X63 hx (hb hby at_108) rfl (pc' := 110) rfl ?_
            refine w_if_ne X63 hx (hb hby at_110) (by decide) (pcY := 121) (by decide) (pc' := 113) rfl (fun h96 => absurd h96 (by decide)) (fun h96 => ?_)
            refine w_lload X63 hx (hb hby at_113) rfl (pc' := 115) rfl ?_
            refine w_callP (W := 0) X63 hx hZ rfl hown hml.symm (wd49 hw) (wd50 hw) (wd51 hw) (wd52 hw) (rm8 l Z a0 hw [] (Int64.ofNat na) _) (by decide) (by decide) (by decide) rfl rfl (by decide) (by decide) (argsL := [.long (Int64.ofNat na)]) (rest := []) pd8 rfl rfl rfl (Nat.le_of_eq rfl) (hb hby at_115) (pc' := 118) rfl ?_
            intro T66 X66 e66
            have P66 : HP n0 T66.heap [ow6, AC kA34 (List.map Value.int Aw5), AC kw6 (List.map Value.int Aw6)] := by rw [e66]; exact P63
            refine w_eqI (z := (Int32.ofNat la)) ela ?_
            refine w_goto X66 hx (hb hby at_118) (by decide) (pc' := 122) (by decide) ?_
            refine w_istore (l' := #[.val (.int x0), .val (.long x1), .second, .val (.long x2), .second, .val (.int x3), .val (.int x4), .val (.int (1 : Int32)), .val (.int (1 : Int32)), .val (.int (0 : Int32)), .val (.long (Int64.ofNat na)), .second, .val (.long (Int64.ofNat nb)), .second, .val (.ref (n0 + 0)), .val (.int (Int32.ofNat la)), .unset, .unset, .unset, .unset, .unset, .unset]) X66 hx (hb hby at_122) rfl (pc' := 124) rfl ?_
            refine w_iload X66 hx (hb hby at_124) rfl (pc' := 126) rfl ?_
            refine w_if_eq X66 hx (hb hby at_126) (by decide) (pcY := 137) (by decide) (pc' := 129) rfl (fun h97 => absurd h97 (by decide)) (fun h97 => ?_)
            refine w_lload X66 hx (hb hby at_129) rfl (pc' := 131) rfl ?_
            refine w_callP (W := 0) X66 hx hZ rfl hown hml.symm (wd49 hw) (wd50 hw) (wd51 hw) (wd52 hw) (rm8 l Z a0 hw [] (Int64.ofNat nb) _) (by decide) (by decide) (by decide) rfl rfl (by decide) (by decide) (argsL := [.long (Int64.ofNat nb)]) (rest := []) pd8 rfl rfl rfl (Nat.le_of_eq rfl) (hb hby at_131) (pc' := 134) rfl ?_
            intro T67 X67 e67
            have P67 : HP n0 T67.heap [ow6, AC kA34 (List.map Value.int Aw5), AC kw6 (List.map Value.int Aw6)] := by rw [e67]; exact P66
            refine w_eqI (z := (Int32.ofNat lb)) elb ?_
            refine w_goto X67 hx (hb hby at_134) (by decide) (pc' := 138) (by decide) ?_
            refine w_istore (l' := #[.val (.int x0), .val (.long x1), .second, .val (.long x2), .second, .val (.int x3), .val (.int x4), .val (.int (1 : Int32)), .val (.int (1 : Int32)), .val (.int (0 : Int32)), .val (.long (Int64.ofNat na)), .second, .val (.long (Int64.ofNat nb)), .second, .val (.ref (n0 + 0)), .val (.int (Int32.ofNat la)), .val (.int (Int32.ofNat lb)), .unset, .unset, .unset, .unset, .unset]) X67 hx (hb hby at_138) rfl (pc' := 140) rfl ?_
            refine w_iload X67 hx (hb hby at_140) rfl (pc' := 142) rfl ?_
            refine w_iload X67 hx (hb hby at_142) rfl (pc' := 144) rfl ?_
            refine w_iadd X67 hx (hb hby at_144) (pc' := 145) rfl ?_
            refine w_eqI (z := (Int32.ofNat (la + lb))) (own_oadd la lb) ?_
            refine w_istore (l' := #[.val (.int x0), .val (.long x1), .second, .val (.long x2), .second, .val (.int x3), .val (.int x4), .val (.int (1 : Int32)), .val (.int (1 : Int32)), .val (.int (0 : Int32)), .val (.long (Int64.ofNat na)), .second, .val (.long (Int64.ofNat nb)), .second, .val (.ref (n0 + 0)), .val (.int (Int32.ofNat la)), .val (.int (Int32.ofNat lb)), .val (.int (Int32.ofNat (la + lb))), .unset, .unset, .unset, .unset]) X67 hx (hb hby at_145) rfl (pc' := 147) rfl ?_
            exact Jt2 T67 _ (1 : Int32) (1 : Int32) (0 : Int32) la lb M6 Aw6 kw6 (AC kA34 (List.map Value.int Aw5)) ow6 N44 (X67.more (by decide) (by decide)) hkw6 hAw6 hBw6 (by omega) (by omega) (by omega) (by omega) (by omega) (own_cab hna hla hWw5 hWw6) (own_cb hnb hlb hWw6) P67 Fw6
        · replace P62 : HP n0 T62.heap [ow5, AC kA34 (List.map Value.int (List.replicate c0 0)), AC kw5 (List.map Value.int Aw5)] := P62
          refine w_iload X62 hx (hb hby at_81) rfl (pc' := 83) rfl ?_
          refine w_if_eq X62 hx (hb hby at_83) (by decide) (pcY := 91) (by decide) (pc' := 86) rfl (fun h98 => ?_) (fun h98 => absurd h98 (by decide))
          refine w_iload X62 hx (hb hby at_91) rfl (pc' := 93) rfl ?_
          refine w_if_eq X62 hx (hb hby at_93) (by decide) (pcY := 103) (by decide) (pc' := 96) rfl (fun h99 => absurd h99 (by decide)) (fun h99 => ?_)
          refine w_aload X62 hx (hb hby at_96) rfl rfl (pc' := 98) rfl ?_
          refine w_lload X62 hx (hb hby at_98) rfl (pc' := 100) rfl ?_
          obtain ⟨M7, hMa7, hMb7, hMc7⟩ := own_mx (2 * M5) (la + 10)
          refine own_callV (W := 0) X62 hx hZ rfl hown hml.symm (wd38 hw) (wd39 hw) (wd41 hw) (wd40 hw) (wd3 hw) (wd42 hw) (rm_wr2 l Z a0 hw [] n0 ow5 (AC kA34 (List.map Value.int (List.replicate c0 0))) kw5 Aw5 M5 la M7 nb lb (la + lb) _ P62 hkw5 hAw5 Fw5 hBw5 (by omega) (by omega) (by omega) hMa7 hMb7 hMc7 hnb hlb (by omega) (by omega)) (a := (n0 + 0)) (P62.exa (i := 0) rfl Fw5.1) (by decide) (by decide) (by decide) (by decide) (by decide) (argsL := [.long (Int64.ofNat nb)]) (rest := []) pd6 rfl rfl rfl (Nat.le_of_eq rfl) (hb hby at_100) (pc' := 103) rfl ?_
          intro v68 T68 L45 X68 hq
          obtain ⟨rfl, N45, hq⟩ := hq
          replace N45 := Fr.app N43 N45
          rcases hq with ⟨hgr7, Aw7, hAw7, hBw7, hWw7, ow7, Fw7, P68⟩ | ⟨hgr7, kw7, hkw7, Aw7, hAw7, hBw7, hWw7, ow7, Fw7, P68⟩
          · replace P68 : HP n0 T68.heap [ow7, AC kA34 (List.map Value.int (List.replicate c0 0)), AC kw5 (List.map Value.int Aw7)] := P68
            refine w_iload X68 hx (hb hby at_103) rfl (pc' := 105) rfl ?_
            refine w_if_eq X68 hx (hb hby at_105) (by decide) (pcY := 121) (by decide) (pc' := 108) rfl (fun h100 => absurd h100 (by decide)) (fun h100 => ?_)
            refine w_iload X68 hx (hb hby at_108) rfl (pc' := 110) rfl ?_
            refine w_if_ne X68 hx (hb hby at_110) (by decide) (pcY := 121) (by decide) (pc' := 113) rfl (fun h101 => absurd h101 (by decide)) (fun h101 => ?_)
            refine w_lload X68 hx (hb hby at_113) rfl (pc' := 115) rfl ?_
            refine w_callP (W := 0) X68 hx hZ rfl hown hml.symm (wd49 hw) (wd50 hw) (wd51 hw) (wd52 hw) (rm8 l Z a0 hw [] (Int64.ofNat na) _) (by decide) (by decide) (by decide) rfl rfl (by decide) (by decide) (argsL := [.long (Int64.ofNat na)]) (rest := []) pd8 rfl rfl rfl (Nat.le_of_eq rfl) (hb hby at_115) (pc' := 118) rfl ?_
            intro T69 X69 e69
            have P69 : HP n0 T69.heap [ow7, AC kA34 (List.map Value.int (List.replicate c0 0)), AC kw5 (List.map Value.int Aw7)] := by rw [e69]; exact P68
            refine w_eqI (z := (Int32.ofNat la)) ela ?_
            refine w_goto X69 hx (hb hby at_118) (by decide) (pc' := 122) (by decide) ?_
            refine w_istore (l' := #[.val (.int x0), .val (.long x1), .second, .val (.long x2), .second, .val (.int x3), .val (.int x4), .val (.int (1 : Int32)), .val (.int (1 : Int32)), .val (.int (0 : Int32)), .val (.long (Int64.ofNat na)), .second, .val (.long (Int64.ofNat nb)), .second, .val (.ref (n0 + 0)), .val (.int (Int32.ofNat la)), .unset, .unset, .unset, .unset, .unset, .unset]) X69 hx (hb hby at_122) rfl (pc' := 124) rfl ?_
            refine w_iload X69 hx (hb hby at_124) rfl (pc' := 126) rfl ?_
            refine w_if_eq X69 hx (hb hby at_126) (by decide) (pcY := 137) (by decide) (pc' := 129) rfl (fun h102 => absurd h102 (by decide)) (fun h102 => ?_)
            refine w_lload X69 hx (hb hby at_129) rfl (pc' := 131) rfl ?_
            refine w_callP (W := 0) X69 hx hZ rfl hown hml.symm (wd49 hw) (wd50 hw) (wd51 hw) (wd52 hw) (rm8 l Z a0 hw [] (Int64.ofNat nb) _) (by decide) (by decide) (by decide) rfl rfl (by decide) (by decide) (argsL := [.long (Int64.ofNat nb)]) (rest := []) pd8 rfl rfl rfl (Nat.le_of_eq rfl) (hb hby at_131) (pc' := 134) rfl ?_
            intro T70 X70 e70
            have P70 : HP n0 T70.heap [ow7, AC kA34 (List.map Value.int (List.replicate c0 0)), AC kw5 (List.map Value.int Aw7)] := by rw [e70]; exact P69
            refine w_eqI (z := (Int32.ofNat lb)) elb ?_
            refine w_goto X70 hx (hb hby at_134) (by decide) (pc' := 138) (by decide) ?_
            refine w_istore (l' := #[.val (.int x0), .val (.long x1), .second, .val (.long x2), .second, .val (.int x3), .val (.int x4), .val (.int (1 : Int32)), .val (.int (1 : Int32)), .val (.int (0 : Int32)), .val (.long (Int64.ofNat na)), .second, .val (.long (Int64.ofNat nb)), .second, .val (.ref (n0 + 0)), .val (.int (Int32.ofNat la)), .val (.int (Int32.ofNat lb)), .unset, .unset, .unset, .unset, .unset]) X70 hx (hb hby at_138) rfl (pc' := 140) rfl ?_
            refine w_iload X70 hx (hb hby at_140) rfl (pc' := 142) rfl ?_
            refine w_iload X70 hx (hb hby at_142) rfl (pc' := 144) rfl ?_
            refine w_iadd X70 hx (hb hby at_144) (pc' := 145) rfl ?_
            refine w_eqI (z := (Int32.ofNat (la + lb))) (own_oadd la lb) ?_
            refine w_istore (l' := #[.val (.int x0), .val (.long x1), .second, .val (.long x2), .second, .val (.int x3), .val (.int x4), .val (.int (1 : Int32)), .val (.int (1 : Int32)), .val (.int (0 : Int32)), .val (.long (Int64.ofNat na)), .second, .val (.long (Int64.ofNat nb)), .second, .val (.ref (n0 + 0)), .val (.int (Int32.ofNat la)), .val (.int (Int32.ofNat lb)), .val (.int (Int32.ofNat (la + lb))), .unset, .unset, .unset, .unset]) X70 hx (hb hby at_145) rfl (pc' := 147) rfl ?_
            exact Jt2 T70 _ (1 : Int32) (1 : Int32) (0 : Int32) la lb M5 Aw7 kw5 (AC kA34 (List.map Value.int (List.replicate c0 0))) ow7 N45 (X70.more (by decide) (by decide)) hkw5 hAw7 hBw7 (by omega) (by omega) (by omega) (by omega) (by omega) (own_cab hna hla hWw5 hWw7) (own_cb hnb hlb hWw7) P70 Fw7
          · replace P68 : HP n0 T68.heap [ow7, AC kA34 (List.map Value.int (List.replicate c0 0)), AC kw5 (List.map Value.int Aw5), AC kw7 (List.map Value.int Aw7)] := P68
            refine w_iload X68 hx (hb hby at_103) rfl (pc' := 105) rfl ?_
            refine w_if_eq X68 hx (hb hby at_105) (by decide) (pcY := 121) (by decide) (pc' := 108) rfl (fun h103 => absurd h103 (by decide)) (fun h103 => ?_)
            refine w_iload X68 hx (hb hby at_108) rfl (pc' := 110) rfl ?_
            refine w_if_ne X68 hx (hb hby at_110) (by decide) (pcY := 121) (by decide) (pc' := 113) rfl (fun h104 => absurd h104 (by decide)) (fun h104 => ?_)
            refine w_lload X68 hx (hb hby at_113) rfl (pc' := 115) rfl ?_
            refine w_callP (W := 0) X68 hx hZ rfl hown hml.symm (wd49 hw) (wd50 hw) (wd51 hw) (wd52 hw) (rm8 l Z a0 hw [] (Int64.ofNat na) _) (by decide) (by decide) (by decide) rfl rfl (by decide) (by decide) (argsL := [.long (Int64.ofNat na)]) (rest := []) pd8 rfl rfl rfl (Nat.le_of_eq rfl) (hb hby at_115) (pc' := 118) rfl ?_
            intro T71 X71 e71
            have P71 : HP n0 T71.heap [ow7, AC kA34 (List.map Value.int (List.replicate c0 0)), AC kw5 (List.map Value.int Aw5), AC kw7 (List.map Value.int Aw7)] := by rw [e71]; exact P68
            refine w_eqI (z := (Int32.ofNat la)) ela ?_
            refine w_goto X71 hx (hb hby at_118) (by decide) (pc' := 122) (by decide) ?_
            refine w_istore (l' := #[.val (.int x0), .val (.long x1), .second, .val (.long x2), .second, .val (.int x3), .val (.int x4), .val (.int (1 : Int32)), .val (.int (1 : Int32)), .val (.int (0 : Int32)), .val (.long (Int64.ofNat na)), .second, .val (.long (Int64.ofNat nb)), .second, .val (.ref (n0 + 0)), .val (.int (Int32.ofNat la)), .unset, .unset, .unset, .unset, .unset, .unset]) X71 hx (hb hby at_122) rfl (pc' := 124) rfl ?_
            refine w_iload X71 hx (hb hby at_124) rfl (pc' := 126) rfl ?_
            refine w_if_eq X71 hx (hb hby at_126) (by decide) (pcY := 137) (by decide) (pc' := 129) rfl (fun h105 => absurd h105 (by decide)) (fun h105 => ?_)
            refine w_lload X71 hx (hb hby at_129) rfl (pc' := 131) rfl ?_
            refine w_callP (W := 0) X71 hx hZ rfl hown hml.symm (wd49 hw) (wd50 hw) (wd51 hw) (wd52 hw) (rm8 l Z a0 hw [] (Int64.ofNat nb) _) (by decide) (by decide) (by decide) rfl rfl (by decide) (by decide) (argsL := [.long (Int64.ofNat nb)]) (rest := []) pd8 rfl rfl rfl (Nat.le_of_eq rfl) (hb hby at_131) (pc' := 134) rfl ?_
            intro T72 X72 e72
            have P72 : HP n0 T72.heap [ow7, AC kA34 (List.map Value.int (List.replicate c0 0)), AC kw5 (List.map Value.int Aw5), AC kw7 (List.map Value.int Aw7)] := by rw [e72]; exact P71
            refine w_eqI (z := (Int32.ofNat lb)) elb ?_
            refine w_goto X72 hx (hb hby at_134) (by decide) (pc' := 138) (by decide) ?_
            refine w_istore (l' := #[.val (.int x0), .val (.long x1), .second, .val (.long x2), .second, .val (.int x3), .val (.int x4), .val (.int (1 : Int32)), .val (.int (1 : Int32)), .val (.int (0 : Int32)), .val (.long (Int64.ofNat na)), .second, .val (.long (Int64.ofNat nb)), .second, .val (.ref (n0 + 0)), .val (.int (Int32.ofNat la)), .val (.int (Int32.ofNat lb)), .unset, .unset, .unset, .unset, .unset]) X72 hx (hb hby at_138) rfl (pc' := 140) rfl ?_
            refine w_iload X72 hx (hb hby at_140) rfl (pc' := 142) rfl ?_
            refine w_iload X72 hx (hb hby at_142) rfl (pc' := 144) rfl ?_
            refine w_iadd X72 hx (hb hby at_144) (pc' := 145) rfl ?_
            refine w_eqI (z := (Int32.ofNat (la + lb))) (own_oadd la lb) ?_
            refine w_istore (l' := #[.val (.int x0), .val (.long x1), .second, .val (.long x2), .second, .val (.int x3), .val (.int x4), .val (.int (1 : Int32)), .val (.int (1 : Int32)), .val (.int (0 : Int32)), .val (.long (Int64.ofNat na)), .second, .val (.long (Int64.ofNat nb)), .second, .val (.ref (n0 + 0)), .val (.int (Int32.ofNat la)), .val (.int (Int32.ofNat lb)), .val (.int (Int32.ofNat (la + lb))), .unset, .unset, .unset, .unset]) X72 hx (hb hby at_145) rfl (pc' := 147) rfl ?_
            exact Jt3 T72 _ (1 : Int32) (1 : Int32) (0 : Int32) la lb M7 Aw7 kw7 (AC kA34 (List.map Value.int (List.replicate c0 0))) (AC kw5 (List.map Value.int Aw5)) ow7 N45 (X72.more (by decide) (by decide)) hkw7 hAw7 hBw7 (by omega) (by omega) (by omega) (by omega) (by omega) (own_cab hna hla hWw5 hWw7) (own_cb hnb hlb hWw7) P72 Fw7
      · refine w_iconst (v := (1 : Int32)) X0 hx (hb hby at_35) rfl (pc' := 36) rfl ?_
        refine w_goto X0 hx (hb hby at_36) (by decide) (pc' := 40) (by decide) ?_
        refine w_istore (l' := #[.val (.int x0), .val (.long x1), .second, .val (.long x2), .second, .val (.int x3), .val (.int x4), .val (.int (1 : Int32)), .val (.int (1 : Int32)), .val (.int (1 : Int32)), .unset, .unset, .unset, .unset, .unset, .unset, .unset, .unset, .unset, .unset, .unset, .unset]) X0 hx (hb hby at_40) rfl (pc' := 42) rfl ?_
        refine w_lloadN X0 hx (hb hby at_42) rfl (pc' := 43) rfl ?_
        refine w_ldc2 X0 hx (hb hby at_43) hown (mvT hZ (wd0 hw)) (pc' := 46) rfl ?_
        refine w_land X0 hx (hb hby at_46) (pc' := 47) rfl ?_
        refine w_eqJ (z := (Int64.ofNat na)) ena ?_
        refine w_lstore (l' := #[.val (.int x0), .val (.long x1), .second, .val (.long x2), .second, .val (.int x3), .val (.int x4), .val (.int (1 : Int32)), .val (.int (1 : Int32)), .val (.int (1 : Int32)), .val (.long (Int64.ofNat na)), .second, .unset, .unset, .unset, .unset, .unset, .unset, .unset, .unset, .unset, .unset]) X0 hx (hb hby at_47) rfl (pc' := 49) rfl ?_
        refine w_lloadN X0 hx (hb hby at_49) rfl (pc' := 50) rfl ?_
        refine w_ldc2 X0 hx (hb hby at_50) hown (mvT hZ (wd0 hw)) (pc' := 53) rfl ?_
        refine w_land X0 hx (hb hby at_53) (pc' := 54) rfl ?_
        refine w_eqJ (z := (Int64.ofNat nb)) enb ?_
        refine w_lstore (l' := #[.val (.int x0), .val (.long x1), .second, .val (.long x2), .second, .val (.int x3), .val (.int x4), .val (.int (1 : Int32)), .val (.int (1 : Int32)), .val (.int (1 : Int32)), .val (.long (Int64.ofNat na)), .second, .val (.long (Int64.ofNat nb)), .second, .unset, .unset, .unset, .unset, .unset, .unset, .unset, .unset]) X0 hx (hb hby at_54) rfl (pc' := 56) rfl ?_
        refine w_new (j := 0) X0 hx hZ hown (wd1 hw) (wd2 hw) (wd3 hw) P0 fl_C0 dv_C0 rfl (ly_C0 hw) (hb hby at_56) (by decide) (by decide) rfl (pc' := 59) rfl ?_
        intro T73 c35 X73 P73 F35
        replace P73 : HP n0 T73.heap [c35] := P73
        refine w_dup X73 hx (hb hby at_59) rfl (pc' := 60) rfl ?_
        refine w_iloadN X73 hx (hb hby at_60) rfl (pc' := 61) rfl ?_
        refine w_bipush (v := (15 : Int32)) X73 hx (hb hby at_61) rfl (pc' := 63) rfl ?_
        refine w_iand X73 hx (hb hby at_63) (pc' := 64) rfl ?_
        refine w_eqI (z := (Int32.ofNat c0)) ec0 ?_
        refine own_callI (W := 1) X73 hx hZ rfl rfl hown hml.symm (wd4 hw) (wd5 hw) (wd3 hw) (wd6 hw) (rm_init l Z a0 hw [] n0 c35 c0 _ P73 F35 (by omega)) (by decide) (by decide) (by decide) (by decide) (by decide) (a := (n0 + 0)) (argsL := [.int (Int32.ofNat c0)]) (rest := [.ref (n0 + 0)]) pd1 rfl rfl rfl (Nat.le_of_eq rfl) (hb hby at_64) (pc' := 67) rfl ?_
        intro v74 T74 L46 X74 hq
        obtain ⟨rfl, N46, c36, F36, kA37, hkA37, P74⟩ := hq
        replace N46 := Fr.app N0 N46
        replace P74 : HP n0 T74.heap [c36, AC kA37 (List.map Value.int (List.replicate c0 0))] := P74
        refine w_astore (l' := #[.val (.int x0), .val (.long x1), .second, .val (.long x2), .second, .val (.int x3), .val (.int x4), .val (.int (1 : Int32)), .val (.int (1 : Int32)), .val (.int (1 : Int32)), .val (.long (Int64.ofNat na)), .second, .val (.long (Int64.ofNat nb)), .second, .val (.ref (n0 + 0)), .unset, .unset, .unset, .unset, .unset, .unset, .unset]) X74 hx (hb hby at_67) rfl rfl (pc' := 69) rfl ?_
        refine w_iload X74 hx (hb hby at_69) rfl (pc' := 71) rfl ?_
        refine w_if_eq X74 hx (hb hby at_71) (by decide) (pcY := 81) (by decide) (pc' := 74) rfl (fun h106 => absurd h106 (by decide)) (fun h106 => ?_)
        refine w_aload X74 hx (hb hby at_74) rfl rfl (pc' := 76) rfl ?_
        refine w_lload X74 hx (hb hby at_76) rfl (pc' := 78) rfl ?_
        obtain ⟨M8, hMa8, hMb8, hMc8⟩ := own_mx (2 * c0) (0 + 10)
        refine own_callV (W := 0) X74 hx hZ rfl hown hml.symm (wd38 hw) (wd39 hw) (wd41 hw) (wd40 hw) (wd3 hw) (wd42 hw) (rm_wr1 l Z a0 hw [] n0 c36 kA37 (List.replicate c0 0) c0 0 M8 na la la _ P74 hkA37 (List.length_replicate (n := c0) (a := (0 : Int32))) F36 (own_Br c0) (by omega) (by omega) (by omega) hMa8 hMb8 hMc8 hna hla (by omega) (by omega)) (a := (n0 + 0)) (P74.exa (i := 0) rfl F36.1) (by decide) (by decide) (by decide) (by decide) (by decide) (argsL := [.long (Int64.ofNat na)]) (rest := []) pd6 rfl rfl rfl (Nat.le_of_eq rfl) (hb hby at_78) (pc' := 81) rfl ?_
        intro v75 T75 L47 X75 hq
        obtain ⟨rfl, N47, hq⟩ := hq
        replace N47 := Fr.app N46 N47
        rcases hq with ⟨hgr8, Aw8, hAw8, hBw8, hWw8, ow8, Fw8, P75⟩ | ⟨hgr8, kw8, hkw8, Aw8, hAw8, hBw8, hWw8, ow8, Fw8, P75⟩
        · replace P75 : HP n0 T75.heap [ow8, AC kA37 (List.map Value.int Aw8)] := P75
          refine w_iload X75 hx (hb hby at_81) rfl (pc' := 83) rfl ?_
          refine w_if_eq X75 hx (hb hby at_83) (by decide) (pcY := 91) (by decide) (pc' := 86) rfl (fun h107 => absurd h107 (by decide)) (fun h107 => ?_)
          refine w_aload X75 hx (hb hby at_86) rfl rfl (pc' := 88) rfl ?_
          refine own_callV (W := 0) X75 hx hZ rfl hown hml.symm (wd67 hw) (wd68 hw) (wd70 hw) (wd69 hw) (wd3 hw) (wd71 hw) (rm_clear l Z a0 hw [] n0 ow8 (n0 + 1) (Int32.ofNat la) ([AC kA37 (List.map Value.int Aw8)]) _ P75 Fw8) (a := (n0 + 0)) (P75.exa (i := 0) rfl Fw8.1) (by decide) (by decide) (by decide) (by decide) (by decide) (argsL := []) (rest := []) pd11 rfl rfl rfl (Nat.le_of_eq rfl) (hb hby at_88) (pc' := 91) rfl ?_
          intro v76 T76 L48 X76 hq
          obtain ⟨rfl, N48, c38, F38, P76⟩ := hq
          replace N48 := Fr.app N47 N48
          replace P76 : HP n0 T76.heap [c38, AC kA37 (List.map Value.int Aw8)] := P76
          refine w_iload X76 hx (hb hby at_91) rfl (pc' := 93) rfl ?_
          refine w_if_eq X76 hx (hb hby at_93) (by decide) (pcY := 103) (by decide) (pc' := 96) rfl (fun h108 => absurd h108 (by decide)) (fun h108 => ?_)
          refine w_aload X76 hx (hb hby at_96) rfl rfl (pc' := 98) rfl ?_
          refine w_lload X76 hx (hb hby at_98) rfl (pc' := 100) rfl ?_
          obtain ⟨M9, hMa9, hMb9, hMc9⟩ := own_mx (2 * c0) (0 + 10)
          refine own_callV (W := 0) X76 hx hZ rfl hown hml.symm (wd38 hw) (wd39 hw) (wd41 hw) (wd40 hw) (wd3 hw) (wd42 hw) (rm_wr1 l Z a0 hw [] n0 c38 kA37 Aw8 c0 0 M9 nb lb (0 + lb) _ P76 hkA37 hAw8 F38 hBw8 (by omega) (by omega) (by omega) hMa9 hMb9 hMc9 hnb hlb (by omega) (by omega)) (a := (n0 + 0)) (P76.exa (i := 0) rfl F38.1) (by decide) (by decide) (by decide) (by decide) (by decide) (argsL := [.long (Int64.ofNat nb)]) (rest := []) pd6 rfl rfl rfl (Nat.le_of_eq rfl) (hb hby at_100) (pc' := 103) rfl ?_
          intro v77 T77 L49 X77 hq
          obtain ⟨rfl, N49, hq⟩ := hq
          replace N49 := Fr.app N48 N49
          rcases hq with ⟨hgr9, Aw9, hAw9, hBw9, hWw9, ow9, Fw9, P77⟩ | ⟨hgr9, kw9, hkw9, Aw9, hAw9, hBw9, hWw9, ow9, Fw9, P77⟩
          · replace P77 : HP n0 T77.heap [ow9, AC kA37 (List.map Value.int Aw9)] := P77
            refine w_iload X77 hx (hb hby at_103) rfl (pc' := 105) rfl ?_
            refine w_if_eq X77 hx (hb hby at_105) (by decide) (pcY := 121) (by decide) (pc' := 108) rfl (fun h109 => absurd h109 (by decide)) (fun h109 => ?_)
            refine w_iload X77 hx (hb hby at_108) rfl (pc' := 110) rfl ?_
            refine w_if_ne X77 hx (hb hby at_110) (by decide) (pcY := 121) (by decide) (pc' := 113) rfl (fun h110 => ?_) (fun h110 => absurd h110 (by decide))
            refine w_iconst (v := (0 : Int32)) X77 hx (hb hby at_121) rfl (pc' := 122) rfl ?_
            refine w_istore (l' := #[.val (.int x0), .val (.long x1), .second, .val (.long x2), .second, .val (.int x3), .val (.int x4), .val (.int (1 : Int32)), .val (.int (1 : Int32)), .val (.int (1 : Int32)), .val (.long (Int64.ofNat na)), .second, .val (.long (Int64.ofNat nb)), .second, .val (.ref (n0 + 0)), .val (.int (0 : Int32)), .unset, .unset, .unset, .unset, .unset, .unset]) X77 hx (hb hby at_122) rfl (pc' := 124) rfl ?_
            refine w_iload X77 hx (hb hby at_124) rfl (pc' := 126) rfl ?_
            refine w_if_eq X77 hx (hb hby at_126) (by decide) (pcY := 137) (by decide) (pc' := 129) rfl (fun h111 => absurd h111 (by decide)) (fun h111 => ?_)
            refine w_lload X77 hx (hb hby at_129) rfl (pc' := 131) rfl ?_
            refine w_callP (W := 0) X77 hx hZ rfl hown hml.symm (wd49 hw) (wd50 hw) (wd51 hw) (wd52 hw) (rm8 l Z a0 hw [] (Int64.ofNat nb) _) (by decide) (by decide) (by decide) rfl rfl (by decide) (by decide) (argsL := [.long (Int64.ofNat nb)]) (rest := []) pd8 rfl rfl rfl (Nat.le_of_eq rfl) (hb hby at_131) (pc' := 134) rfl ?_
            intro T78 X78 e78
            have P78 : HP n0 T78.heap [ow9, AC kA37 (List.map Value.int Aw9)] := by rw [e78]; exact P77
            refine w_eqI (z := (Int32.ofNat lb)) elb ?_
            refine w_goto X78 hx (hb hby at_134) (by decide) (pc' := 138) (by decide) ?_
            refine w_istore (l' := #[.val (.int x0), .val (.long x1), .second, .val (.long x2), .second, .val (.int x3), .val (.int x4), .val (.int (1 : Int32)), .val (.int (1 : Int32)), .val (.int (1 : Int32)), .val (.long (Int64.ofNat na)), .second, .val (.long (Int64.ofNat nb)), .second, .val (.ref (n0 + 0)), .val (.int (0 : Int32)), .val (.int (Int32.ofNat lb)), .unset, .unset, .unset, .unset, .unset]) X78 hx (hb hby at_138) rfl (pc' := 140) rfl ?_
            refine w_iload X78 hx (hb hby at_140) rfl (pc' := 142) rfl ?_
            refine w_iload X78 hx (hb hby at_142) rfl (pc' := 144) rfl ?_
            refine w_iadd X78 hx (hb hby at_144) (pc' := 145) rfl ?_
            refine w_eqI (z := (Int32.ofNat (0 + lb))) (own_oadd 0 lb) ?_
            refine w_istore (l' := #[.val (.int x0), .val (.long x1), .second, .val (.long x2), .second, .val (.int x3), .val (.int x4), .val (.int (1 : Int32)), .val (.int (1 : Int32)), .val (.int (1 : Int32)), .val (.long (Int64.ofNat na)), .second, .val (.long (Int64.ofNat nb)), .second, .val (.ref (n0 + 0)), .val (.int (0 : Int32)), .val (.int (Int32.ofNat lb)), .val (.int (Int32.ofNat (0 + lb))), .unset, .unset, .unset, .unset]) X78 hx (hb hby at_145) rfl (pc' := 147) rfl ?_
            exact Jt1 T78 _ (1 : Int32) (1 : Int32) (1 : Int32) 0 lb c0 Aw9 kA37 ow9 N49 (X78.more (by decide) (by decide)) hkA37 hAw9 hBw9 (by omega) (by omega) (by omega) (by omega) (by omega) (fun j h => absurd h (Nat.not_lt_zero _)) (own_cb hnb hlb hWw9) P78 Fw9
          · replace P77 : HP n0 T77.heap [ow9, AC kA37 (List.map Value.int Aw8), AC kw9 (List.map Value.int Aw9)] := P77
            refine w_iload X77 hx (hb hby at_103) rfl (pc' := 105) rfl ?_
            refine w_if_eq X77 hx (hb hby at_105) (by decide) (pcY := 121) (by decide) (pc' := 108) rfl (fun h112 => absurd h112 (by decide)) (fun h112 => ?_)
            refine w_iload X77 hx (hb hby at_108) rfl (pc' := 110) rfl ?_
            refine w_if_ne X77 hx (hb hby at_110) (by decide) (pcY := 121) (by decide) (pc' := 113) rfl (fun h113 => ?_) (fun h113 => absurd h113 (by decide))
            refine w_iconst (v := (0 : Int32)) X77 hx (hb hby at_121) rfl (pc' := 122) rfl ?_
            refine w_istore (l' := #[.val (.int x0), .val (.long x1), .second, .val (.long x2), .second, .val (.int x3), .val (.int x4), .val (.int (1 : Int32)), .val (.int (1 : Int32)), .val (.int (1 : Int32)), .val (.long (Int64.ofNat na)), .second, .val (.long (Int64.ofNat nb)), .second, .val (.ref (n0 + 0)), .val (.int (0 : Int32)), .unset, .unset, .unset, .unset, .unset, .unset]) X77 hx (hb hby at_122) rfl (pc' := 124) rfl ?_
            refine w_iload X77 hx (hb hby at_124) rfl (pc' := 126) rfl ?_
            refine w_if_eq X77 hx (hb hby at_126) (by decide) (pcY := 137) (by decide) (pc' := 129) rfl (fun h114 => absurd h114 (by decide)) (fun h114 => ?_)
            refine w_lload X77 hx (hb hby at_129) rfl (pc' := 131) rfl ?_
            refine w_callP (W := 0) X77 hx hZ rfl hown hml.symm (wd49 hw) (wd50 hw) (wd51 hw) (wd52 hw) (rm8 l Z a0 hw [] (Int64.ofNat nb) _) (by decide) (by decide) (by decide) rfl rfl (by decide) (by decide) (argsL := [.long (Int64.ofNat nb)]) (rest := []) pd8 rfl rfl rfl (Nat.le_of_eq rfl) (hb hby at_131) (pc' := 134) rfl ?_
            intro T79 X79 e79
            have P79 : HP n0 T79.heap [ow9, AC kA37 (List.map Value.int Aw8), AC kw9 (List.map Value.int Aw9)] := by rw [e79]; exact P77
            refine w_eqI (z := (Int32.ofNat lb)) elb ?_
            refine w_goto X79 hx (hb hby at_134) (by decide) (pc' := 138) (by decide) ?_
            refine w_istore (l' := #[.val (.int x0), .val (.long x1), .second, .val (.long x2), .second, .val (.int x3), .val (.int x4), .val (.int (1 : Int32)), .val (.int (1 : Int32)), .val (.int (1 : Int32)), .val (.long (Int64.ofNat na)), .second, .val (.long (Int64.ofNat nb)), .second, .val (.ref (n0 + 0)), .val (.int (0 : Int32)), .val (.int (Int32.ofNat lb)), .unset, .unset, .unset, .unset, .unset]) X79 hx (hb hby at_138) rfl (pc' := 140) rfl ?_
            refine w_iload X79 hx (hb hby at_140) rfl (pc' := 142) rfl ?_
            refine w_iload X79 hx (hb hby at_142) rfl (pc' := 144) rfl ?_
            refine w_iadd X79 hx (hb hby at_144) (pc' := 145) rfl ?_
            refine w_eqI (z := (Int32.ofNat (0 + lb))) (own_oadd 0 lb) ?_
            refine w_istore (l' := #[.val (.int x0), .val (.long x1), .second, .val (.long x2), .second, .val (.int x3), .val (.int x4), .val (.int (1 : Int32)), .val (.int (1 : Int32)), .val (.int (1 : Int32)), .val (.long (Int64.ofNat na)), .second, .val (.long (Int64.ofNat nb)), .second, .val (.ref (n0 + 0)), .val (.int (0 : Int32)), .val (.int (Int32.ofNat lb)), .val (.int (Int32.ofNat (0 + lb))), .unset, .unset, .unset, .unset]) X79 hx (hb hby at_145) rfl (pc' := 147) rfl ?_
            exact Jt2 T79 _ (1 : Int32) (1 : Int32) (1 : Int32) 0 lb M9 Aw9 kw9 (AC kA37 (List.map Value.int Aw8)) ow9 N49 (X79.more (by decide) (by decide)) hkw9 hAw9 hBw9 (by omega) (by omega) (by omega) (by omega) (by omega) (fun j h => absurd h (Nat.not_lt_zero _)) (own_cb hnb hlb hWw9) P79 Fw9
        · replace P75 : HP n0 T75.heap [ow8, AC kA37 (List.map Value.int (List.replicate c0 0)), AC kw8 (List.map Value.int Aw8)] := P75
          refine w_iload X75 hx (hb hby at_81) rfl (pc' := 83) rfl ?_
          refine w_if_eq X75 hx (hb hby at_83) (by decide) (pcY := 91) (by decide) (pc' := 86) rfl (fun h115 => absurd h115 (by decide)) (fun h115 => ?_)
          refine w_aload X75 hx (hb hby at_86) rfl rfl (pc' := 88) rfl ?_
          refine own_callV (W := 0) X75 hx hZ rfl hown hml.symm (wd67 hw) (wd68 hw) (wd70 hw) (wd69 hw) (wd3 hw) (wd71 hw) (rm_clear l Z a0 hw [] n0 ow8 (n0 + 2) (Int32.ofNat la) ([AC kA37 (List.map Value.int (List.replicate c0 0)), AC kw8 (List.map Value.int Aw8)]) _ P75 Fw8) (a := (n0 + 0)) (P75.exa (i := 0) rfl Fw8.1) (by decide) (by decide) (by decide) (by decide) (by decide) (argsL := []) (rest := []) pd11 rfl rfl rfl (Nat.le_of_eq rfl) (hb hby at_88) (pc' := 91) rfl ?_
          intro v80 T80 L50 X80 hq
          obtain ⟨rfl, N50, c39, F39, P80⟩ := hq
          replace N50 := Fr.app N47 N50
          replace P80 : HP n0 T80.heap [c39, AC kA37 (List.map Value.int (List.replicate c0 0)), AC kw8 (List.map Value.int Aw8)] := P80
          refine w_iload X80 hx (hb hby at_91) rfl (pc' := 93) rfl ?_
          refine w_if_eq X80 hx (hb hby at_93) (by decide) (pcY := 103) (by decide) (pc' := 96) rfl (fun h116 => absurd h116 (by decide)) (fun h116 => ?_)
          refine w_aload X80 hx (hb hby at_96) rfl rfl (pc' := 98) rfl ?_
          refine w_lload X80 hx (hb hby at_98) rfl (pc' := 100) rfl ?_
          obtain ⟨M10, hMa10, hMb10, hMc10⟩ := own_mx (2 * M8) (0 + 10)
          refine own_callV (W := 0) X80 hx hZ rfl hown hml.symm (wd38 hw) (wd39 hw) (wd41 hw) (wd40 hw) (wd3 hw) (wd42 hw) (rm_wr2 l Z a0 hw [] n0 c39 (AC kA37 (List.map Value.int (List.replicate c0 0))) kw8 Aw8 M8 0 M10 nb lb (0 + lb) _ P80 hkw8 hAw8 F39 hBw8 (by omega) (by omega) (by omega) hMa10 hMb10 hMc10 hnb hlb (by omega) (by omega)) (a := (n0 + 0)) (P80.exa (i := 0) rfl F39.1) (by decide) (by decide) (by decide) (by decide) (by decide) (argsL := [.long (Int64.ofNat nb)]) (rest := []) pd6 rfl rfl rfl (Nat.le_of_eq rfl) (hb hby at_100) (pc' := 103) rfl ?_
          intro v81 T81 L51 X81 hq
          obtain ⟨rfl, N51, hq⟩ := hq
          replace N51 := Fr.app N50 N51
          rcases hq with ⟨hgr10, Aw10, hAw10, hBw10, hWw10, ow10, Fw10, P81⟩ | ⟨hgr10, kw10, hkw10, Aw10, hAw10, hBw10, hWw10, ow10, Fw10, P81⟩
          · replace P81 : HP n0 T81.heap [ow10, AC kA37 (List.map Value.int (List.replicate c0 0)), AC kw8 (List.map Value.int Aw10)] := P81
            refine w_iload X81 hx (hb hby at_103) rfl (pc' := 105) rfl ?_
            refine w_if_eq X81 hx (hb hby at_105) (by decide) (pcY := 121) (by decide) (pc' := 108) rfl (fun h117 => absurd h117 (by decide)) (fun h117 => ?_)
            refine w_iload X81 hx (hb hby at_108) rfl (pc' := 110) rfl ?_
            refine w_if_ne X81 hx (hb hby at_110) (by decide) (pcY := 121) (by decide) (pc' := 113) rfl (fun h118 => ?_) (fun h118 => absurd h118 (by decide))
            refine w_iconst (v := (0 : Int32)) X81 hx (hb hby at_121) rfl (pc' := 122) rfl ?_
            refine w_istore (l' := #[.val (.int x0), .val (.long x1), .second, .val (.long x2), .second, .val (.int x3), .val (.int x4), .val (.int (1 : Int32)), .val (.int (1 : Int32)), .val (.int (1 : Int32)), .val (.long (Int64.ofNat na)), .second, .val (.long (Int64.ofNat nb)), .second, .val (.ref (n0 + 0)), .val (.int (0 : Int32)), .unset, .unset, .unset, .unset, .unset, .unset]) X81 hx (hb hby at_122) rfl (pc' := 124) rfl ?_
            refine w_iload X81 hx (hb hby at_124) rfl (pc' := 126) rfl ?_
            refine w_if_eq X81 hx (hb hby at_126) (by decide) (pcY := 137) (by decide) (pc' := 129) rfl (fun h119 => absurd h119 (by decide)) (fun h119 => ?_)
            refine w_lload X81 hx (hb hby at_129) rfl (pc' := 131) rfl ?_
            refine w_callP (W := 0) X81 hx hZ rfl hown hml.symm (wd49 hw) (wd50 hw) (wd51 hw) (wd52 hw) (rm8 l Z a0 hw [] (Int64.ofNat nb) _) (by decide) (by decide) (by decide) rfl rfl (by decide) (by decide) (argsL := [.long (Int64.ofNat nb)]) (rest := []) pd8 rfl rfl rfl (Nat.le_of_eq rfl) (hb hby at_131) (pc' := 134) rfl ?_
            intro T82 X82 e82
            have P82 : HP n0 T82.heap [ow10, AC kA37 (List.map Value.int (List.replicate c0 0)), AC kw8 (List.map Value.int Aw10)] := by rw [e82]; exact P81
            refine w_eqI (z := (Int32.ofNat lb)) elb ?_
            refine w_goto X82 hx (hb hby at_134) (by decide) (pc' := 138) (by decide) ?_
            refine w_istore (l' := #[.val (.int x0), .val (.long x1), .second, .val (.long x2), .second, .val (.int x3), .val (.int x4), .val (.int (1 : Int32)), .val (.int (1 : Int32)), .val (.int (1 : Int32)), .val (.long (Int64.ofNat na)), .second, .val (.long (Int64.ofNat nb)), .second, .val (.ref (n0 + 0)), .val (.int (0 : Int32)), .val (.int (Int32.ofNat lb)), .unset, .unset, .unset, .unset, .unset]) X82 hx (hb hby at_138) rfl (pc' := 140) rfl ?_
            refine w_iload X82 hx (hb hby at_140) rfl (pc' := 142) rfl ?_
            refine w_iload X82 hx (hb hby at_142) rfl (pc' := 144) rfl ?_
            refine w_iadd X82 hx (hb hby at_144) (pc' := 145) rfl ?_
            refine w_eqI (z := (Int32.ofNat (0 + lb))) (own_oadd 0 lb) ?_
            refine w_istore (l' := #[.val (.int x0), .val (.long x1), .second, .val (.long x2), .second, .val (.int x3), .val (.int x4), .val (.int (1 : Int32)), .val (.int (1 : Int32)), .val (.int (1 : Int32)), .val (.long (Int64.ofNat na)), .second, .val (.long (Int64.ofNat nb)), .second, .val (.ref (n0 + 0)), .val (.int (0 : Int32)), .val (.int (Int32.ofNat lb)), .val (.int (Int32.ofNat (0 + lb))), .unset, .unset, .unset, .unset]) X82 hx (hb hby at_145) rfl (pc' := 147) rfl ?_
            exact Jt2 T82 _ (1 : Int32) (1 : Int32) (1 : Int32) 0 lb M8 Aw10 kw8 (AC kA37 (List.map Value.int (List.replicate c0 0))) ow10 N51 (X82.more (by decide) (by decide)) hkw8 hAw10 hBw10 (by omega) (by omega) (by omega) (by omega) (by omega) (fun j h => absurd h (Nat.not_lt_zero _)) (own_cb hnb hlb hWw10) P82 Fw10
          · replace P81 : HP n0 T81.heap [ow10, AC kA37 (List.map Value.int (List.replicate c0 0)), AC kw8 (List.map Value.int Aw8), AC kw10 (List.map Value.int Aw10)] := P81
            refine w_iload X81 hx (hb hby at_103) rfl (pc' := 105) rfl ?_
            refine w_if_eq X81 hx (hb hby at_105) (by decide) (pcY := 121) (by decide) (pc' := 108) rfl (fun h120 => absurd h120 (by decide)) (fun h120 => ?_)
            refine w_iload X81 hx (hb hby at_108) rfl (pc' := 110) rfl ?_
            refine w_if_ne X81 hx (hb hby at_110) (by decide) (pcY := 121) (by decide) (pc' := 113) rfl (fun h121 => ?_) (fun h121 => absurd h121 (by decide))
            refine w_iconst (v := (0 : Int32)) X81 hx (hb hby at_121) rfl (pc' := 122) rfl ?_
            refine w_istore (l' := #[.val (.int x0), .val (.long x1), .second, .val (.long x2), .second, .val (.int x3), .val (.int x4), .val (.int (1 : Int32)), .val (.int (1 : Int32)), .val (.int (1 : Int32)), .val (.long (Int64.ofNat na)), .second, .val (.long (Int64.ofNat nb)), .second, .val (.ref (n0 + 0)), .val (.int (0 : Int32)), .unset, .unset, .unset, .unset, .unset, .unset]) X81 hx (hb hby at_122) rfl (pc' := 124) rfl ?_
            refine w_iload X81 hx (hb hby at_124) rfl (pc' := 126) rfl ?_
            refine w_if_eq X81 hx (hb hby at_126) (by decide) (pcY := 137) (by decide) (pc' := 129) rfl (fun h122 => absurd h122 (by decide)) (fun h122 => ?_)
            refine w_lload X81 hx (hb hby at_129) rfl (pc' := 131) rfl ?_
            refine w_callP (W := 0) X81 hx hZ rfl hown hml.symm (wd49 hw) (wd50 hw) (wd51 hw) (wd52 hw) (rm8 l Z a0 hw [] (Int64.ofNat nb) _) (by decide) (by decide) (by decide) rfl rfl (by decide) (by decide) (argsL := [.long (Int64.ofNat nb)]) (rest := []) pd8 rfl rfl rfl (Nat.le_of_eq rfl) (hb hby at_131) (pc' := 134) rfl ?_
            intro T83 X83 e83
            have P83 : HP n0 T83.heap [ow10, AC kA37 (List.map Value.int (List.replicate c0 0)), AC kw8 (List.map Value.int Aw8), AC kw10 (List.map Value.int Aw10)] := by rw [e83]; exact P81
            refine w_eqI (z := (Int32.ofNat lb)) elb ?_
            refine w_goto X83 hx (hb hby at_134) (by decide) (pc' := 138) (by decide) ?_
            refine w_istore (l' := #[.val (.int x0), .val (.long x1), .second, .val (.long x2), .second, .val (.int x3), .val (.int x4), .val (.int (1 : Int32)), .val (.int (1 : Int32)), .val (.int (1 : Int32)), .val (.long (Int64.ofNat na)), .second, .val (.long (Int64.ofNat nb)), .second, .val (.ref (n0 + 0)), .val (.int (0 : Int32)), .val (.int (Int32.ofNat lb)), .unset, .unset, .unset, .unset, .unset]) X83 hx (hb hby at_138) rfl (pc' := 140) rfl ?_
            refine w_iload X83 hx (hb hby at_140) rfl (pc' := 142) rfl ?_
            refine w_iload X83 hx (hb hby at_142) rfl (pc' := 144) rfl ?_
            refine w_iadd X83 hx (hb hby at_144) (pc' := 145) rfl ?_
            refine w_eqI (z := (Int32.ofNat (0 + lb))) (own_oadd 0 lb) ?_
            refine w_istore (l' := #[.val (.int x0), .val (.long x1), .second, .val (.long x2), .second, .val (.int x3), .val (.int x4), .val (.int (1 : Int32)), .val (.int (1 : Int32)), .val (.int (1 : Int32)), .val (.long (Int64.ofNat na)), .second, .val (.long (Int64.ofNat nb)), .second, .val (.ref (n0 + 0)), .val (.int (0 : Int32)), .val (.int (Int32.ofNat lb)), .val (.int (Int32.ofNat (0 + lb))), .unset, .unset, .unset, .unset]) X83 hx (hb hby at_145) rfl (pc' := 147) rfl ?_
            exact Jt3 T83 _ (1 : Int32) (1 : Int32) (1 : Int32) 0 lb M10 Aw10 kw10 (AC kA37 (List.map Value.int (List.replicate c0 0))) (AC kw8 (List.map Value.int Aw8)) ow10 N51 (X83.more (by decide) (by decide)) hkw10 hAw10 hBw10 (by omega) (by omega) (by omega) (by omega) (by omega) (fun j h => absurd h (Nat.not_lt_zero _)) (own_cb hnb hlb hWw10) P83 Fw10
set_option maxRecDepth 65536 in
set_option maxHeartbeats 40000000 in
theorem comes_1 {Post : Tables → Env → Array Value → State → Outcome → State → Prop} (hpost : ∀ tb e args s v u, (limb_1_1.after args s (.returned v) u = true ∧ limb_1_2.after args s (.returned v) u = true ∧ True) → FrameEnd s (.returned v) u (Jvm.fieldLocs frame_1_writes args s ++ Jvm.arrayLocs frame_1_arrays args s ++ Jvm.staticLocs frame_1_statics s) 24 256 → Post tb e args s (.returned v) u) :
    ArmFor flags0 classFile x code maxLocals ret World_1 tables_1 room_1 Calls_1 rest_1 Pre_1 Post := by
  intro l hfl _ _ p e ha hc hk s m args below hf hA hF happ hP
  obtain ⟨hcalls, hrest, hpre⟩ := hP
  obtain ⟨-, -, -, hnamed, -, -, -, hat⟩ := (Spec.applies_iff hf).mp happ
  obtain ⟨hg, hn⟩ := and_e (Cond.before_iff.mp (show (Jvm.Cond.and given_1 narrow_1).before args s = true from hpre))
  obtain ⟨g0, k0⟩ := and_e hg
  obtain ⟨q0, k1⟩ := and_e k0
  obtain ⟨q1, k2⟩ := and_e k1
  obtain ⟨q2, k3⟩ := and_e k2
  obtain ⟨q3, k4⟩ := and_e k3
  have q4 := k4
  obtain ⟨w0, w1, w2, w3, w4, rfl⟩ : ∃ w0 w1 w2 w3 w4 : Value, args = #[w0, w1, w2, w3, w4] := by
    have hs : args.size = 5 := by simpa [Cond.value, given_1] using g0
    obtain ⟨L⟩ := args
    match L, hs with
    | [w0, w1, w2, w3, w4], _ => exact ⟨w0, w1, w2, w3, w4, rfl⟩
  have hw := fun d (hd : d ∈ tables_1) => atoms_spec (ws := Jvm.Cond.code x code maxLocals ret :: tables_1) hat d (List.mem_cons_of_mem _ hd)
  obtain ⟨i0, ei0⟩ := is_v q0
  obtain rfl : w0 = (.int i0) := Option.some.inj ei0
  obtain ⟨i1, ei1⟩ := isL_v q1
  obtain rfl : w1 = (.long i1) := Option.some.inj ei1
  obtain ⟨i2, ei2⟩ := isL_v q2
  obtain rfl : w2 = (.long i2) := Option.some.inj ei2
  obtain ⟨i3, ei3⟩ := is_v q3
  obtain rfl : w3 = (.int i3) := Option.some.inj ei3
  obtain ⟨i4, ei4⟩ := is_v q4
  obtain rfl : w4 = (.int i4) := Option.some.inj ei4
  obtain ⟨n, o, h1, h2, h3, _, L, rfl, ⟨rfl, N⟩, hq⟩ := rm0 l s _ hw tables_1 i0 i1 i2 i3 i4 s.heap s.heap.size rfl p e ha hc hk s m _ below hf ((Spec.applies_iff_loose hf).mp happ).1 ⟨rfl, State.Warmed39.refl s, rfl⟩ trivial
  refine ⟨n, _, h1, h2, h3, hpost _ _ _ _ _ _ ⟨Cond.after_iff.mpr rfl, Cond.after_iff.mpr (eq_i res_at (Term.int_eval (1)) rfl), trivial⟩ ⟨hq.1, hq.2.1, (hq.2.2.sift fun y hy => Or.inr (N y hy)).mono (by decide) (by decide)⟩⟩
theorem main_1_1 : Claimed_1_1 := comes_1 fun _ _ _ _ _ _ h hF => ⟨h.1, hF⟩
theorem main_1_2 : Claimed_1_2 := comes_1 fun _ _ _ _ _ _ h hF => ⟨h.2.1, hF⟩
end Jvm.Pilot.@@N@@
namespace Jvm.Pilot.@@N@@
open Jvm Jvm.ClassFile Sem Op Lib Jvm.Free Jvm.Stand Jvm.Pilot.@@N@@.Jvm.D
/-! MADE BY PROGRAM (witnessworld.py) out of the Statement's table words and the real class files: 12 classes; the members and pool entries that the words name. The judged class is class 1, her method 3. -/
namespace start1
open Jvm.ClassFile
def u (s : String) : CpInfo := .utf8 (stringToUtf16 s)
/-- a pool by its gaps: so many unusable entries, then the entry; so many at the end -/
def gap : Nat → List CpInfo → List CpInfo
  | 0, r => r
  | n + 1, r => .unusable :: gap n r
def poolList (es : List (Nat × CpInfo)) (last : Nat) : List CpInfo := es.foldr (fun e r => gap e.1 (e.2 :: r)) (gap last [])
def pool (es : List (Nat × CpInfo)) (last : Nat) : Array CpInfo := ⟨poolList es last⟩
def fileOf (pool : Array CpInfo) (this : Nat) (attrs : Array Attribute := #[]) (ms : Array MethodInfo := #[]) (fl : Nat := 33) (sup : Nat := 0) (ifs : Array Nat := #[]) (fds : Array FieldInfo := #[]) : ClassFile where
  minorVersion := 0
  majorVersion := 65
  constantPool := pool
  accessFlags := fl
  thisClass := this
  superClass := sup
  interfaces := ifs
  fields := fds
  methods := ms
  attributes := attrs
def plain (name : String) (sup : Option ClassId) : Class where
  name := name
  kind := .ordinary
  loader := none
  accessFlags := 33
  super := sup
  interfaces := #[]
  cf := none
  fields := #[]
  methods := #[]
  instanceTypes := #[]
  staticTypes := #[]
  resolved := #[]
  callSites := []
  init := .initialized
  statics := none
  mirror := none

def pool0 : Array CpInfo := pool [(5, u "<init>"), (0, u "()V"), (1, .class_ 10), (1, u "java/lang/Object"), (85, u "clone"), (0, u "()Ljava/lang/Object;")] 26

def k0c0 : Code := { maxStack := 0, maxLocals := 1, code := object_method_1_code, exceptionTable := #[], attributes := #[] }
def k0m0 : Method := { name := "<init>", desc := "()V", sig := { parameters := [], returnType := none }, accessFlags := 1, code := some k0c0 }
def k0m1 : Method := { name := "clone", desc := "()Ljava/lang/Object;", sig := { parameters := [], returnType := some (.object "java/lang/Object") }, accessFlags := 260, code := none }
/-- java/lang/Object -/
def k0 : Class := { plain "java/lang/Object" none with
  accessFlags := 33
  interfaces := #[]
  cf := some (fileOf pool0 8 #[] #[{ accessFlags := 1, nameIndex := 5, descriptorIndex := 6, attributes := #[] }, { accessFlags := 260, nameIndex := 96, descriptorIndex := 97, attributes := #[] }] 33 0 #[] #[])
  fields := #[]
  methods := #[k0m0, k0m1]
  instanceTypes := #[]
  staticTypes := #[]
  resolved := Array.replicate 124 none
  statics := none }

def pool1 : Array CpInfo := pool [(2, .class_ 4), (1, u "java/lang/Object"), (0, u "<init>"), (0, u "()V"), (0, .long 128), (1, .long 16384), (1, .long 2097152), (1, .long 268435456), (1, .long 34359738368), (1, .long 4398046511104), (1, .long 562949953421312), (1, .long 72057594037927936), (1, .long 127), (3, .long 9223372036854775807), (1, .class_ 30), (0, u "com/example/dirichlet/dirichlet/index/ByteSink"), (0, .methodref 29 32), (0, .nameAndType 5 33), (0, u "(I)V"), (0, .methodref 29 35), (0, .nameAndType 36 37), (0, u "writeNumber"), (0, u "(J)V"), (0, .methodref 29 39), (0, .nameAndType 40 6), (0, u "clear"), (0, .methodref 42 43), (0, .class_ 44), (0, .nameAndType 45 46), (0, u "com/example/dirichlet/dirichlet/index/ByteSinkToArrayPinLaw"), (0, u "len"), (0, u "(J)I"), (0, .methodref 29 48), (0, .nameAndType 49 50), (0, u "toArray"), (0, u "()[B"), (0, .methodref 29 52), (0, .nameAndType 53 54), (0, u "size"), (0, u "()I"), (0, .integer 2147483647), (0, .methodref 42 57), (0, .nameAndType 58 59), (0, u "enc"), (0, u "(JII)I"), (3, u "law"), (0, u "(IJJII)Z")] 4

def k1m0 : Method := { name := "<init>", desc := "()V", sig := { parameters := [], returnType := none }, accessFlags := 1, code := none }
def k1c1 : Code := { maxStack := 4, maxLocals := 2, code := method_2_code, exceptionTable := #[], attributes := #[] }
def k1m1 : Method := { name := "len", desc := "(J)I", sig := { parameters := [.long], returnType := some .int }, accessFlags := 10, code := some k1c1 }
def k1c2 : Code := { maxStack := 4, maxLocals := 5, code := method_3_code, exceptionTable := #[], attributes := #[] }
def k1m2 : Method := { name := "enc", desc := "(JII)I", sig := { parameters := [.long, .int, .int], returnType := some .int }, accessFlags := 10, code := some k1c2 }
def k1c3 : Code := { maxStack := 4, maxLocals := 22, code := code, exceptionTable := #[], attributes := #[] }
def k1m3 : Method := { name := "law", desc := "(IJJII)Z", sig := { parameters := [.int, .long, .long, .int, .int], returnType := some .boolean }, accessFlags := 9, code := some k1c3 }
/-- com/example/dirichlet/dirichlet/index/ByteSinkToArrayPinLaw -/
def k1 : Class := { plain "com/example/dirichlet/dirichlet/index/ByteSinkToArrayPinLaw" (some 0) with
  accessFlags := 49
  interfaces := #[]
  cf := some (fileOf pool1 42 #[] #[{ accessFlags := 1, nameIndex := 5, descriptorIndex := 6, attributes := #[] }, { accessFlags := 10, nameIndex := 45, descriptorIndex := 46, attributes := #[] }, { accessFlags := 10, nameIndex := 58, descriptorIndex := 59, attributes := #[] }, { accessFlags := 9, nameIndex := 63, descriptorIndex := 64, attributes := #[] }] 49 2 #[] #[])
  fields := #[]
  methods := #[k1m0, k1m1, k1m2, k1m3]
  instanceTypes := #[]
  staticTypes := #[]
  resolved := Array.replicate 69 none
  statics := none }

def pool2 : Array CpInfo := pool [(3, .methodref 4 5), (0, .class_ 6), (0, .nameAndType 7 8), (0, u "java/lang/Object"), (0, u "<init>"), (0, u "()V"), (0, .fieldref 10 11), (0, .class_ 12), (0, .nameAndType 13 14), (0, u "com/example/dirichlet/dirichlet/index/ByteSink"), (0, u "bytes"), (0, u "[B"), (0, .fieldref 10 16), (0, .nameAndType 17 18), (0, u "size"), (0, u "I"), (9, .methodref 10 29), (0, .nameAndType 30 31), (0, u "ensure"), (0, u "(I)V"), (0, .long 128), (15, u "writeNumber"), (0, u "(J)V"), (12, .methodref 63 64), (0, .class_ 65), (0, .nameAndType 66 67), (0, u "java/util/Arrays"), (0, u "copyOf"), (0, u "([BI)[B"), (0, .integer 2147483631), (5, .long 2), (1, .methodref 77 78), (0, .class_ 79), (0, .nameAndType 80 81), (0, u "java/lang/Math"), (0, u "max"), (0, u "(JJ)J"), (0, .long 2147483631), (1, .methodref 77 85), (0, .nameAndType 86 81), (0, u "min"), (0, u "MAX_SIZE"), (3, u "()I"), (7, u "toArray"), (0, u "()[B"), (0, u "clear")] 17

def k2c0 : Code := { maxStack := 2, maxLocals := 2, code := prog_17_method_1_code, exceptionTable := #[], attributes := #[] }
def k2m0 : Method := { name := "<init>", desc := "(I)V", sig := { parameters := [.int], returnType := none }, accessFlags := 0, code := some k2c0 }
def k2c1 : Code := { maxStack := 1, maxLocals := 1, code := prog_17_method_2_code, exceptionTable := #[], attributes := #[] }
def k2m1 : Method := { name := "size", desc := "()I", sig := { parameters := [], returnType := some .int }, accessFlags := 0, code := some k2c1 }
def k2c2 : Code := { maxStack := 6, maxLocals := 5, code := prog_17_method_3_code, exceptionTable := #[], attributes := #[] }
def k2m2 : Method := { name := "writeNumber", desc := "(J)V", sig := { parameters := [.long], returnType := none }, accessFlags := 0, code := some k2c2 }
def k2c3 : Code := { maxStack := 2, maxLocals := 1, code := prog_17_method_6_code, exceptionTable := #[], attributes := #[] }
def k2m3 : Method := { name := "toArray", desc := "()[B", sig := { parameters := [], returnType := some (.array .byte) }, accessFlags := 0, code := some k2c3 }
def k2c4 : Code := { maxStack := 2, maxLocals := 1, code := prog_17_method_7_code, exceptionTable := #[], attributes := #[] }
def k2m4 : Method := { name := "clear", desc := "()V", sig := { parameters := [], returnType := none }, accessFlags := 0, code := some k2c4 }
def k2c5 : Code := { maxStack := 6, maxLocals := 4, code := prog_17_method_8_code, exceptionTable := #[], attributes := #[] }
def k2m5 : Method := { name := "ensure", desc := "(I)V", sig := { parameters := [.int], returnType := none }, accessFlags := 2, code := some k2c5 }
/-- com/example/dirichlet/dirichlet/index/ByteSink -/
def k2 : Class := { plain "com/example/dirichlet/dirichlet/index/ByteSink" (some 0) with
  accessFlags := 32
  interfaces := #[]
  cf := some (fileOf pool2 10 #[] #[{ accessFlags := 0, nameIndex := 7, descriptorIndex := 31, attributes := #[] }, { accessFlags := 0, nameIndex := 17, descriptorIndex := 91, attributes := #[] }, { accessFlags := 0, nameIndex := 48, descriptorIndex := 49, attributes := #[] }, { accessFlags := 0, nameIndex := 99, descriptorIndex := 100, attributes := #[] }, { accessFlags := 0, nameIndex := 101, descriptorIndex := 8, attributes := #[] }, { accessFlags := 2, nameIndex := 30, descriptorIndex := 31, attributes := #[] }] 32 4 #[] #[{ accessFlags := 24, nameIndex := 87, descriptorIndex := 18, attributes := #[] }, { accessFlags := 2, nameIndex := 13, descriptorIndex := 14, attributes := #[] }, { accessFlags := 2, nameIndex := 17, descriptorIndex := 18, attributes := #[] }])
  fields := #[{ name := "MAX_SIZE", type := .int, accessFlags := 24, slot := 0, constantValue := 0 }, { name := "bytes", type := (.array .byte), accessFlags := 2, slot := 0, constantValue := 0 }, { name := "size", type := .int, accessFlags := 2, slot := 1, constantValue := 0 }]
  methods := #[k2m0, k2m1, k2m2, k2m3, k2m4, k2m5]
  instanceTypes := #[(.array .byte), .int]
  staticTypes := #[.int]
  resolved := Array.replicate 119 none
  statics := none }

def pool3 : Array CpInfo := pool [(2, .class_ 4), (1, u "java/lang/Object"), (0, u "<init>"), (0, u "()V"), (7, .class_ 16), (1, u "java/util/Arrays"), (57, .class_ 76), (1, u "java/util/Arrays$NaturalOrder"), (32, u "()Ljava/lang/Object;"), (3, .class_ 115), (1, u "java/util/Arrays$LegacyMergeSort"), (1, u "Z"), (10, .nameAndType 129 109), (0, u "clone"), (20, .methodref 151 152), (0, .class_ 153), (0, .nameAndType 154 155), (0, u "java/lang/System"), (0, u "arraycopy"), (0, u "(Ljava/lang/Object;ILjava/lang/Object;II)V"), (146, u "copyOf"), (1, .methodref 305 306), (0, .class_ 307), (0, .nameAndType 308 309), (0, u "java/lang/Math"), (0, u "min"), (0, u "(II)I"), (0, .methodref 311 128), (0, .class_ 312), (0, u "[B"), (62, .class_ 376), (0, u "java/util/Arrays$ArrayList"), (68, u "$assertionsDisabled"), (269, u "MIN_ARRAY_SORT_GRAN"), (0, u "I"), (2, u "INSERTIONSORT_THRESHOLD"), (149, u "([BI)[B"), (105, .class_ 976), (0, u "java/util/Arrays$ArrayItr")] 52

def k3m0 : Method := { name := "<init>", desc := "()V", sig := { parameters := [], returnType := none }, accessFlags := 2, code := none }
def k3c1 : Code := { maxStack := 6, maxLocals := 3, code := jdk_65_method_121_code, exceptionTable := #[], attributes := #[] }
def k3m1 : Method := { name := "copyOf", desc := "([BI)[B", sig := { parameters := [(.array .byte), .int], returnType := some (.array .byte) }, accessFlags := 9, code := some k3c1 }
/-- java/util/Arrays -/
def k3 : Class := { plain "java/util/Arrays" (some 0) with
  accessFlags := 49
  interfaces := #[]
  cf := some (fileOf pool3 14 #[.nestMembers #[975, 375, 113, 74]] #[{ accessFlags := 2, nameIndex := 5, descriptorIndex := 6, attributes := #[] }, { accessFlags := 9, nameIndex := 302, descriptorIndex := 869, attributes := #[] }] 49 2 #[] #[{ accessFlags := 26, nameIndex := 715, descriptorIndex := 716, attributes := #[] }, { accessFlags := 26, nameIndex := 719, descriptorIndex := 716, attributes := #[] }, { accessFlags := 4120, nameIndex := 445, descriptorIndex := 117, attributes := #[] }])
  fields := #[{ name := "MIN_ARRAY_SORT_GRAN", type := .int, accessFlags := 26, slot := 0, constantValue := 0 }, { name := "INSERTIONSORT_THRESHOLD", type := .int, accessFlags := 26, slot := 1, constantValue := 0 }, { name := "$assertionsDisabled", type := .boolean, accessFlags := 4120, slot := 2, constantValue := 0 }]
  methods := #[k3m0, k3m1]
  instanceTypes := #[]
  staticTypes := #[.int, .int, .boolean]
  resolved := Array.replicate 1029 none
  statics := none }

def pool4 : Array CpInfo := pool [(1, .class_ 2), (0, u "java/lang/Cloneable"), (0, .class_ 4), (0, u "java/lang/Object")] 2

/-- java/lang/Cloneable -/
def k4 : Class := { plain "java/lang/Cloneable" (some 0) with
  accessFlags := 1537
  interfaces := #[]
  cf := some (fileOf pool4 1 #[] #[] 1537 3 #[] #[])
  fields := #[]
  methods := #[]
  instanceTypes := #[]
  staticTypes := #[]
  resolved := Array.replicate 7 none
  statics := none }

def pool5 : Array CpInfo := pool [(1, .class_ 2), (0, u "java/lang/Math"), (1, .class_ 6), (1, u "java/lang/Object"), (0, u "<init>"), (0, u "()V"), (89, .class_ 100), (1, u "java/lang/Math$RandomNumberGeneratorHolder"), (20, u "(JJ)J"), (50, u "negativeZeroFloatBits"), (0, u "J"), (2, u "negativeZeroDoubleBits"), (21, u "max"), (2, u "min"), (43, u "$assertionsDisabled"), (0, u "Z"), (88, u "(II)I"), (2, u "twoToTheDoubleScaleDown"), (0, u "D"), (4, u "twoToTheDoubleScaleUp"), (9, u "E"), (3, u "PI"), (2, u "TAU"), (2, u "DEGREES_TO_RADIANS"), (0, u "RADIANS_TO_DEGREES")] 94

def k5m0 : Method := { name := "<init>", desc := "()V", sig := { parameters := [], returnType := none }, accessFlags := 2, code := none }
def k5c1 : Code := { maxStack := 4, maxLocals := 4, code := jdk_29_method_66_code, exceptionTable := #[], attributes := #[] }
def k5m1 : Method := { name := "max", desc := "(JJ)J", sig := { parameters := [.long, .long], returnType := some .long }, accessFlags := 9, code := some k5c1 }
def k5c2 : Code := { maxStack := 2, maxLocals := 2, code := jdk_29_method_69_code, exceptionTable := #[], attributes := #[] }
def k5m2 : Method := { name := "min", desc := "(II)I", sig := { parameters := [.int, .int], returnType := some .int }, accessFlags := 9, code := some k5c2 }
def k5c3 : Code := { maxStack := 4, maxLocals := 4, code := jdk_29_method_70_code, exceptionTable := #[], attributes := #[] }
def k5m3 : Method := { name := "min", desc := "(JJ)J", sig := { parameters := [.long, .long], returnType := some .long }, accessFlags := 9, code := some k5c3 }
/-- java/lang/Math -/
def k5 : Class := { plain "java/lang/Math" (some 0) with
  accessFlags := 49
  interfaces := #[]
  cf := some (fileOf pool5 1 #[.nestMembers #[98]] #[{ accessFlags := 2, nameIndex := 7, descriptorIndex := 8, attributes := #[] }, { accessFlags := 9, nameIndex := 198, descriptorIndex := 121, attributes := #[] }, { accessFlags := 9, nameIndex := 201, descriptorIndex := 335, attributes := #[] }, { accessFlags := 9, nameIndex := 201, descriptorIndex := 121, attributes := #[] }] 49 4 #[] #[{ accessFlags := 25, nameIndex := 354, descriptorIndex := 339, attributes := #[] }, { accessFlags := 25, nameIndex := 358, descriptorIndex := 339, attributes := #[] }, { accessFlags := 25, nameIndex := 361, descriptorIndex := 339, attributes := #[] }, { accessFlags := 26, nameIndex := 364, descriptorIndex := 339, attributes := #[] }, { accessFlags := 26, nameIndex := 365, descriptorIndex := 339, attributes := #[] }, { accessFlags := 26, nameIndex := 172, descriptorIndex := 173, attributes := #[] }, { accessFlags := 26, nameIndex := 176, descriptorIndex := 173, attributes := #[] }, { accessFlags := 8, nameIndex := 344, descriptorIndex := 339, attributes := #[] }, { accessFlags := 8, nameIndex := 338, descriptorIndex := 339, attributes := #[] }, { accessFlags := 4120, nameIndex := 245, descriptorIndex := 246, attributes := #[] }])
  fields := #[{ name := "E", type := .double, accessFlags := 25, slot := 0, constantValue := 0 }, { name := "PI", type := .double, accessFlags := 25, slot := 1, constantValue := 0 }, { name := "TAU", type := .double, accessFlags := 25, slot := 2, constantValue := 0 }, { name := "DEGREES_TO_RADIANS", type := .double, accessFlags := 26, slot := 3, constantValue := 0 }, { name := "RADIANS_TO_DEGREES", type := .double, accessFlags := 26, slot := 4, constantValue := 0 }, { name := "negativeZeroFloatBits", type := .long, accessFlags := 26, slot := 5, constantValue := 0 }, { name := "negativeZeroDoubleBits", type := .long, accessFlags := 26, slot := 6, constantValue := 0 }, { name := "twoToTheDoubleScaleUp", type := .double, accessFlags := 8, slot := 7, constantValue := 0 }, { name := "twoToTheDoubleScaleDown", type := .double, accessFlags := 8, slot := 8, constantValue := 0 }, { name := "$assertionsDisabled", type := .boolean, accessFlags := 4120, slot := 9, constantValue := 0 }]
  methods := #[k5m0, k5m1, k5m2, k5m3]
  instanceTypes := #[]
  staticTypes := #[.double, .double, .double, .double, .double, .long, .long, .double, .double, .boolean]
  resolved := Array.replicate 460 none
  statics := none }

def pool6 : Array CpInfo := pool [(2, .class_ 4), (1, u "java/lang/Object"), (0, u "<init>"), (0, u "()V"), (1, .class_ 10), (1, u "java/lang/System"), (0, u "allowSecurityManager"), (0, u "I"), (16, u "cons"), (0, u "Ljava/io/Console;"), (77, .class_ 110), (1, u "java/lang/System$CallersHolder"), (43, u "initialErrStream"), (0, u "Ljava/io/PrintStream;"), (19, u "security"), (0, u "Ljava/lang/SecurityManager;"), (31, .class_ 209), (0, u "java/lang/System$1"), (7, u "props"), (0, u "Ljava/util/Properties;"), (2, u "lineSeparator"), (0, u "Ljava/lang/String;"), (96, .class_ 321), (1, u "java/lang/System$LoggerFinder"), (5, .class_ 328), (0, u "java/lang/System$Logger"), (67, u "err"), (2, u "out"), (91, u "notSupportedJnuEncoding"), (15, u "in"), (17, u "initialIn"), (0, u "Ljava/io/InputStream;"), (35, u "bootLayer"), (0, u "Ljava/lang/ModuleLayer;"), (99, .class_ 664), (0, u "java/lang/System$2"), (9, u "NEVER"), (2, u "MAYBE"), (49, u "arraycopy"), (0, u "(Ljava/lang/Object;ILjava/lang/Object;II)V"), (72, .class_ 802), (0, u "java/lang/System$Logger$Level")] 31

def k6m0 : Method := { name := "<init>", desc := "()V", sig := { parameters := [], returnType := none }, accessFlags := 2, code := none }
def k6m1 : Method := { name := "arraycopy", desc := "(Ljava/lang/Object;ILjava/lang/Object;II)V", sig := { parameters := [(.object "java/lang/Object"), .int, (.object "java/lang/Object"), .int, .int], returnType := none }, accessFlags := 265, code := none }
/-- java/lang/System -/
def k6 : Class := { plain "java/lang/System" (some 0) with
  accessFlags := 49
  interfaces := #[]
  cf := some (fileOf pool6 8 #[.nestMembers #[319, 327, 801, 108, 663, 208]] #[{ accessFlags := 2, nameIndex := 5, descriptorIndex := 6, attributes := #[] }, { accessFlags := 265, nameIndex := 727, descriptorIndex := 728, attributes := #[] }] 49 2 #[] #[{ accessFlags := 25, nameIndex := 507, descriptorIndex := 526, attributes := #[] }, { accessFlags := 25, nameIndex := 399, descriptorIndex := 155, attributes := #[] }, { accessFlags := 25, nameIndex := 396, descriptorIndex := 155, attributes := #[] }, { accessFlags := 10, nameIndex := 525, descriptorIndex := 526, attributes := #[] }, { accessFlags := 26, nameIndex := 674, descriptorIndex := 12, attributes := #[] }, { accessFlags := 26, nameIndex := 677, descriptorIndex := 12, attributes := #[] }, { accessFlags := 10, nameIndex := 11, descriptorIndex := 12, attributes := #[] }, { accessFlags := 74, nameIndex := 175, descriptorIndex := 176, attributes := #[] }, { accessFlags := 10, nameIndex := 491, descriptorIndex := 222, attributes := #[] }, { accessFlags := 74, nameIndex := 29, descriptorIndex := 30, attributes := #[] }, { accessFlags := 74, nameIndex := 154, descriptorIndex := 155, attributes := #[] }, { accessFlags := 10, nameIndex := 217, descriptorIndex := 218, attributes := #[] }, { accessFlags := 10, nameIndex := 221, descriptorIndex := 222, attributes := #[] }, { accessFlags := 8, nameIndex := 562, descriptorIndex := 563, attributes := #[] }])
  fields := #[{ name := "in", type := (.object "java/io/InputStream"), accessFlags := 25, slot := 0, constantValue := 0 }, { name := "out", type := (.object "java/io/PrintStream"), accessFlags := 25, slot := 1, constantValue := 0 }, { name := "err", type := (.object "java/io/PrintStream"), accessFlags := 25, slot := 2, constantValue := 0 }, { name := "initialIn", type := (.object "java/io/InputStream"), accessFlags := 10, slot := 3, constantValue := 0 }, { name := "NEVER", type := .int, accessFlags := 26, slot := 4, constantValue := 0 }, { name := "MAYBE", type := .int, accessFlags := 26, slot := 5, constantValue := 0 }, { name := "allowSecurityManager", type := .int, accessFlags := 10, slot := 6, constantValue := 0 }, { name := "security", type := (.object "java/lang/SecurityManager"), accessFlags := 74, slot := 7, constantValue := 0 }, { name := "notSupportedJnuEncoding", type := (.object "java/lang/String"), accessFlags := 10, slot := 8, constantValue := 0 }, { name := "cons", type := (.object "java/io/Console"), accessFlags := 74, slot := 9, constantValue := 0 }, { name := "initialErrStream", type := (.object "java/io/PrintStream"), accessFlags := 74, slot := 10, constantValue := 0 }, { name := "props", type := (.object "java/util/Properties"), accessFlags := 10, slot := 11, constantValue := 0 }, { name := "lineSeparator", type := (.object "java/lang/String"), accessFlags := 10, slot := 12, constantValue := 0 }, { name := "bootLayer", type := (.object "java/lang/ModuleLayer"), accessFlags := 8, slot := 13, constantValue := 0 }]
  methods := #[k6m0, k6m1]
  instanceTypes := #[]
  staticTypes := #[(.object "java/io/InputStream"), (.object "java/io/PrintStream"), (.object "java/io/PrintStream"), (.object "java/io/InputStream"), .int, .int, .int, (.object "java/lang/SecurityManager"), (.object "java/lang/String"), (.object "java/io/Console"), (.object "java/io/PrintStream"), (.object "java/util/Properties"), (.object "java/lang/String"), (.object "java/lang/ModuleLayer")]
  resolved := Array.replicate 834 none
  statics := none }

def pool7 : Array CpInfo := pool [(1, u "java/io/Serializable"), (0, .class_ 1), (0, u "java/lang/Object"), (0, .class_ 3)] 3

/-- java/io/Serializable -/
def k7 : Class := { plain "java/io/Serializable" (some 0) with
  accessFlags := 1537
  interfaces := #[]
  cf := some (fileOf pool7 2 #[] #[] 1537 4 #[] #[])
  fields := #[]
  methods := #[]
  instanceTypes := #[]
  staticTypes := #[]
  resolved := Array.replicate 8 none
  statics := none }

/-- the primitive byte -/
def k8 : Class := { plain "byte" none with kind := .primitive 'B', accessFlags := 0x411 }
/-- [B -/
def k9 : Class := { plain "[B" (some 0) with kind := .array 8 .byte, interfaces := #[4, 7], accessFlags := 1041 }

/-- the primitive int -/
def k10 : Class := { plain "int" none with kind := .primitive 'I', accessFlags := 0x411 }
/-- [I -/
def k11 : Class := { plain "[I" (some 0) with kind := .array 10 .int, interfaces := #[4, 7], accessFlags := 1041 }

def heap : Heap := #[]
def classes : Array Class := #[k0, k1, k2, k3, k4, k5, k6, k7, k8, k9, k10, k11]
def interned : List (Array UInt16 × Addr) := []
def slotsUsed : Nat := 0
def theMethod : MethodId := ⟨1, 3⟩
def args0 : Array Value := #[.int 5, .long 700, .long 3, .int 3, .int 6]
def aboutOver (below : List Frame) : State where
  vm := { classes := classes, interned := interned.toArray }
  heap := heap
  slotsUsed := slotsUsed
  threads := #[{ frames := .invoking theMethod args0 :: below }]
def below0 : List Frame := [.native { method := ⟨0, 0⟩, args := #[] }]
def about1 : State := aboutOver below0
def p0 : Program := .bare "" "" ""
def e0 : Env := launch0.env 0 0 0
theorem w_frames : about1.frames = Frame.invoking theMethod args0 :: below0 := rfl
set_option maxRecDepth 65536 in
theorem w_args : argsFit about1.vm theMethod args0 = true := by decide +kernel
set_option maxRecDepth 65536 in
theorem w_heap : heapFits about1 = true := by decide +kernel
set_option maxRecDepth 65536 in
theorem w_runnable : about1.curStatus? = some .runnable := by decide +kernel
set_option maxRecDepth 65536 in
theorem w_alone : about1.alone = true := by decide +kernel
set_option maxRecDepth 65536 in
theorem w_named : about1.methodNamed? x = some theMethod := by decide +kernel
set_option maxRecDepth 65536 in
theorem w_hears : about1.hears theMethod below0 = true := by decide +kernel
set_option maxRecDepth 65536 in
theorem w_ripe : about1.ripe theMethod args0 below0 = true := by decide +kernel
theorem w_running : about1.status = .running := rfl
set_option maxRecDepth 65536 in
theorem w_room : about1.hasRoom e0.platform room_1 = true :=
  launch0.hasRoom_least _ room_1 (by decide +kernel) (by decide +kernel) (by decide +kernel) (by decide +kernel) (by decide +kernel) (by decide +kernel)
theorem allAtoms_all (ts : List Jvm.Cond) (a : Array Jvm.Value) (st : Jvm.State) : (allAtoms ts).before a st = ts.all (fun c => c.before a st) := by
  induction ts with
  | nil => rfl
  | cons c t ih =>
    show (Jvm.Cond.and c (allAtoms t)).before a st = _
    rw [Jvm.Cond.before_and, ih, List.all_cons]
def words1 : List Jvm.Cond := Jvm.Cond.code x code maxLocals ret :: tables_1
/-- a 'code' word, met by the world's own term for the bytes: nothing is compared byte by byte -/
theorem code_word {y : MethodName} {bytes : ByteArray} {mx : Nat} {rt : Option FieldType} {a : Array Value} {s : State} {m : MethodId} {meth : Method} {c : Code} (h1 : s.methodNamed? y = some m) (h2 : s.vm.method? m = some meth) (h3 : meth.code = some c) (h4 : c.code = bytes)
    (h5 : (c.maxLocals == mx && c.exceptionTable.isEmpty && decide (c.maxStack ≤ mostOperands) && decide (meth.sig.returnType = rt) && !meth.locks && decide (parseMethodDescriptor y.desc = some meth.sig)) = true) : (Jvm.Cond.code y bytes mx rt).before a s = true := by
  simp only [Bool.and_eq_true, beq_iff_eq, Bool.not_eq_true', decide_eq_true_eq] at h5
  obtain ⟨⟨⟨⟨⟨g1, g2⟩, g3⟩, g4⟩, g5⟩, g6⟩ := h5
  simp [Cond.before, Cond.holds, Cond.value, h1, h2, h3, h4, g1, g2, g3, g4, g5, g6]
def isCode : Jvm.Cond → Bool
  | .code _ _ _ _ => true
  | _ => false
theorem all_split {L : List Jvm.Cond} {P : Jvm.Cond → Bool} (h1 : L.all (fun c => isCode c || P c) = true) (h2 : ∀ c ∈ L.filter isCode, P c = true) : L.all P = true := by
  refine List.all_eq_true.mpr fun c hc => ?_
  have h := List.all_eq_true.mp h1 c hc
  rcases Bool.eq_false_or_eq_true (isCode c) with hi | hi
  · exact h2 c (List.mem_filter.mpr ⟨hc, hi⟩)
  · simpa [hi] using h
set_option maxRecDepth 65536 in
theorem w_c0 : (Jvm.Cond.code x code maxLocals ret).before args0 about1 = true := code_word (m := ⟨1, 3⟩) (meth := k1m3) (c := k1c3) (by decide +kernel) rfl rfl rfl (by decide +kernel)
set_option maxRecDepth 65536 in
theorem w_c1 : (Jvm.Cond.code ({ cls := "com/example/dirichlet/dirichlet/index/ByteSink", name := "<init>", desc := "(I)V" } : Jvm.MethodName) prog_17_method_1_code (2 : Nat) (Option.none : Option Jvm.ClassFile.FieldType)).before args0 about1 = true := code_word (m := ⟨2, 0⟩) (meth := k2m0) (c := k2c0) (by decide +kernel) rfl rfl rfl (by decide +kernel)
set_option maxRecDepth 65536 in
theorem w_c2 : (Jvm.Cond.code ({ cls := "java/lang/Object", name := "<init>", desc := "()V" } : Jvm.MethodName) object_method_1_code (1 : Nat) (Option.none : Option Jvm.ClassFile.FieldType)).before args0 about1 = true := code_word (m := ⟨0, 0⟩) (meth := k0m0) (c := k0c0) (by decide +kernel) rfl rfl rfl (by decide +kernel)
set_option maxRecDepth 65536 in
theorem w_c3 : (Jvm.Cond.code ({ cls := "com/example/dirichlet/dirichlet/index/ByteSink", name := "toArray", desc := "()[B" } : Jvm.MethodName) prog_17_method_6_code (1 : Nat) (Option.some (Jvm.ClassFile.FieldType.array Jvm.ClassFile.FieldType.byte))).before args0 about1 = true := code_word (m := ⟨2, 3⟩) (meth := k2m3) (c := k2c3) (by decide +kernel) rfl rfl rfl (by decide +kernel)
set_option maxRecDepth 65536 in
theorem w_c4 : (Jvm.Cond.code ({ cls := "java/util/Arrays", name := "copyOf", desc := "([BI)[B" } : Jvm.MethodName) jdk_65_method_121_code (3 : Nat) (Option.some (Jvm.ClassFile.FieldType.array Jvm.ClassFile.FieldType.byte))).before args0 about1 = true := code_word (m := ⟨3, 1⟩) (meth := k3m1) (c := k3c1) (by decide +kernel) rfl rfl rfl (by decide +kernel)
set_option maxRecDepth 65536 in
theorem w_c5 : (Jvm.Cond.code ({ cls := "com/example/dirichlet/dirichlet/index/ByteSink", name := "size", desc := "()I" } : Jvm.MethodName) prog_17_method_2_code (1 : Nat) (Option.some Jvm.ClassFile.FieldType.int)).before args0 about1 = true := code_word (m := ⟨2, 1⟩) (meth := k2m1) (c := k2c1) (by decide +kernel) rfl rfl rfl (by decide +kernel)
set_option maxRecDepth 65536 in
theorem w_c6 : (Jvm.Cond.code ({ cls := "com/example/dirichlet/dirichlet/index/ByteSink", name := "writeNumber", desc := "(J)V" } : Jvm.MethodName) prog_17_method_3_code (5 : Nat) (Option.none : Option Jvm.ClassFile.FieldType)).before args0 about1 = true := code_word (m := ⟨2, 2⟩) (meth := k2m2) (c := k2c2) (by decide +kernel) rfl rfl rfl (by decide +kernel)
set_option maxRecDepth 65536 in
theorem w_c7 : (Jvm.Cond.code ({ cls := "com/example/dirichlet/dirichlet/index/ByteSink", name := "ensure", desc := "(I)V" } : Jvm.MethodName) prog_17_method_8_code (4 : Nat) (Option.none : Option Jvm.ClassFile.FieldType)).before args0 about1 = true := code_word (m := ⟨2, 5⟩) (meth := k2m5) (c := k2c5) (by decide +kernel) rfl rfl rfl (by decide +kernel)
set_option maxRecDepth 65536 in
theorem w_c8 : (Jvm.Cond.code ({ cls := "com/example/dirichlet/dirichlet/index/ByteSinkToArrayPinLaw", name := "len", desc := "(J)I" } : Jvm.MethodName) method_2_code (2 : Nat) (Option.some Jvm.ClassFile.FieldType.int)).before args0 about1 = true := code_word (m := ⟨1, 1⟩) (meth := k1m1) (c := k1c1) (by decide +kernel) rfl rfl rfl (by decide +kernel)
set_option maxRecDepth 65536 in
theorem w_c9 : (Jvm.Cond.code ({ cls := "java/lang/Math", name := "min", desc := "(II)I" } : Jvm.MethodName) jdk_29_method_69_code (2 : Nat) (Option.some Jvm.ClassFile.FieldType.int)).before args0 about1 = true := code_word (m := ⟨5, 2⟩) (meth := k5m2) (c := k5c2) (by decide +kernel) rfl rfl rfl (by decide +kernel)
set_option maxRecDepth 65536 in
theorem w_c10 : (Jvm.Cond.code ({ cls := "com/example/dirichlet/dirichlet/index/ByteSinkToArrayPinLaw", name := "enc", desc := "(JII)I" } : Jvm.MethodName) method_3_code (5 : Nat) (Option.some Jvm.ClassFile.FieldType.int)).before args0 about1 = true := code_word (m := ⟨1, 2⟩) (meth := k1m2) (c := k1c2) (by decide +kernel) rfl rfl rfl (by decide +kernel)
set_option maxRecDepth 65536 in
theorem w_c11 : (Jvm.Cond.code ({ cls := "com/example/dirichlet/dirichlet/index/ByteSink", name := "clear", desc := "()V" } : Jvm.MethodName) prog_17_method_7_code (1 : Nat) (Option.none : Option Jvm.ClassFile.FieldType)).before args0 about1 = true := code_word (m := ⟨2, 4⟩) (meth := k2m4) (c := k2c4) (by decide +kernel) rfl rfl rfl (by decide +kernel)
set_option maxRecDepth 65536 in
theorem w_c12 : (Jvm.Cond.code ({ cls := "java/lang/Math", name := "max", desc := "(JJ)J" } : Jvm.MethodName) jdk_29_method_66_code (4 : Nat) (Option.some Jvm.ClassFile.FieldType.long)).before args0 about1 = true := code_word (m := ⟨5, 1⟩) (meth := k5m1) (c := k5c1) (by decide +kernel) rfl rfl rfl (by decide +kernel)
set_option maxRecDepth 65536 in
theorem w_c13 : (Jvm.Cond.code ({ cls := "java/lang/Math", name := "min", desc := "(JJ)J" } : Jvm.MethodName) jdk_29_method_70_code (4 : Nat) (Option.some Jvm.ClassFile.FieldType.long)).before args0 about1 = true := code_word (m := ⟨5, 3⟩) (meth := k5m3) (c := k5c3) (by decide +kernel) rfl rfl rfl (by decide +kernel)
def codes1 : List Jvm.Cond := [Jvm.Cond.code x code maxLocals ret, Jvm.Cond.code ({ cls := "com/example/dirichlet/dirichlet/index/ByteSink", name := "<init>", desc := "(I)V" } : Jvm.MethodName) prog_17_method_1_code (2 : Nat) (Option.none : Option Jvm.ClassFile.FieldType), Jvm.Cond.code ({ cls := "java/lang/Object", name := "<init>", desc := "()V" } : Jvm.MethodName) object_method_1_code (1 : Nat) (Option.none : Option Jvm.ClassFile.FieldType), Jvm.Cond.code ({ cls := "com/example/dirichlet/dirichlet/index/ByteSink", name := "toArray", desc := "()[B" } : Jvm.MethodName) prog_17_method_6_code (1 : Nat) (Option.some (Jvm.ClassFile.FieldType.array Jvm.ClassFile.FieldType.byte)), Jvm.Cond.code ({ cls := "java/util/Arrays", name := "copyOf", desc := "([BI)[B" } : Jvm.MethodName) jdk_65_method_121_code (3 : Nat) (Option.some (Jvm.ClassFile.FieldType.array Jvm.ClassFile.FieldType.byte)), Jvm.Cond.code ({ cls := "com/example/dirichlet/dirichlet/index/ByteSink", name := "size", desc := "()I" } : Jvm.MethodName) prog_17_method_2_code (1 : Nat) (Option.some Jvm.ClassFile.FieldType.int), Jvm.Cond.code ({ cls := "com/example/dirichlet/dirichlet/index/ByteSink", name := "writeNumber", desc := "(J)V" } : Jvm.MethodName) prog_17_method_3_code (5 : Nat) (Option.none : Option Jvm.ClassFile.FieldType), Jvm.Cond.code ({ cls := "com/example/dirichlet/dirichlet/index/ByteSink", name := "ensure", desc := "(I)V" } : Jvm.MethodName) prog_17_method_8_code (4 : Nat) (Option.none : Option Jvm.ClassFile.FieldType), Jvm.Cond.code ({ cls := "com/example/dirichlet/dirichlet/index/ByteSinkToArrayPinLaw", name := "len", desc := "(J)I" } : Jvm.MethodName) method_2_code (2 : Nat) (Option.some Jvm.ClassFile.FieldType.int), Jvm.Cond.code ({ cls := "java/lang/Math", name := "min", desc := "(II)I" } : Jvm.MethodName) jdk_29_method_69_code (2 : Nat) (Option.some Jvm.ClassFile.FieldType.int), Jvm.Cond.code ({ cls := "com/example/dirichlet/dirichlet/index/ByteSinkToArrayPinLaw", name := "enc", desc := "(JII)I" } : Jvm.MethodName) method_3_code (5 : Nat) (Option.some Jvm.ClassFile.FieldType.int), Jvm.Cond.code ({ cls := "com/example/dirichlet/dirichlet/index/ByteSink", name := "clear", desc := "()V" } : Jvm.MethodName) prog_17_method_7_code (1 : Nat) (Option.none : Option Jvm.ClassFile.FieldType), Jvm.Cond.code ({ cls := "java/lang/Math", name := "max", desc := "(JJ)J" } : Jvm.MethodName) jdk_29_method_66_code (4 : Nat) (Option.some Jvm.ClassFile.FieldType.long), Jvm.Cond.code ({ cls := "java/lang/Math", name := "min", desc := "(JJ)J" } : Jvm.MethodName) jdk_29_method_70_code (4 : Nat) (Option.some Jvm.ClassFile.FieldType.long)]
set_option maxRecDepth 65536 in
theorem codes_eq : words1.filter isCode = codes1 := rfl
theorem w_codes : ∀ c ∈ words1.filter isCode, c.before args0 about1 = true := by
  rw [codes_eq]
  intro c hc
  simp only [codes1, List.mem_cons, List.not_mem_nil, or_false] at hc
  rcases hc with rfl | rfl | rfl | rfl | rfl | rfl | rfl | rfl | rfl | rfl | rfl | rfl | rfl | rfl
  · exact w_c0
  · exact w_c1
  · exact w_c2
  · exact w_c3
  · exact w_c4
  · exact w_c5
  · exact w_c6
  · exact w_c7
  · exact w_c8
  · exact w_c9
  · exact w_c10
  · exact w_c11
  · exact w_c12
  · exact w_c13
set_option maxRecDepth 65536 in
theorem w_t1 : (words1.take 24).all (fun c => isCode c || c.before args0 about1) = true := by decide +kernel
set_option maxRecDepth 65536 in
theorem w_t2 : ((words1.drop 24).take 24).all (fun c => isCode c || c.before args0 about1) = true := by decide +kernel
set_option maxRecDepth 65536 in
theorem w_t3 : (((words1.drop 24).drop 24).take 24).all (fun c => isCode c || c.before args0 about1) = true := by decide +kernel
set_option maxRecDepth 65536 in
theorem w_t4 : (((words1.drop 24).drop 24).drop 24).all (fun c => isCode c || c.before args0 about1) = true := by decide +kernel
theorem w_tables : (allAtoms (Jvm.Cond.code x code maxLocals ret :: tables_1)).before args0 about1 = true := by
  rw [allAtoms_all]
  show words1.all (fun c => c.before args0 about1) = true
  refine all_split ?_ w_codes
  rw [← List.take_append_drop 24 words1, List.all_append, w_t1, ← List.take_append_drop 24 (words1.drop 24), List.all_append, w_t2, ← List.take_append_drop 24 ((words1.drop 24).drop 24), List.all_append, w_t3, w_t4]
  rfl
set_option maxRecDepth 65536 in
theorem w_case : (Jvm.Cond.and given_1 narrow_1).before args0 about1 = true := by decide +kernel
theorem w_applies : (headSpec (Jvm.Cond.code x code maxLocals ret :: tables_1) room_1).applies x e0.platform about1 = true :=
  (Spec.applies_iff w_frames).mpr ⟨w_running, w_runnable, w_alone, w_named, w_hears, w_ripe, w_room, w_tables⟩
theorem atStart : AtStart classFile x code maxLocals ret World_1 tables_1 room_1 Calls_1 rest_1 Pre_1 launch0 p0 e0 about1 theMethod args0 below0 :=
  ⟨lists_1, trivial, launch0.admits_env _ _ _, launch0.least_env, fairChoices_fair.cas, fairChoices_fair.clock, w_frames, w_args, w_heap, w_applies, trivial, trivial, w_case⟩
end start1
theorem witness_1 : WitnessClaimed_1 := ⟨start1.p0, start1.e0, start1.about1, start1.theMethod, start1.args0, start1.below0, start1.atStart⟩
end Jvm.Pilot.@@N@@
