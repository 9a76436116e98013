import JvmDerived
import JvmDerived.Pilot.@@N@@Statement
import JvmDerived.Pilot.@@N@@Code
set_option linter.unusedVariables false
set_option linter.unusedSimpArgs false
namespace Jvm.Pilot.@@N@@
open Jvm Jvm.ClassFile Sem Op Lib Jvm.Free Jvm.Stand Jvm.LawKit Jvm.RoadKit Bundle Jvm.Pilot.@@N@@.Jvm.D
section OwnKit
variable {p : Program} {l : Launch} {e : Env} {R : Room} {s : State} {m : MethodId} {args : Array Value} {below : List Frame} {meth : Method} {c : Code} {T : State} {locs : List Loc} {cells slots : Nat} {Z : State} {a0 : Array Value} {h : Heap} {Q : Option Value → Heap → List Loc → Prop} {ck sk : Nat}
/-- from the state T with the frame g on top the run comes to a return that answers Q -/
def own_R (p : Program) (e : Env) (below : List Frame) (s : State) (Q : Option Value → Heap → List Loc → Prop) (ck sk : Nat) (T : State) (g : JFrame) : Prop :=
  ∃ (t : State) (o : Outcome), Steps p.tables e below (T.setTop g) t ∧ t.status = .running ∧ Ended t below o ∧ ∃ v L, o = .returned v ∧ Q v t.heap L ∧ FrameEnd s o t L ck sk
theorem own_lift {T' : State} {g g' : JFrame} (h : ∀ target, Steps p.tables e below (T'.setTop g') target → Steps p.tables e below (T.setTop g) target) (k : own_R p e below s Q ck sk T' g') : own_R p e below s Q ck sk T g := by
  obtain ⟨t, o, h1, h2⟩ := k
  exact ⟨t, o, h _ h1, h2⟩
theorem own_cast {g g' : JFrame} (q : g = g') (k : own_R p e below s Q ck sk T g') : own_R p e below s Q ck sk T g := q ▸ k
theorem own_iadd (X : Stand p l e R s m args below meth c T locs cells slots) (hx : p.tables.exec = Jvm.exec) {pc : Nat} {Ls : Array Slot} {St : List Value} {x y : Int32} (hd : decode c.code pc = .ok (.iadd, 1)) (k : own_R p e below s Q ck sk T (mkF m (pc + 1) Ls (.int (x + y) :: St))) : own_R p e below s Q ck sk T (mkF m pc Ls (.int y :: .int x :: St)) :=
  own_lift (fun _ q => XS.iadd X.here hx rfl hd rfl q) k
theorem own_isub (X : Stand p l e R s m args below meth c T locs cells slots) (hx : p.tables.exec = Jvm.exec) {pc : Nat} {Ls : Array Slot} {St : List Value} {x y : Int32} (hd : decode c.code pc = .ok (.isub, 1)) (k : own_R p e below s Q ck sk T (mkF m (pc + 1) Ls (.int (x - y) :: St))) : own_R p e below s Q ck sk T (mkF m pc Ls (.int y :: .int x :: St)) :=
  own_lift (fun _ q => XS.isub X.here hx rfl hd rfl q) k
theorem own_imul (X : Stand p l e R s m args below meth c T locs cells slots) (hx : p.tables.exec = Jvm.exec) {pc : Nat} {Ls : Array Slot} {St : List Value} {x y : Int32} (hd : decode c.code pc = .ok (.imul, 1)) (k : own_R p e below s Q ck sk T (mkF m (pc + 1) Ls (.int (x * y) :: St))) : own_R p e below s Q ck sk T (mkF m pc Ls (.int y :: .int x :: St)) :=
  own_lift (fun _ q => XS.imul X.here hx rfl hd rfl q) k
theorem own_iand (X : Stand p l e R s m args below meth c T locs cells slots) (hx : p.tables.exec = Jvm.exec) {pc : Nat} {Ls : Array Slot} {St : List Value} {x y : Int32} (hd : decode c.code pc = .ok (.iand, 1)) (k : own_R p e below s Q ck sk T (mkF m (pc + 1) Ls (.int (x &&& y) :: St))) : own_R p e below s Q ck sk T (mkF m pc Ls (.int y :: .int x :: St)) :=
  own_lift (fun _ q => XS.iand X.here hx rfl hd rfl q) k
theorem own_ior (X : Stand p l e R s m args below meth c T locs cells slots) (hx : p.tables.exec = Jvm.exec) {pc : Nat} {Ls : Array Slot} {St : List Value} {x y : Int32} (hd : decode c.code pc = .ok (.ior, 1)) (k : own_R p e below s Q ck sk T (mkF m (pc + 1) Ls (.int (x ||| y) :: St))) : own_R p e below s Q ck sk T (mkF m pc Ls (.int y :: .int x :: St)) :=
  own_lift (fun _ q => XS.ior X.here hx rfl hd rfl q) k
theorem own_ixor (X : Stand p l e R s m args below meth c T locs cells slots) (hx : p.tables.exec = Jvm.exec) {pc : Nat} {Ls : Array Slot} {St : List Value} {x y : Int32} (hd : decode c.code pc = .ok (.ixor, 1)) (k : own_R p e below s Q ck sk T (mkF m (pc + 1) Ls (.int (x ^^^ y) :: St))) : own_R p e below s Q ck sk T (mkF m pc Ls (.int y :: .int x :: St)) :=
  own_lift (fun _ q => XS.ixor X.here hx rfl hd rfl q) k
theorem own_ishl (X : Stand p l e R s m args below meth c T locs cells slots) (hx : p.tables.exec = Jvm.exec) {pc : Nat} {Ls : Array Slot} {St : List Value} {x y : Int32} (hd : decode c.code pc = .ok (.ishl, 1)) (k : own_R p e below s Q ck sk T (mkF m (pc + 1) Ls (.int (x <<< (y &&& 31)) :: St))) : own_R p e below s Q ck sk T (mkF m pc Ls (.int y :: .int x :: St)) :=
  own_lift (fun _ q => XS.ishl X.here hx rfl hd rfl q) k
theorem own_ishr (X : Stand p l e R s m args below meth c T locs cells slots) (hx : p.tables.exec = Jvm.exec) {pc : Nat} {Ls : Array Slot} {St : List Value} {x y : Int32} (hd : decode c.code pc = .ok (.ishr, 1)) (k : own_R p e below s Q ck sk T (mkF m (pc + 1) Ls (.int (x >>> (y &&& 31)) :: St))) : own_R p e below s Q ck sk T (mkF m pc Ls (.int y :: .int x :: St)) :=
  own_lift (fun _ q => XS.ishr X.here hx rfl hd rfl q) k
theorem own_iushr (X : Stand p l e R s m args below meth c T locs cells slots) (hx : p.tables.exec = Jvm.exec) {pc : Nat} {Ls : Array Slot} {St : List Value} {x y : Int32} (hd : decode c.code pc = .ok (.iushr, 1)) (k : own_R p e below s Q ck sk T (mkF m (pc + 1) Ls (.int ((x.toUInt32 >>> (y &&& 31).toUInt32).toInt32) :: St))) : own_R p e below s Q ck sk T (mkF m pc Ls (.int y :: .int x :: St)) :=
  own_lift (fun _ q => XS.iushr X.here hx rfl hd rfl q) k
theorem own_ladd (X : Stand p l e R s m args below meth c T locs cells slots) (hx : p.tables.exec = Jvm.exec) {pc : Nat} {Ls : Array Slot} {St : List Value} {x y : Int64} (hd : decode c.code pc = .ok (.ladd, 1)) (k : own_R p e below s Q ck sk T (mkF m (pc + 1) Ls (.long (x + y) :: St))) : own_R p e below s Q ck sk T (mkF m pc Ls (.long y :: .long x :: St)) :=
  own_lift (fun _ q => XS.ladd X.here hx rfl hd rfl q) k
theorem own_lsub (X : Stand p l e R s m args below meth c T locs cells slots) (hx : p.tables.exec = Jvm.exec) {pc : Nat} {Ls : Array Slot} {St : List Value} {x y : Int64} (hd : decode c.code pc = .ok (.lsub, 1)) (k : own_R p e below s Q ck sk T (mkF m (pc + 1) Ls (.long (x - y) :: St))) : own_R p e below s Q ck sk T (mkF m pc Ls (.long y :: .long x :: St)) :=
  own_lift (fun _ q => XS.lsub X.here hx rfl hd rfl q) k
theorem own_lmul (X : Stand p l e R s m args below meth c T locs cells slots) (hx : p.tables.exec = Jvm.exec) {pc : Nat} {Ls : Array Slot} {St : List Value} {x y : Int64} (hd : decode c.code pc = .ok (.lmul, 1)) (k : own_R p e below s Q ck sk T (mkF m (pc + 1) Ls (.long (x * y) :: St))) : own_R p e below s Q ck sk T (mkF m pc Ls (.long y :: .long x :: St)) :=
  own_lift (fun _ q => XS.lmul X.here hx rfl hd rfl q) k
theorem own_land (X : Stand p l e R s m args below meth c T locs cells slots) (hx : p.tables.exec = Jvm.exec) {pc : Nat} {Ls : Array Slot} {St : List Value} {x y : Int64} (hd : decode c.code pc = .ok (.land, 1)) (k : own_R p e below s Q ck sk T (mkF m (pc + 1) Ls (.long (x &&& y) :: St))) : own_R p e below s Q ck sk T (mkF m pc Ls (.long y :: .long x :: St)) :=
  own_lift (fun _ q => XS.land X.here hx rfl hd rfl q) k
theorem own_lor (X : Stand p l e R s m args below meth c T locs cells slots) (hx : p.tables.exec = Jvm.exec) {pc : Nat} {Ls : Array Slot} {St : List Value} {x y : Int64} (hd : decode c.code pc = .ok (.lor, 1)) (k : own_R p e below s Q ck sk T (mkF m (pc + 1) Ls (.long (x ||| y) :: St))) : own_R p e below s Q ck sk T (mkF m pc Ls (.long y :: .long x :: St)) :=
  own_lift (fun _ q => XS.lor X.here hx rfl hd rfl q) k
theorem own_lshl (X : Stand p l e R s m args below meth c T locs cells slots) (hx : p.tables.exec = Jvm.exec) {pc : Nat} {Ls : Array Slot} {St : List Value} {x : Int64} {y : Int32} (hd : decode c.code pc = .ok (.lshl, 1)) (k : own_R p e below s Q ck sk T (mkF m (pc + 1) Ls (.long (x <<< (y &&& 0x3f).toInt64) :: St))) : own_R p e below s Q ck sk T (mkF m pc Ls (.int y :: .long x :: St)) :=
  own_lift (fun _ q => XS.lshl X.here hx rfl hd rfl q) k
theorem own_lshr (X : Stand p l e R s m args below meth c T locs cells slots) (hx : p.tables.exec = Jvm.exec) {pc : Nat} {Ls : Array Slot} {St : List Value} {x : Int64} {y : Int32} (hd : decode c.code pc = .ok (.lshr, 1)) (k : own_R p e below s Q ck sk T (mkF m (pc + 1) Ls (.long (x >>> (y &&& 0x3f).toInt64) :: St))) : own_R p e below s Q ck sk T (mkF m pc Ls (.int y :: .long x :: St)) :=
  own_lift (fun _ q => XS.lshr X.here hx rfl hd rfl q) k
theorem own_lushr (X : Stand p l e R s m args below meth c T locs cells slots) (hx : p.tables.exec = Jvm.exec) {pc : Nat} {Ls : Array Slot} {St : List Value} {x : Int64} {y : Int32} (hd : decode c.code pc = .ok (.lushr, 1)) (k : own_R p e below s Q ck sk T (mkF m (pc + 1) Ls (.long ((x.toUInt64 >>> (y &&& 0x3f).toInt64.toUInt64).toInt64) :: St))) : own_R p e below s Q ck sk T (mkF m pc Ls (.int y :: .long x :: St)) :=
  own_lift (fun _ q => XS.lushr X.here hx rfl hd rfl q) k
theorem own_i2b (X : Stand p l e R s m args below meth c T locs cells slots) (hx : p.tables.exec = Jvm.exec) {pc : Nat} {Ls : Array Slot} {St : List Value} {x : Int32} (hd : decode c.code pc = .ok (.i2b, 1)) (k : own_R p e below s Q ck sk T (mkF m (pc + 1) Ls (.int x.toInt8.toInt32 :: St))) : own_R p e below s Q ck sk T (mkF m pc Ls (.int x :: St)) :=
  own_lift (fun _ q => XS.i2b X.here hx rfl hd rfl q) k
theorem own_i2s (X : Stand p l e R s m args below meth c T locs cells slots) (hx : p.tables.exec = Jvm.exec) {pc : Nat} {Ls : Array Slot} {St : List Value} {x : Int32} (hd : decode c.code pc = .ok (.i2s, 1)) (k : own_R p e below s Q ck sk T (mkF m (pc + 1) Ls (.int x.toInt16.toInt32 :: St))) : own_R p e below s Q ck sk T (mkF m pc Ls (.int x :: St)) :=
  own_lift (fun _ q => XS.i2s X.here hx rfl hd rfl q) k
theorem own_i2c (X : Stand p l e R s m args below meth c T locs cells slots) (hx : p.tables.exec = Jvm.exec) {pc : Nat} {Ls : Array Slot} {St : List Value} {x : Int32} (hd : decode c.code pc = .ok (.i2c, 1)) (k : own_R p e below s Q ck sk T (mkF m (pc + 1) Ls (.int x.toUInt32.toUInt16.toUInt32.toInt32 :: St))) : own_R p e below s Q ck sk T (mkF m pc Ls (.int x :: St)) :=
  own_lift (fun _ q => XS.i2c X.here hx rfl hd rfl q) k
theorem own_i2l (X : Stand p l e R s m args below meth c T locs cells slots) (hx : p.tables.exec = Jvm.exec) {pc : Nat} {Ls : Array Slot} {St : List Value} {x : Int32} (hd : decode c.code pc = .ok (.i2l, 1)) (k : own_R p e below s Q ck sk T (mkF m (pc + 1) Ls (.long x.toInt64 :: St))) : own_R p e below s Q ck sk T (mkF m pc Ls (.int x :: St)) :=
  own_lift (fun _ q => XS.i2l X.here hx rfl hd rfl q) k
theorem own_l2i (X : Stand p l e R s m args below meth c T locs cells slots) (hx : p.tables.exec = Jvm.exec) {pc : Nat} {Ls : Array Slot} {St : List Value} {x : Int64} (hd : decode c.code pc = .ok (.l2i, 1)) (k : own_R p e below s Q ck sk T (mkF m (pc + 1) Ls (.int x.toInt32 :: St))) : own_R p e below s Q ck sk T (mkF m pc Ls (.long x :: St)) :=
  own_lift (fun _ q => XS.l2i X.here hx rfl hd rfl q) k
theorem own_ineg (X : Stand p l e R s m args below meth c T locs cells slots) (hx : p.tables.exec = Jvm.exec) {pc : Nat} {Ls : Array Slot} {St : List Value} {x : Int32} (hd : decode c.code pc = .ok (.ineg, 1)) (k : own_R p e below s Q ck sk T (mkF m (pc + 1) Ls (.int (-x) :: St))) : own_R p e below s Q ck sk T (mkF m pc Ls (.int x :: St)) :=
  own_lift (fun _ q => XS.ineg X.here hx rfl hd rfl q) k
theorem own_lneg (X : Stand p l e R s m args below meth c T locs cells slots) (hx : p.tables.exec = Jvm.exec) {pc : Nat} {Ls : Array Slot} {St : List Value} {x : Int64} (hd : decode c.code pc = .ok (.lneg, 1)) (k : own_R p e below s Q ck sk T (mkF m (pc + 1) Ls (.long (-x) :: St))) : own_R p e below s Q ck sk T (mkF m pc Ls (.long x :: St)) :=
  own_lift (fun _ q => XS.lneg X.here hx rfl hd rfl q) k
theorem own_iloadN (X : Stand p l e R s m args below meth c T locs cells slots) (hx : p.tables.exec = Jvm.exec) {pc : Nat} {Ls : Array Slot} {St : List Value} {i : Fin 4} {v : Int32} (hd : decode c.code pc = .ok (.iload_n i, 1)) (hl : Ls[i.val]? = some (.val (.int v))) (k : own_R p e below s Q ck sk T (mkF m (pc + 1) Ls (.int v :: St))) : own_R p e below s Q ck sk T (mkF m pc Ls St) :=
  own_lift (fun _ q => XS.iloadN X.here hx rfl hd hl q) k
theorem own_iload (X : Stand p l e R s m args below meth c T locs cells slots) (hx : p.tables.exec = Jvm.exec) {pc : Nat} {Ls : Array Slot} {St : List Value} {i : Nat} {v : Int32} (hd : decode c.code pc = .ok (.iload i, 2)) (hl : Ls[i]? = some (.val (.int v))) (k : own_R p e below s Q ck sk T (mkF m (pc + 2) Ls (.int v :: St))) : own_R p e below s Q ck sk T (mkF m pc Ls St) :=
  own_lift (fun _ q => XS.iload X.here hx rfl hd hl q) k
theorem own_istoreN (X : Stand p l e R s m args below meth c T locs cells slots) (hx : p.tables.exec = Jvm.exec) {pc : Nat} {Ls : Array Slot} {St : List Value} {i : Fin 4} {v : Int32} {l' : Array Slot} (hd : decode c.code pc = .ok (.istore_n i, 1)) (hl : storeLocals Ls i.val (.int v) = some l') (k : own_R p e below s Q ck sk T (mkF m (pc + 1) l' St)) : own_R p e below s Q ck sk T (mkF m pc Ls (.int v :: St)) :=
  own_lift (fun _ q => XS.istoreN X.here hx rfl hd rfl hl q) k
theorem own_istore (X : Stand p l e R s m args below meth c T locs cells slots) (hx : p.tables.exec = Jvm.exec) {pc : Nat} {Ls : Array Slot} {St : List Value} {i : Nat} {v : Int32} {l' : Array Slot} (hd : decode c.code pc = .ok (.istore i, 2)) (hl : storeLocals Ls i (.int v) = some l') (k : own_R p e below s Q ck sk T (mkF m (pc + 2) l' St)) : own_R p e below s Q ck sk T (mkF m pc Ls (.int v :: St)) :=
  own_lift (fun _ q => XS.istore X.here hx rfl hd rfl hl q) k
theorem own_lloadN (X : Stand p l e R s m args below meth c T locs cells slots) (hx : p.tables.exec = Jvm.exec) {pc : Nat} {Ls : Array Slot} {St : List Value} {i : Fin 4} {v : Int64} (hd : decode c.code pc = .ok (.lload_n i, 1)) (hl : Ls[i.val]? = some (.val (.long v))) (k : own_R p e below s Q ck sk T (mkF m (pc + 1) Ls (.long v :: St))) : own_R p e below s Q ck sk T (mkF m pc Ls St) :=
  own_lift (fun _ q => XS.lloadN X.here hx rfl hd hl q) k
theorem own_lload (X : Stand p l e R s m args below meth c T locs cells slots) (hx : p.tables.exec = Jvm.exec) {pc : Nat} {Ls : Array Slot} {St : List Value} {i : Nat} {v : Int64} (hd : decode c.code pc = .ok (.lload i, 2)) (hl : Ls[i]? = some (.val (.long v))) (k : own_R p e below s Q ck sk T (mkF m (pc + 2) Ls (.long v :: St))) : own_R p e below s Q ck sk T (mkF m pc Ls St) :=
  own_lift (fun _ q => XS.lload X.here hx rfl hd hl q) k
theorem own_lstoreN (X : Stand p l e R s m args below meth c T locs cells slots) (hx : p.tables.exec = Jvm.exec) {pc : Nat} {Ls : Array Slot} {St : List Value} {i : Fin 4} {v : Int64} {l' : Array Slot} (hd : decode c.code pc = .ok (.lstore_n i, 1)) (hl : storeLocals Ls i.val (.long v) = some l') (k : own_R p e below s Q ck sk T (mkF m (pc + 1) l' St)) : own_R p e below s Q ck sk T (mkF m pc Ls (.long v :: St)) :=
  own_lift (fun _ q => XS.lstoreN X.here hx rfl hd rfl hl q) k
theorem own_lstore (X : Stand p l e R s m args below meth c T locs cells slots) (hx : p.tables.exec = Jvm.exec) {pc : Nat} {Ls : Array Slot} {St : List Value} {i : Nat} {v : Int64} {l' : Array Slot} (hd : decode c.code pc = .ok (.lstore i, 2)) (hl : storeLocals Ls i (.long v) = some l') (k : own_R p e below s Q ck sk T (mkF m (pc + 2) l' St)) : own_R p e below s Q ck sk T (mkF m pc Ls (.long v :: St)) :=
  own_lift (fun _ q => XS.lstore X.here hx rfl hd rfl hl q) k
theorem own_aloadN (X : Stand p l e R s m args below meth c T locs cells slots) (hx : p.tables.exec = Jvm.exec) {pc : Nat} {Ls : Array Slot} {St : List Value} {i : Fin 4} {v : Value} (hd : decode c.code pc = .ok (.aload_n i, 1)) (hl : Ls[i.val]? = some (.val v)) (hv : v.isRef = true) (k : own_R p e below s Q ck sk T (mkF m (pc + 1) Ls (v :: St))) : own_R p e below s Q ck sk T (mkF m pc Ls St) :=
  own_lift (fun _ q => XS.aloadN X.here hx rfl hd hl hv q) k
theorem own_aload (X : Stand p l e R s m args below meth c T locs cells slots) (hx : p.tables.exec = Jvm.exec) {pc : Nat} {Ls : Array Slot} {St : List Value} {i : Nat} {v : Value} (hd : decode c.code pc = .ok (.aload i, 2)) (hl : Ls[i]? = some (.val v)) (hv : v.isRef = true) (k : own_R p e below s Q ck sk T (mkF m (pc + 2) Ls (v :: St))) : own_R p e below s Q ck sk T (mkF m pc Ls St) :=
  own_lift (fun _ q => XS.aload X.here hx rfl hd hl hv q) k
theorem own_astoreN (X : Stand p l e R s m args below meth c T locs cells slots) (hx : p.tables.exec = Jvm.exec) {pc : Nat} {Ls : Array Slot} {St : List Value} {i : Fin 4} {v : Value} {l' : Array Slot} (hd : decode c.code pc = .ok (.astore_n i, 1)) (hv : v.isRef = true) (hl : storeLocals Ls i.val v = some l') (k : own_R p e below s Q ck sk T (mkF m (pc + 1) l' St)) : own_R p e below s Q ck sk T (mkF m pc Ls (v :: St)) :=
  own_lift (fun _ q => XS.astoreN X.here hx rfl hd rfl hv hl q) k
theorem own_astore (X : Stand p l e R s m args below meth c T locs cells slots) (hx : p.tables.exec = Jvm.exec) {pc : Nat} {Ls : Array Slot} {St : List Value} {i : Nat} {v : Value} {l' : Array Slot} (hd : decode c.code pc = .ok (.astore i, 2)) (hv : v.isRef = true) (hl : storeLocals Ls i v = some l') (k : own_R p e below s Q ck sk T (mkF m (pc + 2) l' St)) : own_R p e below s Q ck sk T (mkF m pc Ls (v :: St)) :=
  own_lift (fun _ q => XS.astore X.here hx rfl hd rfl hv hl q) k
theorem own_iconst (X : Stand p l e R s m args below meth c T locs cells slots) (hx : p.tables.exec = Jvm.exec) {pc : Nat} {Ls : Array Slot} {St : List Value} {i : Int} (v : Int32) (hd : decode c.code pc = .ok (.iconst i, 1)) (hv : Int32.ofInt i = v) (k : own_R p e below s Q ck sk T (mkF m (pc + 1) Ls (.int v :: St))) : own_R p e below s Q ck sk T (mkF m pc Ls St) :=
  own_lift (fun _ q => XS.iconst X.here hx rfl hd (hv ▸ q)) k
theorem own_bipush (X : Stand p l e R s m args below meth c T locs cells slots) (hx : p.tables.exec = Jvm.exec) {pc : Nat} {Ls : Array Slot} {St : List Value} {i : Int} (v : Int32) (hd : decode c.code pc = .ok (.bipush i, 2)) (hv : (Int8.ofInt i).toInt32 = v) (k : own_R p e below s Q ck sk T (mkF m (pc + 2) Ls (.int v :: St))) : own_R p e below s Q ck sk T (mkF m pc Ls St) :=
  own_lift (fun _ q => XS.bipush X.here hx rfl hd (hv ▸ q)) k
theorem own_sipush (X : Stand p l e R s m args below meth c T locs cells slots) (hx : p.tables.exec = Jvm.exec) {pc : Nat} {Ls : Array Slot} {St : List Value} {i : Int} (v : Int32) (hd : decode c.code pc = .ok (.sipush i, 3)) (hv : (Int16.ofInt i).toInt32 = v) (k : own_R p e below s Q ck sk T (mkF m (pc + 3) Ls (.int v :: St))) : own_R p e below s Q ck sk T (mkF m pc Ls St) :=
  own_lift (fun _ q => XS.sipush X.here hx rfl hd (hv ▸ q)) k
theorem own_lconst (X : Stand p l e R s m args below meth c T locs cells slots) (hx : p.tables.exec = Jvm.exec) {pc : Nat} {Ls : Array Slot} {St : List Value} {i : Fin 2} (v : Int64) (hd : decode c.code pc = .ok (.lconst i, 1)) (hv : Int64.ofNat i = v) (k : own_R p e below s Q ck sk T (mkF m (pc + 1) Ls (.long v :: St))) : own_R p e below s Q ck sk T (mkF m pc Ls St) :=
  own_lift (fun _ q => XS.lconst X.here hx rfl hd (hv ▸ q)) k
theorem own_iinc (X : Stand p l e R s m args below meth c T locs cells slots) (hx : p.tables.exec = Jvm.exec) {pc : Nat} {Ls : Array Slot} {St : List Value} {i : Nat} {cst : Int} {x : Int32} (v : Int32) {l' : Array Slot} (hd : decode c.code pc = .ok (.iinc i cst, 3)) (hv : Int32.ofInt cst = v) (hl : Ls[i]? = some (.val (.int x))) (hl' : storeLocals Ls i (.int (x + v)) = some l') (k : own_R p e below s Q ck sk T (mkF m (pc + 3) l' St)) : own_R p e below s Q ck sk T (mkF m pc Ls St) :=
  own_lift (fun _ q => XS.iinc X.here hx rfl hd hl (hv ▸ hl') q) k
theorem own_aconst_null (X : Stand p l e R s m args below meth c T locs cells slots) (hx : p.tables.exec = Jvm.exec) {pc : Nat} {Ls : Array Slot} {St : List Value}  (hd : decode c.code pc = .ok (.aconst_null, 1)) (k : own_R p e below s Q ck sk T (mkF m (pc + 1) Ls (.null :: St))) : own_R p e below s Q ck sk T (mkF m pc Ls St) :=
  own_lift (fun _ q => XS.aconstNull X.here hx rfl hd q) k
theorem own_dup (X : Stand p l e R s m args below meth c T locs cells slots) (hx : p.tables.exec = Jvm.exec) {pc : Nat} {Ls : Array Slot} {St : List Value} {x : Value} (hd : decode c.code pc = .ok (.dup, 1)) (hc : x.category = 1) (k : own_R p e below s Q ck sk T (mkF m (pc + 1) Ls (x :: x :: St))) : own_R p e below s Q ck sk T (mkF m pc Ls (x :: St)) :=
  own_lift (fun _ q => XS.dup X.here hx rfl hd rfl hc q) k
theorem own_dup_x1 (X : Stand p l e R s m args below meth c T locs cells slots) (hx : p.tables.exec = Jvm.exec) {pc : Nat} {Ls : Array Slot} {St : List Value} {x y : Value} (hd : decode c.code pc = .ok (.dup_x1, 1)) (hc : x.category = 1) (hc2 : y.category = 1) (k : own_R p e below s Q ck sk T (mkF m (pc + 1) Ls (x :: y :: x :: St))) : own_R p e below s Q ck sk T (mkF m pc Ls (x :: y :: St)) :=
  own_lift (fun _ q => XS.dupX1 X.here hx rfl hd rfl hc hc2 q) k
theorem own_pop (X : Stand p l e R s m args below meth c T locs cells slots) (hx : p.tables.exec = Jvm.exec) {pc : Nat} {Ls : Array Slot} {St : List Value} {x : Value} (hd : decode c.code pc = .ok (.pop, 1)) (hc : x.category = 1) (k : own_R p e below s Q ck sk T (mkF m (pc + 1) Ls St)) : own_R p e below s Q ck sk T (mkF m pc Ls (x :: St)) :=
  own_lift (fun _ q => XS.pop X.here hx rfl hd rfl hc q) k
theorem own_goto (X : Stand p l e R s m args below meth c T locs cells slots) (hx : p.tables.exec = Jvm.exec) {pc : Nat} {Ls : Array Slot} {St : List Value} {o : Int} {pc' : Nat} (hd : decode c.code pc = .ok (.goto o, 3)) (ho : 0 ≤ (pc : Int) + o) (hp : ((pc : Int) + o).toNat = pc') (k : own_R p e below s Q ck sk T (mkF m pc' Ls St)) : own_R p e below s Q ck sk T (mkF m pc Ls St) :=
  own_lift (fun _ q => XS.goto X.here hx rfl (pc0 := pc) rfl hd ho hp q) k
theorem own_ifnullY (X : Stand p l e R s m args below meth c T locs cells slots) (hx : p.tables.exec = Jvm.exec) {pc : Nat} {Ls : Array Slot} {St : List Value} {o : Int} {pc' : Nat} (hd : decode c.code pc = .ok (.ifnull o, 3)) (ho : 0 ≤ (pc : Int) + o) (hp : ((pc : Int) + o).toNat = pc') (k : own_R p e below s Q ck sk T (mkF m pc' Ls St)) : own_R p e below s Q ck sk T (mkF m pc Ls (.null :: St)) :=
  own_lift (fun _ q => XS.ifnullYes X.here hx rfl (pc0 := pc) rfl hd rfl ho hp q) k
theorem own_ifnullN (X : Stand p l e R s m args below meth c T locs cells slots) (hx : p.tables.exec = Jvm.exec) {pc : Nat} {Ls : Array Slot} {St : List Value} {o : Int} {b : Addr} (hd : decode c.code pc = .ok (.ifnull o, 3)) (k : own_R p e below s Q ck sk T (mkF m (pc + 3) Ls St)) : own_R p e below s Q ck sk T (mkF m pc Ls (.ref b :: St)) :=
  own_lift (fun _ q => XS.ifnullNo X.here hx rfl hd rfl q) k
theorem own_ifnonnullY (X : Stand p l e R s m args below meth c T locs cells slots) (hx : p.tables.exec = Jvm.exec) {pc : Nat} {Ls : Array Slot} {St : List Value} {o : Int} {pc' : Nat} {b : Addr} (hd : decode c.code pc = .ok (.ifnonnull o, 3)) (ho : 0 ≤ (pc : Int) + o) (hp : ((pc : Int) + o).toNat = pc') (k : own_R p e below s Q ck sk T (mkF m pc' Ls St)) : own_R p e below s Q ck sk T (mkF m pc Ls (.ref b :: St)) :=
  own_lift (fun _ q => XS.ifnonnullYes X.here hx rfl (pc0 := pc) rfl hd rfl ho hp q) k
theorem own_ifnonnullN (X : Stand p l e R s m args below meth c T locs cells slots) (hx : p.tables.exec = Jvm.exec) {pc : Nat} {Ls : Array Slot} {St : List Value} {o : Int} (hd : decode c.code pc = .ok (.ifnonnull o, 3)) (k : own_R p e below s Q ck sk T (mkF m (pc + 3) Ls St)) : own_R p e below s Q ck sk T (mkF m pc Ls (.null :: St)) :=
  own_lift (fun _ q => XS.ifnonnullNo X.here hx rfl hd rfl q) k
theorem own_irem (X : Stand p l e R s m args below meth c T locs cells slots) (hx : p.tables.exec = Jvm.exec) {pc : Nat} {Ls : Array Slot} {St : List Value} {x y : Int32} (hd : decode c.code pc = .ok (.irem, 1)) (hy : y ≠ 0) (k : own_R p e below s Q ck sk T (mkF m (pc + 1) Ls (.int (x % y) :: St))) : own_R p e below s Q ck sk T (mkF m pc Ls (.int y :: .int x :: St)) :=
  own_lift (fun _ q => iremM X hx rfl hd rfl hy q) k
theorem own_ldc (X : Stand p l e R s m args below meth c T locs cells slots) (hx : p.tables.exec = Jvm.exec) (hZ : Z.Warmed39 s.vm) {own : String} {index : Nat} {v : Int32} (hown : s.vm.findClass own = some m.cls) (w : (Cond.constant own index v).before a0 Z = true) {pc : Nat} {Ls : Array Slot} {St : List Value} (hd : decode c.code pc = .ok (.ldc index, 2)) (k : own_R p e below s Q ck sk T (mkF m (pc + 2) Ls (.int v :: St))) : own_R p e below s Q ck sk T (mkF m pc Ls St) :=
  own_lift (fun _ q => X.ldcInt hx hown (mvT hZ w) (g := mkF m pc Ls St) rfl hd _ q) k
theorem own_ldc2 (X : Stand p l e R s m args below meth c T locs cells slots) (hx : p.tables.exec = Jvm.exec) (hZ : Z.Warmed39 s.vm) {own : String} {index : Nat} {v : Int64} (hown : s.vm.findClass own = some m.cls) (w : (Cond.constantLong own index v).before a0 Z = true) {pc : Nat} {Ls : Array Slot} {St : List Value} (hd : decode c.code pc = .ok (.ldc2_w index, 3)) (k : own_R p e below s Q ck sk T (mkF m (pc + 3) Ls (.long v :: St))) : own_R p e below s Q ck sk T (mkF m pc Ls St) :=
  own_lift (fun _ q => X.ldc2Long hx hown (mvT hZ w) (g := mkF m pc Ls St) rfl hd _ q) k
theorem own_dup2 (X : Stand p l e R s m args below meth c T locs cells slots) (hx : p.tables.exec = Jvm.exec) {pc : Nat} {Ls : Array Slot} {St : List Value} {x y : Value} (hd : decode c.code pc = .ok (.dup2, 1)) (h1 : x.category = 1) (h2 : y.category = 1) (k : own_R p e below s Q ck sk T (mkF m (pc + 1) Ls (x :: y :: x :: y :: St))) : own_R p e below s Q ck sk T (mkF m pc Ls (x :: y :: St)) :=
  own_lift (fun _ q => by
    show Steps p.tables e below (T.setTop { method := m, pc := pc, locals := Ls, stack := x :: y :: St, locked := none }) _
    jvm_step X.here [X.here.top, hx, hd, h1, h2]
    exact q) k
/-! branches: both ways -/
theorem own_icmp (X : Stand p l e R s m args below meth c T locs cells slots) (hx : p.tables.exec = Jvm.exec) {pc pc' : Nat} {Ls : Array Slot} {St : List Value} {x y : Int32} {cd : ClassFile.Cond} {o : Int} (hd : decode c.code pc = .ok (.if_icmp cd o, 3)) (ho : 0 ≤ (pc : Int) + o) (hp : ((pc : Int) + o).toNat = pc')
    (k1 : if_icmp.holds cd x y = true → own_R p e below s Q ck sk T (mkF m pc' Ls St)) (k2 : if_icmp.holds cd x y = false → own_R p e below s Q ck sk T (mkF m (pc + 3) Ls St)) : own_R p e below s Q ck sk T (mkF m pc Ls (.int y :: .int x :: St)) := by
  cases hc : if_icmp.holds cd x y
  · exact own_lift (fun _ q => XS.icmpNo X.here hx rfl hd rfl hc q) (k2 hc)
  · exact own_lift (fun _ q => XS.icmpYes X.here hx rfl (pc0 := pc) rfl hd rfl hc ho hp q) (k1 hc)
theorem own_if (X : Stand p l e R s m args below meth c T locs cells slots) (hx : p.tables.exec = Jvm.exec) {pc pc' : Nat} {Ls : Array Slot} {St : List Value} {x : Int32} {cd : ClassFile.Cond} {o : Int} (hd : decode c.code pc = .ok (.ifCond cd o, 3)) (ho : 0 ≤ (pc : Int) + o) (hp : ((pc : Int) + o).toNat = pc')
    (k1 : if_icmp.holds cd x 0 = true → own_R p e below s Q ck sk T (mkF m pc' Ls St)) (k2 : if_icmp.holds cd x 0 = false → own_R p e below s Q ck sk T (mkF m (pc + 3) Ls St)) : own_R p e below s Q ck sk T (mkF m pc Ls (.int x :: St)) := by
  cases hc : if_icmp.holds cd x 0
  · exact own_lift (fun _ q => XS.ifNo X.here hx rfl hd rfl ((if0 _ _).trans hc) q) (k2 hc)
  · exact own_lift (fun _ q => XS.ifYes X.here hx rfl (pc0 := pc) rfl hd rfl ((if0 _ _).trans hc) ho hp q) (k1 hc)
theorem own_lt1 {x y : Int32} (q : if_icmp.holds .lt x y = true) : x < y := by simpa [if_icmp.holds] using q
theorem own_lt0 {x y : Int32} (q : if_icmp.holds .lt x y = false) : ¬ x < y := by simpa [if_icmp.holds] using q
theorem own_ge1 {x y : Int32} (q : if_icmp.holds .ge x y = true) : ¬ x < y := by simpa [if_icmp.holds] using q
theorem own_ge0 {x y : Int32} (q : if_icmp.holds .ge x y = false) : x < y := by simpa [if_icmp.holds] using q
theorem own_gt1 {x y : Int32} (q : if_icmp.holds .gt x y = true) : y < x := by simpa [if_icmp.holds] using q
theorem own_gt0 {x y : Int32} (q : if_icmp.holds .gt x y = false) : ¬ y < x := by simpa [if_icmp.holds] using q
theorem own_le1 {x y : Int32} (q : if_icmp.holds .le x y = true) : ¬ y < x := by simpa [if_icmp.holds] using q
theorem own_le0 {x y : Int32} (q : if_icmp.holds .le x y = false) : y < x := by simpa [if_icmp.holds] using q
theorem own_eq1 {x y : Int32} (q : if_icmp.holds .eq x y = true) : x = y := by simpa [if_icmp.holds] using q
theorem own_eq0 {x y : Int32} (q : if_icmp.holds .eq x y = false) : ¬ x = y := by simpa [if_icmp.holds] using q
theorem own_ne1 {x y : Int32} (q : if_icmp.holds .ne x y = true) : ¬ x = y := by simpa [if_icmp.holds] using q
theorem own_ne0 {x y : Int32} (q : if_icmp.holds .ne x y = false) : x = y := by simpa [if_icmp.holds] using q
/-! lcmp and the branch behind it, in one -/
theorem own_lcmp (X : Stand p l e R s m args below meth c T locs cells slots) (hx : p.tables.exec = Jvm.exec) {pc pc' : Nat} {Ls : Array Slot} {St : List Value} {x y : Int64} {cd : ClassFile.Cond} {o : Int} (hd1 : decode c.code pc = .ok (.lcmp, 1)) (hd : decode c.code (pc + 1) = .ok (.ifCond cd o, 3)) (ho : 0 ≤ ((pc + 1 : Nat) : Int) + o) (hp : (((pc + 1 : Nat) : Int) + o).toNat = pc')
    (k1 : if_icmp.holds cd (lcmpW x y) 0 = true → own_R p e below s Q ck sk T (mkF m pc' Ls St)) (k2 : if_icmp.holds cd (lcmpW x y) 0 = false → own_R p e below s Q ck sk T (mkF m (pc + 4) Ls St)) : own_R p e below s Q ck sk T (mkF m pc Ls (.long y :: .long x :: St)) :=
  own_lift (fun _ q => XS.lcmp X.here hx rfl hd1 rfl q) (own_if X hx hd ho hp k1 k2)
theorem own_llt1 {x y : Int64} (q : if_icmp.holds .lt (lcmpW x y) 0 = true) : x < y := (lw_lt x y).mp (own_lt1 q)
theorem own_llt0 {x y : Int64} (q : if_icmp.holds .lt (lcmpW x y) 0 = false) : ¬ x < y := fun z => own_lt0 q ((lw_lt x y).mpr z)
theorem own_lge1 {x y : Int64} (q : if_icmp.holds .ge (lcmpW x y) 0 = true) : ¬ x < y := fun z => own_ge1 q ((lw_lt x y).mpr z)
theorem own_lge0 {x y : Int64} (q : if_icmp.holds .ge (lcmpW x y) 0 = false) : x < y := (lw_lt x y).mp (own_ge0 q)
theorem own_lgt1 {x y : Int64} (q : if_icmp.holds .gt (lcmpW x y) 0 = true) : y < x := (lw_gt x y).mp (own_gt1 q)
theorem own_lgt0 {x y : Int64} (q : if_icmp.holds .gt (lcmpW x y) 0 = false) : ¬ y < x := fun z => own_gt0 q ((lw_gt x y).mpr z)
theorem own_lle1 {x y : Int64} (q : if_icmp.holds .le (lcmpW x y) 0 = true) : ¬ y < x := fun z => own_le1 q ((lw_gt x y).mpr z)
theorem own_lle0 {x y : Int64} (q : if_icmp.holds .le (lcmpW x y) 0 = false) : y < x := (lw_gt x y).mp (own_le0 q)
theorem own_leq1 {x y : Int64} (q : if_icmp.holds .eq (lcmpW x y) 0 = true) : x = y := (lw_eq x y).mp (own_eq1 q)
theorem own_leq0 {x y : Int64} (q : if_icmp.holds .eq (lcmpW x y) 0 = false) : ¬ x = y := fun z => own_eq0 q ((lw_eq x y).mpr z)
theorem own_lne1 {x y : Int64} (q : if_icmp.holds .ne (lcmpW x y) 0 = true) : ¬ x = y := fun z => own_ne1 q ((lw_eq x y).mpr z)
theorem own_lne0 {x y : Int64} (q : if_icmp.holds .ne (lcmpW x y) 0 = false) : x = y := (lw_eq x y).mp (own_ne0 q)
/-! returns -/
theorem own_ret0 (X : Stand p l e R s m args below meth c T locs cells slots) (hx : p.tables.exec = Jvm.exec) {pc : Nat} {Ls : Array Slot} (hret : meth.sig.returnType = none) (hlk : meth.locks = false) (hd : decode c.code pc = .ok (.return_, 1)) (hQ : Q none T.heap locs) (hc : cells ≤ ck) (hs : slots ≤ sk) : own_R p e below s Q ck sk T (mkF m pc Ls []) := by
  obtain ⟨fs, hr, hrun, hended, hW, hsame⟩ := X.leave (v := none) (fun _ => rfl) hlk
  exact ⟨_, _, X.returnOut hx hret hd hr, hrun, hended, _, _, rfl, hQ, ⟨_, rfl⟩, hW, hsame.mono hc hs⟩
theorem own_retN (X : Stand p l e R s m args below meth c T locs cells slots) (hx : p.tables.exec = Jvm.exec) {pc : Nat} {Ls : Array Slot} {St : List Value} {z : Int32} {t : FieldType} (hret : meth.sig.returnType = some t) (ht : t = .boolean ∨ t = .byte ∨ t = .char ∨ t = .short) (hlk : meth.locks = false) (hd : decode c.code pc = .ok (.ireturn, 1)) (hQ : Q (some (.int (nar t z))) T.heap locs) (hc : cells ≤ ck) (hs : slots ≤ sk) : own_R p e below s Q ck sk T (mkF m pc Ls (.int z :: St)) := by
  obtain ⟨fs, hr, hrun, hended, hW, hsame⟩ := X.leave (v := some (.int (nar t z))) (fun h => by rw [hret] at h; cases h) hlk
  exact ⟨_, _, retN X hx hret ht hd hr, hrun, hended, _, _, rfl, hQ, ⟨_, rfl⟩, hW, hsame.mono hc hs⟩
theorem own_retV (X : Stand p l e R s m args below meth c T locs cells slots) (hx : p.tables.exec = Jvm.exec) {pc : Nat} {Ls : Array Slot} {St : List Value} {w : Value} {t : FieldType} {i : Instr} (hret : meth.sig.returnType = some t) (hn : narrow t w = w)
    (hi : (i = .ireturn ∧ (t = .int ∨ t = .boolean ∨ t = .byte ∨ t = .char ∨ t = .short) ∧ ∃ z, w = .int z) ∨ (i = .lreturn ∧ t = .long ∧ ∃ z, w = .long z) ∨ (i = .dreturn ∧ t = .double ∧ ∃ z, w = .double z) ∨ (i = .freturn ∧ t = .float ∧ ∃ z, w = .float z) ∨ (i = .areturn ∧ t.isReference = true ∧ w.isRef = true)) (hlk : meth.locks = false)
    (hd : decode c.code pc = .ok (i, 1)) (hQ : Q (some w) T.heap locs) (hc : cells ≤ ck) (hs : slots ≤ sk) : own_R p e below s Q ck sk T (mkF m pc Ls (w :: St)) := by
  obtain ⟨fs, hr, hrun, hended, hW, hsame⟩ := X.leave (v := some w) (fun h => by rw [hret] at h; cases h) hlk
  exact ⟨_, _, retOut X hx hret hn hi hd hr, hrun, hended, _, _, rfl, hQ, ⟨_, rfl⟩, hW, hsame.mono hc hs⟩
theorem own_retI (X : Stand p l e R s m args below meth c T locs cells slots) (hx : p.tables.exec = Jvm.exec) {pc : Nat} {Ls : Array Slot} {St : List Value} {z : Int32} (hret : meth.sig.returnType = some .int) (hlk : meth.locks = false) (hd : decode c.code pc = .ok (.ireturn, 1)) (hQ : Q (some (.int z)) T.heap locs) (hc : cells ≤ ck) (hs : slots ≤ sk) : own_R p e below s Q ck sk T (mkF m pc Ls (.int z :: St)) :=
  own_retV X hx hret rfl (Or.inl ⟨rfl, Or.inl rfl, _, rfl⟩) hlk hd hQ hc hs
theorem own_retJ (X : Stand p l e R s m args below meth c T locs cells slots) (hx : p.tables.exec = Jvm.exec) {pc : Nat} {Ls : Array Slot} {St : List Value} {z : Int64} (hret : meth.sig.returnType = some .long) (hlk : meth.locks = false) (hd : decode c.code pc = .ok (.lreturn, 1)) (hQ : Q (some (.long z)) T.heap locs) (hc : cells ≤ ck) (hs : slots ≤ sk) : own_R p e below s Q ck sk T (mkF m pc Ls (.long z :: St)) :=
  own_retV X hx hret rfl (Or.inr (Or.inl ⟨rfl, rfl, _, rfl⟩)) hlk hd hQ hc hs
theorem own_retA (X : Stand p l e R s m args below meth c T locs cells slots) (hx : p.tables.exec = Jvm.exec) {pc : Nat} {Ls : Array Slot} {St : List Value} {w : Value} {t : FieldType} (hret : meth.sig.returnType = some t) (ht : t.isReference = true) (hw : w.isRef = true) (hlk : meth.locks = false) (hd : decode c.code pc = .ok (.areturn, 1)) (hQ : Q (some w) T.heap locs) (hc : cells ≤ ck) (hs : slots ≤ sk) : own_R p e below s Q ck sk T (mkF m pc Ls (w :: St)) :=
  own_retV X hx hret (by rcases ref_cases hw with rfl | ⟨a, rfl⟩ <;> cases t <;> first | rfl | (cases ht)) (Or.inr (Or.inr (Or.inr (Or.inr ⟨rfl, ht, hw⟩)))) hlk hd hQ hc hs
/-! the heap -/
theorem own_getF (X : Stand p l e R s m args below meth c T locs cells slots) (hx : p.tables.exec = Jvm.exec) (hZ : Z.Warmed39 s.vm) {own R0 O n d host : String} {index : Nat} (hown : s.vm.findClass own = some m.cls) (w : (Cond.fieldLink own index R0 n d).before a0 Z = true ∨ (Cond.fieldLinkNest own index R0 n d host).before a0 Z = true) (via : Via Z R0 O n d) (eT : T.heap = h) {a : Addr} {v : Value} (F : Fld Z h a O n d v) {pc : Nat} {Ls : Array Slot} {St : List Value} (hd : decode c.code pc = .ok (.getfield index, 3))
    (k : ∀ T', Stand p l e R s m args below meth c T' locs cells slots → T'.heap = h → own_R p e below s Q ck sk T' (mkF m (pc + 3) Ls (v :: St))) : own_R p e below s Q ck sk T (mkF m pc Ls (.ref a :: St)) := by
  obtain ⟨T', X', e', st⟩ := getF X hx hZ hown w via eT F (g := mkF m pc Ls (.ref a :: St)) rfl rfl hd
  exact own_lift st (k T' X' e')
theorem own_putF (X : Stand p l e R s m args below meth c T locs cells slots) (hx : p.tables.exec = Jvm.exec) (hZ : Z.Warmed39 s.vm) {own R0 O n d host C : String} {index kk : Nat} {ty : FieldType} (hown : s.vm.findClass own = some m.cls) (w : (Cond.fieldLink own index R0 n d).before a0 Z = true ∨ (Cond.fieldLinkNest own index R0 n d host).before a0 Z = true) (via : Via Z R0 O n d)
    (eT : T.heap = h) {a : Addr} {v old : Value} (F : Fld Z h a O n d old) (E : Exa Z h a C) (L : (Cond.lays C O n d).before a0 Z = true ∨ ((Cond.laysFinal C O n d).before a0 Z = true ∧ own = O ∧ meth.name = "<init>")) (wi : (Cond.instantiable C kk).before a0 Z = true)
    (hty : parseFieldDescriptor d = some ty) (hn : narrow ty v = v) (hf : fits ty v = true) {pc : Nat} {Ls : Array Slot} {St : List Value} (hd : decode c.code pc = .ok (.putfield index, 3))
    (k : ∀ T' h', Stand p l e R s m args below meth c T' (locs ++ [⟨a, Jvm.RoadKit.slotOf Z O n d⟩]) cells slots → T'.heap = h' → Wr h h' a (Jvm.RoadKit.slotOf Z O n d) v → own_R p e below s Q ck sk T' (mkF m (pc + 3) Ls St)) : own_R p e below s Q ck sk T (mkF m pc Ls (v :: .ref a :: St)) := by
  obtain ⟨T', h', X', e', W, st⟩ := putF X hx hZ hown w via eT F E L wi hty hn hf (g := mkF m pc Ls (v :: .ref a :: St)) rfl rfl hd
  exact own_lift st (k T' h' X' e' W)
theorem own_putFN (X : Stand p l e R s m args below meth c T locs cells slots) (hx : p.tables.exec = Jvm.exec) (hZ : Z.Warmed39 s.vm) {own R0 O n d C : String} {index kk : Nat} {ty : FieldType} (hown : s.vm.findClass own = some m.cls) (w : (Cond.fieldLink own index R0 n d).before a0 Z = true) (via : Via Z R0 O n d)
    (eT : T.heap = h) {a : Addr} {v v' old : Value} (F : Fld Z h a O n d old) (E : Exa Z h a C) (L : (Cond.lays C O n d).before a0 Z = true ∨ ((Cond.laysFinal C O n d).before a0 Z = true ∧ own = O ∧ meth.name = "<init>")) (wi : (Cond.instantiable C kk).before a0 Z = true)
    (hty : parseFieldDescriptor d = some ty) (hn : narrow ty v = v') (hf : fits ty v' = true) {pc : Nat} {Ls : Array Slot} {St : List Value} (hd : decode c.code pc = .ok (.putfield index, 3))
    (k : ∀ T' h', Stand p l e R s m args below meth c T' (locs ++ [⟨a, Jvm.RoadKit.slotOf Z O n d⟩]) cells slots → T'.heap = h' → Wr h h' a (Jvm.RoadKit.slotOf Z O n d) v' → own_R p e below s Q ck sk T' (mkF m (pc + 3) Ls St)) : own_R p e below s Q ck sk T (mkF m pc Ls (v :: .ref a :: St)) := by
  obtain ⟨T', h', X', e', W, st⟩ := putFN X hx hZ hown w via eT F E L wi hty hn hf (g := mkF m pc Ls (v :: .ref a :: St)) rfl rfl hd
  exact own_lift st (k T' h' X' e' W)
theorem own_new (X : Stand p l e R s m args below meth c T locs cells slots) (hx : p.tables.exec = Jvm.exec) (hZ : Z.Warmed39 s.vm) {own C : String} {index n : Nat} (hown : s.vm.findClass own = some m.cls) (w : (Cond.classLink own index C).before a0 Z = true) (wi : (Cond.instantiable C n).before a0 Z = true) (wz : (Cond.initialized C).before a0 Z = true) (eT : T.heap = h) {pc : Nat} {Ls : Array Slot} {St : List Value} (hd : decode c.code pc = .ok (.new index, 3)) (hc : cells + 1 ≤ R.cells) (hl : slots + n ≤ R.slots)
    (k : ∀ T' h' b, b = h.size → Stand p l e R s m args below meth c T' locs (cells + 1) (slots + n) → T'.heap = h' → Ext h h' → Exa Z h' b C → (∀ {O nm d : String} {ty : FieldType}, Laid Z a0 C O nm d → parseFieldDescriptor d = some ty → Fld Z h' b O nm d (defaultValue ty)) → own_R p e below s Q ck sk T' (mkF m (pc + 3) Ls (.ref b :: St))) : own_R p e below s Q ck sk T (mkF m pc Ls St) := by
  obtain ⟨T', h', X', e', E, A, D, -, st⟩ := newO X hx hZ hown w wi wz eT (g := mkF m pc Ls St) rfl hd hc hl
  exact own_lift st (k T' h' _ rfl X' e' E A D)
theorem own_newA (X : Stand p l e R s m args below meth c T locs cells slots) (hx : p.tables.exec = Jvm.exec) (hZ : Z.Warmed39 s.vm) {aty : ArrayType} (w : (Cond.arrayClass (newarray.typeOf aty)).before a0 Z = true) (eT : T.heap = h) {pc : Nat} {Ls : Array Slot} {St : List Value} {n : Int32} (hd : decode c.code pc = .ok (.newarray aty, 2)) (hn : ¬ n < 0) (cap : Nat) (hcap : n.toNatClampNeg ≤ cap) (hb : cap * 8 ≤ 536870912) (hc : cells + 1 ≤ R.cells) (hl : slots + cap ≤ R.slots) {ad : String} (had : "[" ++ (newarray.typeOf aty).toString = ad) (N : Nat)
    (k : ∀ T' h' b kA, b = h.size → Stand p l e R s m args below meth c T' locs (cells + 1) (slots + cap) → T'.heap = h' → Ext h h' → Arv Z h' b kA (newarray.typeOf aty) n (List.replicate N (defaultValue (newarray.typeOf aty))) (defaultValue (newarray.typeOf aty)) → Exa Z h' b ad → own_R p e below s Q ck sk T' (mkF m (pc + 2) Ls (.ref b :: St))) : own_R p e below s Q ck sk T (mkF m pc Ls (.int n :: St)) := by
  obtain ⟨T', h', kA, X', e', E, A, EA, st⟩ := newPE X hx hZ w eT (g := mkF m pc Ls (.int n :: St)) rfl hd rfl hn hcap hb hc hl had
  have V := (Arv.new A hn).pad (vs' := List.replicate N (defaultValue (newarray.typeOf aty))) (fun i => pad_rep [] (defaultValue (newarray.typeOf aty)) N i)
  exact own_lift st (k T' h' _ kA rfl X' e' E V EA)
theorem own_len (X : Stand p l e R s m args below meth c T locs cells slots) (hx : p.tables.exec = Jvm.exec) (hZ : Z.Warmed39 s.vm) (eT : T.heap = h) {a : Addr} {kA : ClassId} {ty : FieldType} {n : Int32} {vs : List Value} {dv : Value} (V : Arv Z h a kA ty n vs dv) {pc : Nat} {Ls : Array Slot} {St : List Value} (hd : decode c.code pc = .ok (.arraylength, 1))
    (k : own_R p e below s Q ck sk T (mkF m (pc + 1) Ls (.int n :: St))) : own_R p e below s Q ck sk T (mkF m pc Ls (.ref a :: St)) := by
  obtain ⟨cl, A, -, S, N, -⟩ := V
  rw [← len_of S N] at k
  exact own_lift (fun _ q => X.arraylength hx (by rw [eT]; exact A.1) (State.isArrayOf_alike hZ.alike A.2.1) (g := mkF m pc Ls (.ref a :: St)) rfl rfl hd _ q) k
theorem own_baload (X : Stand p l e R s m args below meth c T locs cells slots) (hx : p.tables.exec = Jvm.exec) (hZ : Z.Warmed39 s.vm) (eT : T.heap = h) {a : Addr} {kA : ClassId} {n : Int32} {vs : List Value} {dv v : Value} (V : Arv Z h a kA .byte n vs dv) {pc : Nat} {Ls : Array Slot} {St : List Value} {j : Int32} (hj : ¬ j < 0 ∧ j < n) (hv : vs.getD j.toNatClampNeg dv = v) (hd : decode c.code pc = .ok (.baload, 1))
    (k : own_R p e below s Q ck sk T (mkF m (pc + 1) Ls (v :: St))) : own_R p e below s Q ck sk T (mkF m pc Ls (.int j :: .ref a :: St)) := by
  obtain ⟨cl, A, -, S, N, H, -⟩ := V
  have hin := inb_of S hj
  exact own_lift (fun _ q => X.baloadBytes hx (by rw [eT]; exact A.1) (State.isArrayOf_alike hZ.alike A.2.1) A.2.2 hin (H.at hin hv) (g := mkF m pc Ls (.int j :: .ref a :: St)) rfl rfl hd _ q) k
theorem own_zaload (X : Stand p l e R s m args below meth c T locs cells slots) (hx : p.tables.exec = Jvm.exec) (hZ : Z.Warmed39 s.vm) (eT : T.heap = h) {a : Addr} {kA : ClassId} {n : Int32} {vs : List Value} {dv v : Value} (V : Arv Z h a kA .boolean n vs dv) {pc : Nat} {Ls : Array Slot} {St : List Value} {j : Int32} (hj : ¬ j < 0 ∧ j < n) (hv : vs.getD j.toNatClampNeg dv = v) (hd : decode c.code pc = .ok (.baload, 1))
    (k : own_R p e below s Q ck sk T (mkF m (pc + 1) Ls (v :: St))) : own_R p e below s Q ck sk T (mkF m pc Ls (.int j :: .ref a :: St)) := by
  obtain ⟨cl, A, -, S, N, H, -⟩ := V
  have hin := inb_of S hj
  exact own_lift (fun _ q => X.baloadBooleans hx (by rw [eT]; exact A.1) (State.isArrayOf_alike hZ.alike A.2.1) A.2.2 hin (H.at hin hv) (g := mkF m pc Ls (.int j :: .ref a :: St)) rfl rfl hd _ q) k
theorem own_caload (X : Stand p l e R s m args below meth c T locs cells slots) (hx : p.tables.exec = Jvm.exec) (hZ : Z.Warmed39 s.vm) (eT : T.heap = h) {a : Addr} {kA : ClassId} {n : Int32} {vs : List Value} {dv v : Value} (V : Arv Z h a kA .char n vs dv) {pc : Nat} {Ls : Array Slot} {St : List Value} {j : Int32} (hj : ¬ j < 0 ∧ j < n) (hv : vs.getD j.toNatClampNeg dv = v) (hd : decode c.code pc = .ok (.caload, 1))
    (k : own_R p e below s Q ck sk T (mkF m (pc + 1) Ls (v :: St))) : own_R p e below s Q ck sk T (mkF m pc Ls (.int j :: .ref a :: St)) := by
  obtain ⟨cl, A, -, S, N, H, -⟩ := V
  have hin := inb_of S hj
  exact own_lift (fun _ q => X.caload hx (by rw [eT]; exact A.1) (State.isArrayOf_alike hZ.alike A.2.1) A.2.2 hin (H.at hin hv) (g := mkF m pc Ls (.int j :: .ref a :: St)) rfl rfl hd _ q) k
theorem own_iaload (X : Stand p l e R s m args below meth c T locs cells slots) (hx : p.tables.exec = Jvm.exec) (hZ : Z.Warmed39 s.vm) (eT : T.heap = h) {a : Addr} {kA : ClassId} {n : Int32} {vs : List Value} {dv v : Value} (V : Arv Z h a kA .int n vs dv) {pc : Nat} {Ls : Array Slot} {St : List Value} {j : Int32} (hj : ¬ j < 0 ∧ j < n) (hv : vs.getD j.toNatClampNeg dv = v) (hd : decode c.code pc = .ok (.iaload, 1))
    (k : own_R p e below s Q ck sk T (mkF m (pc + 1) Ls (v :: St))) : own_R p e below s Q ck sk T (mkF m pc Ls (.int j :: .ref a :: St)) := by
  obtain ⟨cl, A, -, S, N, H, -⟩ := V
  have hin := inb_of S hj
  exact own_lift (fun _ q => X.iaload hx (by rw [eT]; exact A.1) (State.isArrayOf_alike hZ.alike A.2.1) A.2.2 hin (H.at hin hv) (g := mkF m pc Ls (.int j :: .ref a :: St)) rfl rfl hd _ q) k
theorem own_bastore (X : Stand p l e R s m args below meth c T locs cells slots) (hx : p.tables.exec = Jvm.exec) (hZ : Z.Warmed39 s.vm) (eT : T.heap = h) {a : Addr} {kA : ClassId} {n : Int32} {vs : List Value} {dv : Value} (V : Arv Z h a kA .byte n vs dv) {pc : Nat} {Ls : Array Slot} {St : List Value} {j x x' : Int32} (hn : nar .byte x = x') (hj : ¬ j < 0 ∧ j < n) (i : Nat) (hi : j.toNatClampNeg = i) (hl : i < vs.length) (hd : decode c.code pc = .ok (.bastore, 1))
    (k : ∀ T' h', Stand p l e R s m args below meth c T' (locs ++ [⟨a, j.toNatClampNeg⟩]) cells slots → T'.heap = h' → Wr h h' a j.toNatClampNeg (.int x') → Arv Z h' a kA .byte n (vs.set i (.int x')) dv → own_R p e below s Q ck sk T' (mkF m (pc + 1) Ls St)) : own_R p e below s Q ck sk T (mkF m pc Ls (.int x :: .int j :: .ref a :: St)) := by
  obtain ⟨cl, A, q1, S, N, H, G⟩ := V
  have hin := inb_of S hj
  obtain ⟨T', h', X', e', W, st⟩ := stB X hx hZ eT A hin (g := mkF m pc Ls (.int x :: .int j :: .ref a :: St)) rfl rfl hd
  subst hn
  exact own_lift st (k T' h' X' e' W (Arv.set A q1 S N H G (fits_nar_byte _) W i hi hl))
theorem own_zastore (X : Stand p l e R s m args below meth c T locs cells slots) (hx : p.tables.exec = Jvm.exec) (hZ : Z.Warmed39 s.vm) (eT : T.heap = h) {a : Addr} {kA : ClassId} {n : Int32} {vs : List Value} {dv : Value} (V : Arv Z h a kA .boolean n vs dv) {pc : Nat} {Ls : Array Slot} {St : List Value} {j x x' : Int32} (hn : nar .boolean x = x') (hj : ¬ j < 0 ∧ j < n) (i : Nat) (hi : j.toNatClampNeg = i) (hl : i < vs.length) (hd : decode c.code pc = .ok (.bastore, 1))
    (k : ∀ T' h', Stand p l e R s m args below meth c T' (locs ++ [⟨a, j.toNatClampNeg⟩]) cells slots → T'.heap = h' → Wr h h' a j.toNatClampNeg (.int x') → Arv Z h' a kA .boolean n (vs.set i (.int x')) dv → own_R p e below s Q ck sk T' (mkF m (pc + 1) Ls St)) : own_R p e below s Q ck sk T (mkF m pc Ls (.int x :: .int j :: .ref a :: St)) := by
  obtain ⟨cl, A, q1, S, N, H, G⟩ := V
  have hin := inb_of S hj
  obtain ⟨T', h', X', e', W, st⟩ := stZ X hx hZ eT A hin (g := mkF m pc Ls (.int x :: .int j :: .ref a :: St)) rfl rfl hd
  subst hn
  exact own_lift st (k T' h' X' e' W (Arv.set A q1 S N H G (fits_nar_bool _) W i hi hl))
theorem own_castore (X : Stand p l e R s m args below meth c T locs cells slots) (hx : p.tables.exec = Jvm.exec) (hZ : Z.Warmed39 s.vm) (eT : T.heap = h) {a : Addr} {kA : ClassId} {n : Int32} {vs : List Value} {dv : Value} (V : Arv Z h a kA .char n vs dv) {pc : Nat} {Ls : Array Slot} {St : List Value} {j x x' : Int32} (hn : nar .char x = x') (hj : ¬ j < 0 ∧ j < n) (i : Nat) (hi : j.toNatClampNeg = i) (hl : i < vs.length) (hd : decode c.code pc = .ok (.castore, 1))
    (k : ∀ T' h', Stand p l e R s m args below meth c T' (locs ++ [⟨a, j.toNatClampNeg⟩]) cells slots → T'.heap = h' → Wr h h' a j.toNatClampNeg (.int x') → Arv Z h' a kA .char n (vs.set i (.int x')) dv → own_R p e below s Q ck sk T' (mkF m (pc + 1) Ls St)) : own_R p e below s Q ck sk T (mkF m pc Ls (.int x :: .int j :: .ref a :: St)) := by
  obtain ⟨cl, A, q1, S, N, H, G⟩ := V
  have hin := inb_of S hj
  obtain ⟨T', h', X', e', W, st⟩ := stC X hx hZ eT A hin (g := mkF m pc Ls (.int x :: .int j :: .ref a :: St)) rfl rfl hd
  subst hn
  exact own_lift st (k T' h' X' e' W (Arv.set A q1 S N H G (fits_nar_char _) W i hi hl))
theorem own_iastore (X : Stand p l e R s m args below meth c T locs cells slots) (hx : p.tables.exec = Jvm.exec) (hZ : Z.Warmed39 s.vm) (eT : T.heap = h) {a : Addr} {kA : ClassId} {n : Int32} {vs : List Value} {dv : Value} (V : Arv Z h a kA .int n vs dv) {pc : Nat} {Ls : Array Slot} {St : List Value} {j x x' : Int32} (hn : x = x') (hj : ¬ j < 0 ∧ j < n) (i : Nat) (hi : j.toNatClampNeg = i) (hl : i < vs.length) (hd : decode c.code pc = .ok (.iastore, 1))
    (k : ∀ T' h', Stand p l e R s m args below meth c T' (locs ++ [⟨a, j.toNatClampNeg⟩]) cells slots → T'.heap = h' → Wr h h' a j.toNatClampNeg (.int x') → Arv Z h' a kA .int n (vs.set i (.int x')) dv → own_R p e below s Q ck sk T' (mkF m (pc + 1) Ls St)) : own_R p e below s Q ck sk T (mkF m pc Ls (.int x :: .int j :: .ref a :: St)) := by
  obtain ⟨cl, A, q1, S, N, H, G⟩ := V
  have hin := inb_of S hj
  obtain ⟨T', h', X', e', W, st⟩ := stI X hx hZ eT A hin (g := mkF m pc Ls (.int x :: .int j :: .ref a :: St)) rfl rfl hd
  subst hn
  exact own_lift st (k T' h' X' e' W (Arv.set A q1 S N H G rfl W i hi hl))
theorem own_initO (X : Stand p l e R s m args below meth c T locs cells slots) (hx : p.tables.exec = Jvm.exec) (hZ : Z.Warmed39 s.vm) {own : String} {idx : Nat} (hown : s.vm.findClass own = some m.cls) (w1 : (Cond.methodLink own idx Lib.objectInit).before a0 Z = true) (w2 : (Cond.instanceMethod Lib.objectInit).before a0 Z = true)
    (w3 : (Cond.code Lib.objectInit ⟨#[0xb1]⟩ 1 none).before a0 Z = true) (eT : T.heap = h) {pc : Nat} {Ls : Array Slot} {St : List Value} {a : Addr} (hsize : Ls.size = c.maxLocals) (hd : decode c.code pc = .ok (.invokespecial idx, 3)) (hf : 1 ≤ R.frames) {W : Nat} (hW : (St.map fun v => v.category).sum ≤ W) (hl : W + 12 ≤ R.locals)
    (k : ∀ T', Stand p l e R s m args below meth c T' locs cells slots → T'.heap = h → own_R p e below s Q ck sk T' (mkF m (pc + 3) Ls St)) : own_R p e below s Q ck sk T (mkF m pc Ls (.ref a :: St)) := by
  obtain ⟨T', X', e', st⟩ := initO X hx hZ hown w1 w2 w3 eT (g := mkF m pc Ls (.ref a :: St)) rfl hsize rfl hd hf (W := W) (by show 2 * 0 + _ ≤ _; omega) hl
  exact own_lift st (k T' X' e')
/-! calls by contract -/
theorem own_callS (X : Stand p l e R s m args below meth c T locs cells slots) (hx : p.tables.exec = Jvm.exec) (hZ : Z.Warmed39 s.vm) {own : String} {index : Nat} {y : MethodName} {bytes : ByteArray} {maxL : Nat} {ret : Option FieldType} {rm : Room} {as' : Array Value} {Q' : Option Value → Heap → List Loc → Prop}
    (hown : s.vm.findClass own = some m.cls) (w1 : (Cond.methodLink own index y).before a0 Z = true) (w2 : (Cond.static y).before a0 Z = true) (w3 : (Cond.initialized y.cls).before a0 Z = true) (w4 : (Cond.code y bytes maxL ret).before a0 Z = true) (hy : y.cls ≠ "java/lang/invoke/MethodHandle" ∧ y.cls ≠ "java/lang/invoke/VarHandle")
    (hM : MetFree l y (head1 [Cond.code y bytes maxL ret] rm) (fun a U => a = as' ∧ Z.Warmed39 U.vm ∧ U.heap = h) (fun _ _ _ _ _ => True) (fun _ U o U' => ∃ v L, o = .returned v ∧ Q' v U'.heap L ∧ FrameEnd U o U' L rm.cells rm.slots))
    (W : Nat) (hf : rm.frames + 1 ≤ R.frames) (hl : W + (maxL + 11) + rm.locals ≤ R.locals) (eT : T.heap = h) {pc : Nat} {Ls : Array Slot} {St : List Value} (hsize : Ls.size = c.maxLocals) (argsL rest : List Value) (has : as' = argsL.toArray) (hlen : ∀ sig, parseMethodDescriptor y.desc = some sig → argsL.length = sig.parameters.length) (hst : St = argsL.reverse ++ rest) (hW : (rest.map fun v => v.category).sum ≤ W)
    (hd : decode c.code pc = .ok (.invokestatic index, 3)) (hc : cells + rm.cells ≤ R.cells) (hs : slots + rm.slots ≤ R.slots)
    (k : ∀ T' v L, Stand p l e R s m args below meth c T' (locs ++ L) (cells + rm.cells) (slots + rm.slots) → Q' v T'.heap L → own_R p e below s Q ck sk T' (mkF m (pc + 3) Ls (v.toList ++ rest))) : own_R p e below s Q ck sk T (mkF m pc Ls St) := by
  obtain ⟨v, _, ⟨T', L', k', n'⟩, -, X', ⟨Lc, hQ, l', y', z'⟩, st⟩ := Jvm.LawKit.callS X hx (y := y) hown (mvT hZ w1) (mvT hZ w2) (mvT hZ w3) (mvT hZ w4) hy (backOf (W := W) hM hZ w4 w3 hf hl) (g := mkF m pc Ls St) rfl hsize (argsL := argsL) (rest := rest) hlen hst (by show 2 * 0 + _ ≤ _; omega) hd (fun _ _ => ⟨has.symm, eT, hc, hs⟩)
  dsimp only [Pt.U, Pt.locs, Pt.cells, Pt.slots] at X' l' y' z' st hQ
  subst l' y' z'
  exact own_lift st (k T' v Lc X' hQ)
theorem own_callI (X : Stand p l e R s m args below meth c T locs cells slots) (hx : p.tables.exec = Jvm.exec) (hZ : Z.Warmed39 s.vm) {own : String} {index : Nat} {y : MethodName} {bytes : ByteArray} {maxL : Nat} {rm : Room} {as' : Array Value} {Q' : Option Value → Heap → List Loc → Prop} (hy1 : y.name = "<init>")
    (hown : s.vm.findClass own = some m.cls) (w1 : (Cond.methodLink own index y).before a0 Z = true) (w2 : (Cond.instanceMethod y).before a0 Z = true) (w3 : (Cond.initialized y.cls).before a0 Z = true) (w4 : (Cond.code y bytes maxL none).before a0 Z = true) (hy : y.cls ≠ "java/lang/invoke/MethodHandle" ∧ y.cls ≠ "java/lang/invoke/VarHandle")
    (hM : MetFree l y (head1 [Cond.code y bytes maxL none] rm) (fun a U => a = as' ∧ Z.Warmed39 U.vm ∧ U.heap = h) (fun _ _ _ _ _ => True) (fun _ U o U' => ∃ v L, o = .returned v ∧ Q' v U'.heap L ∧ FrameEnd U o U' L rm.cells rm.slots))
    (W : Nat) (hf : rm.frames + 1 ≤ R.frames) (hl : W + (maxL + 11) + rm.locals ≤ R.locals) (eT : T.heap = h) {pc : Nat} {Ls : Array Slot} {St : List Value} (hsize : Ls.size = c.maxLocals) (a : Addr) (argsL rest : List Value) (has : as' = (.ref a :: argsL).toArray) (hlen : ∀ sig, parseMethodDescriptor y.desc = some sig → argsL.length = sig.parameters.length) (hst : St = argsL.reverse ++ .ref a :: rest) (hW : (rest.map fun v => v.category).sum ≤ W)
    (hd : decode c.code pc = .ok (.invokespecial index, 3)) (hc : cells + rm.cells ≤ R.cells) (hs : slots + rm.slots ≤ R.slots)
    (k : ∀ T' v L, Stand p l e R s m args below meth c T' (locs ++ L) (cells + rm.cells) (slots + rm.slots) → Q' v T'.heap L → own_R p e below s Q ck sk T' (mkF m (pc + 3) Ls (v.toList ++ rest))) : own_R p e below s Q ck sk T (mkF m pc Ls St) := by
  obtain ⟨v, _, ⟨T', L', k', n'⟩, -, X', ⟨Lc, hQ, l', y', z'⟩, st⟩ := X.specialBack hx (y := y) hy1 hown (mvT hZ w1) (mvT hZ w2) (mvT hZ w4) hy (backOf (W := W) hM hZ w4 w3 hf hl) (g := mkF m pc Ls St) rfl hsize (Steps.refl _) (a := a) (argsL := argsL) (rest := rest) hlen hst (by show 2 * 0 + _ ≤ _; omega) hd (fun _ _ => ⟨has.symm, eT, hc, hs⟩)
  dsimp only [Pt.U, Pt.locs, Pt.cells, Pt.slots] at X' l' y' z' st hQ
  subst l' y' z'
  exact own_lift (fun _ q => st.trans q) (k T' v Lc X' hQ)
theorem own_callV (X : Stand p l e R s m args below meth c T locs cells slots) (hx : p.tables.exec = Jvm.exec) (hZ : Z.Warmed39 s.vm) {own C : String} {index : Nat} {y z : MethodName} {bytes : ByteArray} {maxL : Nat} {ret : Option FieldType} {rm : Room} {as' : Array Value} {Q' : Option Value → Heap → List Loc → Prop}
    (hown : s.vm.findClass own = some m.cls) (w1 : (Cond.methodLink own index y).before a0 Z = true) (w2 : (Cond.declares y).before a0 Z = true) (nf : NotFace s y) (w5 : (Cond.selects C y z).before a0 Z = true) (w6 : (Cond.instanceMethod z).before a0 Z = true) (w3 : (Cond.initialized z.cls).before a0 Z = true) (w4 : (Cond.code z bytes maxL ret).before a0 Z = true) (hy : y.cls ≠ "java/lang/invoke/MethodHandle" ∧ y.cls ≠ "java/lang/invoke/VarHandle")
    (hM : MetFree l z (head1 [Cond.code z bytes maxL ret] rm) (fun a U => a = as' ∧ Z.Warmed39 U.vm ∧ U.heap = h) (fun _ _ _ _ _ => True) (fun _ U o U' => ∃ v L, o = .returned v ∧ Q' v U'.heap L ∧ FrameEnd U o U' L rm.cells rm.slots))
    (W : Nat) (hf : rm.frames + 1 ≤ R.frames) (hl : W + (maxL + 11) + rm.locals ≤ R.locals) (eT : T.heap = h) {pc : Nat} {Ls : Array Slot} {St : List Value} (hsize : Ls.size = c.maxLocals) (a : Addr) (E : Exa Z h a C) (argsL rest : List Value) (has : as' = (.ref a :: argsL).toArray) (hlen : ∀ sig, parseMethodDescriptor y.desc = some sig → argsL.length = sig.parameters.length) (hst : St = argsL.reverse ++ .ref a :: rest) (hW : (rest.map fun v => v.category).sum ≤ W)
    (hd : decode c.code pc = .ok (.invokevirtual index, 3)) (hc : cells + rm.cells ≤ R.cells) (hs : slots + rm.slots ≤ R.slots)
    (k : ∀ T' v L, Stand p l e R s m args below meth c T' (locs ++ L) (cells + rm.cells) (slots + rm.slots) → Q' v T'.heap L → own_R p e below s Q ck sk T' (mkF m (pc + 3) Ls (v.toList ++ rest))) : own_R p e below s Q ck sk T (mkF m pc Ls St) := by
  obtain ⟨cq, kq, qa, qb, qc⟩ := isOf hZ eT E
  obtain ⟨v, _, ⟨T', L', k', n'⟩, -, X', ⟨Lc, hQ, l', y', z'⟩, st⟩ := X.virtualBack hx (y := y) (z := z) hown (mvT hZ w1) (mvT hZ w2) nf (mvT hZ w5) (mvT hZ w6) hy (backOf (W := W) hM hZ w4 w3 hf hl) qa qc (g := mkF m pc Ls St) rfl hsize (Steps.refl _) (argsL := argsL) (rest := rest) hlen hst (by show 2 * 0 + _ ≤ _; omega) hd (fun _ _ => ⟨has.symm, eT, hc, hs⟩)
  dsimp only [Pt.U, Pt.locs, Pt.cells, Pt.slots] at X' l' y' z' st hQ
  subst l' y' z'
  exact own_lift (fun _ q => st.trans q) (k T' v Lc X' hQ)
end OwnKit

theorem pl_4 (x : Int32) : (x &&& (3 : Int32)) = 0 ∨ (x &&& (3 : Int32)) = 1 ∨ (x &&& (3 : Int32)) = 2 ∨ (x &&& (3 : Int32)) = 3 := by
  have h := c_mask x (3 : Int32) 2 (by decide) (by decide)
  simp only [← Int32.toInt_inj, show (0 : Int32).toInt = 0 from by decide, show (1 : Int32).toInt = 1 from by decide, show (2 : Int32).toInt = 2 from by decide, show (3 : Int32).toInt = 3 from by decide]
  omega

theorem d1_0 : decode prog_4_method_1_code 0 = .ok (.aload_n 0, 1) := by decide +kernel
theorem d1_1 : decode prog_4_method_1_code 1 = .ok (.invokespecial 1, 3) := by decide +kernel
theorem d1_4 : decode prog_4_method_1_code 4 = .ok (.aload_n 1, 1) := by decide +kernel
theorem d1_5 : decode prog_4_method_1_code 5 = .ok (.invokevirtual 7, 3) := by decide +kernel
theorem d1_8 : decode prog_4_method_1_code 8 = .ok (.checkcast 8, 3) := by decide +kernel
theorem d1_11 : decode prog_4_method_1_code 11 = .ok (.astore_n 1, 1) := by decide +kernel
theorem d1_12 : decode prog_4_method_1_code 12 = .ok (.aload_n 0, 1) := by decide +kernel
theorem d1_13 : decode prog_4_method_1_code 13 = .ok (.aload_n 1, 1) := by decide +kernel
theorem d1_14 : decode prog_4_method_1_code 14 = .ok (.putfield 13, 3) := by decide +kernel
theorem d1_17 : decode prog_4_method_1_code 17 = .ok (.return_, 1) := by decide +kernel
theorem d2_0 : decode jdk_30_method_1_code 0 = .ok (.aload_n 0, 1) := by decide +kernel
theorem d2_1 : decode jdk_30_method_1_code 1 = .ok (.invokespecial 1, 3) := by decide +kernel
theorem d2_4 : decode jdk_30_method_1_code 4 = .ok (.return_, 1) := by decide +kernel
theorem d4_0 : decode prog_4_method_4_code 0 = .ok (.aload_n 0, 1) := by decide +kernel
theorem d4_1 : decode prog_4_method_4_code 1 = .ok (.getfield 13, 3) := by decide +kernel
theorem d4_4 : decode prog_4_method_4_code 4 = .ok (.arraylength, 1) := by decide +kernel
theorem d4_5 : decode prog_4_method_4_code 5 = .ok (.ifCond .ne 7, 3) := by decide +kernel
theorem d4_8 : decode prog_4_method_4_code 8 = .ok (.iconst 1, 1) := by decide +kernel
theorem d4_9 : decode prog_4_method_4_code 9 = .ok (.goto 4, 3) := by decide +kernel
theorem d4_12 : decode prog_4_method_4_code 12 = .ok (.iconst 0, 1) := by decide +kernel
theorem d4_13 : decode prog_4_method_4_code 13 = .ok (.ireturn, 1) := by decide +kernel
theorem pd_0 : parseMethodDescriptor "()V" = some ⟨[], none⟩ := by decide +kernel
theorem pd_1 : parseMethodDescriptor "([B)V" = some ⟨[(.array .byte)], none⟩ := by decide +kernel
theorem pd_2 : parseMethodDescriptor "()Z" = some ⟨[], some .boolean⟩ := by decide +kernel
theorem pn_2 : plainFor (⟨"java/lang/Record", "<init>", "()V"⟩ : MethodName) = true := by decide +kernel
theorem ef_2 (m : MethodId) (a1 : Addr) : entryFrame m #[(.ref a1)] 1 = mkF m 0 #[.val (.ref a1)] [] := by first | (simp [entryFrame, mkF, argsToLocals, Value.category]; done) | rfl
def Q2 (Z : State) (a1 : Addr) (h0 : Heap) (n0 : Nat) (v : Option Value) (h : Heap) (L : List Loc) : Prop := v = none ∧ Fr n0 L ∧ h = h0
set_option maxRecDepth 65536 in
set_option maxHeartbeats 40000000 in
theorem rm2 (l : Launch) (Z : State) (a0 : Array Value) (hw : ∀ d ∈ tables_1, d.before a0 Z = true) (ws : List Jvm.Cond) (a1 : Addr) (h0 : Heap) (n0 : Nat) (Z0 : n0 ≤ h0.size) :
    MetFree l (⟨"java/lang/Record", "<init>", "()V"⟩ : MethodName) (head1 (Jvm.Cond.code (⟨"java/lang/Record", "<init>", "()V"⟩ : MethodName) jdk_30_method_1_code 1 none :: ws) ({ frames := 1, cells := 0, slots := 0, locals := 12 } : Room)) (fun a U => a = #[(.ref a1)] ∧ Z.Warmed39 U.vm ∧ U.heap = h0) (fun _ _ _ _ _ => True) (fun _ U o U' => ∃ v L, o = .returned v ∧ Q2 Z a1 h0 n0 v U'.heap L ∧ FrameEnd U o U' L ({ frames := 1, cells := 0, slots := 0, locals := 12 } : Room).cells ({ frames := 1, cells := 0, slots := 0, locals := 12 } : Room).slots) := by
  refine MetFree.of_bodySF pn_2 hisR ?_
  intro p e s m args below meth c s₁ Bd hml0 hP hK
  obtain ⟨rfl, hZ, hh⟩ := hP
  have hx := Bd.exec
  have hby := Bd.bytes
  have hml : c.maxLocals = 1 := hml0
  have hown : s.vm.findClass "java/lang/Record" = some m.cls := findClass_of_methodNamed Bd.named
  have hnm := (name_of_methodNamed Bd.named Bd.method).1
  have hlk := BodyLoose.notSynchronized Bd
  have X0 : Stand p l e ({ frames := 1, cells := 0, slots := 0, locals := 12 } : Room) s m #[(.ref a1)] below meth c s₁ [] 0 0 := Stand.of_body Bd
  have e0 : s₁.heap = h0 := by rw [← hh, Bd.state]; rfl
  have N0 := Fr.nil n0
  show own_R p e below s (Q2 Z a1 h0 n0) ({ frames := 1, cells := 0, slots := 0, locals := 12 } : Room).cells ({ frames := 1, cells := 0, slots := 0, locals := 12 } : Room).slots s₁ (entryFrame m #[(.ref a1)] 1)
  refine own_cast (ef_2 m a1) ?_
  show own_R p e below s _ _ _ s₁ (mkF m 0 #[.val (.ref a1)] [])
  have K0 := Keep.refl h0 ([] : List Addr)
  refine own_aloadN X0 hx (hb hby d2_0) rfl rfl ?_
  show own_R p e below s _ _ _ s₁ (mkF m 1 #[.val (.ref a1)] [(.ref a1)])
  refine own_initO X0 hx hZ hown (hw _ (List.mem_of_getElem? (i := 12) rfl)) (hw _ (List.mem_of_getElem? (i := 13) rfl)) (hw _ (List.mem_of_getElem? (i := 14) rfl)) e0 (by rw [hml]; rfl) (hb hby d2_1) (by decide) (W := 0) (Nat.le_of_eq rfl) (by decide) ?_
  intro T1 X1 e1
  show own_R p e below s _ _ _ T1 (mkF m 4 #[.val (.ref a1)] [])
  refine own_ret0 X1 hx Bd.returns hlk (hb hby d2_4) ?_ (by decide) (by decide)
  exact ⟨rfl, N0, e1⟩
theorem pn_1 : plainFor (⟨"com/example/fach/fach/model/AttributeValue$BinaryValue", "<init>", "([B)V"⟩ : MethodName) = true := by decide +kernel
theorem ef_1 (m : MethodId) (a1 : Addr) (a2 : Addr) : entryFrame m #[(.ref a1), (.ref a2)] 2 = mkF m 0 #[.val (.ref a1), .val (.ref a2)] [] := by first | (simp [entryFrame, mkF, argsToLocals, Value.category]; done) | rfl
def Q1 (Z : State) (a1 : Addr) (a2 : Addr) (k2 : ClassId) (z : Int32) (vs : List Value) (dv : Value) (h0 : Heap) (n0 : Nat) (v : Option Value) (h : Heap) (L : List Loc) : Prop := v = none ∧ Fr n0 L ∧ Keep h0 h [a1] ∧ Exa Z h a1 "com/example/fach/fach/model/AttributeValue$BinaryValue" ∧ ∃ b, Fld Z h a1 "com/example/fach/fach/model/AttributeValue$BinaryValue" "bytes" "[B" (.ref b) ∧ Arv Z h b k2 .byte z vs dv ∧ n0 ≤ b
set_option maxRecDepth 65536 in
set_option maxHeartbeats 40000000 in
theorem rm1 (l : Launch) (Z : State) (a0 : Array Value) (hw : ∀ d ∈ tables_1, d.before a0 Z = true) (ws : List Jvm.Cond) (a1 : Addr) (a2 : Addr) (k2 : ClassId) (z : Int32) (vs : List Value) (dv : Value) (h0 : Heap) (n0 : Nat) (Z0 : n0 ≤ h0.size) (hE : Exa Z h0 a1 "com/example/fach/fach/model/AttributeValue$BinaryValue") (hF : Fld Z h0 a1 "com/example/fach/fach/model/AttributeValue$BinaryValue" "bytes" "[B" .null) (hV : Arv Z h0 a2 k2 .byte z vs dv) (hA : Exa Z h0 a2 "[B") (hne : a1 ≠ a2) (hn0 : n0 ≤ a1) (hcap : z.toNatClampNeg ≤ 3) :
    MetFree l (⟨"com/example/fach/fach/model/AttributeValue$BinaryValue", "<init>", "([B)V"⟩ : MethodName) (head1 (Jvm.Cond.code (⟨"com/example/fach/fach/model/AttributeValue$BinaryValue", "<init>", "([B)V"⟩ : MethodName) prog_4_method_1_code 2 none :: ws) ({ frames := 2, cells := 1, slots := 3, locals := 25 } : Room)) (fun a U => a = #[(.ref a1), (.ref a2)] ∧ Z.Warmed39 U.vm ∧ U.heap = h0) (fun _ _ _ _ _ => True) (fun _ U o U' => ∃ v L, o = .returned v ∧ Q1 Z a1 a2 k2 z vs dv h0 n0 v U'.heap L ∧ FrameEnd U o U' L ({ frames := 2, cells := 1, slots := 3, locals := 25 } : Room).cells ({ frames := 2, cells := 1, slots := 3, locals := 25 } : Room).slots) := by
  refine MetFree.of_bodySF pn_1 hisR ?_
  intro p e s m args below meth c s₁ Bd hml0 hP hK
  obtain ⟨rfl, hZ, hh⟩ := hP
  have hx := Bd.exec
  have hby := Bd.bytes
  have hml : c.maxLocals = 2 := hml0
  have hown : s.vm.findClass "com/example/fach/fach/model/AttributeValue$BinaryValue" = some m.cls := findClass_of_methodNamed Bd.named
  have hnm := (name_of_methodNamed Bd.named Bd.method).1
  have hlk := BodyLoose.notSynchronized Bd
  have X0 : Stand p l e ({ frames := 2, cells := 1, slots := 3, locals := 25 } : Room) s m #[(.ref a1), (.ref a2)] below meth c s₁ [] 0 0 := Stand.of_body Bd
  have e0 : s₁.heap = h0 := by rw [← hh, Bd.state]; rfl
  have N0 := Fr.nil n0
  show own_R p e below s (Q1 Z a1 a2 k2 z vs dv h0 n0) ({ frames := 2, cells := 1, slots := 3, locals := 25 } : Room).cells ({ frames := 2, cells := 1, slots := 3, locals := 25 } : Room).slots s₁ (entryFrame m #[(.ref a1), (.ref a2)] 2)
  refine own_cast (ef_1 m a1 a2) ?_
  show own_R p e below s _ _ _ s₁ (mkF m 0 #[.val (.ref a1), .val (.ref a2)] [])
  have K0 := Keep.refl h0 ([a1] : List Addr)
  have n0_a1 := hn0
  refine own_aloadN X0 hx (hb hby d1_0) rfl rfl ?_
  show own_R p e below s _ _ _ s₁ (mkF m 1 #[.val (.ref a1), .val (.ref a2)] [(.ref a1)])
  refine own_callI X0 hx hZ (y := (⟨"java/lang/Record", "<init>", "()V"⟩ : MethodName)) rfl hown (hw _ (List.mem_of_getElem? (i := 7) rfl)) (hw _ (List.mem_of_getElem? (i := 8) rfl)) (hw _ (List.mem_of_getElem? (i := 10) rfl)) (hw _ (List.mem_of_getElem? (i := 11) rfl)) (by decide) (rm2 l Z a0 hw [] a1 h0 n0 Z0) 0 (by decide) (by decide) e0 (by rw [hml]; rfl) a1 [] [] rfl (lenOf pd_0 rfl) rfl (Nat.le_of_eq rfl) (hb hby d1_1) (by decide) (by decide) ?_
  rintro T2 _ L2 X2 ⟨rfl, N2q, e2⟩
  have N2 := Fr.app N0 N2q
  show own_R p e below s _ _ _ T2 (mkF m 4 #[.val (.ref a1), .val (.ref a2)] [])
  refine own_aloadN X2 hx (hb hby d1_4) rfl rfl ?_
  show own_R p e below s _ _ _ T2 (mkF m 5 #[.val (.ref a1), .val (.ref a2)] [(.ref a2)])
  obtain ⟨T3, h3, X3, e3, E3, V3, A3, st3⟩ := cloneH X2 hx hZ hown (hw _ (List.mem_of_getElem? (i := 15) rfl)) (hw _ (List.mem_of_getElem? (i := 16) rfl)) (hw _ (List.mem_of_getElem? (i := 20) rfl)) (hw _ (List.mem_of_getElem? (i := 18) rfl)) (hw _ (List.mem_of_getElem? (i := 19) rfl)) (hw _ (List.mem_of_getElem? (i := 21) rfl)) e2 hV.arh hA (g := (mkF m 5 #[.val (.ref a1), .val (.ref a2)] [(.ref a2)])) rfl (by rw [hml]; rfl) rfl (hb hby d1_5) (by decide) (W := 0) (cap := 3) (Nat.le_of_eq rfl) (by decide) hcap (by decide) (by decide)
  refine own_lift st3 ?_
  obtain ⟨b3, g3⟩ : ∃ z, z = h0.size := ⟨_, rfl⟩
  rw [← g3] at V3 A3 ⊢
  have ne_a1_b3 : a1 ≠ b3 := Nat.ne_of_lt (Nat.lt_of_lt_of_le hE.lt (Nat.le_of_eq g3.symm))
  have ne_a2_b3 : a2 ≠ b3 := Nat.ne_of_lt (Nat.lt_of_lt_of_le hV.lt (Nat.le_of_eq g3.symm))
  have sz_b3 : h0.size ≤ b3 := Nat.le_trans K0.1 (Nat.le_of_eq g3.symm)
  have n0_b3 : n0 ≤ b3 := Nat.le_trans Z0 sz_b3
  have K3 := K0.ext E3
  have V_b3 : Arv Z h3 b3 k2 .byte z vs dv := V3
  show own_R p e below s _ _ _ T3 (mkF m 8 #[.val (.ref a1), .val (.ref a2)] [(.ref b3)])
  obtain ⟨T4, X4, e4, st4⟩ := castY X3 hx hZ hown (hw _ (List.mem_of_getElem? (i := 22) rfl)) e3 (Ins.self A3) (g := (mkF m 8 #[.val (.ref a1), .val (.ref a2)] [(.ref b3)])) rfl rfl (hb hby d1_8)
  refine own_lift st4 ?_
  show own_R p e below s _ _ _ T4 (mkF m 11 #[.val (.ref a1), .val (.ref a2)] [(.ref b3)])
  refine own_astoreN X4 hx (hb hby d1_11) rfl (l' := #[.val (.ref a1), .val (.ref b3)]) rfl ?_
  show own_R p e below s _ _ _ T4 (mkF m 12 #[.val (.ref a1), .val (.ref b3)] [])
  refine own_aloadN X4 hx (hb hby d1_12) rfl rfl ?_
  show own_R p e below s _ _ _ T4 (mkF m 13 #[.val (.ref a1), .val (.ref b3)] [(.ref a1)])
  refine own_aloadN X4 hx (hb hby d1_13) rfl rfl ?_
  show own_R p e below s _ _ _ T4 (mkF m 14 #[.val (.ref a1), .val (.ref b3)] [(.ref b3), (.ref a1)])
  have f5 := (Fld.ext E3 hF)
  have f6 := (Exa.ext E3 hE)
  refine own_putF X4 hx hZ hown (host := "") (Or.inl (hw _ (List.mem_of_getElem? (i := 24) rfl))) Via.refl e4 f5 f6 (Or.inr ⟨(hw _ (List.mem_of_getElem? (i := 25) rfl)), rfl, hnm⟩) (hw _ (List.mem_of_getElem? (i := 2) rfl)) (ty := (.array .byte)) (by decide) rfl rfl (hb hby d1_14) ?_
  intro T7 h7 X7 e7 W7
  have K7 := K3.wr W7 (Or.inl (List.mem_of_getElem? (i := 0) rfl))
  have N7 := Fr.snoc X7 N2 n0_a1
  have Fw7 := Fld.same W7 f5
  show own_R p e below s _ _ _ T7 (mkF m 17 #[.val (.ref a1), .val (.ref b3)] [])
  have f8 := (Exa.wr W7 f6)
  have f9 := (V_b3.other W7 (Ne.symm ne_a1_b3))
  refine own_ret0 X7 hx Bd.returns hlk (hb hby d1_17) ?_ (by decide) (by decide)
  rw [e7]
  exact ⟨rfl, N7, K7, f8, _, Fw7, f9, n0_b3⟩
def pl_e (z : Int32) : Int32 := (if z = (0 : Int32) then (1 : Int32) else (0 : Int32))
theorem pn_4 : plainFor (⟨"com/example/fach/fach/model/AttributeValue$BinaryValue", "isEmpty", "()Z"⟩ : MethodName) = true := by decide +kernel
theorem ef_4 (m : MethodId) (a1 : Addr) : entryFrame m #[(.ref a1)] 1 = mkF m 0 #[.val (.ref a1)] [] := by first | (simp [entryFrame, mkF, argsToLocals, Value.category]; done) | rfl
def Q4 (Z : State) (a1 : Addr) (b : Addr) (k2 : ClassId) (z : Int32) (vs : List Value) (dv : Value) (h0 : Heap) (n0 : Nat) (v : Option Value) (h : Heap) (L : List Loc) : Prop := v = some (.int (pl_e z)) ∧ Fr n0 L ∧ h = h0
set_option maxRecDepth 65536 in
set_option maxHeartbeats 40000000 in
theorem rm4 (l : Launch) (Z : State) (a0 : Array Value) (hw : ∀ d ∈ tables_1, d.before a0 Z = true) (ws : List Jvm.Cond) (a1 : Addr) (b : Addr) (k2 : ClassId) (z : Int32) (vs : List Value) (dv : Value) (h0 : Heap) (n0 : Nat) (Z0 : n0 ≤ h0.size) (hF : Fld Z h0 a1 "com/example/fach/fach/model/AttributeValue$BinaryValue" "bytes" "[B" (.ref b)) (hV : Arv Z h0 b k2 .byte z vs dv) :
    MetFree l (⟨"com/example/fach/fach/model/AttributeValue$BinaryValue", "isEmpty", "()Z"⟩ : MethodName) (head1 (Jvm.Cond.code (⟨"com/example/fach/fach/model/AttributeValue$BinaryValue", "isEmpty", "()Z"⟩ : MethodName) prog_4_method_4_code 1 (some .boolean) :: ws) ({ frames := 0, cells := 0, slots := 0, locals := 0 } : Room)) (fun a U => a = #[(.ref a1)] ∧ Z.Warmed39 U.vm ∧ U.heap = h0) (fun _ _ _ _ _ => True) (fun _ U o U' => ∃ v L, o = .returned v ∧ Q4 Z a1 b k2 z vs dv h0 n0 v U'.heap L ∧ FrameEnd U o U' L ({ frames := 0, cells := 0, slots := 0, locals := 0 } : Room).cells ({ frames := 0, cells := 0, slots := 0, locals := 0 } : Room).slots) := by
  refine MetFree.of_bodySF pn_4 hisR ?_
  intro p e s m args below meth c s₁ Bd hml0 hP hK
  obtain ⟨rfl, hZ, hh⟩ := hP
  have hx := Bd.exec
  have hby := Bd.bytes
  have hml : c.maxLocals = 1 := hml0
  have hown : s.vm.findClass "com/example/fach/fach/model/AttributeValue$BinaryValue" = some m.cls := findClass_of_methodNamed Bd.named
  have hnm := (name_of_methodNamed Bd.named Bd.method).1
  have hlk := BodyLoose.notSynchronized Bd
  have X0 : Stand p l e ({ frames := 0, cells := 0, slots := 0, locals := 0 } : Room) s m #[(.ref a1)] below meth c s₁ [] 0 0 := Stand.of_body Bd
  have e0 : s₁.heap = h0 := by rw [← hh, Bd.state]; rfl
  have N0 := Fr.nil n0
  show own_R p e below s (Q4 Z a1 b k2 z vs dv h0 n0) ({ frames := 0, cells := 0, slots := 0, locals := 0 } : Room).cells ({ frames := 0, cells := 0, slots := 0, locals := 0 } : Room).slots s₁ (entryFrame m #[(.ref a1)] 1)
  refine own_cast (ef_4 m a1) ?_
  show own_R p e below s _ _ _ s₁ (mkF m 0 #[.val (.ref a1)] [])
  have K0 := Keep.refl h0 ([] : List Addr)
  refine own_aloadN X0 hx (hb hby d4_0) rfl rfl ?_
  show own_R p e below s _ _ _ s₁ (mkF m 1 #[.val (.ref a1)] [(.ref a1)])
  refine own_getF X0 hx hZ hown (host := "") (Or.inl (hw _ (List.mem_of_getElem? (i := 24) rfl))) Via.refl e0 hF (hb hby d4_1) ?_
  intro T10 X10 e10
  show own_R p e below s _ _ _ T10 (mkF m 4 #[.val (.ref a1)] [(.ref b)])
  refine own_len X10 hx hZ e10 hV (hb hby d4_4) ?_
  show own_R p e below s _ _ _ T10 (mkF m 5 #[.val (.ref a1)] [(.int z)])
  refine own_if X10 hx (hb hby d4_5) (pc' := 12) (by decide) (by decide) (fun hc => ?_) (fun hc => ?_)
  · have hc5 : ¬ z = (0 : Int32) := own_ne1 hc
    clear hc
    show own_R p e below s _ _ _ T10 (mkF m 12 #[.val (.ref a1)] [])
    refine own_iconst X10 hx (0 : Int32) (hb hby d4_12) rfl ?_
    show own_R p e below s _ _ _ T10 (mkF m 13 #[.val (.ref a1)] [(.int (0 : Int32))])
    refine own_retN X10 hx (t := .boolean) Bd.returns (by simp) hlk (hb hby d4_13) ?_ (by decide) (by decide)
    refine ⟨?_, N0, e10⟩
    show some (Value.int _) = some (Value.int (pl_e z))
    rw [pl_e, if_neg hc5] <;> first | rfl | decide
  · have hc5 : z = (0 : Int32) := own_ne0 hc
    clear hc
    show own_R p e below s _ _ _ T10 (mkF m 8 #[.val (.ref a1)] [])
    refine own_iconst X10 hx (1 : Int32) (hb hby d4_8) rfl ?_
    show own_R p e below s _ _ _ T10 (mkF m 9 #[.val (.ref a1)] [(.int (1 : Int32))])
    refine own_goto X10 hx (hb hby d4_9) (pc' := 13) (by decide) (by decide) ?_
    show own_R p e below s _ _ _ T10 (mkF m 13 #[.val (.ref a1)] [(.int (1 : Int32))])
    refine own_retN X10 hx (t := .boolean) Bd.returns (by simp) hlk (hb hby d4_13) ?_ (by decide) (by decide)
    refine ⟨?_, N0, e10⟩
    show some (Value.int _) = some (Value.int (pl_e z))
    rw [pl_e, if_pos hc5] <;> first | rfl | decide
theorem pn_0 : plainFor (⟨"com/example/fach/fach/model/BinaryValueIsEmptyPinLaw", "law", "(II)Z"⟩ : MethodName) = true := by decide +kernel
theorem ef_0 (m : MethodId) (p0 : Int32) (p1 : Int32) : entryFrame m #[(.int p0), (.int p1)] maxLocals = mkF m 0 #[.val (.int p0), .val (.int p1), .unset, .unset, .unset] [] := by first | (simp [entryFrame, mkF, argsToLocals, Value.category, maxLocals]; done) | rfl
def Q0 (Z : State) (p0 : Int32) (p1 : Int32) (h0 : Heap) (n0 : Nat) (v : Option Value) (h : Heap) (L : List Loc) : Prop := v = some (.int 1) ∧ Fr n0 L
set_option maxRecDepth 65536 in
set_option maxHeartbeats 40000000 in
theorem rm0 (l : Launch) (Z : State) (a0 : Array Value) (hw : ∀ d ∈ tables_1, d.before a0 Z = true) (ws : List Jvm.Cond) (p0 : Int32) (p1 : Int32) (h0 : Heap) (n0 : Nat) (Z0 : n0 ≤ h0.size) :
    MetFree l x (head1 (Jvm.Cond.code x code maxLocals ret :: ws) room_1) (fun a U => a = #[(.int p0), (.int p1)] ∧ Z.Warmed39 U.vm ∧ U.heap = h0) (fun _ _ _ _ _ => True) (fun _ U o U' => ∃ v L, o = .returned v ∧ Q0 Z p0 p1 h0 n0 v U'.heap L ∧ FrameEnd U o U' L room_1.cells room_1.slots) := by
  refine MetFree.of_bodySF pn_0 hisR ?_
  intro p e s m args below meth c s₁ Bd hml0 hP hK
  obtain ⟨rfl, hZ, hh⟩ := hP
  have hx := Bd.exec
  have hby := Bd.bytes
  have hml : c.maxLocals = 5 := hml0
  have hown : s.vm.findClass "com/example/fach/fach/model/BinaryValueIsEmptyPinLaw" = some m.cls := findClass_of_methodNamed Bd.named
  have hnm := (name_of_methodNamed Bd.named Bd.method).1
  have hlk := BodyLoose.notSynchronized Bd
  have X0 : Stand p l e room_1 s m #[(.int p0), (.int p1)] below meth c s₁ [] 0 0 := Stand.of_body Bd
  have e0 : s₁.heap = h0 := by rw [← hh, Bd.state]; rfl
  have N0 := Fr.nil n0
  show own_R p e below s (Q0 Z p0 p1 h0 n0) room_1.cells room_1.slots s₁ (entryFrame m #[(.int p0), (.int p1)] maxLocals)
  refine own_cast (ef_0 m p0 p1) ?_
  show own_R p e below s _ _ _ s₁ (mkF m 0 #[.val (.int p0), .val (.int p1), .unset, .unset, .unset] [])
  refine own_iloadN X0 hx (hb hby at_0) rfl ?_
  show own_R p e below s _ _ _ s₁ (mkF m 1 #[.val (.int p0), .val (.int p1), .unset, .unset, .unset] [(.int p0)])
  refine own_iconst X0 hx (3 : Int32) (hb hby at_1) rfl ?_
  show own_R p e below s _ _ _ s₁ (mkF m 2 #[.val (.int p0), .val (.int p1), .unset, .unset, .unset] [(.int (3 : Int32)), (.int p0)])
  refine own_iand X0 hx (hb hby at_2) ?_
  show own_R p e below s _ _ _ s₁ (mkF m 3 #[.val (.int p0), .val (.int p1), .unset, .unset, .unset] [(.int (p0 &&& (3 : Int32)))])
  refine own_istoreN X0 hx (hb hby at_3) (l' := #[.val (.int p0), .val (.int p1), .val (.int (p0 &&& (3 : Int32))), .unset, .unset]) rfl ?_
  show own_R p e below s _ _ _ s₁ (mkF m 4 #[.val (.int p0), .val (.int p1), .val (.int (p0 &&& (3 : Int32))), .unset, .unset] [])
  obtain ⟨n, hn, hn4⟩ : ∃ z : Int32, z = (p0 &&& (3 : Int32)) ∧ (z = 0 ∨ z = 1 ∨ z = 2 ∨ z = 3) := ⟨_, rfl, pl_4 _⟩
  rw [← hn]
  show own_R p e below s _ _ _ s₁ (mkF m 4 #[.val (.int p0), .val (.int p1), .val (.int n), .unset, .unset] [])
  rcases hn4 with rfl | rfl | rfl | rfl
  ·
    show own_R p e below s _ _ _ s₁ (mkF m 4 #[.val (.int p0), .val (.int p1), .val (.int (0 : Int32)), .unset, .unset] [])
    have K0 := Keep.refl h0 ([] : List Addr)
    refine own_iloadN X0 hx (hb hby at_4) rfl ?_
    show own_R p e below s _ _ _ s₁ (mkF m 5 #[.val (.int p0), .val (.int p1), .val (.int (0 : Int32)), .unset, .unset] [(.int (0 : Int32))])
    refine own_newA X0 hx hZ (hw _ (List.mem_of_getElem? (i := 0) rfl)) e0 (hb hby at_5) (by decide) 0 (by decide) (by decide) (by decide) (by decide) (ad := "[B") (by decide) 0 ?_
    intro T11 h11 b11 k11 g11 X11 e11 E11 V11 A11
    have sz_b11 : h0.size ≤ b11 := Nat.le_trans K0.1 (Nat.le_of_eq g11.symm)
    have n0_b11 : n0 ≤ b11 := Nat.le_trans Z0 sz_b11
    have K11 := K0.ext E11
    have V_b11 : Arv Z h11 b11 k11 .byte (0 : Int32) [] (.int (0 : Int32)) := V11
    show own_R p e below s _ _ _ T11 (mkF m 7 #[.val (.int p0), .val (.int p1), .val (.int (0 : Int32)), .unset, .unset] [(.ref b11)])
    refine own_astoreN X11 hx (hb hby at_7) rfl (l' := #[.val (.int p0), .val (.int p1), .val (.int (0 : Int32)), .val (.ref b11), .unset]) rfl ?_
    show own_R p e below s _ _ _ T11 (mkF m 8 #[.val (.int p0), .val (.int p1), .val (.int (0 : Int32)), .val (.ref b11), .unset] [])
    refine own_iloadN X11 hx (hb hby at_8) rfl ?_
    show own_R p e below s _ _ _ T11 (mkF m 9 #[.val (.int p0), .val (.int p1), .val (.int (0 : Int32)), .val (.ref b11), .unset] [(.int (0 : Int32))])
    refine own_if X11 hx (hb hby at_9) (pc' := 17) (by decide) (by decide) (fun hc => ?_) (fun hc => ?_)
    · have hc9 : ¬ (0 : Int32) < (0 : Int32) := own_le1 hc
      clear hc
      show own_R p e below s _ _ _ T11 (mkF m 17 #[.val (.int p0), .val (.int p1), .val (.int (0 : Int32)), .val (.ref b11), .unset] [])
      refine own_iloadN X11 hx (hb hby at_17) rfl ?_
      show own_R p e below s _ _ _ T11 (mkF m 18 #[.val (.int p0), .val (.int p1), .val (.int (0 : Int32)), .val (.ref b11), .unset] [(.int (0 : Int32))])
      refine own_iconst X11 hx (1 : Int32) (hb hby at_18) rfl ?_
      show own_R p e below s _ _ _ T11 (mkF m 19 #[.val (.int p0), .val (.int p1), .val (.int (0 : Int32)), .val (.ref b11), .unset] [(.int (1 : Int32)), (.int (0 : Int32))])
      refine own_icmp X11 hx (hb hby at_19) (pc' := 30) (by decide) (by decide) (fun hc => ?_) (fun hc => ?_)
      · have hc19 : ¬ (1 : Int32) < (0 : Int32) := own_le1 hc
        clear hc
        show own_R p e below s _ _ _ T11 (mkF m 30 #[.val (.int p0), .val (.int p1), .val (.int (0 : Int32)), .val (.ref b11), .unset] [])
        refine own_iloadN X11 hx (hb hby at_30) rfl ?_
        show own_R p e below s _ _ _ T11 (mkF m 31 #[.val (.int p0), .val (.int p1), .val (.int (0 : Int32)), .val (.ref b11), .unset] [(.int (0 : Int32))])
        refine own_iconst X11 hx (2 : Int32) (hb hby at_31) rfl ?_
        show own_R p e below s _ _ _ T11 (mkF m 32 #[.val (.int p0), .val (.int p1), .val (.int (0 : Int32)), .val (.ref b11), .unset] [(.int (2 : Int32)), (.int (0 : Int32))])
        refine own_icmp X11 hx (hb hby at_32) (pc' := 43) (by decide) (by decide) (fun hc => ?_) (fun hc => ?_)
        · have hc32 : ¬ (2 : Int32) < (0 : Int32) := own_le1 hc
          clear hc
          show own_R p e below s _ _ _ T11 (mkF m 43 #[.val (.int p0), .val (.int p1), .val (.int (0 : Int32)), .val (.ref b11), .unset] [])
          refine own_new X11 hx hZ hown (hw _ (List.mem_of_getElem? (i := 1) rfl)) (hw _ (List.mem_of_getElem? (i := 2) rfl)) (hw _ (List.mem_of_getElem? (i := 3) rfl)) e11 (hb hby at_43) (by decide) (by decide) ?_
          intro T12 h12 b12 g12 X12 e12 E12 A12 D12
          have ne_b11_b12 : b11 ≠ b12 := Nat.ne_of_lt (Nat.lt_of_lt_of_le V_b11.lt (Nat.le_of_eq g12.symm))
          have sz_b12 : h0.size ≤ b12 := Nat.le_trans K11.1 (Nat.le_of_eq g12.symm)
          have n0_b12 : n0 ≤ b12 := Nat.le_trans Z0 sz_b12
          have K12 := K11.ext E12
          have F_bytes_b12 : Fld Z h12 b12 "com/example/fach/fach/model/AttributeValue$BinaryValue" "bytes" "[B" .null := D12 (Or.inr (hw _ (List.mem_of_getElem? (i := 25) rfl))) (ty := (.array .byte)) (by decide)
          show own_R p e below s _ _ _ T12 (mkF m 46 #[.val (.int p0), .val (.int p1), .val (.int (0 : Int32)), .val (.ref b11), .unset] [(.ref b12)])
          refine own_dup X12 hx (hb hby at_46) rfl ?_
          show own_R p e below s _ _ _ T12 (mkF m 47 #[.val (.int p0), .val (.int p1), .val (.int (0 : Int32)), .val (.ref b11), .unset] [(.ref b12), (.ref b12)])
          refine own_aloadN X12 hx (hb hby at_47) rfl rfl ?_
          show own_R p e below s _ _ _ T12 (mkF m 48 #[.val (.int p0), .val (.int p1), .val (.int (0 : Int32)), .val (.ref b11), .unset] [(.ref b11), (.ref b12), (.ref b12)])
          have f13 := (V_b11.ext E12)
          have f14 := (Exa.ext E12 A11)
          refine own_callI X12 hx hZ (y := (⟨"com/example/fach/fach/model/AttributeValue$BinaryValue", "<init>", "([B)V"⟩ : MethodName)) rfl hown (hw _ (List.mem_of_getElem? (i := 4) rfl)) (hw _ (List.mem_of_getElem? (i := 5) rfl)) (hw _ (List.mem_of_getElem? (i := 3) rfl)) (hw _ (List.mem_of_getElem? (i := 6) rfl)) (by decide) (rm1 l Z a0 hw [] b12 b11 k11 (0 : Int32) [] (.int (0 : Int32)) h12 n0 (Nat.le_trans Z0 K12.1) A12 F_bytes_b12 f13 f14 (Ne.symm ne_b11_b12) n0_b12 (by decide)) 1 (by decide) (by decide) e12 (by rw [hml]; rfl) b12 [(.ref b11)] [(.ref b12)] rfl (lenOf pd_1 rfl) rfl (Nat.le_of_eq rfl) (hb hby at_48) (by decide) (by decide) ?_
          rintro T15 _ L15 X15 ⟨rfl, N15q, Kc15, Ec15, d15, Fc15, Vc15, n15⟩
          have N15 := Fr.app N0 N15q
          have K15 := K12.trans Kc15 (allS (P := fun x => x ∈ ([] : List Addr) ∨ h0.size ≤ x) (Or.inr sz_b12) all0)
          show own_R p e below s _ _ _ T15 (mkF m 51 #[.val (.int p0), .val (.int p1), .val (.int (0 : Int32)), .val (.ref b11), .unset] [(.ref b12)])
          refine own_astore X15 hx (hb hby at_51) rfl (l' := #[.val (.int p0), .val (.int p1), .val (.int (0 : Int32)), .val (.ref b11), .val (.ref b12)]) rfl ?_
          show own_R p e below s _ _ _ T15 (mkF m 53 #[.val (.int p0), .val (.int p1), .val (.int (0 : Int32)), .val (.ref b11), .val (.ref b12)] [])
          refine own_aload X15 hx (hb hby at_53) rfl rfl ?_
          show own_R p e below s _ _ _ T15 (mkF m 55 #[.val (.int p0), .val (.int p1), .val (.int (0 : Int32)), .val (.ref b11), .val (.ref b12)] [(.ref b12)])
          refine own_callV X15 hx hZ (y := (⟨"com/example/fach/fach/model/AttributeValue$BinaryValue", "isEmpty", "()Z"⟩ : MethodName)) (z := (⟨"com/example/fach/fach/model/AttributeValue$BinaryValue", "isEmpty", "()Z"⟩ : MethodName)) hown (hw _ (List.mem_of_getElem? (i := 26) rfl)) (hw _ (List.mem_of_getElem? (i := 27) rfl)) (notFace_of_selects (args := #[]) (mvT hZ (hw _ (List.mem_of_getElem? (i := 29) rfl)))) (hw _ (List.mem_of_getElem? (i := 29) rfl)) (hw _ (List.mem_of_getElem? (i := 28) rfl)) (hw _ (List.mem_of_getElem? (i := 3) rfl)) (hw _ (List.mem_of_getElem? (i := 30) rfl)) (by decide) (rm4 l Z a0 hw [] b12 d15 k11 (0 : Int32) [] (.int (0 : Int32)) T15.heap n0 (Nat.le_trans Z0 K15.1) Fc15 Vc15) 0 (by decide) (by decide) rfl (by rw [hml]; rfl) b12 Ec15 [] [] rfl (lenOf pd_2 rfl) rfl (Nat.le_of_eq rfl) (hb hby at_55) (by decide) (by decide) ?_
          rintro T16 _ L16 X16 ⟨rfl, N16q, e16⟩
          have N16 := Fr.app N15 N16q
          show own_R p e below s _ _ _ T16 (mkF m 58 #[.val (.int p0), .val (.int p1), .val (.int (0 : Int32)), .val (.ref b11), .val (.ref b12)] [(.int (pl_e (0 : Int32)))])
          refine own_iloadN X16 hx (hb hby at_58) rfl ?_
          show own_R p e below s _ _ _ T16 (mkF m 59 #[.val (.int p0), .val (.int p1), .val (.int (0 : Int32)), .val (.ref b11), .val (.ref b12)] [(.int (0 : Int32)), (.int (pl_e (0 : Int32)))])
          refine own_if X16 hx (hb hby at_59) (pc' := 66) (by decide) (by decide) (fun hc => ?_) (fun hc => ?_)
          · have hc59 : ¬ (0 : Int32) = (0 : Int32) := own_ne1 hc
            exact absurd (by decide) hc59
          · have hc59 : (0 : Int32) = (0 : Int32) := own_ne0 hc
            clear hc
            show own_R p e below s _ _ _ T16 (mkF m 62 #[.val (.int p0), .val (.int p1), .val (.int (0 : Int32)), .val (.ref b11), .val (.ref b12)] [(.int (pl_e (0 : Int32)))])
            refine own_iconst X16 hx (1 : Int32) (hb hby at_62) rfl ?_
            show own_R p e below s _ _ _ T16 (mkF m 63 #[.val (.int p0), .val (.int p1), .val (.int (0 : Int32)), .val (.ref b11), .val (.ref b12)] [(.int (1 : Int32)), (.int (pl_e (0 : Int32)))])
            refine own_goto X16 hx (hb hby at_63) (pc' := 67) (by decide) (by decide) ?_
            show own_R p e below s _ _ _ T16 (mkF m 67 #[.val (.int p0), .val (.int p1), .val (.int (0 : Int32)), .val (.ref b11), .val (.ref b12)] [(.int (1 : Int32)), (.int (pl_e (0 : Int32)))])
            refine own_icmp X16 hx (hb hby at_67) (pc' := 74) (by decide) (by decide) (fun hc => ?_) (fun hc => ?_)
            · have hc67 : ¬ (pl_e (0 : Int32)) = (1 : Int32) := own_ne1 hc
              exact absurd (by decide) hc67
            · have hc67 : (pl_e (0 : Int32)) = (1 : Int32) := own_ne0 hc
              clear hc
              show own_R p e below s _ _ _ T16 (mkF m 70 #[.val (.int p0), .val (.int p1), .val (.int (0 : Int32)), .val (.ref b11), .val (.ref b12)] [])
              refine own_iconst X16 hx (1 : Int32) (hb hby at_70) rfl ?_
              show own_R p e below s _ _ _ T16 (mkF m 71 #[.val (.int p0), .val (.int p1), .val (.int (0 : Int32)), .val (.ref b11), .val (.ref b12)] [(.int (1 : Int32))])
              refine own_goto X16 hx (hb hby at_71) (pc' := 75) (by decide) (by decide) ?_
              show own_R p e below s _ _ _ T16 (mkF m 75 #[.val (.int p0), .val (.int p1), .val (.int (0 : Int32)), .val (.ref b11), .val (.ref b12)] [(.int (1 : Int32))])
              refine own_retN X16 hx (t := .boolean) Bd.returns (by simp) hlk (hb hby at_75) ?_ (by decide) (by decide)
              exact ⟨rfl, N16⟩
        · have hc32 : (2 : Int32) < (0 : Int32) := own_le0 hc
          exact absurd hc32 (by decide)
      · have hc19 : (1 : Int32) < (0 : Int32) := own_le0 hc
        exact absurd hc19 (by decide)
    · have hc9 : (0 : Int32) < (0 : Int32) := own_le0 hc
      exact absurd hc9 (by decide)
  ·
    show own_R p e below s _ _ _ s₁ (mkF m 4 #[.val (.int p0), .val (.int p1), .val (.int (1 : Int32)), .unset, .unset] [])
    have K0 := Keep.refl h0 ([] : List Addr)
    refine own_iloadN X0 hx (hb hby at_4) rfl ?_
    show own_R p e below s _ _ _ s₁ (mkF m 5 #[.val (.int p0), .val (.int p1), .val (.int (1 : Int32)), .unset, .unset] [(.int (1 : Int32))])
    refine own_newA X0 hx hZ (hw _ (List.mem_of_getElem? (i := 0) rfl)) e0 (hb hby at_5) (by decide) 1 (by decide) (by decide) (by decide) (by decide) (ad := "[B") (by decide) 1 ?_
    intro T17 h17 b17 k17 g17 X17 e17 E17 V17 A17
    have sz_b17 : h0.size ≤ b17 := Nat.le_trans K0.1 (Nat.le_of_eq g17.symm)
    have n0_b17 : n0 ≤ b17 := Nat.le_trans Z0 sz_b17
    have K17 := K0.ext E17
    have V_b17 : Arv Z h17 b17 k17 .byte (1 : Int32) [(.int (0 : Int32))] (.int (0 : Int32)) := V17
    show own_R p e below s _ _ _ T17 (mkF m 7 #[.val (.int p0), .val (.int p1), .val (.int (1 : Int32)), .unset, .unset] [(.ref b17)])
    refine own_astoreN X17 hx (hb hby at_7) rfl (l' := #[.val (.int p0), .val (.int p1), .val (.int (1 : Int32)), .val (.ref b17), .unset]) rfl ?_
    show own_R p e below s _ _ _ T17 (mkF m 8 #[.val (.int p0), .val (.int p1), .val (.int (1 : Int32)), .val (.ref b17), .unset] [])
    refine own_iloadN X17 hx (hb hby at_8) rfl ?_
    show own_R p e below s _ _ _ T17 (mkF m 9 #[.val (.int p0), .val (.int p1), .val (.int (1 : Int32)), .val (.ref b17), .unset] [(.int (1 : Int32))])
    refine own_if X17 hx (hb hby at_9) (pc' := 17) (by decide) (by decide) (fun hc => ?_) (fun hc => ?_)
    · have hc9 : ¬ (0 : Int32) < (1 : Int32) := own_le1 hc
      exact absurd (by decide) hc9
    · have hc9 : (0 : Int32) < (1 : Int32) := own_le0 hc
      clear hc
      show own_R p e below s _ _ _ T17 (mkF m 12 #[.val (.int p0), .val (.int p1), .val (.int (1 : Int32)), .val (.ref b17), .unset] [])
      refine own_aloadN X17 hx (hb hby at_12) rfl rfl ?_
      show own_R p e below s _ _ _ T17 (mkF m 13 #[.val (.int p0), .val (.int p1), .val (.int (1 : Int32)), .val (.ref b17), .unset] [(.ref b17)])
      refine own_iconst X17 hx (0 : Int32) (hb hby at_13) rfl ?_
      show own_R p e below s _ _ _ T17 (mkF m 14 #[.val (.int p0), .val (.int p1), .val (.int (1 : Int32)), .val (.ref b17), .unset] [(.int (0 : Int32)), (.ref b17)])
      refine own_iloadN X17 hx (hb hby at_14) rfl ?_
      show own_R p e below s _ _ _ T17 (mkF m 15 #[.val (.int p0), .val (.int p1), .val (.int (1 : Int32)), .val (.ref b17), .unset] [(.int p1), (.int (0 : Int32)), (.ref b17)])
      refine own_i2b X17 hx (hb hby at_15) ?_
      show own_R p e below s _ _ _ T17 (mkF m 16 #[.val (.int p0), .val (.int p1), .val (.int (1 : Int32)), .val (.ref b17), .unset] [(.int (p1.toInt8.toInt32)), (.int (0 : Int32)), (.ref b17)])
      refine own_bastore X17 hx hZ e17 V_b17 (x' := (nar .byte (p1.toInt8.toInt32))) rfl ⟨by decide, by decide⟩ 0 rfl (Nat.le_of_ble_eq_true rfl) (hb hby at_16) ?_
      intro T18 h18 X18 e18 W18 V18
      have K18 := K17.wr W18 (Or.inr sz_b17)
      have N18 := Fr.snoc X18 N0 n0_b17
      have V_b17_18 : Arv Z h18 b17 k17 .byte (1 : Int32) [(.int (nar .byte (p1.toInt8.toInt32)))] (.int (0 : Int32)) := V18
      show own_R p e below s _ _ _ T18 (mkF m 17 #[.val (.int p0), .val (.int p1), .val (.int (1 : Int32)), .val (.ref b17), .unset] [])
      refine own_iloadN X18 hx (hb hby at_17) rfl ?_
      show own_R p e below s _ _ _ T18 (mkF m 18 #[.val (.int p0), .val (.int p1), .val (.int (1 : Int32)), .val (.ref b17), .unset] [(.int (1 : Int32))])
      refine own_iconst X18 hx (1 : Int32) (hb hby at_18) rfl ?_
      show own_R p e below s _ _ _ T18 (mkF m 19 #[.val (.int p0), .val (.int p1), .val (.int (1 : Int32)), .val (.ref b17), .unset] [(.int (1 : Int32)), (.int (1 : Int32))])
      refine own_icmp X18 hx (hb hby at_19) (pc' := 30) (by decide) (by decide) (fun hc => ?_) (fun hc => ?_)
      · have hc19 : ¬ (1 : Int32) < (1 : Int32) := own_le1 hc
        clear hc
        show own_R p e below s _ _ _ T18 (mkF m 30 #[.val (.int p0), .val (.int p1), .val (.int (1 : Int32)), .val (.ref b17), .unset] [])
        refine own_iloadN X18 hx (hb hby at_30) rfl ?_
        show own_R p e below s _ _ _ T18 (mkF m 31 #[.val (.int p0), .val (.int p1), .val (.int (1 : Int32)), .val (.ref b17), .unset] [(.int (1 : Int32))])
        refine own_iconst X18 hx (2 : Int32) (hb hby at_31) rfl ?_
        show own_R p e below s _ _ _ T18 (mkF m 32 #[.val (.int p0), .val (.int p1), .val (.int (1 : Int32)), .val (.ref b17), .unset] [(.int (2 : Int32)), (.int (1 : Int32))])
        refine own_icmp X18 hx (hb hby at_32) (pc' := 43) (by decide) (by decide) (fun hc => ?_) (fun hc => ?_)
        · have hc32 : ¬ (2 : Int32) < (1 : Int32) := own_le1 hc
          clear hc
          show own_R p e below s _ _ _ T18 (mkF m 43 #[.val (.int p0), .val (.int p1), .val (.int (1 : Int32)), .val (.ref b17), .unset] [])
          refine own_new X18 hx hZ hown (hw _ (List.mem_of_getElem? (i := 1) rfl)) (hw _ (List.mem_of_getElem? (i := 2) rfl)) (hw _ (List.mem_of_getElem? (i := 3) rfl)) e18 (hb hby at_43) (by decide) (by decide) ?_
          intro T19 h19 b19 g19 X19 e19 E19 A19 D19
          have ne_b17_b19 : b17 ≠ b19 := Nat.ne_of_lt (Nat.lt_of_lt_of_le V_b17_18.lt (Nat.le_of_eq g19.symm))
          have sz_b19 : h0.size ≤ b19 := Nat.le_trans K18.1 (Nat.le_of_eq g19.symm)
          have n0_b19 : n0 ≤ b19 := Nat.le_trans Z0 sz_b19
          have K19 := K18.ext E19
          have F_bytes_b19 : Fld Z h19 b19 "com/example/fach/fach/model/AttributeValue$BinaryValue" "bytes" "[B" .null := D19 (Or.inr (hw _ (List.mem_of_getElem? (i := 25) rfl))) (ty := (.array .byte)) (by decide)
          show own_R p e below s _ _ _ T19 (mkF m 46 #[.val (.int p0), .val (.int p1), .val (.int (1 : Int32)), .val (.ref b17), .unset] [(.ref b19)])
          refine own_dup X19 hx (hb hby at_46) rfl ?_
          show own_R p e below s _ _ _ T19 (mkF m 47 #[.val (.int p0), .val (.int p1), .val (.int (1 : Int32)), .val (.ref b17), .unset] [(.ref b19), (.ref b19)])
          refine own_aloadN X19 hx (hb hby at_47) rfl rfl ?_
          show own_R p e below s _ _ _ T19 (mkF m 48 #[.val (.int p0), .val (.int p1), .val (.int (1 : Int32)), .val (.ref b17), .unset] [(.ref b17), (.ref b19), (.ref b19)])
          have f20 := (V_b17_18.ext E19)
          have f21 := (Exa.ext E19 (Exa.wr W18 A17))
          refine own_callI X19 hx hZ (y := (⟨"com/example/fach/fach/model/AttributeValue$BinaryValue", "<init>", "([B)V"⟩ : MethodName)) rfl hown (hw _ (List.mem_of_getElem? (i := 4) rfl)) (hw _ (List.mem_of_getElem? (i := 5) rfl)) (hw _ (List.mem_of_getElem? (i := 3) rfl)) (hw _ (List.mem_of_getElem? (i := 6) rfl)) (by decide) (rm1 l Z a0 hw [] b19 b17 k17 (1 : Int32) [(.int (nar .byte (p1.toInt8.toInt32)))] (.int (0 : Int32)) h19 n0 (Nat.le_trans Z0 K19.1) A19 F_bytes_b19 f20 f21 (Ne.symm ne_b17_b19) n0_b19 (by decide)) 1 (by decide) (by decide) e19 (by rw [hml]; rfl) b19 [(.ref b17)] [(.ref b19)] rfl (lenOf pd_1 rfl) rfl (Nat.le_of_eq rfl) (hb hby at_48) (by decide) (by decide) ?_
          rintro T22 _ L22 X22 ⟨rfl, N22q, Kc22, Ec22, d22, Fc22, Vc22, n22⟩
          have N22 := Fr.app N18 N22q
          have K22 := K19.trans Kc22 (allS (P := fun x => x ∈ ([] : List Addr) ∨ h0.size ≤ x) (Or.inr sz_b19) all0)
          show own_R p e below s _ _ _ T22 (mkF m 51 #[.val (.int p0), .val (.int p1), .val (.int (1 : Int32)), .val (.ref b17), .unset] [(.ref b19)])
          refine own_astore X22 hx (hb hby at_51) rfl (l' := #[.val (.int p0), .val (.int p1), .val (.int (1 : Int32)), .val (.ref b17), .val (.ref b19)]) rfl ?_
          show own_R p e below s _ _ _ T22 (mkF m 53 #[.val (.int p0), .val (.int p1), .val (.int (1 : Int32)), .val (.ref b17), .val (.ref b19)] [])
          refine own_aload X22 hx (hb hby at_53) rfl rfl ?_
          show own_R p e below s _ _ _ T22 (mkF m 55 #[.val (.int p0), .val (.int p1), .val (.int (1 : Int32)), .val (.ref b17), .val (.ref b19)] [(.ref b19)])
          refine own_callV X22 hx hZ (y := (⟨"com/example/fach/fach/model/AttributeValue$BinaryValue", "isEmpty", "()Z"⟩ : MethodName)) (z := (⟨"com/example/fach/fach/model/AttributeValue$BinaryValue", "isEmpty", "()Z"⟩ : MethodName)) hown (hw _ (List.mem_of_getElem? (i := 26) rfl)) (hw _ (List.mem_of_getElem? (i := 27) rfl)) (notFace_of_selects (args := #[]) (mvT hZ (hw _ (List.mem_of_getElem? (i := 29) rfl)))) (hw _ (List.mem_of_getElem? (i := 29) rfl)) (hw _ (List.mem_of_getElem? (i := 28) rfl)) (hw _ (List.mem_of_getElem? (i := 3) rfl)) (hw _ (List.mem_of_getElem? (i := 30) rfl)) (by decide) (rm4 l Z a0 hw [] b19 d22 k17 (1 : Int32) [(.int (nar .byte (p1.toInt8.toInt32)))] (.int (0 : Int32)) T22.heap n0 (Nat.le_trans Z0 K22.1) Fc22 Vc22) 0 (by decide) (by decide) rfl (by rw [hml]; rfl) b19 Ec22 [] [] rfl (lenOf pd_2 rfl) rfl (Nat.le_of_eq rfl) (hb hby at_55) (by decide) (by decide) ?_
          rintro T23 _ L23 X23 ⟨rfl, N23q, e23⟩
          have N23 := Fr.app N22 N23q
          show own_R p e below s _ _ _ T23 (mkF m 58 #[.val (.int p0), .val (.int p1), .val (.int (1 : Int32)), .val (.ref b17), .val (.ref b19)] [(.int (pl_e (1 : Int32)))])
          refine own_iloadN X23 hx (hb hby at_58) rfl ?_
          show own_R p e below s _ _ _ T23 (mkF m 59 #[.val (.int p0), .val (.int p1), .val (.int (1 : Int32)), .val (.ref b17), .val (.ref b19)] [(.int (1 : Int32)), (.int (pl_e (1 : Int32)))])
          refine own_if X23 hx (hb hby at_59) (pc' := 66) (by decide) (by decide) (fun hc => ?_) (fun hc => ?_)
          · have hc59 : ¬ (1 : Int32) = (0 : Int32) := own_ne1 hc
            clear hc
            show own_R p e below s _ _ _ T23 (mkF m 66 #[.val (.int p0), .val (.int p1), .val (.int (1 : Int32)), .val (.ref b17), .val (.ref b19)] [(.int (pl_e (1 : Int32)))])
            refine own_iconst X23 hx (0 : Int32) (hb hby at_66) rfl ?_
            show own_R p e below s _ _ _ T23 (mkF m 67 #[.val (.int p0), .val (.int p1), .val (.int (1 : Int32)), .val (.ref b17), .val (.ref b19)] [(.int (0 : Int32)), (.int (pl_e (1 : Int32)))])
            refine own_icmp X23 hx (hb hby at_67) (pc' := 74) (by decide) (by decide) (fun hc => ?_) (fun hc => ?_)
            · have hc67 : ¬ (pl_e (1 : Int32)) = (0 : Int32) := own_ne1 hc
              exact absurd (by decide) hc67
            · have hc67 : (pl_e (1 : Int32)) = (0 : Int32) := own_ne0 hc
              clear hc
              show own_R p e below s _ _ _ T23 (mkF m 70 #[.val (.int p0), .val (.int p1), .val (.int (1 : Int32)), .val (.ref b17), .val (.ref b19)] [])
              refine own_iconst X23 hx (1 : Int32) (hb hby at_70) rfl ?_
              show own_R p e below s _ _ _ T23 (mkF m 71 #[.val (.int p0), .val (.int p1), .val (.int (1 : Int32)), .val (.ref b17), .val (.ref b19)] [(.int (1 : Int32))])
              refine own_goto X23 hx (hb hby at_71) (pc' := 75) (by decide) (by decide) ?_
              show own_R p e below s _ _ _ T23 (mkF m 75 #[.val (.int p0), .val (.int p1), .val (.int (1 : Int32)), .val (.ref b17), .val (.ref b19)] [(.int (1 : Int32))])
              refine own_retN X23 hx (t := .boolean) Bd.returns (by simp) hlk (hb hby at_75) ?_ (by decide) (by decide)
              exact ⟨rfl, N23⟩
          · have hc59 : (1 : Int32) = (0 : Int32) := own_ne0 hc
            exact absurd hc59 (by decide)
        · have hc32 : (2 : Int32) < (1 : Int32) := own_le0 hc
          exact absurd hc32 (by decide)
      · have hc19 : (1 : Int32) < (1 : Int32) := own_le0 hc
        exact absurd hc19 (by decide)
  ·
    show own_R p e below s _ _ _ s₁ (mkF m 4 #[.val (.int p0), .val (.int p1), .val (.int (2 : Int32)), .unset, .unset] [])
    have K0 := Keep.refl h0 ([] : List Addr)
    refine own_iloadN X0 hx (hb hby at_4) rfl ?_
    show own_R p e below s _ _ _ s₁ (mkF m 5 #[.val (.int p0), .val (.int p1), .val (.int (2 : Int32)), .unset, .unset] [(.int (2 : Int32))])
    refine own_newA X0 hx hZ (hw _ (List.mem_of_getElem? (i := 0) rfl)) e0 (hb hby at_5) (by decide) 2 (by decide) (by decide) (by decide) (by decide) (ad := "[B") (by decide) 2 ?_
    intro T24 h24 b24 k24 g24 X24 e24 E24 V24 A24
    have sz_b24 : h0.size ≤ b24 := Nat.le_trans K0.1 (Nat.le_of_eq g24.symm)
    have n0_b24 : n0 ≤ b24 := Nat.le_trans Z0 sz_b24
    have K24 := K0.ext E24
    have V_b24 : Arv Z h24 b24 k24 .byte (2 : Int32) [(.int (0 : Int32)), (.int (0 : Int32))] (.int (0 : Int32)) := V24
    show own_R p e below s _ _ _ T24 (mkF m 7 #[.val (.int p0), .val (.int p1), .val (.int (2 : Int32)), .unset, .unset] [(.ref b24)])
    refine own_astoreN X24 hx (hb hby at_7) rfl (l' := #[.val (.int p0), .val (.int p1), .val (.int (2 : Int32)), .val (.ref b24), .unset]) rfl ?_
    show own_R p e below s _ _ _ T24 (mkF m 8 #[.val (.int p0), .val (.int p1), .val (.int (2 : Int32)), .val (.ref b24), .unset] [])
    refine own_iloadN X24 hx (hb hby at_8) rfl ?_
    show own_R p e below s _ _ _ T24 (mkF m 9 #[.val (.int p0), .val (.int p1), .val (.int (2 : Int32)), .val (.ref b24), .unset] [(.int (2 : Int32))])
    refine own_if X24 hx (hb hby at_9) (pc' := 17) (by decide) (by decide) (fun hc => ?_) (fun hc => ?_)
    · have hc9 : ¬ (0 : Int32) < (2 : Int32) := own_le1 hc
      exact absurd (by decide) hc9
    · have hc9 : (0 : Int32) < (2 : Int32) := own_le0 hc
      clear hc
      show own_R p e below s _ _ _ T24 (mkF m 12 #[.val (.int p0), .val (.int p1), .val (.int (2 : Int32)), .val (.ref b24), .unset] [])
      refine own_aloadN X24 hx (hb hby at_12) rfl rfl ?_
      show own_R p e below s _ _ _ T24 (mkF m 13 #[.val (.int p0), .val (.int p1), .val (.int (2 : Int32)), .val (.ref b24), .unset] [(.ref b24)])
      refine own_iconst X24 hx (0 : Int32) (hb hby at_13) rfl ?_
      show own_R p e below s _ _ _ T24 (mkF m 14 #[.val (.int p0), .val (.int p1), .val (.int (2 : Int32)), .val (.ref b24), .unset] [(.int (0 : Int32)), (.ref b24)])
      refine own_iloadN X24 hx (hb hby at_14) rfl ?_
      show own_R p e below s _ _ _ T24 (mkF m 15 #[.val (.int p0), .val (.int p1), .val (.int (2 : Int32)), .val (.ref b24), .unset] [(.int p1), (.int (0 : Int32)), (.ref b24)])
      refine own_i2b X24 hx (hb hby at_15) ?_
      show own_R p e below s _ _ _ T24 (mkF m 16 #[.val (.int p0), .val (.int p1), .val (.int (2 : Int32)), .val (.ref b24), .unset] [(.int (p1.toInt8.toInt32)), (.int (0 : Int32)), (.ref b24)])
      refine own_bastore X24 hx hZ e24 V_b24 (x' := (nar .byte (p1.toInt8.toInt32))) rfl ⟨by decide, by decide⟩ 0 rfl (Nat.le_of_ble_eq_true rfl) (hb hby at_16) ?_
      intro T25 h25 X25 e25 W25 V25
      have K25 := K24.wr W25 (Or.inr sz_b24)
      have N25 := Fr.snoc X25 N0 n0_b24
      have V_b24_25 : Arv Z h25 b24 k24 .byte (2 : Int32) [(.int (nar .byte (p1.toInt8.toInt32))), (.int (0 : Int32))] (.int (0 : Int32)) := V25
      show own_R p e below s _ _ _ T25 (mkF m 17 #[.val (.int p0), .val (.int p1), .val (.int (2 : Int32)), .val (.ref b24), .unset] [])
      refine own_iloadN X25 hx (hb hby at_17) rfl ?_
      show own_R p e below s _ _ _ T25 (mkF m 18 #[.val (.int p0), .val (.int p1), .val (.int (2 : Int32)), .val (.ref b24), .unset] [(.int (2 : Int32))])
      refine own_iconst X25 hx (1 : Int32) (hb hby at_18) rfl ?_
      show own_R p e below s _ _ _ T25 (mkF m 19 #[.val (.int p0), .val (.int p1), .val (.int (2 : Int32)), .val (.ref b24), .unset] [(.int (1 : Int32)), (.int (2 : Int32))])
      refine own_icmp X25 hx (hb hby at_19) (pc' := 30) (by decide) (by decide) (fun hc => ?_) (fun hc => ?_)
      · have hc19 : ¬ (1 : Int32) < (2 : Int32) := own_le1 hc
        exact absurd (by decide) hc19
      · have hc19 : (1 : Int32) < (2 : Int32) := own_le0 hc
        clear hc
        show own_R p e below s _ _ _ T25 (mkF m 22 #[.val (.int p0), .val (.int p1), .val (.int (2 : Int32)), .val (.ref b24), .unset] [])
        refine own_aloadN X25 hx (hb hby at_22) rfl rfl ?_
        show own_R p e below s _ _ _ T25 (mkF m 23 #[.val (.int p0), .val (.int p1), .val (.int (2 : Int32)), .val (.ref b24), .unset] [(.ref b24)])
        refine own_iconst X25 hx (1 : Int32) (hb hby at_23) rfl ?_
        show own_R p e below s _ _ _ T25 (mkF m 24 #[.val (.int p0), .val (.int p1), .val (.int (2 : Int32)), .val (.ref b24), .unset] [(.int (1 : Int32)), (.ref b24)])
        refine own_iloadN X25 hx (hb hby at_24) rfl ?_
        show own_R p e below s _ _ _ T25 (mkF m 25 #[.val (.int p0), .val (.int p1), .val (.int (2 : Int32)), .val (.ref b24), .unset] [(.int p1), (.int (1 : Int32)), (.ref b24)])
        refine own_bipush X25 hx (8 : Int32) (hb hby at_25) rfl ?_
        show own_R p e below s _ _ _ T25 (mkF m 27 #[.val (.int p0), .val (.int p1), .val (.int (2 : Int32)), .val (.ref b24), .unset] [(.int (8 : Int32)), (.int p1), (.int (1 : Int32)), (.ref b24)])
        refine own_ishr X25 hx (hb hby at_27) ?_
        show own_R p e below s _ _ _ T25 (mkF m 28 #[.val (.int p0), .val (.int p1), .val (.int (2 : Int32)), .val (.ref b24), .unset] [(.int (p1 >>> ((8 : Int32) &&& 31))), (.int (1 : Int32)), (.ref b24)])
        refine own_i2b X25 hx (hb hby at_28) ?_
        show own_R p e below s _ _ _ T25 (mkF m 29 #[.val (.int p0), .val (.int p1), .val (.int (2 : Int32)), .val (.ref b24), .unset] [(.int ((p1 >>> ((8 : Int32) &&& 31)).toInt8.toInt32)), (.int (1 : Int32)), (.ref b24)])
        refine own_bastore X25 hx hZ e25 V_b24_25 (x' := (nar .byte ((p1 >>> ((8 : Int32) &&& 31)).toInt8.toInt32))) rfl ⟨by decide, by decide⟩ 1 rfl (Nat.le_of_ble_eq_true rfl) (hb hby at_29) ?_
        intro T26 h26 X26 e26 W26 V26
        have K26 := K25.wr W26 (Or.inr sz_b24)
        have N26 := Fr.snoc X26 N25 n0_b24
        have V_b24_26 : Arv Z h26 b24 k24 .byte (2 : Int32) [(.int (nar .byte (p1.toInt8.toInt32))), (.int (nar .byte ((p1 >>> ((8 : Int32) &&& 31)).toInt8.toInt32)))] (.int (0 : Int32)) := V26
        show own_R p e below s _ _ _ T26 (mkF m 30 #[.val (.int p0), .val (.int p1), .val (.int (2 : Int32)), .val (.ref b24), .unset] [])
        refine own_iloadN X26 hx (hb hby at_30) rfl ?_
        show own_R p e below s _ _ _ T26 (mkF m 31 #[.val (.int p0), .val (.int p1), .val (.int (2 : Int32)), .val (.ref b24), .unset] [(.int (2 : Int32))])
        refine own_iconst X26 hx (2 : Int32) (hb hby at_31) rfl ?_
        show own_R p e below s _ _ _ T26 (mkF m 32 #[.val (.int p0), .val (.int p1), .val (.int (2 : Int32)), .val (.ref b24), .unset] [(.int (2 : Int32)), (.int (2 : Int32))])
        refine own_icmp X26 hx (hb hby at_32) (pc' := 43) (by decide) (by decide) (fun hc => ?_) (fun hc => ?_)
        · have hc32 : ¬ (2 : Int32) < (2 : Int32) := own_le1 hc
          clear hc
          show own_R p e below s _ _ _ T26 (mkF m 43 #[.val (.int p0), .val (.int p1), .val (.int (2 : Int32)), .val (.ref b24), .unset] [])
          refine own_new X26 hx hZ hown (hw _ (List.mem_of_getElem? (i := 1) rfl)) (hw _ (List.mem_of_getElem? (i := 2) rfl)) (hw _ (List.mem_of_getElem? (i := 3) rfl)) e26 (hb hby at_43) (by decide) (by decide) ?_
          intro T27 h27 b27 g27 X27 e27 E27 A27 D27
          have ne_b24_b27 : b24 ≠ b27 := Nat.ne_of_lt (Nat.lt_of_lt_of_le V_b24_26.lt (Nat.le_of_eq g27.symm))
          have sz_b27 : h0.size ≤ b27 := Nat.le_trans K26.1 (Nat.le_of_eq g27.symm)
          have n0_b27 : n0 ≤ b27 := Nat.le_trans Z0 sz_b27
          have K27 := K26.ext E27
          have F_bytes_b27 : Fld Z h27 b27 "com/example/fach/fach/model/AttributeValue$BinaryValue" "bytes" "[B" .null := D27 (Or.inr (hw _ (List.mem_of_getElem? (i := 25) rfl))) (ty := (.array .byte)) (by decide)
          show own_R p e below s _ _ _ T27 (mkF m 46 #[.val (.int p0), .val (.int p1), .val (.int (2 : Int32)), .val (.ref b24), .unset] [(.ref b27)])
          refine own_dup X27 hx (hb hby at_46) rfl ?_
          show own_R p e below s _ _ _ T27 (mkF m 47 #[.val (.int p0), .val (.int p1), .val (.int (2 : Int32)), .val (.ref b24), .unset] [(.ref b27), (.ref b27)])
          refine own_aloadN X27 hx (hb hby at_47) rfl rfl ?_
          show own_R p e below s _ _ _ T27 (mkF m 48 #[.val (.int p0), .val (.int p1), .val (.int (2 : Int32)), .val (.ref b24), .unset] [(.ref b24), (.ref b27), (.ref b27)])
          have f28 := (V_b24_26.ext E27)
          have f29 := (Exa.ext E27 (Exa.wr W26 (Exa.wr W25 A24)))
          refine own_callI X27 hx hZ (y := (⟨"com/example/fach/fach/model/AttributeValue$BinaryValue", "<init>", "([B)V"⟩ : MethodName)) rfl hown (hw _ (List.mem_of_getElem? (i := 4) rfl)) (hw _ (List.mem_of_getElem? (i := 5) rfl)) (hw _ (List.mem_of_getElem? (i := 3) rfl)) (hw _ (List.mem_of_getElem? (i := 6) rfl)) (by decide) (rm1 l Z a0 hw [] b27 b24 k24 (2 : Int32) [(.int (nar .byte (p1.toInt8.toInt32))), (.int (nar .byte ((p1 >>> ((8 : Int32) &&& 31)).toInt8.toInt32)))] (.int (0 : Int32)) h27 n0 (Nat.le_trans Z0 K27.1) A27 F_bytes_b27 f28 f29 (Ne.symm ne_b24_b27) n0_b27 (by decide)) 1 (by decide) (by decide) e27 (by rw [hml]; rfl) b27 [(.ref b24)] [(.ref b27)] rfl (lenOf pd_1 rfl) rfl (Nat.le_of_eq rfl) (hb hby at_48) (by decide) (by decide) ?_
          rintro T30 _ L30 X30 ⟨rfl, N30q, Kc30, Ec30, d30, Fc30, Vc30, n30⟩
          have N30 := Fr.app N26 N30q
          have K30 := K27.trans Kc30 (allS (P := fun x => x ∈ ([] : List Addr) ∨ h0.size ≤ x) (Or.inr sz_b27) all0)
          show own_R p e below s _ _ _ T30 (mkF m 51 #[.val (.int p0), .val (.int p1), .val (.int (2 : Int32)), .val (.ref b24), .unset] [(.ref b27)])
          refine own_astore X30 hx (hb hby at_51) rfl (l' := #[.val (.int p0), .val (.int p1), .val (.int (2 : Int32)), .val (.ref b24), .val (.ref b27)]) rfl ?_
          show own_R p e below s _ _ _ T30 (mkF m 53 #[.val (.int p0), .val (.int p1), .val (.int (2 : Int32)), .val (.ref b24), .val (.ref b27)] [])
          refine own_aload X30 hx (hb hby at_53) rfl rfl ?_
          show own_R p e below s _ _ _ T30 (mkF m 55 #[.val (.int p0), .val (.int p1), .val (.int (2 : Int32)), .val (.ref b24), .val (.ref b27)] [(.ref b27)])
          refine own_callV X30 hx hZ (y := (⟨"com/example/fach/fach/model/AttributeValue$BinaryValue", "isEmpty", "()Z"⟩ : MethodName)) (z := (⟨"com/example/fach/fach/model/AttributeValue$BinaryValue", "isEmpty", "()Z"⟩ : MethodName)) hown (hw _ (List.mem_of_getElem? (i := 26) rfl)) (hw _ (List.mem_of_getElem? (i := 27) rfl)) (notFace_of_selects (args := #[]) (mvT hZ (hw _ (List.mem_of_getElem? (i := 29) rfl)))) (hw _ (List.mem_of_getElem? (i := 29) rfl)) (hw _ (List.mem_of_getElem? (i := 28) rfl)) (hw _ (List.mem_of_getElem? (i := 3) rfl)) (hw _ (List.mem_of_getElem? (i := 30) rfl)) (by decide) (rm4 l Z a0 hw [] b27 d30 k24 (2 : Int32) [(.int (nar .byte (p1.toInt8.toInt32))), (.int (nar .byte ((p1 >>> ((8 : Int32) &&& 31)).toInt8.toInt32)))] (.int (0 : Int32)) T30.heap n0 (Nat.le_trans Z0 K30.1) Fc30 Vc30) 0 (by decide) (by decide) rfl (by rw [hml]; rfl) b27 Ec30 [] [] rfl (lenOf pd_2 rfl) rfl (Nat.le_of_eq rfl) (hb hby at_55) (by decide) (by decide) ?_
          rintro T31 _ L31 X31 ⟨rfl, N31q, e31⟩
          have N31 := Fr.app N30 N31q
          show own_R p e below s _ _ _ T31 (mkF m 58 #[.val (.int p0), .val (.int p1), .val (.int (2 : Int32)), .val (.ref b24), .val (.ref b27)] [(.int (pl_e (2 : Int32)))])
          refine own_iloadN X31 hx (hb hby at_58) rfl ?_
          show own_R p e below s _ _ _ T31 (mkF m 59 #[.val (.int p0), .val (.int p1), .val (.int (2 : Int32)), .val (.ref b24), .val (.ref b27)] [(.int (2 : Int32)), (.int (pl_e (2 : Int32)))])
          refine own_if X31 hx (hb hby at_59) (pc' := 66) (by decide) (by decide) (fun hc => ?_) (fun hc => ?_)
          · have hc59 : ¬ (2 : Int32) = (0 : Int32) := own_ne1 hc
            clear hc
            show own_R p e below s _ _ _ T31 (mkF m 66 #[.val (.int p0), .val (.int p1), .val (.int (2 : Int32)), .val (.ref b24), .val (.ref b27)] [(.int (pl_e (2 : Int32)))])
            refine own_iconst X31 hx (0 : Int32) (hb hby at_66) rfl ?_
            show own_R p e below s _ _ _ T31 (mkF m 67 #[.val (.int p0), .val (.int p1), .val (.int (2 : Int32)), .val (.ref b24), .val (.ref b27)] [(.int (0 : Int32)), (.int (pl_e (2 : Int32)))])
            refine own_icmp X31 hx (hb hby at_67) (pc' := 74) (by decide) (by decide) (fun hc => ?_) (fun hc => ?_)
            · have hc67 : ¬ (pl_e (2 : Int32)) = (0 : Int32) := own_ne1 hc
              exact absurd (by decide) hc67
            · have hc67 : (pl_e (2 : Int32)) = (0 : Int32) := own_ne0 hc
              clear hc
              show own_R p e below s _ _ _ T31 (mkF m 70 #[.val (.int p0), .val (.int p1), .val (.int (2 : Int32)), .val (.ref b24), .val (.ref b27)] [])
              refine own_iconst X31 hx (1 : Int32) (hb hby at_70) rfl ?_
              show own_R p e below s _ _ _ T31 (mkF m 71 #[.val (.int p0), .val (.int p1), .val (.int (2 : Int32)), .val (.ref b24), .val (.ref b27)] [(.int (1 : Int32))])
              refine own_goto X31 hx (hb hby at_71) (pc' := 75) (by decide) (by decide) ?_
              show own_R p e below s _ _ _ T31 (mkF m 75 #[.val (.int p0), .val (.int p1), .val (.int (2 : Int32)), .val (.ref b24), .val (.ref b27)] [(.int (1 : Int32))])
              refine own_retN X31 hx (t := .boolean) Bd.returns (by simp) hlk (hb hby at_75) ?_ (by decide) (by decide)
              exact ⟨rfl, N31⟩
          · have hc59 : (2 : Int32) = (0 : Int32) := own_ne0 hc
            exact absurd hc59 (by decide)
        · have hc32 : (2 : Int32) < (2 : Int32) := own_le0 hc
          exact absurd hc32 (by decide)
  ·
    show own_R p e below s _ _ _ s₁ (mkF m 4 #[.val (.int p0), .val (.int p1), .val (.int (3 : Int32)), .unset, .unset] [])
    have K0 := Keep.refl h0 ([] : List Addr)
    refine own_iloadN X0 hx (hb hby at_4) rfl ?_
    show own_R p e below s _ _ _ s₁ (mkF m 5 #[.val (.int p0), .val (.int p1), .val (.int (3 : Int32)), .unset, .unset] [(.int (3 : Int32))])
    refine own_newA X0 hx hZ (hw _ (List.mem_of_getElem? (i := 0) rfl)) e0 (hb hby at_5) (by decide) 3 (by decide) (by decide) (by decide) (by decide) (ad := "[B") (by decide) 3 ?_
    intro T32 h32 b32 k32 g32 X32 e32 E32 V32 A32
    have sz_b32 : h0.size ≤ b32 := Nat.le_trans K0.1 (Nat.le_of_eq g32.symm)
    have n0_b32 : n0 ≤ b32 := Nat.le_trans Z0 sz_b32
    have K32 := K0.ext E32
    have V_b32 : Arv Z h32 b32 k32 .byte (3 : Int32) [(.int (0 : Int32)), (.int (0 : Int32)), (.int (0 : Int32))] (.int (0 : Int32)) := V32
    show own_R p e below s _ _ _ T32 (mkF m 7 #[.val (.int p0), .val (.int p1), .val (.int (3 : Int32)), .unset, .unset] [(.ref b32)])
    refine own_astoreN X32 hx (hb hby at_7) rfl (l' := #[.val (.int p0), .val (.int p1), .val (.int (3 : Int32)), .val (.ref b32), .unset]) rfl ?_
    show own_R p e below s _ _ _ T32 (mkF m 8 #[.val (.int p0), .val (.int p1), .val (.int (3 : Int32)), .val (.ref b32), .unset] [])
    refine own_iloadN X32 hx (hb hby at_8) rfl ?_
    show own_R p e below s _ _ _ T32 (mkF m 9 #[.val (.int p0), .val (.int p1), .val (.int (3 : Int32)), .val (.ref b32), .unset] [(.int (3 : Int32))])
    refine own_if X32 hx (hb hby at_9) (pc' := 17) (by decide) (by decide) (fun hc => ?_) (fun hc => ?_)
    · have hc9 : ¬ (0 : Int32) < (3 : Int32) := own_le1 hc
      exact absurd (by decide) hc9
    · have hc9 : (0 : Int32) < (3 : Int32) := own_le0 hc
      clear hc
      show own_R p e below s _ _ _ T32 (mkF m 12 #[.val (.int p0), .val (.int p1), .val (.int (3 : Int32)), .val (.ref b32), .unset] [])
      refine own_aloadN X32 hx (hb hby at_12) rfl rfl ?_
      show own_R p e below s _ _ _ T32 (mkF m 13 #[.val (.int p0), .val (.int p1), .val (.int (3 : Int32)), .val (.ref b32), .unset] [(.ref b32)])
      refine own_iconst X32 hx (0 : Int32) (hb hby at_13) rfl ?_
      show own_R p e below s _ _ _ T32 (mkF m 14 #[.val (.int p0), .val (.int p1), .val (.int (3 : Int32)), .val (.ref b32), .unset] [(.int (0 : Int32)), (.ref b32)])
      refine own_iloadN X32 hx (hb hby at_14) rfl ?_
      show own_R p e below s _ _ _ T32 (mkF m 15 #[.val (.int p0), .val (.int p1), .val (.int (3 : Int32)), .val (.ref b32), .unset] [(.int p1), (.int (0 : Int32)), (.ref b32)])
      refine own_i2b X32 hx (hb hby at_15) ?_
      show own_R p e below s _ _ _ T32 (mkF m 16 #[.val (.int p0), .val (.int p1), .val (.int (3 : Int32)), .val (.ref b32), .unset] [(.int (p1.toInt8.toInt32)), (.int (0 : Int32)), (.ref b32)])
      refine own_bastore X32 hx hZ e32 V_b32 (x' := (nar .byte (p1.toInt8.toInt32))) rfl ⟨by decide, by decide⟩ 0 rfl (Nat.le_of_ble_eq_true rfl) (hb hby at_16) ?_
      intro T33 h33 X33 e33 W33 V33
      have K33 := K32.wr W33 (Or.inr sz_b32)
      have N33 := Fr.snoc X33 N0 n0_b32
      have V_b32_33 : Arv Z h33 b32 k32 .byte (3 : Int32) [(.int (nar .byte (p1.toInt8.toInt32))), (.int (0 : Int32)), (.int (0 : Int32))] (.int (0 : Int32)) := V33
      show own_R p e below s _ _ _ T33 (mkF m 17 #[.val (.int p0), .val (.int p1), .val (.int (3 : Int32)), .val (.ref b32), .unset] [])
      refine own_iloadN X33 hx (hb hby at_17) rfl ?_
      show own_R p e below s _ _ _ T33 (mkF m 18 #[.val (.int p0), .val (.int p1), .val (.int (3 : Int32)), .val (.ref b32), .unset] [(.int (3 : Int32))])
      refine own_iconst X33 hx (1 : Int32) (hb hby at_18) rfl ?_
      show own_R p e below s _ _ _ T33 (mkF m 19 #[.val (.int p0), .val (.int p1), .val (.int (3 : Int32)), .val (.ref b32), .unset] [(.int (1 : Int32)), (.int (3 : Int32))])
      refine own_icmp X33 hx (hb hby at_19) (pc' := 30) (by decide) (by decide) (fun hc => ?_) (fun hc => ?_)
      · have hc19 : ¬ (1 : Int32) < (3 : Int32) := own_le1 hc
        exact absurd (by decide) hc19
      · have hc19 : (1 : Int32) < (3 : Int32) := own_le0 hc
        clear hc
        show own_R p e below s _ _ _ T33 (mkF m 22 #[.val (.int p0), .val (.int p1), .val (.int (3 : Int32)), .val (.ref b32), .unset] [])
        refine own_aloadN X33 hx (hb hby at_22) rfl rfl ?_
        show own_R p e below s _ _ _ T33 (mkF m 23 #[.val (.int p0), .val (.int p1), .val (.int (3 : Int32)), .val (.ref b32), .unset] [(.ref b32)])
        refine own_iconst X33 hx (1 : Int32) (hb hby at_23) rfl ?_
        show own_R p e below s _ _ _ T33 (mkF m 24 #[.val (.int p0), .val (.int p1), .val (.int (3 : Int32)), .val (.ref b32), .unset] [(.int (1 : Int32)), (.ref b32)])
        refine own_iloadN X33 hx (hb hby at_24) rfl ?_
        show own_R p e below s _ _ _ T33 (mkF m 25 #[.val (.int p0), .val (.int p1), .val (.int (3 : Int32)), .val (.ref b32), .unset] [(.int p1), (.int (1 : Int32)), (.ref b32)])
        refine own_bipush X33 hx (8 : Int32) (hb hby at_25) rfl ?_
        show own_R p e below s _ _ _ T33 (mkF m 27 #[.val (.int p0), .val (.int p1), .val (.int (3 : Int32)), .val (.ref b32), .unset] [(.int (8 : Int32)), (.int p1), (.int (1 : Int32)), (.ref b32)])
        refine own_ishr X33 hx (hb hby at_27) ?_
        show own_R p e below s _ _ _ T33 (mkF m 28 #[.val (.int p0), .val (.int p1), .val (.int (3 : Int32)), .val (.ref b32), .unset] [(.int (p1 >>> ((8 : Int32) &&& 31))), (.int (1 : Int32)), (.ref b32)])
        refine own_i2b X33 hx (hb hby at_28) ?_
        show own_R p e below s _ _ _ T33 (mkF m 29 #[.val (.int p0), .val (.int p1), .val (.int (3 : Int32)), .val (.ref b32), .unset] [(.int ((p1 >>> ((8 : Int32) &&& 31)).toInt8.toInt32)), (.int (1 : Int32)), (.ref b32)])
        refine own_bastore X33 hx hZ e33 V_b32_33 (x' := (nar .byte ((p1 >>> ((8 : Int32) &&& 31)).toInt8.toInt32))) rfl ⟨by decide, by decide⟩ 1 rfl (Nat.le_of_ble_eq_true rfl) (hb hby at_29) ?_
        intro T34 h34 X34 e34 W34 V34
        have K34 := K33.wr W34 (Or.inr sz_b32)
        have N34 := Fr.snoc X34 N33 n0_b32
        have V_b32_34 : Arv Z h34 b32 k32 .byte (3 : Int32) [(.int (nar .byte (p1.toInt8.toInt32))), (.int (nar .byte ((p1 >>> ((8 : Int32) &&& 31)).toInt8.toInt32))), (.int (0 : Int32))] (.int (0 : Int32)) := V34
        show own_R p e below s _ _ _ T34 (mkF m 30 #[.val (.int p0), .val (.int p1), .val (.int (3 : Int32)), .val (.ref b32), .unset] [])
        refine own_iloadN X34 hx (hb hby at_30) rfl ?_
        show own_R p e below s _ _ _ T34 (mkF m 31 #[.val (.int p0), .val (.int p1), .val (.int (3 : Int32)), .val (.ref b32), .unset] [(.int (3 : Int32))])
        refine own_iconst X34 hx (2 : Int32) (hb hby at_31) rfl ?_
        show own_R p e below s _ _ _ T34 (mkF m 32 #[.val (.int p0), .val (.int p1), .val (.int (3 : Int32)), .val (.ref b32), .unset] [(.int (2 : Int32)), (.int (3 : Int32))])
        refine own_icmp X34 hx (hb hby at_32) (pc' := 43) (by decide) (by decide) (fun hc => ?_) (fun hc => ?_)
        · have hc32 : ¬ (2 : Int32) < (3 : Int32) := own_le1 hc
          exact absurd (by decide) hc32
        · have hc32 : (2 : Int32) < (3 : Int32) := own_le0 hc
          clear hc
          show own_R p e below s _ _ _ T34 (mkF m 35 #[.val (.int p0), .val (.int p1), .val (.int (3 : Int32)), .val (.ref b32), .unset] [])
          refine own_aloadN X34 hx (hb hby at_35) rfl rfl ?_
          show own_R p e below s _ _ _ T34 (mkF m 36 #[.val (.int p0), .val (.int p1), .val (.int (3 : Int32)), .val (.ref b32), .unset] [(.ref b32)])
          refine own_iconst X34 hx (2 : Int32) (hb hby at_36) rfl ?_
          show own_R p e below s _ _ _ T34 (mkF m 37 #[.val (.int p0), .val (.int p1), .val (.int (3 : Int32)), .val (.ref b32), .unset] [(.int (2 : Int32)), (.ref b32)])
          refine own_iloadN X34 hx (hb hby at_37) rfl ?_
          show own_R p e below s _ _ _ T34 (mkF m 38 #[.val (.int p0), .val (.int p1), .val (.int (3 : Int32)), .val (.ref b32), .unset] [(.int p1), (.int (2 : Int32)), (.ref b32)])
          refine own_bipush X34 hx (16 : Int32) (hb hby at_38) rfl ?_
          show own_R p e below s _ _ _ T34 (mkF m 40 #[.val (.int p0), .val (.int p1), .val (.int (3 : Int32)), .val (.ref b32), .unset] [(.int (16 : Int32)), (.int p1), (.int (2 : Int32)), (.ref b32)])
          refine own_ishr X34 hx (hb hby at_40) ?_
          show own_R p e below s _ _ _ T34 (mkF m 41 #[.val (.int p0), .val (.int p1), .val (.int (3 : Int32)), .val (.ref b32), .unset] [(.int (p1 >>> ((16 : Int32) &&& 31))), (.int (2 : Int32)), (.ref b32)])
          refine own_i2b X34 hx (hb hby at_41) ?_
          show own_R p e below s _ _ _ T34 (mkF m 42 #[.val (.int p0), .val (.int p1), .val (.int (3 : Int32)), .val (.ref b32), .unset] [(.int ((p1 >>> ((16 : Int32) &&& 31)).toInt8.toInt32)), (.int (2 : Int32)), (.ref b32)])
          refine own_bastore X34 hx hZ e34 V_b32_34 (x' := (nar .byte ((p1 >>> ((16 : Int32) &&& 31)).toInt8.toInt32))) rfl ⟨by decide, by decide⟩ 2 rfl (Nat.le_of_ble_eq_true rfl) (hb hby at_42) ?_
          intro T35 h35 X35 e35 W35 V35
          have K35 := K34.wr W35 (Or.inr sz_b32)
          have N35 := Fr.snoc X35 N34 n0_b32
          have V_b32_35 : Arv Z h35 b32 k32 .byte (3 : Int32) [(.int (nar .byte (p1.toInt8.toInt32))), (.int (nar .byte ((p1 >>> ((8 : Int32) &&& 31)).toInt8.toInt32))), (.int (nar .byte ((p1 >>> ((16 : Int32) &&& 31)).toInt8.toInt32)))] (.int (0 : Int32)) := V35
          show own_R p e below s _ _ _ T35 (mkF m 43 #[.val (.int p0), .val (.int p1), .val (.int (3 : Int32)), .val (.ref b32), .unset] [])
          refine own_new X35 hx hZ hown (hw _ (List.mem_of_getElem? (i := 1) rfl)) (hw _ (List.mem_of_getElem? (i := 2) rfl)) (hw _ (List.mem_of_getElem? (i := 3) rfl)) e35 (hb hby at_43) (by decide) (by decide) ?_
          intro T36 h36 b36 g36 X36 e36 E36 A36 D36
          have ne_b32_b36 : b32 ≠ b36 := Nat.ne_of_lt (Nat.lt_of_lt_of_le V_b32_35.lt (Nat.le_of_eq g36.symm))
          have sz_b36 : h0.size ≤ b36 := Nat.le_trans K35.1 (Nat.le_of_eq g36.symm)
          have n0_b36 : n0 ≤ b36 := Nat.le_trans Z0 sz_b36
          have K36 := K35.ext E36
          have F_bytes_b36 : Fld Z h36 b36 "com/example/fach/fach/model/AttributeValue$BinaryValue" "bytes" "[B" .null := D36 (Or.inr (hw _ (List.mem_of_getElem? (i := 25) rfl))) (ty := (.array .byte)) (by decide)
          show own_R p e below s _ _ _ T36 (mkF m 46 #[.val (.int p0), .val (.int p1), .val (.int (3 : Int32)), .val (.ref b32), .unset] [(.ref b36)])
          refine own_dup X36 hx (hb hby at_46) rfl ?_
          show own_R p e below s _ _ _ T36 (mkF m 47 #[.val (.int p0), .val (.int p1), .val (.int (3 : Int32)), .val (.ref b32), .unset] [(.ref b36), (.ref b36)])
          refine own_aloadN X36 hx (hb hby at_47) rfl rfl ?_
          show own_R p e below s _ _ _ T36 (mkF m 48 #[.val (.int p0), .val (.int p1), .val (.int (3 : Int32)), .val (.ref b32), .unset] [(.ref b32), (.ref b36), (.ref b36)])
          have f37 := (V_b32_35.ext E36)
          have f38 := (Exa.ext E36 (Exa.wr W35 (Exa.wr W34 (Exa.wr W33 A32))))
          refine own_callI X36 hx hZ (y := (⟨"com/example/fach/fach/model/AttributeValue$BinaryValue", "<init>", "([B)V"⟩ : MethodName)) rfl hown (hw _ (List.mem_of_getElem? (i := 4) rfl)) (hw _ (List.mem_of_getElem? (i := 5) rfl)) (hw _ (List.mem_of_getElem? (i := 3) rfl)) (hw _ (List.mem_of_getElem? (i := 6) rfl)) (by decide) (rm1 l Z a0 hw [] b36 b32 k32 (3 : Int32) [(.int (nar .byte (p1.toInt8.toInt32))), (.int (nar .byte ((p1 >>> ((8 : Int32) &&& 31)).toInt8.toInt32))), (.int (nar .byte ((p1 >>> ((16 : Int32) &&& 31)).toInt8.toInt32)))] (.int (0 : Int32)) h36 n0 (Nat.le_trans Z0 K36.1) A36 F_bytes_b36 f37 f38 (Ne.symm ne_b32_b36) n0_b36 (by decide)) 1 (by decide) (by decide) e36 (by rw [hml]; rfl) b36 [(.ref b32)] [(.ref b36)] rfl (lenOf pd_1 rfl) rfl (Nat.le_of_eq rfl) (hb hby at_48) (by decide) (by decide) ?_
          rintro T39 _ L39 X39 ⟨rfl, N39q, Kc39, Ec39, d39, Fc39, Vc39, n39⟩
          have N39 := Fr.app N35 N39q
          have K39 := K36.trans Kc39 (allS (P := fun x => x ∈ ([] : List Addr) ∨ h0.size ≤ x) (Or.inr sz_b36) all0)
          show own_R p e below s _ _ _ T39 (mkF m 51 #[.val (.int p0), .val (.int p1), .val (.int (3 : Int32)), .val (.ref b32), .unset] [(.ref b36)])
          refine own_astore X39 hx (hb hby at_51) rfl (l' := #[.val (.int p0), .val (.int p1), .val (.int (3 : Int32)), .val (.ref b32), .val (.ref b36)]) rfl ?_
          show own_R p e below s _ _ _ T39 (mkF m 53 #[.val (.int p0), .val (.int p1), .val (.int (3 : Int32)), .val (.ref b32), .val (.ref b36)] [])
          refine own_aload X39 hx (hb hby at_53) rfl rfl ?_
          show own_R p e below s _ _ _ T39 (mkF m 55 #[.val (.int p0), .val (.int p1), .val (.int (3 : Int32)), .val (.ref b32), .val (.ref b36)] [(.ref b36)])
          refine own_callV X39 hx hZ (y := (⟨"com/example/fach/fach/model/AttributeValue$BinaryValue", "isEmpty", "()Z"⟩ : MethodName)) (z := (⟨"com/example/fach/fach/model/AttributeValue$BinaryValue", "isEmpty", "()Z"⟩ : MethodName)) hown (hw _ (List.mem_of_getElem? (i := 26) rfl)) (hw _ (List.mem_of_getElem? (i := 27) rfl)) (notFace_of_selects (args := #[]) (mvT hZ (hw _ (List.mem_of_getElem? (i := 29) rfl)))) (hw _ (List.mem_of_getElem? (i := 29) rfl)) (hw _ (List.mem_of_getElem? (i := 28) rfl)) (hw _ (List.mem_of_getElem? (i := 3) rfl)) (hw _ (List.mem_of_getElem? (i := 30) rfl)) (by decide) (rm4 l Z a0 hw [] b36 d39 k32 (3 : Int32) [(.int (nar .byte (p1.toInt8.toInt32))), (.int (nar .byte ((p1 >>> ((8 : Int32) &&& 31)).toInt8.toInt32))), (.int (nar .byte ((p1 >>> ((16 : Int32) &&& 31)).toInt8.toInt32)))] (.int (0 : Int32)) T39.heap n0 (Nat.le_trans Z0 K39.1) Fc39 Vc39) 0 (by decide) (by decide) rfl (by rw [hml]; rfl) b36 Ec39 [] [] rfl (lenOf pd_2 rfl) rfl (Nat.le_of_eq rfl) (hb hby at_55) (by decide) (by decide) ?_
          rintro T40 _ L40 X40 ⟨rfl, N40q, e40⟩
          have N40 := Fr.app N39 N40q
          show own_R p e below s _ _ _ T40 (mkF m 58 #[.val (.int p0), .val (.int p1), .val (.int (3 : Int32)), .val (.ref b32), .val (.ref b36)] [(.int (pl_e (3 : Int32)))])
          refine own_iloadN X40 hx (hb hby at_58) rfl ?_
          show own_R p e below s _ _ _ T40 (mkF m 59 #[.val (.int p0), .val (.int p1), .val (.int (3 : Int32)), .val (.ref b32), .val (.ref b36)] [(.int (3 : Int32)), (.int (pl_e (3 : Int32)))])
          refine own_if X40 hx (hb hby at_59) (pc' := 66) (by decide) (by decide) (fun hc => ?_) (fun hc => ?_)
          · have hc59 : ¬ (3 : Int32) = (0 : Int32) := own_ne1 hc
            clear hc
            show own_R p e below s _ _ _ T40 (mkF m 66 #[.val (.int p0), .val (.int p1), .val (.int (3 : Int32)), .val (.ref b32), .val (.ref b36)] [(.int (pl_e (3 : Int32)))])
            refine own_iconst X40 hx (0 : Int32) (hb hby at_66) rfl ?_
            show own_R p e below s _ _ _ T40 (mkF m 67 #[.val (.int p0), .val (.int p1), .val (.int (3 : Int32)), .val (.ref b32), .val (.ref b36)] [(.int (0 : Int32)), (.int (pl_e (3 : Int32)))])
            refine own_icmp X40 hx (hb hby at_67) (pc' := 74) (by decide) (by decide) (fun hc => ?_) (fun hc => ?_)
            · have hc67 : ¬ (pl_e (3 : Int32)) = (0 : Int32) := own_ne1 hc
              exact absurd (by decide) hc67
            · have hc67 : (pl_e (3 : Int32)) = (0 : Int32) := own_ne0 hc
              clear hc
              show own_R p e below s _ _ _ T40 (mkF m 70 #[.val (.int p0), .val (.int p1), .val (.int (3 : Int32)), .val (.ref b32), .val (.ref b36)] [])
              refine own_iconst X40 hx (1 : Int32) (hb hby at_70) rfl ?_
              show own_R p e below s _ _ _ T40 (mkF m 71 #[.val (.int p0), .val (.int p1), .val (.int (3 : Int32)), .val (.ref b32), .val (.ref b36)] [(.int (1 : Int32))])
              refine own_goto X40 hx (hb hby at_71) (pc' := 75) (by decide) (by decide) ?_
              show own_R p e below s _ _ _ T40 (mkF m 75 #[.val (.int p0), .val (.int p1), .val (.int (3 : Int32)), .val (.ref b32), .val (.ref b36)] [(.int (1 : Int32))])
              refine own_retN X40 hx (t := .boolean) Bd.returns (by simp) hlk (hb hby at_75) ?_ (by decide) (by decide)
              exact ⟨rfl, N40⟩
          · have hc59 : (3 : Int32) = (0 : Int32) := own_ne0 hc
            exact absurd hc59 (by decide)
set_option maxRecDepth 65536 in
set_option maxHeartbeats 40000000 in
theorem comes_1 {Post : Tables → Env → Array Value → State → Outcome → State → Prop} (hpost : ∀ tb e args s v u, (limb_1_1.after args s (.returned v) u = true ∧ limb_1_2.after args s (.returned v) u = true) → FrameEnd s (.returned v) u (Jvm.fieldLocs frame_1_writes args s ++ Jvm.arrayLocs frame_1_arrays args s ++ Jvm.staticLocs frame_1_statics s) 16 128 → Post tb e args s (.returned v) u) :
    ArmFor flags0 classFile x code maxLocals ret World_1 tables_1 room_1 Calls_1 rest_1 Pre_1 Post := by
  intro l hfl _ _ p e ha hc hk s m args below hf hA hF happ hP
  obtain ⟨hcalls, hrest, hpre⟩ := hP
  obtain ⟨-, -, -, hnamed, -, -, -, hat⟩ := (Spec.applies_iff hf).mp happ
  obtain ⟨hg, hn⟩ := and_e (Cond.before_iff.mp (show (Jvm.Cond.and given_1 narrow_1).before args s = true from hpre))
  obtain ⟨g1, g2⟩ := and_e hg
  obtain ⟨g3, g4⟩ := and_e g2
  obtain ⟨w0, w1, rfl⟩ : ∃ w0 w1 : Value, args = #[w0, w1] := by
    have hs : args.size = 2 := by simpa [Cond.value, given_1] using g1
    obtain ⟨L⟩ := args
    match L, hs with
    | [w0, w1], _ => exact ⟨w0, w1, rfl⟩
  have hw := fun d (hd : d ∈ tables_1) => atoms_spec (ws := Jvm.Cond.code x code maxLocals ret :: tables_1) hat d (List.mem_cons_of_mem _ hd)
  obtain ⟨i0, ei0⟩ := is_v g3
  obtain rfl : w0 = (.int i0) := Option.some.inj ei0
  obtain ⟨i1, ei1⟩ := is_v g4
  obtain rfl : w1 = (.int i1) := Option.some.inj ei1
  obtain ⟨n, o, h1, h2, h3, _, L, rfl, ⟨rfl, N⟩, hq⟩ := rm0 l s _ hw tables_1 i0 i1 s.heap s.heap.size (Nat.le_refl _) p e ha hc hk s m _ below hf ((Spec.applies_iff_loose hf).mp happ).1 ⟨rfl, State.Warmed39.refl s, rfl⟩ trivial
  refine ⟨n, _, h1, h2, h3, hpost _ _ _ _ _ _ ⟨Cond.after_iff.mpr rfl, Cond.after_iff.mpr (eq_i res_at (Term.int_eval (1)) rfl)⟩ ⟨hq.1, hq.2.1, (hq.2.2.sift fun y hy => Or.inr (N y hy)).mono (by decide) (by decide)⟩⟩
theorem main_1_1 : Claimed_1_1 := comes_1 fun _ _ _ _ _ _ h hF => ⟨h.1, hF⟩
theorem main_1_2 : Claimed_1_2 := comes_1 fun _ _ _ _ _ _ h hF => ⟨h.2, hF⟩
end Jvm.Pilot.@@N@@
namespace Jvm.Pilot.@@N@@
open Jvm Jvm.ClassFile Sem Op Lib Jvm.Free Jvm.Stand Jvm.Pilot.@@N@@.Jvm.D
/-! MADE BY PROGRAM (witnessworld.py) out of the Statement's table words and the real class files: 13 classes; the members and pool entries that the words name. The judged class is class 1, her method 1. -/
namespace start1
open Jvm.ClassFile
def u (s : String) : CpInfo := .utf8 (stringToUtf16 s)
/-- a pool by its gaps: so many unusable entries, then the entry; so many at the end -/
def gap : Nat → List CpInfo → List CpInfo
  | 0, r => r
  | n + 1, r => .unusable :: gap n r
def poolList (es : List (Nat × CpInfo)) (last : Nat) : List CpInfo := es.foldr (fun e r => gap e.1 (e.2 :: r)) (gap last [])
def pool (es : List (Nat × CpInfo)) (last : Nat) : Array CpInfo := ⟨poolList es last⟩
def fileOf (pool : Array CpInfo) (this : Nat) (attrs : Array Attribute := #[]) (ms : Array MethodInfo := #[]) (fl : Nat := 33) (sup : Nat := 0) (ifs : Array Nat := #[]) (fds : Array FieldInfo := #[]) : ClassFile where
  minorVersion := 0
  majorVersion := 65
  constantPool := pool
  accessFlags := fl
  thisClass := this
  superClass := sup
  interfaces := ifs
  fields := fds
  methods := ms
  attributes := attrs
def plain (name : String) (sup : Option ClassId) : Class where
  name := name
  kind := .ordinary
  loader := none
  accessFlags := 33
  super := sup
  interfaces := #[]
  cf := none
  fields := #[]
  methods := #[]
  instanceTypes := #[]
  staticTypes := #[]
  resolved := #[]
  callSites := []
  init := .initialized
  statics := none
  mirror := none

def pool0 : Array CpInfo := pool [(5, u "<init>"), (0, u "()V"), (1, .class_ 10), (1, u "java/lang/Object"), (85, u "clone"), (0, u "()Ljava/lang/Object;")] 26

def k0c0 : Code := { maxStack := 0, maxLocals := 1, code := object_method_1_code, exceptionTable := #[], attributes := #[] }
def k0m0 : Method := { name := "<init>", desc := "()V", sig := { parameters := [], returnType := none }, accessFlags := 1, code := some k0c0 }
def k0m1 : Method := { name := "clone", desc := "()Ljava/lang/Object;", sig := { parameters := [], returnType := some (.object "java/lang/Object") }, accessFlags := 260, code := none }
/-- java/lang/Object -/
def k0 : Class := { plain "java/lang/Object" none with
  accessFlags := 33
  interfaces := #[]
  cf := some (fileOf pool0 8 #[] #[{ accessFlags := 1, nameIndex := 5, descriptorIndex := 6, attributes := #[] }, { accessFlags := 260, nameIndex := 96, descriptorIndex := 97, attributes := #[] }] 33 0 #[] #[])
  fields := #[]
  methods := #[k0m0, k0m1]
  instanceTypes := #[]
  staticTypes := #[]
  resolved := Array.replicate 124 none
  statics := none }

def pool1 : Array CpInfo := pool [(2, .class_ 4), (1, u "java/lang/Object"), (0, u "<init>"), (0, u "()V"), (0, .class_ 8), (0, u "com/example/fach/fach/model/AttributeValue$BinaryValue"), (0, .methodref 7 10), (0, .nameAndType 5 11), (0, u "([B)V"), (0, .methodref 7 13), (0, .nameAndType 14 15), (0, u "isEmpty"), (0, u "()Z"), (0, .class_ 17), (0, u "com/example/fach/fach/model/BinaryValueIsEmptyPinLaw"), (2, u "law"), (0, u "(II)Z")] 9

def k1m0 : Method := { name := "<init>", desc := "()V", sig := { parameters := [], returnType := none }, accessFlags := 1, code := none }
def k1c1 : Code := { maxStack := 4, maxLocals := 5, code := code, exceptionTable := #[], attributes := #[] }
def k1m1 : Method := { name := "law", desc := "(II)Z", sig := { parameters := [.int, .int], returnType := some .boolean }, accessFlags := 9, code := some k1c1 }
/-- com/example/fach/fach/model/BinaryValueIsEmptyPinLaw -/
def k1 : Class := { plain "com/example/fach/fach/model/BinaryValueIsEmptyPinLaw" (some 0) with
  accessFlags := 49
  interfaces := #[]
  cf := some (fileOf pool1 16 #[] #[{ accessFlags := 1, nameIndex := 5, descriptorIndex := 6, attributes := #[] }, { accessFlags := 9, nameIndex := 20, descriptorIndex := 21, attributes := #[] }] 49 2 #[] #[])
  fields := #[]
  methods := #[k1m0, k1m1]
  instanceTypes := #[]
  staticTypes := #[]
  resolved := Array.replicate 31 none
  statics := none }

def pool2 : Array CpInfo := pool [(1, .methodref 2 3), (0, .class_ 4), (0, .nameAndType 5 6), (0, u "java/lang/Object"), (0, u "<init>"), (0, u "()V"), (0, .class_ 8), (0, u "java/lang/Record")] 13

def k2c0 : Code := { maxStack := 1, maxLocals := 1, code := jdk_30_method_1_code, exceptionTable := #[], attributes := #[] }
def k2m0 : Method := { name := "<init>", desc := "()V", sig := { parameters := [], returnType := none }, accessFlags := 4, code := some k2c0 }
/-- java/lang/Record -/
def k2 : Class := { plain "java/lang/Record" (some 0) with
  accessFlags := 1057
  interfaces := #[]
  cf := some (fileOf pool2 7 #[] #[{ accessFlags := 4, nameIndex := 5, descriptorIndex := 6, attributes := #[] }] 1057 2 #[] #[])
  fields := #[]
  methods := #[k2m0]
  instanceTypes := #[]
  staticTypes := #[]
  resolved := Array.replicate 22 none
  statics := none }

def pool3 : Array CpInfo := pool [(2, .class_ 4), (1, u "com/example/fach/fach/model/AttributeValue$Scalar"), (20, .class_ 26), (0, u "com/example/fach/fach/model/AttributeValue"), (0, .class_ 28), (0, u "java/lang/Object"), (13, .class_ 43), (0, u "com/example/fach/fach/model/AttributeValue$SetValue"), (0, .class_ 45), (0, u "com/example/fach/fach/model/AttributeValue$MapValue"), (0, .class_ 47), (0, u "com/example/fach/fach/model/AttributeValue$ListValue"), (0, .class_ 49), (0, u "com/example/fach/fach/model/AttributeValue$NullValue"), (0, .class_ 51), (0, u "com/example/fach/fach/model/AttributeValue$BooleanValue"), (0, .class_ 53), (0, u "com/example/fach/fach/model/AttributeValue$BinaryValue"), (0, .class_ 55), (0, u "com/example/fach/fach/model/AttributeValue$NumberValue"), (0, .class_ 57), (0, u "com/example/fach/fach/model/AttributeValue$StringValue"), (0, .class_ 59), (0, u "com/example/fach/fach/model/AttributeValue$Type")] 12

/-- com/example/fach/fach/model/AttributeValue -/
def k3 : Class := { plain "com/example/fach/fach/model/AttributeValue" (some 0) with
  accessFlags := 1537
  interfaces := #[]
  cf := some (fileOf pool3 25 #[.nestMembers #[42, 44, 46, 48, 50, 52, 54, 56, 2, 58]] #[] 1537 27 #[] #[])
  fields := #[]
  methods := #[]
  instanceTypes := #[]
  staticTypes := #[]
  resolved := Array.replicate 72 none
  statics := none }

def pool4 : Array CpInfo := pool [(1, .class_ 2), (0, u "java/lang/Comparable"), (0, .class_ 4), (0, u "java/lang/Object")] 7

/-- java/lang/Comparable -/
def k4 : Class := { plain "java/lang/Comparable" (some 0) with
  accessFlags := 1537
  interfaces := #[]
  cf := some (fileOf pool4 1 #[] #[] 1537 3 #[] #[])
  fields := #[]
  methods := #[]
  instanceTypes := #[]
  staticTypes := #[]
  resolved := Array.replicate 12 none
  statics := none }

def pool5 : Array CpInfo := pool [(2, .class_ 4), (1, u "com/example/fach/fach/model/AttributeValue$Scalar"), (8, .class_ 14), (0, u "java/lang/Object"), (0, .class_ 16), (0, u "com/example/fach/fach/model/AttributeValue"), (0, .class_ 18), (0, u "java/lang/Comparable")] 25

/-- com/example/fach/fach/model/AttributeValue$Scalar -/
def k5 : Class := { plain "com/example/fach/fach/model/AttributeValue$Scalar" (some 0) with
  accessFlags := 1537
  interfaces := #[3, 4]
  cf := some (fileOf pool5 2 #[.nestHost 15] #[] 1537 13 #[15, 17] #[])
  fields := #[]
  methods := #[]
  instanceTypes := #[]
  staticTypes := #[]
  resolved := Array.replicate 44 none
  statics := none }

def pool6 : Array CpInfo := pool [(1, .methodref 2 3), (0, .class_ 4), (0, .nameAndType 5 6), (0, u "java/lang/Record"), (0, u "<init>"), (0, u "()V"), (0, .methodref 8 9), (0, .class_ 10), (0, .nameAndType 11 12), (0, u "[B"), (0, u "clone"), (0, u "()Ljava/lang/Object;"), (0, .fieldref 14 15), (0, .class_ 16), (0, .nameAndType 17 10), (0, u "com/example/fach/fach/model/AttributeValue$BinaryValue"), (0, u "bytes"), (13, .class_ 33), (1, u "com/example/fach/fach/model/AttributeValue"), (24, .class_ 59), (0, u "com/example/fach/fach/model/AttributeValue$Scalar"), (4, u "([B)V"), (6, u "isEmpty"), (0, u "()Z")] 29

def k6c0 : Code := { maxStack := 2, maxLocals := 2, code := prog_4_method_1_code, exceptionTable := #[], attributes := #[] }
def k6m0 : Method := { name := "<init>", desc := "([B)V", sig := { parameters := [(.array .byte)], returnType := none }, accessFlags := 1, code := some k6c0 }
def k6c1 : Code := { maxStack := 1, maxLocals := 1, code := prog_4_method_4_code, exceptionTable := #[], attributes := #[] }
def k6m1 : Method := { name := "isEmpty", desc := "()Z", sig := { parameters := [], returnType := some .boolean }, accessFlags := 1, code := some k6c1 }
/-- com/example/fach/fach/model/AttributeValue$BinaryValue -/
def k6 : Class := { plain "com/example/fach/fach/model/AttributeValue$BinaryValue" (some 2) with
  accessFlags := 49
  interfaces := #[5]
  cf := some (fileOf pool6 14 #[.nestHost 31] #[{ accessFlags := 1, nameIndex := 5, descriptorIndex := 64, attributes := #[] }, { accessFlags := 1, nameIndex := 71, descriptorIndex := 72, attributes := #[] }] 49 2 #[58] #[{ accessFlags := 18, nameIndex := 17, descriptorIndex := 10, attributes := #[] }])
  fields := #[{ name := "bytes", type := (.array .byte), accessFlags := 18, slot := 0, constantValue := 0 }]
  methods := #[k6m0, k6m1]
  instanceTypes := #[(.array .byte)]
  staticTypes := #[]
  resolved := Array.replicate 102 none
  statics := none }

def pool7 : Array CpInfo := pool [(1, .class_ 2), (0, u "java/lang/Cloneable"), (0, .class_ 4), (0, u "java/lang/Object")] 2

/-- java/lang/Cloneable -/
def k7 : Class := { plain "java/lang/Cloneable" (some 0) with
  accessFlags := 1537
  interfaces := #[]
  cf := some (fileOf pool7 1 #[] #[] 1537 3 #[] #[])
  fields := #[]
  methods := #[]
  instanceTypes := #[]
  staticTypes := #[]
  resolved := Array.replicate 7 none
  statics := none }

def pool8 : Array CpInfo := pool [(1, u "java/io/Serializable"), (0, .class_ 1), (0, u "java/lang/Object"), (0, .class_ 3)] 3

/-- java/io/Serializable -/
def k8 : Class := { plain "java/io/Serializable" (some 0) with
  accessFlags := 1537
  interfaces := #[]
  cf := some (fileOf pool8 2 #[] #[] 1537 4 #[] #[])
  fields := #[]
  methods := #[]
  instanceTypes := #[]
  staticTypes := #[]
  resolved := Array.replicate 8 none
  statics := none }

/-- the primitive byte -/
def k9 : Class := { plain "byte" none with kind := .primitive 'B', accessFlags := 0x411 }
/-- [B -/
def k10 : Class := { plain "[B" (some 0) with kind := .array 9 .byte, interfaces := #[7, 8], accessFlags := 1041 }

/-- the primitive int -/
def k11 : Class := { plain "int" none with kind := .primitive 'I', accessFlags := 0x411 }
/-- [I -/
def k12 : Class := { plain "[I" (some 0) with kind := .array 11 .int, interfaces := #[7, 8], accessFlags := 1041 }

def heap : Heap := #[]
def classes : Array Class := #[k0, k1, k2, k3, k4, k5, k6, k7, k8, k9, k10, k11, k12]
def interned : List (Array UInt16 × Addr) := []
def slotsUsed : Nat := 0
def theMethod : MethodId := ⟨1, 1⟩
def args0 : Array Value := #[.int 5, .int 7]
def aboutOver (below : List Frame) : State where
  vm := { classes := classes, interned := interned.toArray }
  heap := heap
  slotsUsed := slotsUsed
  threads := #[{ frames := .invoking theMethod args0 :: below }]
def below0 : List Frame := [.native { method := ⟨0, 0⟩, args := #[] }]
def about1 : State := aboutOver below0
def p0 : Program := .bare "" "" ""
def e0 : Env := launch0.env 0 0 0
theorem w_frames : about1.frames = Frame.invoking theMethod args0 :: below0 := rfl
set_option maxRecDepth 65536 in
theorem w_args : argsFit about1.vm theMethod args0 = true := by decide +kernel
set_option maxRecDepth 65536 in
theorem w_heap : heapFits about1 = true := by decide +kernel
set_option maxRecDepth 65536 in
theorem w_runnable : about1.curStatus? = some .runnable := by decide +kernel
set_option maxRecDepth 65536 in
theorem w_alone : about1.alone = true := by decide +kernel
set_option maxRecDepth 65536 in
theorem w_named : about1.methodNamed? x = some theMethod := by decide +kernel
set_option maxRecDepth 65536 in
theorem w_hears : about1.hears theMethod below0 = true := by decide +kernel
set_option maxRecDepth 65536 in
theorem w_ripe : about1.ripe theMethod args0 below0 = true := by decide +kernel
theorem w_running : about1.status = .running := rfl
set_option maxRecDepth 65536 in
theorem w_room : about1.hasRoom e0.platform room_1 = true :=
  launch0.hasRoom_least _ room_1 (by decide +kernel) (by decide +kernel) (by decide +kernel) (by decide +kernel) (by decide +kernel) (by decide +kernel)
theorem allAtoms_all (ts : List Jvm.Cond) (a : Array Jvm.Value) (st : Jvm.State) : (allAtoms ts).before a st = ts.all (fun c => c.before a st) := by
  induction ts with
  | nil => rfl
  | cons c t ih =>
    show (Jvm.Cond.and c (allAtoms t)).before a st = _
    rw [Jvm.Cond.before_and, ih, List.all_cons]
def words1 : List Jvm.Cond := Jvm.Cond.code x code maxLocals ret :: tables_1
/-- a 'code' word, met by the world's own term for the bytes: nothing is compared byte by byte -/
theorem code_word {y : MethodName} {bytes : ByteArray} {mx : Nat} {rt : Option FieldType} {a : Array Value} {s : State} {m : MethodId} {meth : Method} {c : Code} (h1 : s.methodNamed? y = some m) (h2 : s.vm.method? m = some meth) (h3 : meth.code = some c) (h4 : c.code = bytes)
    (h5 : (c.maxLocals == mx && c.exceptionTable.isEmpty && decide (c.maxStack ≤ mostOperands) && decide (meth.sig.returnType = rt) && !meth.locks && decide (parseMethodDescriptor y.desc = some meth.sig)) = true) : (Jvm.Cond.code y bytes mx rt).before a s = true := by
  simp only [Bool.and_eq_true, beq_iff_eq, Bool.not_eq_true', decide_eq_true_eq] at h5
  obtain ⟨⟨⟨⟨⟨g1, g2⟩, g3⟩, g4⟩, g5⟩, g6⟩ := h5
  simp [Cond.before, Cond.holds, Cond.value, h1, h2, h3, h4, g1, g2, g3, g4, g5, g6]
def isCode : Jvm.Cond → Bool
  | .code _ _ _ _ => true
  | _ => false
theorem all_split {L : List Jvm.Cond} {P : Jvm.Cond → Bool} (h1 : L.all (fun c => isCode c || P c) = true) (h2 : ∀ c ∈ L.filter isCode, P c = true) : L.all P = true := by
  refine List.all_eq_true.mpr fun c hc => ?_
  have h := List.all_eq_true.mp h1 c hc
  rcases Bool.eq_false_or_eq_true (isCode c) with hi | hi
  · exact h2 c (List.mem_filter.mpr ⟨hc, hi⟩)
  · simpa [hi] using h
set_option maxRecDepth 65536 in
theorem w_c0 : (Jvm.Cond.code x code maxLocals ret).before args0 about1 = true := code_word (m := ⟨1, 1⟩) (meth := k1m1) (c := k1c1) (by decide +kernel) rfl rfl rfl (by decide +kernel)
set_option maxRecDepth 65536 in
theorem w_c1 : (Jvm.Cond.code ({ cls := "com/example/fach/fach/model/AttributeValue$BinaryValue", name := "<init>", desc := "([B)V" } : Jvm.MethodName) prog_4_method_1_code (2 : Nat) (Option.none : Option Jvm.ClassFile.FieldType)).before args0 about1 = true := code_word (m := ⟨6, 0⟩) (meth := k6m0) (c := k6c0) (by decide +kernel) rfl rfl rfl (by decide +kernel)
set_option maxRecDepth 65536 in
theorem w_c2 : (Jvm.Cond.code ({ cls := "java/lang/Record", name := "<init>", desc := "()V" } : Jvm.MethodName) jdk_30_method_1_code (1 : Nat) (Option.none : Option Jvm.ClassFile.FieldType)).before args0 about1 = true := code_word (m := ⟨2, 0⟩) (meth := k2m0) (c := k2c0) (by decide +kernel) rfl rfl rfl (by decide +kernel)
set_option maxRecDepth 65536 in
theorem w_c3 : (Jvm.Cond.code ({ cls := "java/lang/Object", name := "<init>", desc := "()V" } : Jvm.MethodName) object_method_1_code (1 : Nat) (Option.none : Option Jvm.ClassFile.FieldType)).before args0 about1 = true := code_word (m := ⟨0, 0⟩) (meth := k0m0) (c := k0c0) (by decide +kernel) rfl rfl rfl (by decide +kernel)
set_option maxRecDepth 65536 in
theorem w_c4 : (Jvm.Cond.code ({ cls := "com/example/fach/fach/model/AttributeValue$BinaryValue", name := "isEmpty", desc := "()Z" } : Jvm.MethodName) prog_4_method_4_code (1 : Nat) (Option.some Jvm.ClassFile.FieldType.boolean)).before args0 about1 = true := code_word (m := ⟨6, 1⟩) (meth := k6m1) (c := k6c1) (by decide +kernel) rfl rfl rfl (by decide +kernel)
def codes1 : List Jvm.Cond := [Jvm.Cond.code x code maxLocals ret, Jvm.Cond.code ({ cls := "com/example/fach/fach/model/AttributeValue$BinaryValue", name := "<init>", desc := "([B)V" } : Jvm.MethodName) prog_4_method_1_code (2 : Nat) (Option.none : Option Jvm.ClassFile.FieldType), Jvm.Cond.code ({ cls := "java/lang/Record", name := "<init>", desc := "()V" } : Jvm.MethodName) jdk_30_method_1_code (1 : Nat) (Option.none : Option Jvm.ClassFile.FieldType), Jvm.Cond.code ({ cls := "java/lang/Object", name := "<init>", desc := "()V" } : Jvm.MethodName) object_method_1_code (1 : Nat) (Option.none : Option Jvm.ClassFile.FieldType), Jvm.Cond.code ({ cls := "com/example/fach/fach/model/AttributeValue$BinaryValue", name := "isEmpty", desc := "()Z" } : Jvm.MethodName) prog_4_method_4_code (1 : Nat) (Option.some Jvm.ClassFile.FieldType.boolean)]
set_option maxRecDepth 65536 in
theorem codes_eq : words1.filter isCode = codes1 := rfl
theorem w_codes : ∀ c ∈ words1.filter isCode, c.before args0 about1 = true := by
  rw [codes_eq]
  intro c hc
  simp only [codes1, List.mem_cons, List.not_mem_nil, or_false] at hc
  rcases hc with rfl | rfl | rfl | rfl | rfl
  · exact w_c0
  · exact w_c1
  · exact w_c2
  · exact w_c3
  · exact w_c4
set_option maxRecDepth 65536 in
theorem w_t1 : (words1.take 24).all (fun c => isCode c || c.before args0 about1) = true := by decide +kernel
set_option maxRecDepth 65536 in
theorem w_t2 : (words1.drop 24).all (fun c => isCode c || c.before args0 about1) = true := by decide +kernel
theorem w_tables : (allAtoms (Jvm.Cond.code x code maxLocals ret :: tables_1)).before args0 about1 = true := by
  rw [allAtoms_all]
  show words1.all (fun c => c.before args0 about1) = true
  refine all_split ?_ w_codes
  rw [← List.take_append_drop 24 words1, List.all_append, w_t1, w_t2]
  rfl
set_option maxRecDepth 65536 in
theorem w_case : (Jvm.Cond.and given_1 narrow_1).before args0 about1 = true := by decide +kernel
theorem w_applies : (headSpec (Jvm.Cond.code x code maxLocals ret :: tables_1) room_1).applies x e0.platform about1 = true :=
  (Spec.applies_iff w_frames).mpr ⟨w_running, w_runnable, w_alone, w_named, w_hears, w_ripe, w_room, w_tables⟩
theorem atStart : AtStart classFile x code maxLocals ret World_1 tables_1 room_1 Calls_1 rest_1 Pre_1 launch0 p0 e0 about1 theMethod args0 below0 :=
  ⟨lists_1, trivial, launch0.admits_env _ _ _, launch0.least_env, fairChoices_fair.cas, fairChoices_fair.clock, w_frames, w_args, w_heap, w_applies, trivial, trivial, w_case⟩
end start1
theorem witness_1 : WitnessClaimed_1 := ⟨start1.p0, start1.e0, start1.about1, start1.theMethod, start1.args0, start1.below0, start1.atStart⟩
end Jvm.Pilot.@@N@@
