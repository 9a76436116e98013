import JvmDerived
import JvmDerived.Pilot.@@N@@Statement
import JvmDerived.Pilot.@@N@@Code
set_option linter.unusedVariables false
set_option linter.unusedSimpArgs false
namespace Jvm.Pilot.@@N@@
open Jvm Jvm.ClassFile Sem Op Lib Jvm.Free Jvm.Stand Jvm.LawKit Jvm.RoadKit Bundle Jvm.Pilot.@@N@@.Jvm.D
section OwnKit
variable {p : Program} {l : Launch} {e : Env} {R : Room} {s : State} {m : MethodId} {args : Array Value} {below : List Frame} {meth : Method} {c : Code} {T : State} {locs : List Loc} {cells slots : Nat} {Z : State} {a0 : Array Value} {h : Heap} {Q : Option Value → Heap → List Loc → Prop} {ck sk : Nat}
/-- from the state T with the frame g on top the run comes to a return that answers Q -/
def own_R (p : Program) (e : Env) (below : List Frame) (s : State) (Q : Option Value → Heap → List Loc → Prop) (ck sk : Nat) (T : State) (g : JFrame) : Prop :=
  ∃ (t : State) (o : Outcome), Steps p.tables e below (T.setTop g) t ∧ t.status = .running ∧ Ended t below o ∧ ∃ v L, o = .returned v ∧ Q v t.heap L ∧ FrameEnd s o t L ck sk
theorem own_lift {T' : State} {g g' : JFrame} (h : ∀ target, Steps p.tables e below (T'.setTop g') target → Steps p.tables e below (T.setTop g) target) (k : own_R p e below s Q ck sk T' g') : own_R p e below s Q ck sk T g := by
  obtain ⟨t, o, h1, h2⟩ := k
  exact ⟨t, o, h _ h1, h2⟩
theorem own_cast {g g' : JFrame} (q : g = g') (k : own_R p e below s Q ck sk T g') : own_R p e below s Q ck sk T g := q ▸ k
theorem own_iadd (X : Stand p l e R s m args below meth c T locs cells slots) (hx : p.tables.exec = Jvm.exec) {pc : Nat} {Ls : Array Slot} {St : List Value} {x y : Int32} (hd : decode c.code pc = .ok (.iadd, 1)) (k : own_R p e below s Q ck sk T (mkF m (pc + 1) Ls (.int (x + y) :: St))) : own_R p e below s Q ck sk T (mkF m pc Ls (.int y :: .int x :: St)) :=
  own_lift (fun _ q => XS.iadd X.here hx rfl hd rfl q) k
theorem own_isub (X : Stand p l e R s m args below meth c T locs cells slots) (hx : p.tables.exec = Jvm.exec) {pc : Nat} {Ls : Array Slot} {St : List Value} {x y : Int32} (hd : decode c.code pc = .ok (.isub, 1)) (k : own_R p e below s Q ck sk T (mkF m (pc + 1) Ls (.int (x - y) :: St))) : own_R p e below s Q ck sk T (mkF m pc Ls (.int y :: .int x :: St)) :=
  own_lift (fun _ q => XS.isub X.here hx rfl hd rfl q) k
theorem own_imul (X : Stand p l e R s m args below meth c T locs cells slots) (hx : p.tables.exec = Jvm.exec) {pc : Nat} {Ls : Array Slot} {St : List Value} {x y : Int32} (hd : decode c.code pc = .ok (.imul, 1)) (k : own_R p e below s Q ck sk T (mkF m (pc + 1) Ls (.int (x * y) :: St))) : own_R p e below s Q ck sk T (mkF m pc Ls (.int y :: .int x :: St)) :=
  own_lift (fun _ q => XS.imul X.here hx rfl hd rfl q) k
theorem own_iand (X : Stand p l e R s m args below meth c T locs cells slots) (hx : p.tables.exec = Jvm.exec) {pc : Nat} {Ls : Array Slot} {St : List Value} {x y : Int32} (hd : decode c.code pc = .ok (.iand, 1)) (k : own_R p e below s Q ck sk T (mkF m (pc + 1) Ls (.int (x &&& y) :: St))) : own_R p e below s Q ck sk T (mkF m pc Ls (.int y :: .int x :: St)) :=
  own_lift (fun _ q => XS.iand X.here hx rfl hd rfl q) k
theorem own_ior (X : Stand p l e R s m args below meth c T locs cells slots) (hx : p.tables.exec = Jvm.exec) {pc : Nat} {Ls : Array Slot} {St : List Value} {x y : Int32} (hd : decode c.code pc = .ok (.ior, 1)) (k : own_R p e below s Q ck sk T (mkF m (pc + 1) Ls (.int (x ||| y) :: St))) : own_R p e below s Q ck sk T (mkF m pc Ls (.int y :: .int x :: St)) :=
  own_lift (fun _ q => XS.ior X.here hx rfl hd rfl q) k
theorem own_ixor (X : Stand p l e R s m args below meth c T locs cells slots) (hx : p.tables.exec = Jvm.exec) {pc : Nat} {Ls : Array Slot} {St : List Value} {x y : Int32} (hd : decode c.code pc = .ok (.ixor, 1)) (k : own_R p e below s Q ck sk T (mkF m (pc + 1) Ls (.int (x ^^^ y) :: St))) : own_R p e below s Q ck sk T (mkF m pc Ls (.int y :: .int x :: St)) :=
  own_lift (fun _ q => XS.ixor X.here hx rfl hd rfl q) k
theorem own_ishl (X : Stand p l e R s m args below meth c T locs cells slots) (hx : p.tables.exec = Jvm.exec) {pc : Nat} {Ls : Array Slot} {St : List Value} {x y : Int32} (hd : decode c.code pc = .ok (.ishl, 1)) (k : own_R p e below s Q ck sk T (mkF m (pc + 1) Ls (.int (x <<< (y &&& 31)) :: St))) : own_R p e below s Q ck sk T (mkF m pc Ls (.int y :: .int x :: St)) :=
  own_lift (fun _ q => XS.ishl X.here hx rfl hd rfl q) k
theorem own_ishr (X : Stand p l e R s m args below meth c T locs cells slots) (hx : p.tables.exec = Jvm.exec) {pc : Nat} {Ls : Array Slot} {St : List Value} {x y : Int32} (hd : decode c.code pc = .ok (.ishr, 1)) (k : own_R p e below s Q ck sk T (mkF m (pc + 1) Ls (.int (x >>> (y &&& 31)) :: St))) : own_R p e below s Q ck sk T (mkF m pc Ls (.int y :: .int x :: St)) :=
  own_lift (fun _ q => XS.ishr X.here hx rfl hd rfl q) k
theorem own_iushr (X : Stand p l e R s m args below meth c T locs cells slots) (hx : p.tables.exec = Jvm.exec) {pc : Nat} {Ls : Array Slot} {St : List Value} {x y : Int32} (hd : decode c.code pc = .ok (.iushr, 1)) (k : own_R p e below s Q ck sk T (mkF m (pc + 1) Ls (.int ((x.toUInt32 >>> (y &&& 31).toUInt32).toInt32) :: St))) : own_R p e below s Q ck sk T (mkF m pc Ls (.int y :: .int x :: St)) :=
  own_lift (fun _ q => XS.iushr X.here hx rfl hd rfl q) k
theorem own_ladd (X : Stand p l e R s m args below meth c T locs cells slots) (hx : p.tables.exec = Jvm.exec) {pc : Nat} {Ls : Array Slot} {St : List Value} {x y : Int64} (hd : decode c.code pc = .ok (.ladd, 1)) (k : own_R p e below s Q ck sk T (mkF m (pc + 1) Ls (.long (x + y) :: St))) : own_R p e below s Q ck sk T (mkF m pc Ls (.long y :: .long x :: St)) :=
  own_lift (fun _ q => XS.ladd X.here hx rfl hd rfl q) k
theorem own_lsub (X : Stand p l e R s m args below meth c T locs cells slots) (hx : p.tables.exec = Jvm.exec) {pc : Nat} {Ls : Array Slot} {St : List Value} {x y : Int64} (hd : decode c.code pc = .ok (.lsub, 1)) (k : own_R p e below s Q ck sk T (mkF m (pc + 1) Ls (.long (x - y) :: St))) : own_R p e below s Q ck sk T (mkF m pc Ls (.long y :: .long x :: St)) :=
  own_lift (fun _ q => XS.lsub X.here hx rfl hd rfl q) k
theorem own_lmul (X : Stand p l e R s m args below meth c T locs cells slots) (hx : p.tables.exec = Jvm.exec) {pc : Nat} {Ls : Array Slot} {St : List Value} {x y : Int64} (hd : decode c.code pc = .ok (.lmul, 1)) (k : own_R p e below s Q ck sk T (mkF m (pc + 1) Ls (.long (x * y) :: St))) : own_R p e below s Q ck sk T (mkF m pc Ls (.long y :: .long x :: St)) :=
  own_lift (fun _ q => XS.lmul X.here hx rfl hd rfl q) k
theorem own_land (X : Stand p l e R s m args below meth c T locs cells slots) (hx : p.tables.exec = Jvm.exec) {pc : Nat} {Ls : Array Slot} {St : List Value} {x y : Int64} (hd : decode c.code pc = .ok (.land, 1)) (k : own_R p e below s Q ck sk T (mkF m (pc + 1) Ls (.long (x &&& y) :: St))) : own_R p e below s Q ck sk T (mkF m pc Ls (.long y :: .long x :: St)) :=
  own_lift (fun _ q => XS.land X.here hx rfl hd rfl q) k
theorem own_lor (X : Stand p l e R s m args below meth c T locs cells slots) (hx : p.tables.exec = Jvm.exec) {pc : Nat} {Ls : Array Slot} {St : List Value} {x y : Int64} (hd : decode c.code pc = .ok (.lor, 1)) (k : own_R p e below s Q ck sk T (mkF m (pc + 1) Ls (.long (x ||| y) :: St))) : own_R p e below s Q ck sk T (mkF m pc Ls (.long y :: .long x :: St)) :=
  own_lift (fun _ q => XS.lor X.here hx rfl hd rfl q) k
theorem own_lshl (X : Stand p l e R s m args below meth c T locs cells slots) (hx : p.tables.exec = Jvm.exec) {pc : Nat} {Ls : Array Slot} {St : List Value} {x : Int64} {y : Int32} (hd : decode c.code pc = .ok (.lshl, 1)) (k : own_R p e below s Q ck sk T (mkF m (pc + 1) Ls (.long (x <<< (y &&& 0x3f).toInt64) :: St))) : own_R p e below s Q ck sk T (mkF m pc Ls (.int y :: .long x :: St)) :=
  own_lift (fun _ q => XS.lshl X.here hx rfl hd rfl q) k
theorem own_lshr (X : Stand p l e R s m args below meth c T locs cells slots) (hx : p.tables.exec = Jvm.exec) {pc : Nat} {Ls : Array Slot} {St : List Value} {x : Int64} {y : Int32} (hd : decode c.code pc = .ok (.lshr, 1)) (k : own_R p e below s Q ck sk T (mkF m (pc + 1) Ls (.long (x >>> (y &&& 0x3f).toInt64) :: St))) : own_R p e below s Q ck sk T (mkF m pc Ls (.int y :: .long x :: St)) :=
  own_lift (fun _ q => XS.lshr X.here hx rfl hd rfl q) k
theorem own_lushr (X : Stand p l e R s m args below meth c T locs cells slots) (hx : p.tables.exec = Jvm.exec) {pc : Nat} {Ls : Array Slot} {St : List Value} {x : Int64} {y : Int32} (hd : decode c.code pc = .ok (.lushr, 1)) (k : own_R p e below s Q ck sk T (mkF m (pc + 1) Ls (.long ((x.toUInt64 >>> (y &&& 0x3f).toInt64.toUInt64).toInt64) :: St))) : own_R p e below s Q ck sk T (mkF m pc Ls (.int y :: .long x :: St)) :=
  own_lift (fun _ q => XS.lushr X.here hx rfl hd rfl q) k
theorem own_i2b (X : Stand p l e R s m args below meth c T locs cells slots) (hx : p.tables.exec = Jvm.exec) {pc : Nat} {Ls : Array Slot} {St : List Value} {x : Int32} (hd : decode c.code pc = .ok (.i2b, 1)) (k : own_R p e below s Q ck sk T (mkF m (pc + 1) Ls (.int x.toInt8.toInt32 :: St))) : own_R p e below s Q ck sk T (mkF m pc Ls (.int x :: St)) :=
  own_lift (fun _ q => XS.i2b X.here hx rfl hd rfl q) k
theorem own_i2s (X : Stand p l e R s m args below meth c T locs cells slots) (hx : p.tables.exec = Jvm.exec) {pc : Nat} {Ls : Array Slot} {St : List Value} {x : Int32} (hd : decode c.code pc = .ok (.i2s, 1)) (k : own_R p e below s Q ck sk T (mkF m (pc + 1) Ls (.int x.toInt16.toInt32 :: St))) : own_R p e below s Q ck sk T (mkF m pc Ls (.int x :: St)) :=
  own_lift (fun _ q => XS.i2s X.here hx rfl hd rfl q) k
theorem own_i2c (X : Stand p l e R s m args below meth c T locs cells slots) (hx : p.tables.exec = Jvm.exec) {pc : Nat} {Ls : Array Slot} {St : List Value} {x : Int32} (hd : decode c.code pc = .ok (.i2c, 1)) (k : own_R p e below s Q ck sk T (mkF m (pc + 1) Ls (.int x.toUInt32.toUInt16.toUInt32.toInt32 :: St))) : own_R p e below s Q ck sk T (mkF m pc Ls (.int x :: St)) :=
  own_lift (fun _ q => XS.i2c X.here hx rfl hd rfl q) k
theorem own_i2l (X : Stand p l e R s m args below meth c T locs cells slots) (hx : p.tables.exec = Jvm.exec) {pc : Nat} {Ls : Array Slot} {St : List Value} {x : Int32} (hd : decode c.code pc = .ok (.i2l, 1)) (k : own_R p e below s Q ck sk T (mkF m (pc + 1) Ls (.long x.toInt64 :: St))) : own_R p e below s Q ck sk T (mkF m pc Ls (.int x :: St)) :=
  own_lift (fun _ q => XS.i2l X.here hx rfl hd rfl q) k
theorem own_l2i (X : Stand p l e R s m args below meth c T locs cells slots) (hx : p.tables.exec = Jvm.exec) {pc : Nat} {Ls : Array Slot} {St : List Value} {x : Int64} (hd : decode c.code pc = .ok (.l2i, 1)) (k : own_R p e below s Q ck sk T (mkF m (pc + 1) Ls (.int x.toInt32 :: St))) : own_R p e below s Q ck sk T (mkF m pc Ls (.long x :: St)) :=
  own_lift (fun _ q => XS.l2i X.here hx rfl hd rfl q) k
theorem own_ineg (X : Stand p l e R s m args below meth c T locs cells slots) (hx : p.tables.exec = Jvm.exec) {pc : Nat} {Ls : Array Slot} {St : List Value} {x : Int32} (hd : decode c.code pc = .ok (.ineg, 1)) (k : own_R p e below s Q ck sk T (mkF m (pc + 1) Ls (.int (-x) :: St))) : own_R p e below s Q ck sk T (mkF m pc Ls (.int x :: St)) :=
  own_lift (fun _ q => XS.ineg X.here hx rfl hd rfl q) k
theorem own_lneg (X : Stand p l e R s m args below meth c T locs cells slots) (hx : p.tables.exec = Jvm.exec) {pc : Nat} {Ls : Array Slot} {St : List Value} {x : Int64} (hd : decode c.code pc = .ok (.lneg, 1)) (k : own_R p e below s Q ck sk T (mkF m (pc + 1) Ls (.long (-x) :: St))) : own_R p e below s Q ck sk T (mkF m pc Ls (.long x :: St)) :=
  own_lift (fun _ q => XS.lneg X.here hx rfl hd rfl q) k
theorem own_iloadN (X : Stand p l e R s m args below meth c T locs cells slots) (hx : p.tables.exec = Jvm.exec) {pc : Nat} {Ls : Array Slot} {St : List Value} {i : Fin 4} {v : Int32} (hd : decode c.code pc = .ok (.iload_n i, 1)) (hl : Ls[i.val]? = some (.val (.int v))) (k : own_R p e below s Q ck sk T (mkF m (pc + 1) Ls (.int v :: St))) : own_R p e below s Q ck sk T (mkF m pc Ls St) :=
  own_lift (fun _ q => XS.iloadN X.here hx rfl hd hl q) k
theorem own_iload (X : Stand p l e R s m args below meth c T locs cells slots) (hx : p.tables.exec = Jvm.exec) {pc : Nat} {Ls : Array Slot} {St : List Value} {i : Nat} {v : Int32} (hd : decode c.code pc = .ok (.iload i, 2)) (hl : Ls[i]? = some (.val (.int v))) (k : own_R p e below s Q ck sk T (mkF m (pc + 2) Ls (.int v :: St))) : own_R p e below s Q ck sk T (mkF m pc Ls St) :=
  own_lift (fun _ q => XS.iload X.here hx rfl hd hl q) k
theorem own_istoreN (X : Stand p l e R s m args below meth c T locs cells slots) (hx : p.tables.exec = Jvm.exec) {pc : Nat} {Ls : Array Slot} {St : List Value} {i : Fin 4} {v : Int32} {l' : Array Slot} (hd : decode c.code pc = .ok (.istore_n i, 1)) (hl : storeLocals Ls i.val (.int v) = some l') (k : own_R p e below s Q ck sk T (mkF m (pc + 1) l' St)) : own_R p e below s Q ck sk T (mkF m pc Ls (.int v :: St)) :=
  own_lift (fun _ q => XS.istoreN X.here hx rfl hd rfl hl q) k
theorem own_istore (X : Stand p l e R s m args below meth c T locs cells slots) (hx : p.tables.exec = Jvm.exec) {pc : Nat} {Ls : Array Slot} {St : List Value} {i : Nat} {v : Int32} {l' : Array Slot} (hd : decode c.code pc = .ok (.istore i, 2)) (hl : storeLocals Ls i (.int v) = some l') (k : own_R p e below s Q ck sk T (mkF m (pc + 2) l' St)) : own_R p e below s Q ck sk T (mkF m pc Ls (.int v :: St)) :=
  own_lift (fun _ q => XS.istore X.here hx rfl hd rfl hl q) k
theorem own_lloadN (X : Stand p l e R s m args below meth c T locs cells slots) (hx : p.tables.exec = Jvm.exec) {pc : Nat} {Ls : Array Slot} {St : List Value} {i : Fin 4} {v : Int64} (hd : decode c.code pc = .ok (.lload_n i, 1)) (hl : Ls[i.val]? = some (.val (.long v))) (k : own_R p e below s Q ck sk T (mkF m (pc + 1) Ls (.long v :: St))) : own_R p e below s Q ck sk T (mkF m pc Ls St) :=
  own_lift (fun _ q => XS.lloadN X.here hx rfl hd hl q) k
theorem own_lload (X : Stand p l e R s m args below meth c T locs cells slots) (hx : p.tables.exec = Jvm.exec) {pc : Nat} {Ls : Array Slot} {St : List Value} {i : Nat} {v : Int64} (hd : decode c.code pc = .ok (.lload i, 2)) (hl : Ls[i]? = some (.val (.long v))) (k : own_R p e below s Q ck sk T (mkF m (pc + 2) Ls (.long v :: St))) : own_R p e below s Q ck sk T (mkF m pc Ls St) :=
  own_lift (fun _ q => XS.lload X.here hx rfl hd hl q) k
theorem own_lstoreN (X : Stand p l e R s m args below meth c T locs cells slots) (hx : p.tables.exec = Jvm.exec) {pc : Nat} {Ls : Array Slot} {St : List Value} {i : Fin 4} {v : Int64} {l' : Array Slot} (hd : decode c.code pc = .ok (.lstore_n i, 1)) (hl : storeLocals Ls i.val (.long v) = some l') (k : own_R p e below s Q ck sk T (mkF m (pc + 1) l' St)) : own_R p e below s Q ck sk T (mkF m pc Ls (.long v :: St)) :=
  own_lift (fun _ q => XS.lstoreN X.here hx rfl hd rfl hl q) k
theorem own_lstore (X : Stand p l e R s m args below meth c T locs cells slots) (hx : p.tables.exec = Jvm.exec) {pc : Nat} {Ls : Array Slot} {St : List Value} {i : Nat} {v : Int64} {l' : Array Slot} (hd : decode c.code pc = .ok (.lstore i, 2)) (hl : storeLocals Ls i (.long v) = some l') (k : own_R p e below s Q ck sk T (mkF m (pc + 2) l' St)) : own_R p e below s Q ck sk T (mkF m pc Ls (.long v :: St)) :=
  own_lift (fun _ q => XS.lstore X.here hx rfl hd rfl hl q) k
theorem own_aloadN (X : Stand p l e R s m args below meth c T locs cells slots) (hx : p.tables.exec = Jvm.exec) {pc : Nat} {Ls : Array Slot} {St : List Value} {i : Fin 4} {v : Value} (hd : decode c.code pc = .ok (.aload_n i, 1)) (hl : Ls[i.val]? = some (.val v)) (hv : v.isRef = true) (k : own_R p e below s Q ck sk T (mkF m (pc + 1) Ls (v :: St))) : own_R p e below s Q ck sk T (mkF m pc Ls St) :=
  own_lift (fun _ q => XS.aloadN X.here hx rfl hd hl hv q) k
theorem own_aload (X : Stand p l e R s m args below meth c T locs cells slots) (hx : p.tables.exec = Jvm.exec) {pc : Nat} {Ls : Array Slot} {St : List Value} {i : Nat} {v : Value} (hd : decode c.code pc = .ok (.aload i, 2)) (hl : Ls[i]? = some (.val v)) (hv : v.isRef = true) (k : own_R p e below s Q ck sk T (mkF m (pc + 2) Ls (v :: St))) : own_R p e below s Q ck sk T (mkF m pc Ls St) :=
  own_lift (fun _ q => XS.aload X.here hx rfl hd hl hv q) k
theorem own_astoreN (X : Stand p l e R s m args below meth c T locs cells slots) (hx : p.tables.exec = Jvm.exec) {pc : Nat} {Ls : Array Slot} {St : List Value} {i : Fin 4} {v : Value} {l' : Array Slot} (hd : decode c.code pc = .ok (.astore_n i, 1)) (hv : v.isRef = true) (hl : storeLocals Ls i.val v = some l') (k : own_R p e below s Q ck sk T (mkF m (pc + 1) l' St)) : own_R p e below s Q ck sk T (mkF m pc Ls (v :: St)) :=
  own_lift (fun _ q => XS.astoreN X.here hx rfl hd rfl hv hl q) k
theorem own_astore (X : Stand p l e R s m args below meth c T locs cells slots) (hx : p.tables.exec = Jvm.exec) {pc : Nat} {Ls : Array Slot} {St : List Value} {i : Nat} {v : Value} {l' : Array Slot} (hd : decode c.code pc = .ok (.astore i, 2)) (hv : v.isRef = true) (hl : storeLocals Ls i v = some l') (k : own_R p e below s Q ck sk T (mkF m (pc + 2) l' St)) : own_R p e below s Q ck sk T (mkF m pc Ls (v :: St)) :=
  own_lift (fun _ q => XS.astore X.here hx rfl hd rfl hv hl q) k
theorem own_iconst (X : Stand p l e R s m args below meth c T locs cells slots) (hx : p.tables.exec = Jvm.exec) {pc : Nat} {Ls : Array Slot} {St : List Value} {i : Int} (v : Int32) (hd : decode c.code pc = .ok (.iconst i, 1)) (hv : Int32.ofInt i = v) (k : own_R p e below s Q ck sk T (mkF m (pc + 1) Ls (.int v :: St))) : own_R p e below s Q ck sk T (mkF m pc Ls St) :=
  own_lift (fun _ q => XS.iconst X.here hx rfl hd (hv ▸ q)) k
theorem own_bipush (X : Stand p l e R s m args below meth c T locs cells slots) (hx : p.tables.exec = Jvm.exec) {pc : Nat} {Ls : Array Slot} {St : List Value} {i : Int} (v : Int32) (hd : decode c.code pc = .ok (.bipush i, 2)) (hv : (Int8.ofInt i).toInt32 = v) (k : own_R p e below s Q ck sk T (mkF m (pc + 2) Ls (.int v :: St))) : own_R p e below s Q ck sk T (mkF m pc Ls St) :=
  own_lift (fun _ q => XS.bipush X.here hx rfl hd (hv ▸ q)) k
theorem own_sipush (X : Stand p l e R s m args below meth c T locs cells slots) (hx : p.tables.exec = Jvm.exec) {pc : Nat} {Ls : Array Slot} {St : List Value} {i : Int} (v : Int32) (hd : decode c.code pc = .ok (.sipush i, 3)) (hv : (Int16.ofInt i).toInt32 = v) (k : own_R p e below s Q ck sk T (mkF m (pc + 3) Ls (.int v :: St))) : own_R p e below s Q ck sk T (mkF m pc Ls St) :=
  own_lift (fun _ q => XS.sipush X.here hx rfl hd (hv ▸ q)) k
theorem own_lconst (X : Stand p l e R s m args below meth c T locs cells slots) (hx : p.tables.exec = Jvm.exec) {pc : Nat} {Ls : Array Slot} {St : List Value} {i : Fin 2} (v : Int64) (hd : decode c.code pc = .ok (.lconst i, 1)) (hv : Int64.ofNat i = v) (k : own_R p e below s Q ck sk T (mkF m (pc + 1) Ls (.long v :: St))) : own_R p e below s Q ck sk T (mkF m pc Ls St) :=
  own_lift (fun _ q => XS.lconst X.here hx rfl hd (hv ▸ q)) k
theorem own_iinc (X : Stand p l e R s m args below meth c T locs cells slots) (hx : p.tables.exec = Jvm.exec) {pc : Nat} {Ls : Array Slot} {St : List Value} {i : Nat} {cst : Int} {x : Int32} (v : Int32) {l' : Array Slot} (hd : decode c.code pc = .ok (.iinc i cst, 3)) (hv : Int32.ofInt cst = v) (hl : Ls[i]? = some (.val (.int x))) (hl' : storeLocals Ls i (.int (x + v)) = some l') (k : own_R p e below s Q ck sk T (mkF m (pc + 3) l' St)) : own_R p e below s Q ck sk T (mkF m pc Ls St) :=
  own_lift (fun _ q => XS.iinc X.here hx rfl hd hl (hv ▸ hl') q) k
theorem own_aconst_null (X : Stand p l e R s m args below meth c T locs cells slots) (hx : p.tables.exec = Jvm.exec) {pc : Nat} {Ls : Array Slot} {St : List Value}  (hd : decode c.code pc = .ok (.aconst_null, 1)) (k : own_R p e below s Q ck sk T (mkF m (pc + 1) Ls (.null :: St))) : own_R p e below s Q ck sk T (mkF m pc Ls St) :=
  own_lift (fun _ q => XS.aconstNull X.here hx rfl hd q) k
theorem own_dup (X : Stand p l e R s m args below meth c T locs cells slots) (hx : p.tables.exec = Jvm.exec) {pc : Nat} {Ls : Array Slot} {St : List Value} {x : Value} (hd : decode c.code pc = .ok (.dup, 1)) (hc : x.category = 1) (k : own_R p e below s Q ck sk T (mkF m (pc + 1) Ls (x :: x :: St))) : own_R p e below s Q ck sk T (mkF m pc Ls (x :: St)) :=
  own_lift (fun _ q => XS.dup X.here hx rfl hd rfl hc q) k
theorem own_dup_x1 (X : Stand p l e R s m args below meth c T locs cells slots) (hx : p.tables.exec = Jvm.exec) {pc : Nat} {Ls : Array Slot} {St : List Value} {x y : Value} (hd : decode c.code pc = .ok (.dup_x1, 1)) (hc : x.category = 1) (hc2 : y.category = 1) (k : own_R p e below s Q ck sk T (mkF m (pc + 1) Ls (x :: y :: x :: St))) : own_R p e below s Q ck sk T (mkF m pc Ls (x :: y :: St)) :=
  own_lift (fun _ q => XS.dupX1 X.here hx rfl hd rfl hc hc2 q) k
theorem own_pop (X : Stand p l e R s m args below meth c T locs cells slots) (hx : p.tables.exec = Jvm.exec) {pc : Nat} {Ls : Array Slot} {St : List Value} {x : Value} (hd : decode c.code pc = .ok (.pop, 1)) (hc : x.category = 1) (k : own_R p e below s Q ck sk T (mkF m (pc + 1) Ls St)) : own_R p e below s Q ck sk T (mkF m pc Ls (x :: St)) :=
  own_lift (fun _ q => XS.pop X.here hx rfl hd rfl hc q) k
theorem own_goto (X : Stand p l e R s m args below meth c T locs cells slots) (hx : p.tables.exec = Jvm.exec) {pc : Nat} {Ls : Array Slot} {St : List Value} {o : Int} {pc' : Nat} (hd : decode c.code pc = .ok (.goto o, 3)) (ho : 0 ≤ (pc : Int) + o) (hp : ((pc : Int) + o).toNat = pc') (k : own_R p e below s Q ck sk T (mkF m pc' Ls St)) : own_R p e below s Q ck sk T (mkF m pc Ls St) :=
  own_lift (fun _ q => XS.goto X.here hx rfl (pc0 := pc) rfl hd ho hp q) k
theorem own_ifnullY (X : Stand p l e R s m args below meth c T locs cells slots) (hx : p.tables.exec = Jvm.exec) {pc : Nat} {Ls : Array Slot} {St : List Value} {o : Int} {pc' : Nat} (hd : decode c.code pc = .ok (.ifnull o, 3)) (ho : 0 ≤ (pc : Int) + o) (hp : ((pc : Int) + o).toNat = pc') (k : own_R p e below s Q ck sk T (mkF m pc' Ls St)) : own_R p e below s Q ck sk T (mkF m pc Ls (.null :: St)) :=
  own_lift (fun _ q => XS.ifnullYes X.here hx rfl (pc0 := pc) rfl hd rfl ho hp q) k
theorem own_ifnullN (X : Stand p l e R s m args below meth c T locs cells slots) (hx : p.tables.exec = Jvm.exec) {pc : Nat} {Ls : Array Slot} {St : List Value} {o : Int} {b : Addr} (hd : decode c.code pc = .ok (.ifnull o, 3)) (k : own_R p e below s Q ck sk T (mkF m (pc + 3) Ls St)) : own_R p e below s Q ck sk T (mkF m pc Ls (.ref b :: St)) :=
  own_lift (fun _ q => XS.ifnullNo X.here hx rfl hd rfl q) k
theorem own_ifnonnullY (X : Stand p l e R s m args below meth c T locs cells slots) (hx : p.tables.exec = Jvm.exec) {pc : Nat} {Ls : Array Slot} {St : List Value} {o : Int} {pc' : Nat} {b : Addr} (hd : decode c.code pc = .ok (.ifnonnull o, 3)) (ho : 0 ≤ (pc : Int) + o) (hp : ((pc : Int) + o).toNat = pc') (k : own_R p e below s Q ck sk T (mkF m pc' Ls St)) : own_R p e below s Q ck sk T (mkF m pc Ls (.ref b :: St)) :=
  own_lift (fun _ q => XS.ifnonnullYes X.here hx rfl (pc0 := pc) rfl hd rfl ho hp q) k
theorem own_ifnonnullN (X : Stand p l e R s m args below meth c T locs cells slots) (hx : p.tables.exec = Jvm.exec) {pc : Nat} {Ls : Array Slot} {St : List Value} {o : Int} (hd : decode c.code pc = .ok (.ifnonnull o, 3)) (k : own_R p e below s Q ck sk T (mkF m (pc + 3) Ls St)) : own_R p e below s Q ck sk T (mkF m pc Ls (.null :: St)) :=
  own_lift (fun _ q => XS.ifnonnullNo X.here hx rfl hd rfl q) k
theorem own_irem (X : Stand p l e R s m args below meth c T locs cells slots) (hx : p.tables.exec = Jvm.exec) {pc : Nat} {Ls : Array Slot} {St : List Value} {x y : Int32} (hd : decode c.code pc = .ok (.irem, 1)) (hy : y ≠ 0) (k : own_R p e below s Q ck sk T (mkF m (pc + 1) Ls (.int (x % y) :: St))) : own_R p e below s Q ck sk T (mkF m pc Ls (.int y :: .int x :: St)) :=
  own_lift (fun _ q => iremM X hx rfl hd rfl hy q) k
theorem own_ldc (X : Stand p l e R s m args below meth c T locs cells slots) (hx : p.tables.exec = Jvm.exec) (hZ : Z.Warmed39 s.vm) {own : String} {index : Nat} {v : Int32} (hown : s.vm.findClass own = some m.cls) (w : (Cond.constant own index v).before a0 Z = true) {pc : Nat} {Ls : Array Slot} {St : List Value} (hd : decode c.code pc = .ok (.ldc index, 2)) (k : own_R p e below s Q ck sk T (mkF m (pc + 2) Ls (.int v :: St))) : own_R p e below s Q ck sk T (mkF m pc Ls St) :=
  own_lift (fun _ q => X.ldcInt hx hown (mvT hZ w) (g := mkF m pc Ls St) rfl hd _ q) k
theorem own_ldc2 (X : Stand p l e R s m args below meth c T locs cells slots) (hx : p.tables.exec = Jvm.exec) (hZ : Z.Warmed39 s.vm) {own : String} {index : Nat} {v : Int64} (hown : s.vm.findClass own = some m.cls) (w : (Cond.constantLong own index v).before a0 Z = true) {pc : Nat} {Ls : Array Slot} {St : List Value} (hd : decode c.code pc = .ok (.ldc2_w index, 3)) (k : own_R p e below s Q ck sk T (mkF m (pc + 3) Ls (.long v :: St))) : own_R p e below s Q ck sk T (mkF m pc Ls St) :=
  own_lift (fun _ q => X.ldc2Long hx hown (mvT hZ w) (g := mkF m pc Ls St) rfl hd _ q) k
theorem own_dup2 (X : Stand p l e R s m args below meth c T locs cells slots) (hx : p.tables.exec = Jvm.exec) {pc : Nat} {Ls : Array Slot} {St : List Value} {x y : Value} (hd : decode c.code pc = .ok (.dup2, 1)) (h1 : x.category = 1) (h2 : y.category = 1) (k : own_R p e below s Q ck sk T (mkF m (pc + 1) Ls (x :: y :: x :: y :: St))) : own_R p e below s Q ck sk T (mkF m pc Ls (x :: y :: St)) :=
  own_lift (fun _ q => by
    show Steps p.tables e below (T.setTop { method := m, pc := pc, locals := Ls, stack := x :: y :: St, locked := none }) _
    jvm_step X.here [X.here.top, hx, hd, h1, h2]
    exact q) k
/-! branches: both ways -/
theorem own_icmp (X : Stand p l e R s m args below meth c T locs cells slots) (hx : p.tables.exec = Jvm.exec) {pc pc' : Nat} {Ls : Array Slot} {St : List Value} {x y : Int32} {cd : ClassFile.Cond} {o : Int} (hd : decode c.code pc = .ok (.if_icmp cd o, 3)) (ho : 0 ≤ (pc : Int) + o) (hp : ((pc : Int) + o).toNat = pc')
    (k1 : if_icmp.holds cd x y = true → own_R p e below s Q ck sk T (mkF m pc' Ls St)) (k2 : if_icmp.holds cd x y = false → own_R p e below s Q ck sk T (mkF m (pc + 3) Ls St)) : own_R p e below s Q ck sk T (mkF m pc Ls (.int y :: .int x :: St)) := by
  cases hc : if_icmp.holds cd x y
  · exact own_lift (fun _ q => XS.icmpNo X.here hx rfl hd rfl hc q) (k2 hc)
  · exact own_lift (fun _ q => XS.icmpYes X.here hx rfl (pc0 := pc) rfl hd rfl hc ho hp q) (k1 hc)
theorem own_if (X : Stand p l e R s m args below meth c T locs cells slots) (hx : p.tables.exec = Jvm.exec) {pc pc' : Nat} {Ls : Array Slot} {St : List Value} {x : Int32} {cd : ClassFile.Cond} {o : Int} (hd : decode c.code pc = .ok (.ifCond cd o, 3)) (ho : 0 ≤ (pc : Int) + o) (hp : ((pc : Int) + o).toNat = pc')
    (k1 : if_icmp.holds cd x 0 = true → own_R p e below s Q ck sk T (mkF m pc' Ls St)) (k2 : if_icmp.holds cd x 0 = false → own_R p e below s Q ck sk T (mkF m (pc + 3) Ls St)) : own_R p e below s Q ck sk T (mkF m pc Ls (.int x :: St)) := by
  cases hc : if_icmp.holds cd x 0
  · exact own_lift (fun _ q => XS.ifNo X.here hx rfl hd rfl ((if0 _ _).trans hc) q) (k2 hc)
  · exact own_lift (fun _ q => XS.ifYes X.here hx rfl (pc0 := pc) rfl hd rfl ((if0 _ _).trans hc) ho hp q) (k1 hc)
theorem own_lt1 {x y : Int32} (q : if_icmp.holds .lt x y = true) : x < y := by simpa [if_icmp.holds] using q
theorem own_lt0 {x y : Int32} (q : if_icmp.holds .lt x y = false) : ¬ x < y := by simpa [if_icmp.holds] using q
theorem own_ge1 {x y : Int32} (q : if_icmp.holds .ge x y = true) : ¬ x < y := by simpa [if_icmp.holds] using q
theorem own_ge0 {x y : Int32} (q : if_icmp.holds .ge x y = false) : x < y := by simpa [if_icmp.holds] using q
theorem own_gt1 {x y : Int32} (q : if_icmp.holds .gt x y = true) : y < x := by simpa [if_icmp.holds] using q
theorem own_gt0 {x y : Int32} (q : if_icmp.holds .gt x y = false) : ¬ y < x := by simpa [if_icmp.holds] using q
theorem own_le1 {x y : Int32} (q : if_icmp.holds .le x y = true) : ¬ y < x := by simpa [if_icmp.holds] using q
theorem own_le0 {x y : Int32} (q : if_icmp.holds .le x y = false) : y < x := by simpa [if_icmp.holds] using q
theorem own_eq1 {x y : Int32} (q : if_icmp.holds .eq x y = true) : x = y := by simpa [if_icmp.holds] using q
theorem own_eq0 {x y : Int32} (q : if_icmp.holds .eq x y = false) : ¬ x = y := by simpa [if_icmp.holds] using q
theorem own_ne1 {x y : Int32} (q : if_icmp.holds .ne x y = true) : ¬ x = y := by simpa [if_icmp.holds] using q
theorem own_ne0 {x y : Int32} (q : if_icmp.holds .ne x y = false) : x = y := by simpa [if_icmp.holds] using q
/-! lcmp and the branch behind it, in one -/
theorem own_lcmp (X : Stand p l e R s m args below meth c T locs cells slots) (hx : p.tables.exec = Jvm.exec) {pc pc' : Nat} {Ls : Array Slot} {St : List Value} {x y : Int64} {cd : ClassFile.Cond} {o : Int} (hd1 : decode c.code pc = .ok (.lcmp, 1)) (hd : decode c.code (pc + 1) = .ok (.ifCond cd o, 3)) (ho : 0 ≤ ((pc + 1 : Nat) : Int) + o) (hp : (((pc + 1 : Nat) : Int) + o).toNat = pc')
    (k1 : if_icmp.holds cd (lcmpW x y) 0 = true → own_R p e below s Q ck sk T (mkF m pc' Ls St)) (k2 : if_icmp.holds cd (lcmpW x y) 0 = false → own_R p e below s Q ck sk T (mkF m (pc + 4) Ls St)) : own_R p e below s Q ck sk T (mkF m pc Ls (.long y :: .long x :: St)) :=
  own_lift (fun _ q => XS.lcmp X.here hx rfl hd1 rfl q) (own_if X hx hd ho hp k1 k2)
theorem own_llt1 {x y : Int64} (q : if_icmp.holds .lt (lcmpW x y) 0 = true) : x < y := (lw_lt x y).mp (own_lt1 q)
theorem own_llt0 {x y : Int64} (q : if_icmp.holds .lt (lcmpW x y) 0 = false) : ¬ x < y := fun z => own_lt0 q ((lw_lt x y).mpr z)
theorem own_lge1 {x y : Int64} (q : if_icmp.holds .ge (lcmpW x y) 0 = true) : ¬ x < y := fun z => own_ge1 q ((lw_lt x y).mpr z)
theorem own_lge0 {x y : Int64} (q : if_icmp.holds .ge (lcmpW x y) 0 = false) : x < y := (lw_lt x y).mp (own_ge0 q)
theorem own_lgt1 {x y : Int64} (q : if_icmp.holds .gt (lcmpW x y) 0 = true) : y < x := (lw_gt x y).mp (own_gt1 q)
theorem own_lgt0 {x y : Int64} (q : if_icmp.holds .gt (lcmpW x y) 0 = false) : ¬ y < x := fun z => own_gt0 q ((lw_gt x y).mpr z)
theorem own_lle1 {x y : Int64} (q : if_icmp.holds .le (lcmpW x y) 0 = true) : ¬ y < x := fun z => own_le1 q ((lw_gt x y).mpr z)
theorem own_lle0 {x y : Int64} (q : if_icmp.holds .le (lcmpW x y) 0 = false) : y < x := (lw_gt x y).mp (own_le0 q)
theorem own_leq1 {x y : Int64} (q : if_icmp.holds .eq (lcmpW x y) 0 = true) : x = y := (lw_eq x y).mp (own_eq1 q)
theorem own_leq0 {x y : Int64} (q : if_icmp.holds .eq (lcmpW x y) 0 = false) : ¬ x = y := fun z => own_eq0 q ((lw_eq x y).mpr z)
theorem own_lne1 {x y : Int64} (q : if_icmp.holds .ne (lcmpW x y) 0 = true) : ¬ x = y := fun z => own_ne1 q ((lw_eq x y).mpr z)
theorem own_lne0 {x y : Int64} (q : if_icmp.holds .ne (lcmpW x y) 0 = false) : x = y := (lw_eq x y).mp (own_ne0 q)
/-! returns -/
theorem own_ret0 (X : Stand p l e R s m args below meth c T locs cells slots) (hx : p.tables.exec = Jvm.exec) {pc : Nat} {Ls : Array Slot} (hret : meth.sig.returnType = none) (hlk : meth.locks = false) (hd : decode c.code pc = .ok (.return_, 1)) (hQ : Q none T.heap locs) (hc : cells ≤ ck) (hs : slots ≤ sk) : own_R p e below s Q ck sk T (mkF m pc Ls []) := by
  obtain ⟨fs, hr, hrun, hended, hW, hsame⟩ := X.leave (v := none) (fun _ => rfl) hlk
  exact ⟨_, _, X.returnOut hx hret hd hr, hrun, hended, _, _, rfl, hQ, ⟨_, rfl⟩, hW, hsame.mono hc hs⟩
theorem own_retN (X : Stand p l e R s m args below meth c T locs cells slots) (hx : p.tables.exec = Jvm.exec) {pc : Nat} {Ls : Array Slot} {St : List Value} {z : Int32} {t : FieldType} (hret : meth.sig.returnType = some t) (ht : t = .boolean ∨ t = .byte ∨ t = .char ∨ t = .short) (hlk : meth.locks = false) (hd : decode c.code pc = .ok (.ireturn, 1)) (hQ : Q (some (.int (nar t z))) T.heap locs) (hc : cells ≤ ck) (hs : slots ≤ sk) : own_R p e below s Q ck sk T (mkF m pc Ls (.int z :: St)) := by
  obtain ⟨fs, hr, hrun, hended, hW, hsame⟩ := X.leave (v := some (.int (nar t z))) (fun h => by rw [hret] at h; cases h) hlk
  exact ⟨_, _, retN X hx hret ht hd hr, hrun, hended, _, _, rfl, hQ, ⟨_, rfl⟩, hW, hsame.mono hc hs⟩
theorem own_retV (X : Stand p l e R s m args below meth c T locs cells slots) (hx : p.tables.exec = Jvm.exec) {pc : Nat} {Ls : Array Slot} {St : List Value} {w : Value} {t : FieldType} {i : Instr} (hret : meth.sig.returnType = some t) (hn : narrow t w = w)
    (hi : (i = .ireturn ∧ (t = .int ∨ t = .boolean ∨ t = .byte ∨ t = .char ∨ t = .short) ∧ ∃ z, w = .int z) ∨ (i = .lreturn ∧ t = .long ∧ ∃ z, w = .long z) ∨ (i = .dreturn ∧ t = .double ∧ ∃ z, w = .double z) ∨ (i = .freturn ∧ t = .float ∧ ∃ z, w = .float z) ∨ (i = .areturn ∧ t.isReference = true ∧ w.isRef = true)) (hlk : meth.locks = false)
    (hd : decode c.code pc = .ok (i, 1)) (hQ : Q (some w) T.heap locs) (hc : cells ≤ ck) (hs : slots ≤ sk) : own_R p e below s Q ck sk T (mkF m pc Ls (w :: St)) := by
  obtain ⟨fs, hr, hrun, hended, hW, hsame⟩ := X.leave (v := some w) (fun h => by rw [hret] at h; cases h) hlk
  exact ⟨_, _, retOut X hx hret hn hi hd hr, hrun, hended, _, _, rfl, hQ, ⟨_, rfl⟩, hW, hsame.mono hc hs⟩
theorem own_retI (X : Stand p l e R s m args below meth c T locs cells slots) (hx : p.tables.exec = Jvm.exec) {pc : Nat} {Ls : Array Slot} {St : List Value} {z : Int32} (hret : meth.sig.returnType = some .int) (hlk : meth.locks = false) (hd : decode c.code pc = .ok (.ireturn, 1)) (hQ : Q (some (.int z)) T.heap locs) (hc : cells ≤ ck) (hs : slots ≤ sk) : own_R p e below s Q ck sk T (mkF m pc Ls (.int z :: St)) :=
  own_retV X hx hret rfl (Or.inl ⟨rfl, Or.inl rfl, _, rfl⟩) hlk hd hQ hc hs
theorem own_retJ (X : Stand p l e R s m args below meth c T locs cells slots) (hx : p.tables.exec = Jvm.exec) {pc : Nat} {Ls : Array Slot} {St : List Value} {z : Int64} (hret : meth.sig.returnType = some .long) (hlk : meth.locks = false) (hd : decode c.code pc = .ok (.lreturn, 1)) (hQ : Q (some (.long z)) T.heap locs) (hc : cells ≤ ck) (hs : slots ≤ sk) : own_R p e below s Q ck sk T (mkF m pc Ls (.long z :: St)) :=
  own_retV X hx hret rfl (Or.inr (Or.inl ⟨rfl, rfl, _, rfl⟩)) hlk hd hQ hc hs
theorem own_retA (X : Stand p l e R s m args below meth c T locs cells slots) (hx : p.tables.exec = Jvm.exec) {pc : Nat} {Ls : Array Slot} {St : List Value} {w : Value} {t : FieldType} (hret : meth.sig.returnType = some t) (ht : t.isReference = true) (hw : w.isRef = true) (hlk : meth.locks = false) (hd : decode c.code pc = .ok (.areturn, 1)) (hQ : Q (some w) T.heap locs) (hc : cells ≤ ck) (hs : slots ≤ sk) : own_R p e below s Q ck sk T (mkF m pc Ls (w :: St)) :=
  own_retV X hx hret (by rcases ref_cases hw with rfl | ⟨a, rfl⟩ <;> cases t <;> first | rfl | (cases ht)) (Or.inr (Or.inr (Or.inr (Or.inr ⟨rfl, ht, hw⟩)))) hlk hd hQ hc hs
/-! the heap -/
theorem own_getF (X : Stand p l e R s m args below meth c T locs cells slots) (hx : p.tables.exec = Jvm.exec) (hZ : Z.Warmed39 s.vm) {own R0 O n d host : String} {index : Nat} (hown : s.vm.findClass own = some m.cls) (w : (Cond.fieldLink own index R0 n d).before a0 Z = true ∨ (Cond.fieldLinkNest own index R0 n d host).before a0 Z = true) (via : Via Z R0 O n d) (eT : T.heap = h) {a : Addr} {v : Value} (F : Fld Z h a O n d v) {pc : Nat} {Ls : Array Slot} {St : List Value} (hd : decode c.code pc = .ok (.getfield index, 3))
    (k : ∀ T', Stand p l e R s m args below meth c T' locs cells slots → T'.heap = h → own_R p e below s Q ck sk T' (mkF m (pc + 3) Ls (v :: St))) : own_R p e below s Q ck sk T (mkF m pc Ls (.ref a :: St)) := by
  obtain ⟨T', X', e', st⟩ := getF X hx hZ hown w via eT F (g := mkF m pc Ls (.ref a :: St)) rfl rfl hd
  exact own_lift st (k T' X' e')
theorem own_putF (X : Stand p l e R s m args below meth c T locs cells slots) (hx : p.tables.exec = Jvm.exec) (hZ : Z.Warmed39 s.vm) {own R0 O n d host C : String} {index kk : Nat} {ty : FieldType} (hown : s.vm.findClass own = some m.cls) (w : (Cond.fieldLink own index R0 n d).before a0 Z = true ∨ (Cond.fieldLinkNest own index R0 n d host).before a0 Z = true) (via : Via Z R0 O n d)
    (eT : T.heap = h) {a : Addr} {v old : Value} (F : Fld Z h a O n d old) (E : Exa Z h a C) (L : (Cond.lays C O n d).before a0 Z = true ∨ ((Cond.laysFinal C O n d).before a0 Z = true ∧ own = O ∧ meth.name = "<init>")) (wi : (Cond.instantiable C kk).before a0 Z = true)
    (hty : parseFieldDescriptor d = some ty) (hn : narrow ty v = v) (hf : fits ty v = true) {pc : Nat} {Ls : Array Slot} {St : List Value} (hd : decode c.code pc = .ok (.putfield index, 3))
    (k : ∀ T' h', Stand p l e R s m args below meth c T' (locs ++ [⟨a, Jvm.RoadKit.slotOf Z O n d⟩]) cells slots → T'.heap = h' → Wr h h' a (Jvm.RoadKit.slotOf Z O n d) v → own_R p e below s Q ck sk T' (mkF m (pc + 3) Ls St)) : own_R p e below s Q ck sk T (mkF m pc Ls (v :: .ref a :: St)) := by
  obtain ⟨T', h', X', e', W, st⟩ := putF X hx hZ hown w via eT F E L wi hty hn hf (g := mkF m pc Ls (v :: .ref a :: St)) rfl rfl hd
  exact own_lift st (k T' h' X' e' W)
theorem own_putFN (X : Stand p l e R s m args below meth c T locs cells slots) (hx : p.tables.exec = Jvm.exec) (hZ : Z.Warmed39 s.vm) {own R0 O n d C : String} {index kk : Nat} {ty : FieldType} (hown : s.vm.findClass own = some m.cls) (w : (Cond.fieldLink own index R0 n d).before a0 Z = true) (via : Via Z R0 O n d)
    (eT : T.heap = h) {a : Addr} {v v' old : Value} (F : Fld Z h a O n d old) (E : Exa Z h a C) (L : (Cond.lays C O n d).before a0 Z = true ∨ ((Cond.laysFinal C O n d).before a0 Z = true ∧ own = O ∧ meth.name = "<init>")) (wi : (Cond.instantiable C kk).before a0 Z = true)
    (hty : parseFieldDescriptor d = some ty) (hn : narrow ty v = v') (hf : fits ty v' = true) {pc : Nat} {Ls : Array Slot} {St : List Value} (hd : decode c.code pc = .ok (.putfield index, 3))
    (k : ∀ T' h', Stand p l e R s m args below meth c T' (locs ++ [⟨a, Jvm.RoadKit.slotOf Z O n d⟩]) cells slots → T'.heap = h' → Wr h h' a (Jvm.RoadKit.slotOf Z O n d) v' → own_R p e below s Q ck sk T' (mkF m (pc + 3) Ls St)) : own_R p e below s Q ck sk T (mkF m pc Ls (v :: .ref a :: St)) := by
  obtain ⟨T', h', X', e', W, st⟩ := putFN X hx hZ hown w via eT F E L wi hty hn hf (g := mkF m pc Ls (v :: .ref a :: St)) rfl rfl hd
  exact own_lift st (k T' h' X' e' W)
theorem own_new (X : Stand p l e R s m args below meth c T locs cells slots) (hx : p.tables.exec = Jvm.exec) (hZ : Z.Warmed39 s.vm) {own C : String} {index n : Nat} (hown : s.vm.findClass own = some m.cls) (w : (Cond.classLink own index C).before a0 Z = true) (wi : (Cond.instantiable C n).before a0 Z = true) (wz : (Cond.initialized C).before a0 Z = true) (eT : T.heap = h) {pc : Nat} {Ls : Array Slot} {St : List Value} (hd : decode c.code pc = .ok (.new index, 3)) (hc : cells + 1 ≤ R.cells) (hl : slots + n ≤ R.slots)
    (k : ∀ T' h' b, b = h.size → Stand p l e R s m args below meth c T' locs (cells + 1) (slots + n) → T'.heap = h' → Ext h h' → Exa Z h' b C → (∀ {O nm d : String} {ty : FieldType}, Laid Z a0 C O nm d → parseFieldDescriptor d = some ty → Fld Z h' b O nm d (defaultValue ty)) → own_R p e below s Q ck sk T' (mkF m (pc + 3) Ls (.ref b :: St))) : own_R p e below s Q ck sk T (mkF m pc Ls St) := by
  obtain ⟨T', h', X', e', E, A, D, -, st⟩ := newO X hx hZ hown w wi wz eT (g := mkF m pc Ls St) rfl hd hc hl
  exact own_lift st (k T' h' _ rfl X' e' E A D)
theorem own_newA (X : Stand p l e R s m args below meth c T locs cells slots) (hx : p.tables.exec = Jvm.exec) (hZ : Z.Warmed39 s.vm) {aty : ArrayType} (w : (Cond.arrayClass (newarray.typeOf aty)).before a0 Z = true) (eT : T.heap = h) {pc : Nat} {Ls : Array Slot} {St : List Value} {n : Int32} (hd : decode c.code pc = .ok (.newarray aty, 2)) (hn : ¬ n < 0) (cap : Nat) (hcap : n.toNatClampNeg ≤ cap) (hb : cap * 8 ≤ 536870912) (hc : cells + 1 ≤ R.cells) (hl : slots + cap ≤ R.slots) {ad : String} (had : "[" ++ (newarray.typeOf aty).toString = ad) (N : Nat)
    (k : ∀ T' h' b kA, b = h.size → Stand p l e R s m args below meth c T' locs (cells + 1) (slots + cap) → T'.heap = h' → Ext h h' → Arv Z h' b kA (newarray.typeOf aty) n (List.replicate N (defaultValue (newarray.typeOf aty))) (defaultValue (newarray.typeOf aty)) → Exa Z h' b ad → own_R p e below s Q ck sk T' (mkF m (pc + 2) Ls (.ref b :: St))) : own_R p e below s Q ck sk T (mkF m pc Ls (.int n :: St)) := by
  obtain ⟨T', h', kA, X', e', E, A, EA, st⟩ := newPE X hx hZ w eT (g := mkF m pc Ls (.int n :: St)) rfl hd rfl hn hcap hb hc hl had
  have V := (Arv.new A hn).pad (vs' := List.replicate N (defaultValue (newarray.typeOf aty))) (fun i => pad_rep [] (defaultValue (newarray.typeOf aty)) N i)
  exact own_lift st (k T' h' _ kA rfl X' e' E V EA)
theorem own_len (X : Stand p l e R s m args below meth c T locs cells slots) (hx : p.tables.exec = Jvm.exec) (hZ : Z.Warmed39 s.vm) (eT : T.heap = h) {a : Addr} {kA : ClassId} {ty : FieldType} {n : Int32} {vs : List Value} {dv : Value} (V : Arv Z h a kA ty n vs dv) {pc : Nat} {Ls : Array Slot} {St : List Value} (hd : decode c.code pc = .ok (.arraylength, 1))
    (k : own_R p e below s Q ck sk T (mkF m (pc + 1) Ls (.int n :: St))) : own_R p e below s Q ck sk T (mkF m pc Ls (.ref a :: St)) := by
  obtain ⟨cl, A, -, S, N, -⟩ := V
  rw [← len_of S N] at k
  exact own_lift (fun _ q => X.arraylength hx (by rw [eT]; exact A.1) (State.isArrayOf_alike hZ.alike A.2.1) (g := mkF m pc Ls (.ref a :: St)) rfl rfl hd _ q) k
theorem own_baload (X : Stand p l e R s m args below meth c T locs cells slots) (hx : p.tables.exec = Jvm.exec) (hZ : Z.Warmed39 s.vm) (eT : T.heap = h) {a : Addr} {kA : ClassId} {n : Int32} {vs : List Value} {dv v : Value} (V : Arv Z h a kA .byte n vs dv) {pc : Nat} {Ls : Array Slot} {St : List Value} {j : Int32} (hj : ¬ j < 0 ∧ j < n) (hv : vs.getD j.toNatClampNeg dv = v) (hd : decode c.code pc = .ok (.baload, 1))
    (k : own_R p e below s Q ck sk T (mkF m (pc + 1) Ls (v :: St))) : own_R p e below s Q ck sk T (mkF m pc Ls (.int j :: .ref a :: St)) := by
  obtain ⟨cl, A, -, S, N, H, -⟩ := V
  have hin := inb_of S hj
  exact own_lift (fun _ q => X.baloadBytes hx (by rw [eT]; exact A.1) (State.isArrayOf_alike hZ.alike A.2.1) A.2.2 hin (H.at hin hv) (g := mkF m pc Ls (.int j :: .ref a :: St)) rfl rfl hd _ q) k
theorem own_zaload (X : Stand p l e R s m args below meth c T locs cells slots) (hx : p.tables.exec = Jvm.exec) (hZ : Z.Warmed39 s.vm) (eT : T.heap = h) {a : Addr} {kA : ClassId} {n : Int32} {vs : List Value} {dv v : Value} (V : Arv Z h a kA .boolean n vs dv) {pc : Nat} {Ls : Array Slot} {St : List Value} {j : Int32} (hj : ¬ j < 0 ∧ j < n) (hv : vs.getD j.toNatClampNeg dv = v) (hd : decode c.code pc = .ok (.baload, 1))
    (k : own_R p e below s Q ck sk T (mkF m (pc + 1) Ls (v :: St))) : own_R p e below s Q ck sk T (mkF m pc Ls (.int j :: .ref a :: St)) := by
  obtain ⟨cl, A, -, S, N, H, -⟩ := V
  have hin := inb_of S hj
  exact own_lift (fun _ q => X.baloadBooleans hx (by rw [eT]; exact A.1) (State.isArrayOf_alike hZ.alike A.2.1) A.2.2 hin (H.at hin hv) (g := mkF m pc Ls (.int j :: .ref a :: St)) rfl rfl hd _ q) k
theorem own_caload (X : Stand p l e R s m args below meth c T locs cells slots) (hx : p.tables.exec = Jvm.exec) (hZ : Z.Warmed39 s.vm) (eT : T.heap = h) {a : Addr} {kA : ClassId} {n : Int32} {vs : List Value} {dv v : Value} (V : Arv Z h a kA .char n vs dv) {pc : Nat} {Ls : Array Slot} {St : List Value} {j : Int32} (hj : ¬ j < 0 ∧ j < n) (hv : vs.getD j.toNatClampNeg dv = v) (hd : decode c.code pc = .ok (.caload, 1))
    (k : own_R p e below s Q ck sk T (mkF m (pc + 1) Ls (v :: St))) : own_R p e below s Q ck sk T (mkF m pc Ls (.int j :: .ref a :: St)) := by
  obtain ⟨cl, A, -, S, N, H, -⟩ := V
  have hin := inb_of S hj
  exact own_lift (fun _ q => X.caload hx (by rw [eT]; exact A.1) (State.isArrayOf_alike hZ.alike A.2.1) A.2.2 hin (H.at hin hv) (g := mkF m pc Ls (.int j :: .ref a :: St)) rfl rfl hd _ q) k
theorem own_iaload (X : Stand p l e R s m args below meth c T locs cells slots) (hx : p.tables.exec = Jvm.exec) (hZ : Z.Warmed39 s.vm) (eT : T.heap = h) {a : Addr} {kA : ClassId} {n : Int32} {vs : List Value} {dv v : Value} (V : Arv Z h a kA .int n vs dv) {pc : Nat} {Ls : Array Slot} {St : List Value} {j : Int32} (hj : ¬ j < 0 ∧ j < n) (hv : vs.getD j.toNatClampNeg dv = v) (hd : decode c.code pc = .ok (.iaload, 1))
    (k : own_R p e below s Q ck sk T (mkF m (pc + 1) Ls (v :: St))) : own_R p e below s Q ck sk T (mkF m pc Ls (.int j :: .ref a :: St)) := by
  obtain ⟨cl, A, -, S, N, H, -⟩ := V
  have hin := inb_of S hj
  exact own_lift (fun _ q => X.iaload hx (by rw [eT]; exact A.1) (State.isArrayOf_alike hZ.alike A.2.1) A.2.2 hin (H.at hin hv) (g := mkF m pc Ls (.int j :: .ref a :: St)) rfl rfl hd _ q) k
theorem own_bastore (X : Stand p l e R s m args below meth c T locs cells slots) (hx : p.tables.exec = Jvm.exec) (hZ : Z.Warmed39 s.vm) (eT : T.heap = h) {a : Addr} {kA : ClassId} {n : Int32} {vs : List Value} {dv : Value} (V : Arv Z h a kA .byte n vs dv) {pc : Nat} {Ls : Array Slot} {St : List Value} {j x x' : Int32} (hn : nar .byte x = x') (hj : ¬ j < 0 ∧ j < n) (i : Nat) (hi : j.toNatClampNeg = i) (hl : i < vs.length) (hd : decode c.code pc = .ok (.bastore, 1))
    (k : ∀ T' h', Stand p l e R s m args below meth c T' (locs ++ [⟨a, j.toNatClampNeg⟩]) cells slots → T'.heap = h' → Wr h h' a j.toNatClampNeg (.int x') → Arv Z h' a kA .byte n (vs.set i (.int x')) dv → own_R p e below s Q ck sk T' (mkF m (pc + 1) Ls St)) : own_R p e below s Q ck sk T (mkF m pc Ls (.int x :: .int j :: .ref a :: St)) := by
  obtain ⟨cl, A, q1, S, N, H, G⟩ := V
  have hin := inb_of S hj
  obtain ⟨T', h', X', e', W, st⟩ := stB X hx hZ eT A hin (g := mkF m pc Ls (.int x :: .int j :: .ref a :: St)) rfl rfl hd
  subst hn
  exact own_lift st (k T' h' X' e' W (Arv.set A q1 S N H G (fits_nar_byte _) W i hi hl))
theorem own_zastore (X : Stand p l e R s m args below meth c T locs cells slots) (hx : p.tables.exec = Jvm.exec) (hZ : Z.Warmed39 s.vm) (eT : T.heap = h) {a : Addr} {kA : ClassId} {n : Int32} {vs : List Value} {dv : Value} (V : Arv Z h a kA .boolean n vs dv) {pc : Nat} {Ls : Array Slot} {St : List Value} {j x x' : Int32} (hn : nar .boolean x = x') (hj : ¬ j < 0 ∧ j < n) (i : Nat) (hi : j.toNatClampNeg = i) (hl : i < vs.length) (hd : decode c.code pc = .ok (.bastore, 1))
    (k : ∀ T' h', Stand p l e R s m args below meth c T' (locs ++ [⟨a, j.toNatClampNeg⟩]) cells slots → T'.heap = h' → Wr h h' a j.toNatClampNeg (.int x') → Arv Z h' a kA .boolean n (vs.set i (.int x')) dv → own_R p e below s Q ck sk T' (mkF m (pc + 1) Ls St)) : own_R p e below s Q ck sk T (mkF m pc Ls (.int x :: .int j :: .ref a :: St)) := by
  obtain ⟨cl, A, q1, S, N, H, G⟩ := V
  have hin := inb_of S hj
  obtain ⟨T', h', X', e', W, st⟩ := stZ X hx hZ eT A hin (g := mkF m pc Ls (.int x :: .int j :: .ref a :: St)) rfl rfl hd
  subst hn
  exact own_lift st (k T' h' X' e' W (Arv.set A q1 S N H G (fits_nar_bool _) W i hi hl))
theorem own_castore (X : Stand p l e R s m args below meth c T locs cells slots) (hx : p.tables.exec = Jvm.exec) (hZ : Z.Warmed39 s.vm) (eT : T.heap = h) {a : Addr} {kA : ClassId} {n : Int32} {vs : List Value} {dv : Value} (V : Arv Z h a kA .char n vs dv) {pc : Nat} {Ls : Array Slot} {St : List Value} {j x x' : Int32} (hn : nar .char x = x') (hj : ¬ j < 0 ∧ j < n) (i : Nat) (hi : j.toNatClampNeg = i) (hl : i < vs.length) (hd : decode c.code pc = .ok (.castore, 1))
    (k : ∀ T' h', Stand p l e R s m args below meth c T' (locs ++ [⟨a, j.toNatClampNeg⟩]) cells slots → T'.heap = h' → Wr h h' a j.toNatClampNeg (.int x') → Arv Z h' a kA .char n (vs.set i (.int x')) dv → own_R p e below s Q ck sk T' (mkF m (pc + 1) Ls St)) : own_R p e below s Q ck sk T (mkF m pc Ls (.int x :: .int j :: .ref a :: St)) := by
  obtain ⟨cl, A, q1, S, N, H, G⟩ := V
  have hin := inb_of S hj
  obtain ⟨T', h', X', e', W, st⟩ := stC X hx hZ eT A hin (g := mkF m pc Ls (.int x :: .int j :: .ref a :: St)) rfl rfl hd
  subst hn
  exact own_lift st (k T' h' X' e' W (Arv.set A q1 S N H G (fits_nar_char _) W i hi hl))
theorem own_iastore (X : Stand p l e R s m args below meth c T locs cells slots) (hx : p.tables.exec = Jvm.exec) (hZ : Z.Warmed39 s.vm) (eT : T.heap = h) {a : Addr} {kA : ClassId} {n : Int32} {vs : List Value} {dv : Value} (V : Arv Z h a kA .int n vs dv) {pc : Nat} {Ls : Array Slot} {St : List Value} {j x x' : Int32} (hn : x = x') (hj : ¬ j < 0 ∧ j < n) (i : Nat) (hi : j.toNatClampNeg = i) (hl : i < vs.length) (hd : decode c.code pc = .ok (.iastore, 1))
    (k : ∀ T' h', Stand p l e R s m args below meth c T' (locs ++ [⟨a, j.toNatClampNeg⟩]) cells slots → T'.heap = h' → Wr h h' a j.toNatClampNeg (.int x') → Arv Z h' a kA .int n (vs.set i (.int x')) dv → own_R p e below s Q ck sk T' (mkF m (pc + 1) Ls St)) : own_R p e below s Q ck sk T (mkF m pc Ls (.int x :: .int j :: .ref a :: St)) := by
  obtain ⟨cl, A, q1, S, N, H, G⟩ := V
  have hin := inb_of S hj
  obtain ⟨T', h', X', e', W, st⟩ := stI X hx hZ eT A hin (g := mkF m pc Ls (.int x :: .int j :: .ref a :: St)) rfl rfl hd
  subst hn
  exact own_lift st (k T' h' X' e' W (Arv.set A q1 S N H G rfl W i hi hl))
theorem own_initO (X : Stand p l e R s m args below meth c T locs cells slots) (hx : p.tables.exec = Jvm.exec) (hZ : Z.Warmed39 s.vm) {own : String} {idx : Nat} (hown : s.vm.findClass own = some m.cls) (w1 : (Cond.methodLink own idx Lib.objectInit).before a0 Z = true) (w2 : (Cond.instanceMethod Lib.objectInit).before a0 Z = true)
    (w3 : (Cond.code Lib.objectInit ⟨#[0xb1]⟩ 1 none).before a0 Z = true) (eT : T.heap = h) {pc : Nat} {Ls : Array Slot} {St : List Value} {a : Addr} (hsize : Ls.size = c.maxLocals) (hd : decode c.code pc = .ok (.invokespecial idx, 3)) (hf : 1 ≤ R.frames) {W : Nat} (hW : (St.map fun v => v.category).sum ≤ W) (hl : W + 12 ≤ R.locals)
    (k : ∀ T', Stand p l e R s m args below meth c T' locs cells slots → T'.heap = h → own_R p e below s Q ck sk T' (mkF m (pc + 3) Ls St)) : own_R p e below s Q ck sk T (mkF m pc Ls (.ref a :: St)) := by
  obtain ⟨T', X', e', st⟩ := initO X hx hZ hown w1 w2 w3 eT (g := mkF m pc Ls (.ref a :: St)) rfl hsize rfl hd hf (W := W) (by show 2 * 0 + _ ≤ _; omega) hl
  exact own_lift st (k T' X' e')
/-! calls by contract -/
theorem own_callS (X : Stand p l e R s m args below meth c T locs cells slots) (hx : p.tables.exec = Jvm.exec) (hZ : Z.Warmed39 s.vm) {own : String} {index : Nat} {y : MethodName} {bytes : ByteArray} {maxL : Nat} {ret : Option FieldType} {rm : Room} {as' : Array Value} {Q' : Option Value → Heap → List Loc → Prop}
    (hown : s.vm.findClass own = some m.cls) (w1 : (Cond.methodLink own index y).before a0 Z = true) (w2 : (Cond.static y).before a0 Z = true) (w3 : (Cond.initialized y.cls).before a0 Z = true) (w4 : (Cond.code y bytes maxL ret).before a0 Z = true) (hy : y.cls ≠ "java/lang/invoke/MethodHandle" ∧ y.cls ≠ "java/lang/invoke/VarHandle")
    (hM : MetFree l y (head1 [Cond.code y bytes maxL ret] rm) (fun a U => a = as' ∧ Z.Warmed39 U.vm ∧ U.heap = h) (fun _ _ _ _ _ => True) (fun _ U o U' => ∃ v L, o = .returned v ∧ Q' v U'.heap L ∧ FrameEnd U o U' L rm.cells rm.slots))
    (W : Nat) (hf : rm.frames + 1 ≤ R.frames) (hl : W + (maxL + 11) + rm.locals ≤ R.locals) (eT : T.heap = h) {pc : Nat} {Ls : Array Slot} {St : List Value} (hsize : Ls.size = c.maxLocals) (argsL rest : List Value) (has : as' = argsL.toArray) (hlen : ∀ sig, parseMethodDescriptor y.desc = some sig → argsL.length = sig.parameters.length) (hst : St = argsL.reverse ++ rest) (hW : (rest.map fun v => v.category).sum ≤ W)
    (hd : decode c.code pc = .ok (.invokestatic index, 3)) (hc : cells + rm.cells ≤ R.cells) (hs : slots + rm.slots ≤ R.slots)
    (k : ∀ T' v L, Stand p l e R s m args below meth c T' (locs ++ L) (cells + rm.cells) (slots + rm.slots) → Q' v T'.heap L → own_R p e below s Q ck sk T' (mkF m (pc + 3) Ls (v.toList ++ rest))) : own_R p e below s Q ck sk T (mkF m pc Ls St) := by
  obtain ⟨v, _, ⟨T', L', k', n'⟩, -, X', ⟨Lc, hQ, l', y', z'⟩, st⟩ := Jvm.LawKit.callS X hx (y := y) hown (mvT hZ w1) (mvT hZ w2) (mvT hZ w3) (mvT hZ w4) hy (backOf (W := W) hM hZ w4 w3 hf hl) (g := mkF m pc Ls St) rfl hsize (argsL := argsL) (rest := rest) hlen hst (by show 2 * 0 + _ ≤ _; omega) hd (fun _ _ => ⟨has.symm, eT, hc, hs⟩)
  dsimp only [Pt.U, Pt.locs, Pt.cells, Pt.slots] at X' l' y' z' st hQ
  subst l' y' z'
  exact own_lift st (k T' v Lc X' hQ)
theorem own_callI (X : Stand p l e R s m args below meth c T locs cells slots) (hx : p.tables.exec = Jvm.exec) (hZ : Z.Warmed39 s.vm) {own : String} {index : Nat} {y : MethodName} {bytes : ByteArray} {maxL : Nat} {rm : Room} {as' : Array Value} {Q' : Option Value → Heap → List Loc → Prop} (hy1 : y.name = "<init>")
    (hown : s.vm.findClass own = some m.cls) (w1 : (Cond.methodLink own index y).before a0 Z = true) (w2 : (Cond.instanceMethod y).before a0 Z = true) (w3 : (Cond.initialized y.cls).before a0 Z = true) (w4 : (Cond.code y bytes maxL none).before a0 Z = true) (hy : y.cls ≠ "java/lang/invoke/MethodHandle" ∧ y.cls ≠ "java/lang/invoke/VarHandle")
    (hM : MetFree l y (head1 [Cond.code y bytes maxL none] rm) (fun a U => a = as' ∧ Z.Warmed39 U.vm ∧ U.heap = h) (fun _ _ _ _ _ => True) (fun _ U o U' => ∃ v L, o = .returned v ∧ Q' v U'.heap L ∧ FrameEnd U o U' L rm.cells rm.slots))
    (W : Nat) (hf : rm.frames + 1 ≤ R.frames) (hl : W + (maxL + 11) + rm.locals ≤ R.locals) (eT : T.heap = h) {pc : Nat} {Ls : Array Slot} {St : List Value} (hsize : Ls.size = c.maxLocals) (a : Addr) (argsL rest : List Value) (has : as' = (.ref a :: argsL).toArray) (hlen : ∀ sig, parseMethodDescriptor y.desc = some sig → argsL.length = sig.parameters.length) (hst : St = argsL.reverse ++ .ref a :: rest) (hW : (rest.map fun v => v.category).sum ≤ W)
    (hd : decode c.code pc = .ok (.invokespecial index, 3)) (hc : cells + rm.cells ≤ R.cells) (hs : slots + rm.slots ≤ R.slots)
    (k : ∀ T' v L, Stand p l e R s m args below meth c T' (locs ++ L) (cells + rm.cells) (slots + rm.slots) → Q' v T'.heap L → own_R p e below s Q ck sk T' (mkF m (pc + 3) Ls (v.toList ++ rest))) : own_R p e below s Q ck sk T (mkF m pc Ls St) := by
  obtain ⟨v, _, ⟨T', L', k', n'⟩, -, X', ⟨Lc, hQ, l', y', z'⟩, st⟩ := X.specialBack hx (y := y) hy1 hown (mvT hZ w1) (mvT hZ w2) (mvT hZ w4) hy (backOf (W := W) hM hZ w4 w3 hf hl) (g := mkF m pc Ls St) rfl hsize (Steps.refl _) (a := a) (argsL := argsL) (rest := rest) hlen hst (by show 2 * 0 + _ ≤ _; omega) hd (fun _ _ => ⟨has.symm, eT, hc, hs⟩)
  dsimp only [Pt.U, Pt.locs, Pt.cells, Pt.slots] at X' l' y' z' st hQ
  subst l' y' z'
  exact own_lift (fun _ q => st.trans q) (k T' v Lc X' hQ)
theorem own_callV (X : Stand p l e R s m args below meth c T locs cells slots) (hx : p.tables.exec = Jvm.exec) (hZ : Z.Warmed39 s.vm) {own C : String} {index : Nat} {y z : MethodName} {bytes : ByteArray} {maxL : Nat} {ret : Option FieldType} {rm : Room} {as' : Array Value} {Q' : Option Value → Heap → List Loc → Prop}
    (hown : s.vm.findClass own = some m.cls) (w1 : (Cond.methodLink own index y).before a0 Z = true) (w2 : (Cond.declares y).before a0 Z = true) (nf : NotFace s y) (w5 : (Cond.selects C y z).before a0 Z = true) (w6 : (Cond.instanceMethod z).before a0 Z = true) (w3 : (Cond.initialized z.cls).before a0 Z = true) (w4 : (Cond.code z bytes maxL ret).before a0 Z = true) (hy : y.cls ≠ "java/lang/invoke/MethodHandle" ∧ y.cls ≠ "java/lang/invoke/VarHandle")
    (hM : MetFree l z (head1 [Cond.code z bytes maxL ret] rm) (fun a U => a = as' ∧ Z.Warmed39 U.vm ∧ U.heap = h) (fun _ _ _ _ _ => True) (fun _ U o U' => ∃ v L, o = .returned v ∧ Q' v U'.heap L ∧ FrameEnd U o U' L rm.cells rm.slots))
    (W : Nat) (hf : rm.frames + 1 ≤ R.frames) (hl : W + (maxL + 11) + rm.locals ≤ R.locals) (eT : T.heap = h) {pc : Nat} {Ls : Array Slot} {St : List Value} (hsize : Ls.size = c.maxLocals) (a : Addr) (E : Exa Z h a C) (argsL rest : List Value) (has : as' = (.ref a :: argsL).toArray) (hlen : ∀ sig, parseMethodDescriptor y.desc = some sig → argsL.length = sig.parameters.length) (hst : St = argsL.reverse ++ .ref a :: rest) (hW : (rest.map fun v => v.category).sum ≤ W)
    (hd : decode c.code pc = .ok (.invokevirtual index, 3)) (hc : cells + rm.cells ≤ R.cells) (hs : slots + rm.slots ≤ R.slots)
    (k : ∀ T' v L, Stand p l e R s m args below meth c T' (locs ++ L) (cells + rm.cells) (slots + rm.slots) → Q' v T'.heap L → own_R p e below s Q ck sk T' (mkF m (pc + 3) Ls (v.toList ++ rest))) : own_R p e below s Q ck sk T (mkF m pc Ls St) := by
  obtain ⟨cq, kq, qa, qb, qc⟩ := isOf hZ eT E
  obtain ⟨v, _, ⟨T', L', k', n'⟩, -, X', ⟨Lc, hQ, l', y', z'⟩, st⟩ := X.virtualBack hx (y := y) (z := z) hown (mvT hZ w1) (mvT hZ w2) nf (mvT hZ w5) (mvT hZ w6) hy (backOf (W := W) hM hZ w4 w3 hf hl) qa qc (g := mkF m pc Ls St) rfl hsize (Steps.refl _) (argsL := argsL) (rest := rest) hlen hst (by show 2 * 0 + _ ≤ _; omega) hd (fun _ _ => ⟨has.symm, eT, hc, hs⟩)
  dsimp only [Pt.U, Pt.locs, Pt.cells, Pt.slots] at X' l' y' z' st hQ
  subst l' y' z'
  exact own_lift (fun _ q => st.trans q) (k T' v Lc X' hQ)
end OwnKit

theorem pl_5 (x : Int32) : ((x &&& (2147483647 : Int32)) % (5 : Int32)) = 0 ∨ ((x &&& (2147483647 : Int32)) % (5 : Int32)) = 1 ∨ ((x &&& (2147483647 : Int32)) % (5 : Int32)) = 2 ∨ ((x &&& (2147483647 : Int32)) % (5 : Int32)) = 3 ∨ ((x &&& (2147483647 : Int32)) % (5 : Int32)) = 4 := by
  have h1 := c_mask x (2147483647 : Int32) 31 (by decide) (by decide)
  have h2 := (c_irem (x &&& (2147483647 : Int32)) (5 : Int32) 5 (by decide)).1 (by omega)
  simp only [← Int32.toInt_inj, show (0 : Int32).toInt = 0 from by decide, show (1 : Int32).toInt = 1 from by decide, show (2 : Int32).toInt = 2 from by decide, show (3 : Int32).toInt = 3 from by decide, show (4 : Int32).toInt = 4 from by decide]
  omega
theorem pl_nb (x : Int32) : nar .byte x.toInt8.toInt32 = x.toInt8.toInt32 := by
  show x.toInt8.toInt32.toInt8.toInt32 = x.toInt8.toInt32
  apply Int32.toInt_inj.mp
  have := c_i2b x
  have := c_i2b x.toInt8.toInt32
  omega
theorem pl_nn {x y : Int32} (h : x = nar .byte y) : nar .byte x = x := by subst h; exact pl_nb y
theorem pl_le {z K : Int32} (h : ¬ z < K) : K.toNatClampNeg ≤ z.toNatClampNeg := by
  rw [Int32.lt_iff_toInt_lt] at h
  show K.toInt.toNat ≤ z.toInt.toNat
  omega

theorem d1_0 : decode method_2_code 0 = .ok (.iload_n 0, 1) := by decide +kernel
theorem d1_1 : decode method_2_code 1 = .ok (.sipush 256, 3) := by decide +kernel
theorem d1_4 : decode method_2_code 4 = .ok (.iand, 1) := by decide +kernel
theorem d1_5 : decode method_2_code 5 = .ok (.ifCond .eq 7, 3) := by decide +kernel
theorem d1_8 : decode method_2_code 8 = .ok (.iconst (-1), 1) := by decide +kernel
theorem d1_9 : decode method_2_code 9 = .ok (.goto 5, 3) := by decide +kernel
theorem d1_12 : decode method_2_code 12 = .ok (.iload_n 0, 1) := by decide +kernel
theorem d1_13 : decode method_2_code 13 = .ok (.i2b, 1) := by decide +kernel
theorem d1_14 : decode method_2_code 14 = .ok (.ireturn, 1) := by decide +kernel
theorem d2_0 : decode prog_1_method_3_code 0 = .ok (.aload_n 0, 1) := by decide +kernel
theorem d2_1 : decode prog_1_method_3_code 1 = .ok (.arraylength, 1) := by decide +kernel
theorem d2_2 : decode prog_1_method_3_code 2 = .ok (.istore_n 1, 1) := by decide +kernel
theorem d2_3 : decode prog_1_method_3_code 3 = .ok (.iload_n 1, 1) := by decide +kernel
theorem d2_4 : decode prog_1_method_3_code 4 = .ok (.ifCond .le 18, 3) := by decide +kernel
theorem d2_7 : decode prog_1_method_3_code 7 = .ok (.aload_n 0, 1) := by decide +kernel
theorem d2_8 : decode prog_1_method_3_code 8 = .ok (.iload_n 1, 1) := by decide +kernel
theorem d2_9 : decode prog_1_method_3_code 9 = .ok (.iconst 1, 1) := by decide +kernel
theorem d2_10 : decode prog_1_method_3_code 10 = .ok (.isub, 1) := by decide +kernel
theorem d2_11 : decode prog_1_method_3_code 11 = .ok (.baload, 1) := by decide +kernel
theorem d2_12 : decode prog_1_method_3_code 12 = .ok (.iconst (-1), 1) := by decide +kernel
theorem d2_13 : decode prog_1_method_3_code 13 = .ok (.if_icmp .ne 9, 3) := by decide +kernel
theorem d2_16 : decode prog_1_method_3_code 16 = .ok (.iinc 1 (-1), 3) := by decide +kernel
theorem d2_19 : decode prog_1_method_3_code 19 = .ok (.goto (-16), 3) := by decide +kernel
theorem d2_22 : decode prog_1_method_3_code 22 = .ok (.iload_n 1, 1) := by decide +kernel
theorem d2_23 : decode prog_1_method_3_code 23 = .ok (.ifCond .ne 5, 3) := by decide +kernel
theorem d2_26 : decode prog_1_method_3_code 26 = .ok (.aconst_null, 1) := by decide +kernel
theorem d2_27 : decode prog_1_method_3_code 27 = .ok (.areturn, 1) := by decide +kernel
theorem d2_28 : decode prog_1_method_3_code 28 = .ok (.aload_n 0, 1) := by decide +kernel
theorem d2_29 : decode prog_1_method_3_code 29 = .ok (.iload_n 1, 1) := by decide +kernel
theorem d2_30 : decode prog_1_method_3_code 30 = .ok (.invokestatic 22, 3) := by decide +kernel
theorem d2_33 : decode prog_1_method_3_code 33 = .ok (.astore_n 2, 1) := by decide +kernel
theorem d2_34 : decode prog_1_method_3_code 34 = .ok (.aload_n 2, 1) := by decide +kernel
theorem d2_35 : decode prog_1_method_3_code 35 = .ok (.iload_n 1, 1) := by decide +kernel
theorem d2_36 : decode prog_1_method_3_code 36 = .ok (.iconst 1, 1) := by decide +kernel
theorem d2_37 : decode prog_1_method_3_code 37 = .ok (.isub, 1) := by decide +kernel
theorem d2_38 : decode prog_1_method_3_code 38 = .ok (.dup2, 1) := by decide +kernel
theorem d2_39 : decode prog_1_method_3_code 39 = .ok (.baload, 1) := by decide +kernel
theorem d2_40 : decode prog_1_method_3_code 40 = .ok (.iconst 1, 1) := by decide +kernel
theorem d2_41 : decode prog_1_method_3_code 41 = .ok (.iadd, 1) := by decide +kernel
theorem d2_42 : decode prog_1_method_3_code 42 = .ok (.i2b, 1) := by decide +kernel
theorem d2_43 : decode prog_1_method_3_code 43 = .ok (.bastore, 1) := by decide +kernel
theorem d2_44 : decode prog_1_method_3_code 44 = .ok (.aload_n 2, 1) := by decide +kernel
theorem d2_45 : decode prog_1_method_3_code 45 = .ok (.areturn, 1) := by decide +kernel
theorem d3_0 : decode jdk_65_method_121_code 0 = .ok (.iload_n 1, 1) := by decide +kernel
theorem d3_1 : decode jdk_65_method_121_code 1 = .ok (.aload_n 0, 1) := by decide +kernel
theorem d3_2 : decode jdk_65_method_121_code 2 = .ok (.arraylength, 1) := by decide +kernel
theorem d3_3 : decode jdk_65_method_121_code 3 = .ok (.if_icmp .ne 11, 3) := by decide +kernel
theorem d3_6 : decode jdk_65_method_121_code 6 = .ok (.aload_n 0, 1) := by decide +kernel
theorem d3_7 : decode jdk_65_method_121_code 7 = .ok (.invokevirtual 310, 3) := by decide +kernel
theorem d3_10 : decode jdk_65_method_121_code 10 = .ok (.checkcast 311, 3) := by decide +kernel
theorem d3_13 : decode jdk_65_method_121_code 13 = .ok (.areturn, 1) := by decide +kernel
theorem d3_14 : decode jdk_65_method_121_code 14 = .ok (.iload_n 1, 1) := by decide +kernel
theorem d3_15 : decode jdk_65_method_121_code 15 = .ok (.newarray .byte, 2) := by decide +kernel
theorem d3_17 : decode jdk_65_method_121_code 17 = .ok (.astore_n 2, 1) := by decide +kernel
theorem d3_18 : decode jdk_65_method_121_code 18 = .ok (.aload_n 0, 1) := by decide +kernel
theorem d3_19 : decode jdk_65_method_121_code 19 = .ok (.iconst 0, 1) := by decide +kernel
theorem d3_20 : decode jdk_65_method_121_code 20 = .ok (.aload_n 2, 1) := by decide +kernel
theorem d3_21 : decode jdk_65_method_121_code 21 = .ok (.iconst 0, 1) := by decide +kernel
theorem d3_22 : decode jdk_65_method_121_code 22 = .ok (.aload_n 0, 1) := by decide +kernel
theorem d3_23 : decode jdk_65_method_121_code 23 = .ok (.arraylength, 1) := by decide +kernel
theorem d3_24 : decode jdk_65_method_121_code 24 = .ok (.iload_n 1, 1) := by decide +kernel
theorem d3_25 : decode jdk_65_method_121_code 25 = .ok (.invokestatic 304, 3) := by decide +kernel
theorem d3_28 : decode jdk_65_method_121_code 28 = .ok (.invokestatic 150, 3) := by decide +kernel
theorem d3_31 : decode jdk_65_method_121_code 31 = .ok (.aload_n 2, 1) := by decide +kernel
theorem d3_32 : decode jdk_65_method_121_code 32 = .ok (.areturn, 1) := by decide +kernel
theorem d4_0 : decode jdk_29_method_69_code 0 = .ok (.iload_n 0, 1) := by decide +kernel
theorem d4_1 : decode jdk_29_method_69_code 1 = .ok (.iload_n 1, 1) := by decide +kernel
theorem d4_2 : decode jdk_29_method_69_code 2 = .ok (.if_icmp .gt 7, 3) := by decide +kernel
theorem d4_5 : decode jdk_29_method_69_code 5 = .ok (.iload_n 0, 1) := by decide +kernel
theorem d4_6 : decode jdk_29_method_69_code 6 = .ok (.goto 4, 3) := by decide +kernel
theorem d4_9 : decode jdk_29_method_69_code 9 = .ok (.iload_n 1, 1) := by decide +kernel
theorem d4_10 : decode jdk_29_method_69_code 10 = .ok (.ireturn, 1) := by decide +kernel
theorem pd_0 : parseMethodDescriptor "(II)I" = some ⟨[.int, .int], some .int⟩ := by decide +kernel
theorem pd_1 : parseMethodDescriptor "([BI)[B" = some ⟨[(.array .byte), .int], some (.array .byte)⟩ := by decide +kernel
theorem pd_2 : parseMethodDescriptor "(I)B" = some ⟨[.int], some .byte⟩ := by decide +kernel
theorem pd_3 : parseMethodDescriptor "([B)[B" = some ⟨[(.array .byte)], some (.array .byte)⟩ := by decide +kernel
def pl_draw (p0 : Int32) : Int32 := (if (p0 &&& (256 : Int32)) = (0 : Int32) then (nar .byte (p0.toInt8.toInt32)) else (nar .byte (-1 : Int32)))
theorem pn_1 : plainFor (⟨"com/example/fach/fach/io/KeyBytesAfterAllWithPinLaw", "draw", "(I)B"⟩ : MethodName) = true := by decide +kernel
theorem ef_1 (m : MethodId) (p0 : Int32) : entryFrame m #[(.int p0)] 1 = mkF m 0 #[.val (.int p0)] [] := by first | (simp [entryFrame, mkF, argsToLocals, Value.category]; done) | rfl
def Q1 (Z : State) (p0 : Int32) (h0 : Heap) (n0 : Nat) (v : Option Value) (h : Heap) (L : List Loc) : Prop := v = some (.int (pl_draw p0)) ∧ Fr n0 L ∧ h = h0
set_option maxRecDepth 65536 in
set_option maxHeartbeats 40000000 in
theorem rm1 (l : Launch) (Z : State) (a0 : Array Value) (hw : ∀ d ∈ tables_1, d.before a0 Z = true) (ws : List Jvm.Cond) (p0 : Int32) (h0 : Heap) (n0 : Nat) (Z0 : n0 ≤ h0.size) :
    MetFree l (⟨"com/example/fach/fach/io/KeyBytesAfterAllWithPinLaw", "draw", "(I)B"⟩ : MethodName) (head1 (Jvm.Cond.code (⟨"com/example/fach/fach/io/KeyBytesAfterAllWithPinLaw", "draw", "(I)B"⟩ : MethodName) method_2_code 1 (some .byte) :: ws) ({ frames := 0, cells := 0, slots := 0, locals := 0 } : Room)) (fun a U => a = #[(.int p0)] ∧ Z.Warmed39 U.vm ∧ U.heap = h0) (fun _ _ _ _ _ => True) (fun _ U o U' => ∃ v L, o = .returned v ∧ Q1 Z p0 h0 n0 v U'.heap L ∧ FrameEnd U o U' L ({ frames := 0, cells := 0, slots := 0, locals := 0 } : Room).cells ({ frames := 0, cells := 0, slots := 0, locals := 0 } : Room).slots) := by
  refine MetFree.of_bodySF pn_1 hisR ?_
  intro p e s m args below meth c s₁ Bd hml0 hP hK
  obtain ⟨rfl, hZ, hh⟩ := hP
  have hx := Bd.exec
  have hby := Bd.bytes
  have hml : c.maxLocals = 1 := hml0
  have hown : s.vm.findClass "com/example/fach/fach/io/KeyBytesAfterAllWithPinLaw" = some m.cls := findClass_of_methodNamed Bd.named
  have hnm := (name_of_methodNamed Bd.named Bd.method).1
  have hlk := BodyLoose.notSynchronized Bd
  have X0 : Stand p l e ({ frames := 0, cells := 0, slots := 0, locals := 0 } : Room) s m #[(.int p0)] below meth c s₁ [] 0 0 := Stand.of_body Bd
  have e0 : s₁.heap = h0 := by rw [← hh, Bd.state]; rfl
  have N0 := Fr.nil n0
  show own_R p e below s (Q1 Z p0 h0 n0) ({ frames := 0, cells := 0, slots := 0, locals := 0 } : Room).cells ({ frames := 0, cells := 0, slots := 0, locals := 0 } : Room).slots s₁ (entryFrame m #[(.int p0)] 1)
  refine own_cast (ef_1 m p0) ?_
  show own_R p e below s _ _ _ s₁ (mkF m 0 #[.val (.int p0)] [])
  refine own_iloadN X0 hx (hb hby d1_0) rfl ?_
  refine own_sipush X0 hx (256 : Int32) (hb hby d1_1) rfl ?_
  refine own_iand X0 hx (hb hby d1_4) ?_
  refine own_if X0 hx (hb hby d1_5) (pc' := 12) (by decide) (by decide) (fun hc => ?_) (fun hc => ?_)
  · have hc5 : (p0 &&& (256 : Int32)) = (0 : Int32) := own_eq1 hc
    clear hc
    show own_R p e below s _ _ _ s₁ (mkF m 12 #[.val (.int p0)] [])
    refine own_iloadN X0 hx (hb hby d1_12) rfl ?_
    refine own_i2b X0 hx (hb hby d1_13) ?_
    refine own_retN X0 hx (t := .byte) Bd.returns (by simp) hlk (hb hby d1_14) ?_ (by decide) (by decide)
    refine ⟨?_, N0, e0⟩
    show some (Value.int _) = some (Value.int (pl_draw p0))
    rw [pl_draw, if_pos hc5] <;> first | rfl | decide
  · have hc5 : ¬ (p0 &&& (256 : Int32)) = (0 : Int32) := own_eq0 hc
    clear hc
    show own_R p e below s _ _ _ s₁ (mkF m 8 #[.val (.int p0)] [])
    refine own_iconst X0 hx (-1 : Int32) (hb hby d1_8) rfl ?_
    refine own_goto X0 hx (hb hby d1_9) (pc' := 14) (by decide) (by decide) ?_
    show own_R p e below s _ _ _ s₁ (mkF m 14 #[.val (.int p0)] [(.int (-1 : Int32))])
    refine own_retN X0 hx (t := .byte) Bd.returns (by simp) hlk (hb hby d1_14) ?_ (by decide) (by decide)
    refine ⟨?_, N0, e0⟩
    show some (Value.int _) = some (Value.int (pl_draw p0))
    rw [pl_draw, if_neg hc5] <;> first | rfl | decide
def pl_min (p0 : Int32) (p1 : Int32) : Int32 := (if p1 < p0 then p1 else p0)
theorem pn_4 : plainFor (⟨"java/lang/Math", "min", "(II)I"⟩ : MethodName) = true := Jvm.Free.JP.mathPlain rfl (by decide +kernel)
theorem ef_4 (m : MethodId) (p0 : Int32) (p1 : Int32) : entryFrame m #[(.int p0), (.int p1)] 2 = mkF m 0 #[.val (.int p0), .val (.int p1)] [] := by first | (simp [entryFrame, mkF, argsToLocals, Value.category]; done) | rfl
def Q4 (Z : State) (p0 : Int32) (p1 : Int32) (h0 : Heap) (n0 : Nat) (v : Option Value) (h : Heap) (L : List Loc) : Prop := v = some (.int (pl_min p0 p1)) ∧ Fr n0 L ∧ h = h0
set_option maxRecDepth 65536 in
set_option maxHeartbeats 40000000 in
theorem rm4 (l : Launch) (Z : State) (a0 : Array Value) (hw : ∀ d ∈ tables_1, d.before a0 Z = true) (ws : List Jvm.Cond) (p0 : Int32) (p1 : Int32) (h0 : Heap) (n0 : Nat) (Z0 : n0 ≤ h0.size) :
    MetFree l (⟨"java/lang/Math", "min", "(II)I"⟩ : MethodName) (head1 (Jvm.Cond.code (⟨"java/lang/Math", "min", "(II)I"⟩ : MethodName) jdk_29_method_69_code 2 (some .int) :: ws) ({ frames := 0, cells := 0, slots := 0, locals := 0 } : Room)) (fun a U => a = #[(.int p0), (.int p1)] ∧ Z.Warmed39 U.vm ∧ U.heap = h0) (fun _ _ _ _ _ => True) (fun _ U o U' => ∃ v L, o = .returned v ∧ Q4 Z p0 p1 h0 n0 v U'.heap L ∧ FrameEnd U o U' L ({ frames := 0, cells := 0, slots := 0, locals := 0 } : Room).cells ({ frames := 0, cells := 0, slots := 0, locals := 0 } : Room).slots) := by
  refine MetFree.of_bodySF pn_4 hisR ?_
  intro p e s m args below meth c s₁ Bd hml0 hP hK
  obtain ⟨rfl, hZ, hh⟩ := hP
  have hx := Bd.exec
  have hby := Bd.bytes
  have hml : c.maxLocals = 2 := hml0
  have hown : s.vm.findClass "java/lang/Math" = some m.cls := findClass_of_methodNamed Bd.named
  have hnm := (name_of_methodNamed Bd.named Bd.method).1
  have hlk := BodyLoose.notSynchronized Bd
  have X0 : Stand p l e ({ frames := 0, cells := 0, slots := 0, locals := 0 } : Room) s m #[(.int p0), (.int p1)] below meth c s₁ [] 0 0 := Stand.of_body Bd
  have e0 : s₁.heap = h0 := by rw [← hh, Bd.state]; rfl
  have N0 := Fr.nil n0
  show own_R p e below s (Q4 Z p0 p1 h0 n0) ({ frames := 0, cells := 0, slots := 0, locals := 0 } : Room).cells ({ frames := 0, cells := 0, slots := 0, locals := 0 } : Room).slots s₁ (entryFrame m #[(.int p0), (.int p1)] 2)
  refine own_cast (ef_4 m p0 p1) ?_
  show own_R p e below s _ _ _ s₁ (mkF m 0 #[.val (.int p0), .val (.int p1)] [])
  refine own_iloadN X0 hx (hb hby d4_0) rfl ?_
  refine own_iloadN X0 hx (hb hby d4_1) rfl ?_
  refine own_icmp X0 hx (hb hby d4_2) (pc' := 9) (by decide) (by decide) (fun hc => ?_) (fun hc => ?_)
  · have hc2 : p1 < p0 := own_gt1 hc
    clear hc
    show own_R p e below s _ _ _ s₁ (mkF m 9 #[.val (.int p0), .val (.int p1)] [])
    refine own_iloadN X0 hx (hb hby d4_9) rfl ?_
    refine own_retI X0 hx Bd.returns hlk (hb hby d4_10) ?_ (by decide) (by decide)
    refine ⟨?_, N0, e0⟩
    show some (Value.int _) = some (Value.int (pl_min p0 p1))
    rw [pl_min, if_pos hc2] <;> first | rfl | decide
  · have hc2 : ¬ p1 < p0 := own_gt0 hc
    clear hc
    show own_R p e below s _ _ _ s₁ (mkF m 5 #[.val (.int p0), .val (.int p1)] [])
    refine own_iloadN X0 hx (hb hby d4_5) rfl ?_
    refine own_goto X0 hx (hb hby d4_6) (pc' := 10) (by decide) (by decide) ?_
    show own_R p e below s _ _ _ s₁ (mkF m 10 #[.val (.int p0), .val (.int p1)] [(.int p0)])
    refine own_retI X0 hx Bd.returns hlk (hb hby d4_10) ?_ (by decide) (by decide)
    refine ⟨?_, N0, e0⟩
    show some (Value.int _) = some (Value.int (pl_min p0 p1))
    rw [pl_min, if_neg hc2] <;> first | rfl | decide
theorem pl_minK (z K : Int32) (h : ¬ z < K) : pl_min z K = K := by
  unfold pl_min
  split
  · rfl
  · rename_i q
    rw [Int32.lt_iff_toInt_lt] at h q
    apply Int32.toInt_inj.mp
    omega
theorem pl_cp (N : Nat) (dv : Value) (us : List Value) : (List.replicate N dv).take (0 : Int32).toNatClampNeg ++ us ++ (List.replicate N dv).drop ((0 : Int32).toNatClampNeg + N) = us := by
  rw [show (0 : Int32).toNatClampNeg = 0 from rfl]; simp
theorem pn_3 : plainFor (⟨"java/util/Arrays", "copyOf", "([BI)[B"⟩ : MethodName) = true := by decide +kernel
theorem ef_3 (m : MethodId) (a1 : Addr) (K : Int32) : entryFrame m #[(.ref a1), (.int K)] 3 = mkF m 0 #[.val (.ref a1), .val (.int K), .unset] [] := by first | (simp [entryFrame, mkF, argsToLocals, Value.category]; done) | rfl
def Q3 (Z : State) (a1 : Addr) (K : Int32) (k1 : ClassId) (z : Int32) (vs : List Value) (us : List Value) (h0 : Heap) (n0 : Nat) (v : Option Value) (h : Heap) (L : List Loc) : Prop := ∃ b kb, v = some (.ref b) ∧ Fr n0 L ∧ Keep h0 h [] ∧ h0.size ≤ b ∧ Arv Z h b kb .byte K us (.int (0 : Int32))
set_option maxRecDepth 65536 in
set_option maxHeartbeats 40000000 in
theorem rm3 (l : Launch) (Z : State) (a0 : Array Value) (hw : ∀ d ∈ tables_1, d.before a0 Z = true) (ws : List Jvm.Cond) (a1 : Addr) (K : Int32) (k1 : ClassId) (z : Int32) (vs : List Value) (us : List Value) (h0 : Heap) (n0 : Nat) (Z0 : n0 ≤ h0.size) (hV : Arv Z h0 a1 k1 .byte z vs (.int (0 : Int32))) (hA : Exa Z h0 a1 "[B") (hK0 : ¬ K < 0) (hKz : ¬ z < K) (hz : z.toNatClampNeg ≤ 4) (hus : us = (List.range K.toNatClampNeg).map fun i => vs.getD ((0 : Int32).toNatClampNeg + i) (.int (0 : Int32))) (heq : z = K → us = vs) :
    MetFree l (⟨"java/util/Arrays", "copyOf", "([BI)[B"⟩ : MethodName) (head1 (Jvm.Cond.code (⟨"java/util/Arrays", "copyOf", "([BI)[B"⟩ : MethodName) jdk_65_method_121_code 3 (some (.array .byte)) :: ws) ({ frames := 1, cells := 1, slots := 4, locals := 40 } : Room)) (fun a U => a = #[(.ref a1), (.int K)] ∧ Z.Warmed39 U.vm ∧ U.heap = h0) (fun _ _ _ _ _ => True) (fun _ U o U' => ∃ v L, o = .returned v ∧ Q3 Z a1 K k1 z vs us h0 n0 v U'.heap L ∧ FrameEnd U o U' L ({ frames := 1, cells := 1, slots := 4, locals := 40 } : Room).cells ({ frames := 1, cells := 1, slots := 4, locals := 40 } : Room).slots) := by
  refine MetFree.of_bodySF pn_3 hisR ?_
  intro p e s m args below meth c s₁ Bd hml0 hP hK
  obtain ⟨rfl, hZ, hh⟩ := hP
  have hx := Bd.exec
  have hby := Bd.bytes
  have hml : c.maxLocals = 3 := hml0
  have hown : s.vm.findClass "java/util/Arrays" = some m.cls := findClass_of_methodNamed Bd.named
  have hnm := (name_of_methodNamed Bd.named Bd.method).1
  have hlk := BodyLoose.notSynchronized Bd
  have X0 : Stand p l e ({ frames := 1, cells := 1, slots := 4, locals := 40 } : Room) s m #[(.ref a1), (.int K)] below meth c s₁ [] 0 0 := Stand.of_body Bd
  have e0 : s₁.heap = h0 := by rw [← hh, Bd.state]; rfl
  have N0 := Fr.nil n0
  show own_R p e below s (Q3 Z a1 K k1 z vs us h0 n0) ({ frames := 1, cells := 1, slots := 4, locals := 40 } : Room).cells ({ frames := 1, cells := 1, slots := 4, locals := 40 } : Room).slots s₁ (entryFrame m #[(.ref a1), (.int K)] 3)
  refine own_cast (ef_3 m a1 K) ?_
  show own_R p e below s _ _ _ s₁ (mkF m 0 #[.val (.ref a1), .val (.int K), .unset] [])
  have K0 := Keep.refl h0 ([] : List Addr)
  refine own_iloadN X0 hx (hb hby d3_0) rfl ?_
  refine own_aloadN X0 hx (hb hby d3_1) rfl rfl ?_
  refine own_len X0 hx hZ e0 hV (hb hby d3_2) ?_
  show own_R p e below s _ _ _ s₁ (mkF m 3 #[.val (.ref a1), .val (.int K), .unset] [(.int z), (.int K)])
  refine own_icmp X0 hx (hb hby d3_3) (pc' := 14) (by decide) (by decide) (fun hc => ?_) (fun hc => ?_)
  · have hc3 : ¬ K = z := own_ne1 hc
    clear hc
    show own_R p e below s _ _ _ s₁ (mkF m 14 #[.val (.ref a1), .val (.int K), .unset] [])
    refine own_iloadN X0 hx (hb hby d3_14) rfl ?_
    refine own_newA X0 hx hZ (hw _ (List.mem_of_getElem? (i := 1) rfl)) e0 (hb hby d3_15) hK0 4 (Nat.le_trans (pl_le hKz) hz) (by decide) (by decide) (by decide) (ad := "[B") (by decide) K.toNatClampNeg ?_
    intro T1 h1 b1 k1 g1 X1 e1 E1 V1 A1
    have ne_a1_b1 : a1 ≠ b1 := Nat.ne_of_lt (Nat.lt_of_lt_of_le hV.lt (Nat.le_of_eq g1.symm))
    have sz_b1 : h0.size ≤ b1 := Nat.le_trans K0.1 (Nat.le_of_eq g1.symm)
    have n0_b1 : n0 ≤ b1 := Nat.le_trans Z0 sz_b1
    have K1 := K0.ext E1
    have V_b1 : Arv Z h1 b1 k1 .byte K (List.replicate K.toNatClampNeg (.int (0 : Int32))) (.int (0 : Int32)) := V1
    show own_R p e below s _ _ _ T1 (mkF m 17 #[.val (.ref a1), .val (.int K), .unset] [(.ref b1)])
    refine own_astoreN X1 hx (hb hby d3_17) rfl (l' := #[.val (.ref a1), .val (.int K), .val (.ref b1)]) rfl ?_
    refine own_aloadN X1 hx (hb hby d3_18) rfl rfl ?_
    refine own_iconst X1 hx (0 : Int32) (hb hby d3_19) rfl ?_
    refine own_aloadN X1 hx (hb hby d3_20) rfl rfl ?_
    refine own_iconst X1 hx (0 : Int32) (hb hby d3_21) rfl ?_
    refine own_aloadN X1 hx (hb hby d3_22) rfl rfl ?_
    have f2 := (hV.ext E1)
    refine own_len X1 hx hZ e1 f2 (hb hby d3_23) ?_
    show own_R p e below s _ _ _ T1 (mkF m 24 #[.val (.ref a1), .val (.int K), .val (.ref b1)] [(.int z), (.int (0 : Int32)), (.ref b1), (.int (0 : Int32)), (.ref a1)])
    refine own_iloadN X1 hx (hb hby d3_24) rfl ?_
    refine own_callS X1 hx hZ (y := (⟨"java/lang/Math", "min", "(II)I"⟩ : MethodName)) hown (hw _ (List.mem_of_getElem? (i := 23) rfl)) (hw _ (List.mem_of_getElem? (i := 24) rfl)) (hw _ (List.mem_of_getElem? (i := 25) rfl)) (hw _ (List.mem_of_getElem? (i := 26) rfl)) (by decide) (rm4 l Z a0 hw [] z K h1 n0 (Nat.le_trans Z0 K1.1)) 4 (by decide) (by decide) e1 (by rw [hml]; rfl) [(.int z), (.int K)] [(.int (0 : Int32)), (.ref b1), (.int (0 : Int32)), (.ref a1)] rfl (lenOf pd_0 rfl) rfl (Nat.le_of_eq rfl) (hb hby d3_25) (by decide) (by decide) ?_
    rintro T3 _ L3 X3 ⟨rfl, N3q, e3⟩
    have N3 := Fr.app N0 N3q
    show own_R p e below s _ _ _ T3 (mkF m 28 #[.val (.ref a1), .val (.int K), .val (.ref b1)] [(.int (pl_min z K)), (.int (0 : Int32)), (.ref b1), (.int (0 : Int32)), (.ref a1)])
    rw [pl_minK z K hKz]
    show own_R p e below s _ _ _ T3 (mkF m 28 #[.val (.ref a1), .val (.int K), .val (.ref b1)] [(.int K), (.int (0 : Int32)), (.ref b1), (.int (0 : Int32)), (.ref a1)])
    obtain ⟨T4, h4, L4, X4, e4, N4, Kc4, V4, st4⟩ := cpA X3 hx hZ hown (hw _ (List.mem_of_getElem? (i := 27) rfl)) (hw _ (List.mem_of_getElem? (i := 30) rfl)) (hw _ (List.mem_of_getElem? (i := 28) rfl)) (hw _ (List.mem_of_getElem? (i := 29) rfl)) e3 f2 V_b1 (us := us) (Or.inl ⟨rfl, rfl⟩) (by decide) (by decide) hK0 (by rw [show (0 : Int32).toNatClampNeg = 0 from rfl, Nat.zero_add]; exact pl_le hKz) (by rw [show (0 : Int32).toNatClampNeg = 0 from rfl, Nat.zero_add]; exact Nat.le_refl _) hus (by rw [show (0 : Int32).toNatClampNeg = 0 from rfl, Nat.zero_add, List.length_replicate]; exact Nat.le_refl _) N3 n0_b1 (g := (mkF m 28 #[.val (.ref a1), .val (.int K), .val (.ref b1)] [(.int K), (.int (0 : Int32)), (.ref b1), (.int (0 : Int32)), (.ref a1)])) rfl (by rw [hml]; rfl) rfl (hb hby d3_28) (by decide) (W := 0) (Nat.le_of_eq rfl) (by decide)
    refine own_lift st4 ?_
    have K4 := K1.trans Kc4 (allS (P := fun x => x ∈ ([] : List Addr) ∨ h0.size ≤ x) (Or.inr sz_b1) all0)
    have V_b1_4 : Arv Z h4 b1 k1 .byte K us (.int (0 : Int32)) := by have q := V4; rw [pl_cp] at q; exact q
    show own_R p e below s _ _ _ T4 (mkF m 31 #[.val (.ref a1), .val (.int K), .val (.ref b1)] [])
    refine own_aloadN X4 hx (hb hby d3_31) rfl rfl ?_
    refine own_retA X4 hx Bd.returns rfl rfl hlk (hb hby d3_32) ?_ (by decide) (by decide)
    rw [e4]
    exact ⟨_, _, rfl, N4, K4, sz_b1, V_b1_4⟩
  · have hc3 : K = z := own_ne0 hc
    clear hc
    show own_R p e below s _ _ _ s₁ (mkF m 6 #[.val (.ref a1), .val (.int K), .unset] [])
    refine own_aloadN X0 hx (hb hby d3_6) rfl rfl ?_
    obtain ⟨T5, h5, X5, e5, E5, V5, A5, st5⟩ := cloneH X0 hx hZ hown (hw _ (List.mem_of_getElem? (i := 14) rfl)) (hw _ (List.mem_of_getElem? (i := 15) rfl)) (hw _ (List.mem_of_getElem? (i := 19) rfl)) (hw _ (List.mem_of_getElem? (i := 17) rfl)) (hw _ (List.mem_of_getElem? (i := 18) rfl)) (hw _ (List.mem_of_getElem? (i := 20) rfl)) e0 hV.arh hA (g := (mkF m 7 #[.val (.ref a1), .val (.int K), .unset] [(.ref a1)])) rfl (by rw [hml]; rfl) rfl (hb hby d3_7) (by decide) (W := 0) (cap := 4) (Nat.le_of_eq rfl) (by decide) hz (by decide) (by decide)
    refine own_lift st5 ?_
    obtain ⟨b5, g5⟩ : ∃ z, z = h0.size := ⟨_, rfl⟩
    rw [← g5] at V5 A5 ⊢
    have ne_a1_b5 : a1 ≠ b5 := Nat.ne_of_lt (Nat.lt_of_lt_of_le hV.lt (Nat.le_of_eq g5.symm))
    have sz_b5 : h0.size ≤ b5 := Nat.le_trans K0.1 (Nat.le_of_eq g5.symm)
    have n0_b5 : n0 ≤ b5 := Nat.le_trans Z0 sz_b5
    have K5 := K0.ext E5
    have V_b5 : Arv Z h5 b5 k1 .byte z vs (.int (0 : Int32)) := V5
    show own_R p e below s _ _ _ T5 (mkF m 10 #[.val (.ref a1), .val (.int K), .unset] [(.ref b5)])
    obtain ⟨T6, X6, e6, st6⟩ := castY X5 hx hZ hown (hw _ (List.mem_of_getElem? (i := 21) rfl)) e5 (Ins.self A5) (g := (mkF m 10 #[.val (.ref a1), .val (.int K), .unset] [(.ref b5)])) rfl rfl (hb hby d3_10)
    refine own_lift st6 ?_
    show own_R p e below s _ _ _ T6 (mkF m 13 #[.val (.ref a1), .val (.int K), .unset] [(.ref b5)])
    have hbb : Arv Z h5 b5 k1 .byte K us (.int (0 : Int32)) := by rw [heq hc3.symm, hc3]; exact V_b5
    refine own_retA X6 hx Bd.returns rfl rfl hlk (hb hby d3_13) ?_ (by decide) (by decide)
    rw [e6]
    exact ⟨_, _, rfl, N0, K5, sz_b5, hbb⟩
theorem pn_2 : plainFor (⟨"com/example/fach/fach/io/KeyBytes", "afterAllWith", "([B)[B"⟩ : MethodName) = true := by decide +kernel
theorem ef_2_0 (m : MethodId) (a1 : Addr) : entryFrame m #[(.ref a1)] 3 = mkF m 0 #[.val (.ref a1), .unset, .unset] [] := by first | (simp [entryFrame, mkF, argsToLocals, Value.category]; done) | rfl
def Q2_0 (Z : State) (a1 : Addr) (k1 : ClassId) (h0 : Heap) (n0 : Nat) (v : Option Value) (h : Heap) (L : List Loc) : Prop := ∃ r, v = some r ∧ Fr n0 L ∧ Keep h0 h [] ∧ ((r = .null))
set_option maxRecDepth 65536 in
set_option maxHeartbeats 40000000 in
theorem rm2_0 (l : Launch) (Z : State) (a0 : Array Value) (hw : ∀ d ∈ tables_1, d.before a0 Z = true) (ws : List Jvm.Cond) (a1 : Addr) (k1 : ClassId) (h0 : Heap) (n0 : Nat) (Z0 : n0 ≤ h0.size) (hV : Arv Z h0 a1 k1 .byte (0 : Int32) [] (.int (0 : Int32))) (hA : Exa Z h0 a1 "[B") :
    MetFree l (⟨"com/example/fach/fach/io/KeyBytes", "afterAllWith", "([B)[B"⟩ : MethodName) (head1 (Jvm.Cond.code (⟨"com/example/fach/fach/io/KeyBytes", "afterAllWith", "([B)[B"⟩ : MethodName) prog_1_method_3_code 3 (some (.array .byte)) :: ws) ({ frames := 2, cells := 1, slots := 4, locals := 60 } : Room)) (fun a U => a = #[(.ref a1)] ∧ Z.Warmed39 U.vm ∧ U.heap = h0) (fun _ _ _ _ _ => True) (fun _ U o U' => ∃ v L, o = .returned v ∧ Q2_0 Z a1 k1 h0 n0 v U'.heap L ∧ FrameEnd U o U' L ({ frames := 2, cells := 1, slots := 4, locals := 60 } : Room).cells ({ frames := 2, cells := 1, slots := 4, locals := 60 } : Room).slots) := by
  refine MetFree.of_bodySF pn_2 hisR ?_
  intro p e s m args below meth c s₁ Bd hml0 hP hK
  obtain ⟨rfl, hZ, hh⟩ := hP
  have hx := Bd.exec
  have hby := Bd.bytes
  have hml : c.maxLocals = 3 := hml0
  have hown : s.vm.findClass "com/example/fach/fach/io/KeyBytes" = some m.cls := findClass_of_methodNamed Bd.named
  have hnm := (name_of_methodNamed Bd.named Bd.method).1
  have hlk := BodyLoose.notSynchronized Bd
  have X0 : Stand p l e ({ frames := 2, cells := 1, slots := 4, locals := 60 } : Room) s m #[(.ref a1)] below meth c s₁ [] 0 0 := Stand.of_body Bd
  have e0 : s₁.heap = h0 := by rw [← hh, Bd.state]; rfl
  have N0 := Fr.nil n0
  show own_R p e below s (Q2_0 Z a1 k1 h0 n0) ({ frames := 2, cells := 1, slots := 4, locals := 60 } : Room).cells ({ frames := 2, cells := 1, slots := 4, locals := 60 } : Room).slots s₁ (entryFrame m #[(.ref a1)] 3)
  refine own_cast (ef_2_0 m a1) ?_
  show own_R p e below s _ _ _ s₁ (mkF m 0 #[.val (.ref a1), .unset, .unset] [])
  have K0 := Keep.refl h0 ([] : List Addr)
  refine own_aloadN X0 hx (hb hby d2_0) rfl rfl ?_
  refine own_len X0 hx hZ e0 hV (hb hby d2_1) ?_
  show own_R p e below s _ _ _ s₁ (mkF m 2 #[.val (.ref a1), .unset, .unset] [(.int (0 : Int32))])
  refine own_istoreN X0 hx (hb hby d2_2) (l' := #[.val (.ref a1), .val (.int (0 : Int32)), .unset]) rfl ?_
  refine own_iloadN X0 hx (hb hby d2_3) rfl ?_
  refine own_if X0 hx (hb hby d2_4) (pc' := 22) (by decide) (by decide) (fun hc => ?_) (fun hc => ?_)
  · have hc4 : ¬ (0 : Int32) < (0 : Int32) := own_le1 hc
    clear hc
    show own_R p e below s _ _ _ s₁ (mkF m 22 #[.val (.ref a1), .val (.int (0 : Int32)), .unset] [])
    refine own_iloadN X0 hx (hb hby d2_22) rfl ?_
    refine own_if X0 hx (hb hby d2_23) (pc' := 28) (by decide) (by decide) (fun hc => ?_) (fun hc => ?_)
    · have hc23 : ¬ (0 : Int32) = (0 : Int32) := own_ne1 hc
      exact absurd (by decide) hc23
    · have hc23 : (0 : Int32) = (0 : Int32) := own_ne0 hc
      clear hc
      show own_R p e below s _ _ _ s₁ (mkF m 26 #[.val (.ref a1), .val (.int (0 : Int32)), .unset] [])
      refine own_aconst_null X0 hx (hb hby d2_26) ?_
      refine own_retA X0 hx Bd.returns rfl rfl hlk (hb hby d2_27) ?_ (by decide) (by decide)
      rw [e0]
      exact ⟨_, rfl, N0, K0, rfl⟩
  · have hc4 : (0 : Int32) < (0 : Int32) := own_le0 hc
    exact absurd hc4 (by decide)
theorem ef_2_1 (m : MethodId) (a1 : Addr) : entryFrame m #[(.ref a1)] 3 = mkF m 0 #[.val (.ref a1), .unset, .unset] [] := by first | (simp [entryFrame, mkF, argsToLocals, Value.category]; done) | rfl
def Q2_1 (Z : State) (a1 : Addr) (k1 : ClassId) (x0 : Int32) (h0 : Heap) (n0 : Nat) (v : Option Value) (h : Heap) (L : List Loc) : Prop := ∃ r, v = some r ∧ Fr n0 L ∧ Keep h0 h [] ∧ ((¬ x0 = (-1 : Int32) ∧ ∃ b kb, r = .ref b ∧ Arv Z h b kb .byte (1 : Int32) [(.int ((x0 + (1 : Int32)).toInt8.toInt32))] (.int (0 : Int32))) ∨ (x0 = (-1 : Int32) ∧ r = .null))
set_option maxRecDepth 65536 in
set_option maxHeartbeats 40000000 in
theorem rm2_1 (l : Launch) (Z : State) (a0 : Array Value) (hw : ∀ d ∈ tables_1, d.before a0 Z = true) (ws : List Jvm.Cond) (a1 : Addr) (k1 : ClassId) (x0 : Int32) (h0 : Heap) (n0 : Nat) (Z0 : n0 ≤ h0.size) (hV : Arv Z h0 a1 k1 .byte (1 : Int32) [(.int x0)] (.int (0 : Int32))) (hA : Exa Z h0 a1 "[B") :
    MetFree l (⟨"com/example/fach/fach/io/KeyBytes", "afterAllWith", "([B)[B"⟩ : MethodName) (head1 (Jvm.Cond.code (⟨"com/example/fach/fach/io/KeyBytes", "afterAllWith", "([B)[B"⟩ : MethodName) prog_1_method_3_code 3 (some (.array .byte)) :: ws) ({ frames := 2, cells := 1, slots := 4, locals := 60 } : Room)) (fun a U => a = #[(.ref a1)] ∧ Z.Warmed39 U.vm ∧ U.heap = h0) (fun _ _ _ _ _ => True) (fun _ U o U' => ∃ v L, o = .returned v ∧ Q2_1 Z a1 k1 x0 h0 n0 v U'.heap L ∧ FrameEnd U o U' L ({ frames := 2, cells := 1, slots := 4, locals := 60 } : Room).cells ({ frames := 2, cells := 1, slots := 4, locals := 60 } : Room).slots) := by
  refine MetFree.of_bodySF pn_2 hisR ?_
  intro p e s m args below meth c s₁ Bd hml0 hP hK
  obtain ⟨rfl, hZ, hh⟩ := hP
  have hx := Bd.exec
  have hby := Bd.bytes
  have hml : c.maxLocals = 3 := hml0
  have hown : s.vm.findClass "com/example/fach/fach/io/KeyBytes" = some m.cls := findClass_of_methodNamed Bd.named
  have hnm := (name_of_methodNamed Bd.named Bd.method).1
  have hlk := BodyLoose.notSynchronized Bd
  have X0 : Stand p l e ({ frames := 2, cells := 1, slots := 4, locals := 60 } : Room) s m #[(.ref a1)] below meth c s₁ [] 0 0 := Stand.of_body Bd
  have e0 : s₁.heap = h0 := by rw [← hh, Bd.state]; rfl
  have N0 := Fr.nil n0
  show own_R p e below s (Q2_1 Z a1 k1 x0 h0 n0) ({ frames := 2, cells := 1, slots := 4, locals := 60 } : Room).cells ({ frames := 2, cells := 1, slots := 4, locals := 60 } : Room).slots s₁ (entryFrame m #[(.ref a1)] 3)
  refine own_cast (ef_2_1 m a1) ?_
  show own_R p e below s _ _ _ s₁ (mkF m 0 #[.val (.ref a1), .unset, .unset] [])
  have K0 := Keep.refl h0 ([] : List Addr)
  refine own_aloadN X0 hx (hb hby d2_0) rfl rfl ?_
  refine own_len X0 hx hZ e0 hV (hb hby d2_1) ?_
  show own_R p e below s _ _ _ s₁ (mkF m 2 #[.val (.ref a1), .unset, .unset] [(.int (1 : Int32))])
  refine own_istoreN X0 hx (hb hby d2_2) (l' := #[.val (.ref a1), .val (.int (1 : Int32)), .unset]) rfl ?_
  refine own_iloadN X0 hx (hb hby d2_3) rfl ?_
  refine own_if X0 hx (hb hby d2_4) (pc' := 22) (by decide) (by decide) (fun hc => ?_) (fun hc => ?_)
  · have hc4 : ¬ (0 : Int32) < (1 : Int32) := own_le1 hc
    exact absurd (by decide) hc4
  · have hc4 : (0 : Int32) < (1 : Int32) := own_le0 hc
    clear hc
    show own_R p e below s _ _ _ s₁ (mkF m 7 #[.val (.ref a1), .val (.int (1 : Int32)), .unset] [])
    refine own_aloadN X0 hx (hb hby d2_7) rfl rfl ?_
    refine own_iloadN X0 hx (hb hby d2_8) rfl ?_
    refine own_iconst X0 hx (1 : Int32) (hb hby d2_9) rfl ?_
    refine own_isub X0 hx (hb hby d2_10) ?_
    refine own_baload X0 hx hZ e0 hV (v := .int x0) ⟨by decide, by decide⟩ rfl (hb hby d2_11) ?_
    show own_R p e below s _ _ _ s₁ (mkF m 12 #[.val (.ref a1), .val (.int (1 : Int32)), .unset] [(.int x0)])
    refine own_iconst X0 hx (-1 : Int32) (hb hby d2_12) rfl ?_
    refine own_icmp X0 hx (hb hby d2_13) (pc' := 22) (by decide) (by decide) (fun hc => ?_) (fun hc => ?_)
    · have hx0 : ¬ x0 = (-1 : Int32) := own_ne1 hc
      clear hc
      show own_R p e below s _ _ _ s₁ (mkF m 22 #[.val (.ref a1), .val (.int (1 : Int32)), .unset] [])
      refine own_iloadN X0 hx (hb hby d2_22) rfl ?_
      refine own_if X0 hx (hb hby d2_23) (pc' := 28) (by decide) (by decide) (fun hc => ?_) (fun hc => ?_)
      · have hc23 : ¬ (1 : Int32) = (0 : Int32) := own_ne1 hc
        clear hc
        show own_R p e below s _ _ _ s₁ (mkF m 28 #[.val (.ref a1), .val (.int (1 : Int32)), .unset] [])
        refine own_aloadN X0 hx (hb hby d2_28) rfl rfl ?_
        refine own_iloadN X0 hx (hb hby d2_29) rfl ?_
        refine own_callS X0 hx hZ (y := (⟨"java/util/Arrays", "copyOf", "([BI)[B"⟩ : MethodName)) hown (hw _ (List.mem_of_getElem? (i := 10) rfl)) (hw _ (List.mem_of_getElem? (i := 11) rfl)) (hw _ (List.mem_of_getElem? (i := 12) rfl)) (hw _ (List.mem_of_getElem? (i := 13) rfl)) (by decide) (rm3 l Z a0 hw [] a1 (1 : Int32) k1 (1 : Int32) [(.int x0)] [(.int x0)] h0 n0 (Nat.le_trans Z0 K0.1) hV hA (by decide) (by decide) (by decide) rfl (fun _ => rfl)) 0 (by decide) (by decide) e0 (by rw [hml]; rfl) [(.ref a1), (.int (1 : Int32))] [] rfl (lenOf pd_1 rfl) rfl (Nat.le_of_eq rfl) (hb hby d2_30) (by decide) (by decide) ?_
        rintro T7 _ L7 X7 ⟨c7, kc7, rfl, N7q, Kc7, nc7, Vc7⟩
        have N7 := Fr.app N0 N7q
        have K7 := K0.trans Kc7 all0
        show own_R p e below s _ _ _ T7 (mkF m 33 #[.val (.ref a1), .val (.int (1 : Int32)), .unset] [(.ref c7)])
        have sz_c7 : h0.size ≤ c7 := Nat.le_trans K0.1 nc7
        have n0_c7 : n0 ≤ c7 := Nat.le_trans Z0 sz_c7
        have ne_a1_c7 : a1 ≠ c7 := Nat.ne_of_lt (Nat.lt_of_lt_of_le hV.lt nc7)
        refine own_astoreN X7 hx (hb hby d2_33) rfl (l' := #[.val (.ref a1), .val (.int (1 : Int32)), .val (.ref c7)]) rfl ?_
        refine own_aloadN X7 hx (hb hby d2_34) rfl rfl ?_
        refine own_iloadN X7 hx (hb hby d2_35) rfl ?_
        refine own_iconst X7 hx (1 : Int32) (hb hby d2_36) rfl ?_
        refine own_isub X7 hx (hb hby d2_37) ?_
        refine own_dup2 X7 hx (hb hby d2_38) rfl rfl ?_
        refine own_baload X7 hx hZ rfl Vc7 (v := .int x0) ⟨by decide, by decide⟩ rfl (hb hby d2_39) ?_
        show own_R p e below s _ _ _ T7 (mkF m 40 #[.val (.ref a1), .val (.int (1 : Int32)), .val (.ref c7)] [(.int x0), (.int (0 : Int32)), (.ref c7)])
        refine own_iconst X7 hx (1 : Int32) (hb hby d2_40) rfl ?_
        refine own_iadd X7 hx (hb hby d2_41) ?_
        refine own_i2b X7 hx (hb hby d2_42) ?_
        refine own_bastore X7 hx hZ rfl Vc7 (x' := ((x0 + (1 : Int32)).toInt8.toInt32)) (pl_nb _) ⟨by decide, by decide⟩ 0 rfl (Nat.le_of_ble_eq_true rfl) (hb hby d2_43) ?_
        intro T8 h8 X8 e8 W8 V8
        have K8 := K7.wr W8 (Or.inr sz_c7)
        have N8 := Fr.snoc X8 N7 n0_c7
        have V_c7_8 : Arv Z h8 c7 kc7 .byte (1 : Int32) [(.int ((x0 + (1 : Int32)).toInt8.toInt32))] (.int (0 : Int32)) := V8
        show own_R p e below s _ _ _ T8 (mkF m 44 #[.val (.ref a1), .val (.int (1 : Int32)), .val (.ref c7)] [])
        refine own_aloadN X8 hx (hb hby d2_44) rfl rfl ?_
        refine own_retA X8 hx Bd.returns rfl rfl hlk (hb hby d2_45) ?_ (by decide) (by decide)
        rw [e8]
        exact ⟨_, rfl, N8, K8, (Or.inl ⟨hx0, _, _, rfl, V_c7_8⟩)⟩
      · have hc23 : (1 : Int32) = (0 : Int32) := own_ne0 hc
        exact absurd hc23 (by decide)
    · have hx0 : x0 = (-1 : Int32) := own_ne0 hc
      clear hc
      show own_R p e below s _ _ _ s₁ (mkF m 16 #[.val (.ref a1), .val (.int (1 : Int32)), .unset] [])
      refine own_iinc X0 hx (-1 : Int32) (hb hby d2_16) rfl rfl (l' := #[.val (.ref a1), .val (.int (0 : Int32)), .unset]) rfl ?_
      refine own_goto X0 hx (hb hby d2_19) (pc' := 3) (by decide) (by decide) ?_
      show own_R p e below s _ _ _ s₁ (mkF m 3 #[.val (.ref a1), .val (.int (0 : Int32)), .unset] [])
      refine own_iloadN X0 hx (hb hby d2_3) rfl ?_
      refine own_if X0 hx (hb hby d2_4) (pc' := 22) (by decide) (by decide) (fun hc => ?_) (fun hc => ?_)
      · have hc4 : ¬ (0 : Int32) < (0 : Int32) := own_le1 hc
        clear hc
        show own_R p e below s _ _ _ s₁ (mkF m 22 #[.val (.ref a1), .val (.int (0 : Int32)), .unset] [])
        refine own_iloadN X0 hx (hb hby d2_22) rfl ?_
        refine own_if X0 hx (hb hby d2_23) (pc' := 28) (by decide) (by decide) (fun hc => ?_) (fun hc => ?_)
        · have hc23 : ¬ (0 : Int32) = (0 : Int32) := own_ne1 hc
          exact absurd (by decide) hc23
        · have hc23 : (0 : Int32) = (0 : Int32) := own_ne0 hc
          clear hc
          show own_R p e below s _ _ _ s₁ (mkF m 26 #[.val (.ref a1), .val (.int (0 : Int32)), .unset] [])
          refine own_aconst_null X0 hx (hb hby d2_26) ?_
          refine own_retA X0 hx Bd.returns rfl rfl hlk (hb hby d2_27) ?_ (by decide) (by decide)
          rw [e0]
          exact ⟨_, rfl, N0, K0, (Or.inr ⟨hx0, rfl⟩)⟩
      · have hc4 : (0 : Int32) < (0 : Int32) := own_le0 hc
        exact absurd hc4 (by decide)
theorem ef_2_2 (m : MethodId) (a1 : Addr) : entryFrame m #[(.ref a1)] 3 = mkF m 0 #[.val (.ref a1), .unset, .unset] [] := by first | (simp [entryFrame, mkF, argsToLocals, Value.category]; done) | rfl
def Q2_2 (Z : State) (a1 : Addr) (k1 : ClassId) (x0 : Int32) (x1 : Int32) (h0 : Heap) (n0 : Nat) (v : Option Value) (h : Heap) (L : List Loc) : Prop := ∃ r, v = some r ∧ Fr n0 L ∧ Keep h0 h [] ∧ ((¬ x1 = (-1 : Int32) ∧ ∃ b kb, r = .ref b ∧ Arv Z h b kb .byte (2 : Int32) [(.int x0), (.int ((x1 + (1 : Int32)).toInt8.toInt32))] (.int (0 : Int32))) ∨ (x1 = (-1 : Int32) ∧ ¬ x0 = (-1 : Int32) ∧ ∃ b kb, r = .ref b ∧ Arv Z h b kb .byte (1 : Int32) [(.int ((x0 + (1 : Int32)).toInt8.toInt32))] (.int (0 : Int32))) ∨ (x1 = (-1 : Int32) ∧ x0 = (-1 : Int32) ∧ r = .null))
set_option maxRecDepth 65536 in
set_option maxHeartbeats 40000000 in
theorem rm2_2 (l : Launch) (Z : State) (a0 : Array Value) (hw : ∀ d ∈ tables_1, d.before a0 Z = true) (ws : List Jvm.Cond) (a1 : Addr) (k1 : ClassId) (x0 : Int32) (x1 : Int32) (h0 : Heap) (n0 : Nat) (Z0 : n0 ≤ h0.size) (hV : Arv Z h0 a1 k1 .byte (2 : Int32) [(.int x0), (.int x1)] (.int (0 : Int32))) (hA : Exa Z h0 a1 "[B") :
    MetFree l (⟨"com/example/fach/fach/io/KeyBytes", "afterAllWith", "([B)[B"⟩ : MethodName) (head1 (Jvm.Cond.code (⟨"com/example/fach/fach/io/KeyBytes", "afterAllWith", "([B)[B"⟩ : MethodName) prog_1_method_3_code 3 (some (.array .byte)) :: ws) ({ frames := 2, cells := 1, slots := 4, locals := 60 } : Room)) (fun a U => a = #[(.ref a1)] ∧ Z.Warmed39 U.vm ∧ U.heap = h0) (fun _ _ _ _ _ => True) (fun _ U o U' => ∃ v L, o = .returned v ∧ Q2_2 Z a1 k1 x0 x1 h0 n0 v U'.heap L ∧ FrameEnd U o U' L ({ frames := 2, cells := 1, slots := 4, locals := 60 } : Room).cells ({ frames := 2, cells := 1, slots := 4, locals := 60 } : Room).slots) := by
  refine MetFree.of_bodySF pn_2 hisR ?_
  intro p e s m args below meth c s₁ Bd hml0 hP hK
  obtain ⟨rfl, hZ, hh⟩ := hP
  have hx := Bd.exec
  have hby := Bd.bytes
  have hml : c.maxLocals = 3 := hml0
  have hown : s.vm.findClass "com/example/fach/fach/io/KeyBytes" = some m.cls := findClass_of_methodNamed Bd.named
  have hnm := (name_of_methodNamed Bd.named Bd.method).1
  have hlk := BodyLoose.notSynchronized Bd
  have X0 : Stand p l e ({ frames := 2, cells := 1, slots := 4, locals := 60 } : Room) s m #[(.ref a1)] below meth c s₁ [] 0 0 := Stand.of_body Bd
  have e0 : s₁.heap = h0 := by rw [← hh, Bd.state]; rfl
  have N0 := Fr.nil n0
  show own_R p e below s (Q2_2 Z a1 k1 x0 x1 h0 n0) ({ frames := 2, cells := 1, slots := 4, locals := 60 } : Room).cells ({ frames := 2, cells := 1, slots := 4, locals := 60 } : Room).slots s₁ (entryFrame m #[(.ref a1)] 3)
  refine own_cast (ef_2_2 m a1) ?_
  show own_R p e below s _ _ _ s₁ (mkF m 0 #[.val (.ref a1), .unset, .unset] [])
  have K0 := Keep.refl h0 ([] : List Addr)
  refine own_aloadN X0 hx (hb hby d2_0) rfl rfl ?_
  refine own_len X0 hx hZ e0 hV (hb hby d2_1) ?_
  show own_R p e below s _ _ _ s₁ (mkF m 2 #[.val (.ref a1), .unset, .unset] [(.int (2 : Int32))])
  refine own_istoreN X0 hx (hb hby d2_2) (l' := #[.val (.ref a1), .val (.int (2 : Int32)), .unset]) rfl ?_
  refine own_iloadN X0 hx (hb hby d2_3) rfl ?_
  refine own_if X0 hx (hb hby d2_4) (pc' := 22) (by decide) (by decide) (fun hc => ?_) (fun hc => ?_)
  · have hc4 : ¬ (0 : Int32) < (2 : Int32) := own_le1 hc
    exact absurd (by decide) hc4
  · have hc4 : (0 : Int32) < (2 : Int32) := own_le0 hc
    clear hc
    show own_R p e below s _ _ _ s₁ (mkF m 7 #[.val (.ref a1), .val (.int (2 : Int32)), .unset] [])
    refine own_aloadN X0 hx (hb hby d2_7) rfl rfl ?_
    refine own_iloadN X0 hx (hb hby d2_8) rfl ?_
    refine own_iconst X0 hx (1 : Int32) (hb hby d2_9) rfl ?_
    refine own_isub X0 hx (hb hby d2_10) ?_
    refine own_baload X0 hx hZ e0 hV (v := .int x1) ⟨by decide, by decide⟩ rfl (hb hby d2_11) ?_
    show own_R p e below s _ _ _ s₁ (mkF m 12 #[.val (.ref a1), .val (.int (2 : Int32)), .unset] [(.int x1)])
    refine own_iconst X0 hx (-1 : Int32) (hb hby d2_12) rfl ?_
    refine own_icmp X0 hx (hb hby d2_13) (pc' := 22) (by decide) (by decide) (fun hc => ?_) (fun hc => ?_)
    · have hx1 : ¬ x1 = (-1 : Int32) := own_ne1 hc
      clear hc
      show own_R p e below s _ _ _ s₁ (mkF m 22 #[.val (.ref a1), .val (.int (2 : Int32)), .unset] [])
      refine own_iloadN X0 hx (hb hby d2_22) rfl ?_
      refine own_if X0 hx (hb hby d2_23) (pc' := 28) (by decide) (by decide) (fun hc => ?_) (fun hc => ?_)
      · have hc23 : ¬ (2 : Int32) = (0 : Int32) := own_ne1 hc
        clear hc
        show own_R p e below s _ _ _ s₁ (mkF m 28 #[.val (.ref a1), .val (.int (2 : Int32)), .unset] [])
        refine own_aloadN X0 hx (hb hby d2_28) rfl rfl ?_
        refine own_iloadN X0 hx (hb hby d2_29) rfl ?_
        refine own_callS X0 hx hZ (y := (⟨"java/util/Arrays", "copyOf", "([BI)[B"⟩ : MethodName)) hown (hw _ (List.mem_of_getElem? (i := 10) rfl)) (hw _ (List.mem_of_getElem? (i := 11) rfl)) (hw _ (List.mem_of_getElem? (i := 12) rfl)) (hw _ (List.mem_of_getElem? (i := 13) rfl)) (by decide) (rm3 l Z a0 hw [] a1 (2 : Int32) k1 (2 : Int32) [(.int x0), (.int x1)] [(.int x0), (.int x1)] h0 n0 (Nat.le_trans Z0 K0.1) hV hA (by decide) (by decide) (by decide) rfl (fun _ => rfl)) 0 (by decide) (by decide) e0 (by rw [hml]; rfl) [(.ref a1), (.int (2 : Int32))] [] rfl (lenOf pd_1 rfl) rfl (Nat.le_of_eq rfl) (hb hby d2_30) (by decide) (by decide) ?_
        rintro T9 _ L9 X9 ⟨c9, kc9, rfl, N9q, Kc9, nc9, Vc9⟩
        have N9 := Fr.app N0 N9q
        have K9 := K0.trans Kc9 all0
        show own_R p e below s _ _ _ T9 (mkF m 33 #[.val (.ref a1), .val (.int (2 : Int32)), .unset] [(.ref c9)])
        have sz_c9 : h0.size ≤ c9 := Nat.le_trans K0.1 nc9
        have n0_c9 : n0 ≤ c9 := Nat.le_trans Z0 sz_c9
        have ne_a1_c9 : a1 ≠ c9 := Nat.ne_of_lt (Nat.lt_of_lt_of_le hV.lt nc9)
        refine own_astoreN X9 hx (hb hby d2_33) rfl (l' := #[.val (.ref a1), .val (.int (2 : Int32)), .val (.ref c9)]) rfl ?_
        refine own_aloadN X9 hx (hb hby d2_34) rfl rfl ?_
        refine own_iloadN X9 hx (hb hby d2_35) rfl ?_
        refine own_iconst X9 hx (1 : Int32) (hb hby d2_36) rfl ?_
        refine own_isub X9 hx (hb hby d2_37) ?_
        refine own_dup2 X9 hx (hb hby d2_38) rfl rfl ?_
        refine own_baload X9 hx hZ rfl Vc9 (v := .int x1) ⟨by decide, by decide⟩ rfl (hb hby d2_39) ?_
        show own_R p e below s _ _ _ T9 (mkF m 40 #[.val (.ref a1), .val (.int (2 : Int32)), .val (.ref c9)] [(.int x1), (.int (1 : Int32)), (.ref c9)])
        refine own_iconst X9 hx (1 : Int32) (hb hby d2_40) rfl ?_
        refine own_iadd X9 hx (hb hby d2_41) ?_
        refine own_i2b X9 hx (hb hby d2_42) ?_
        refine own_bastore X9 hx hZ rfl Vc9 (x' := ((x1 + (1 : Int32)).toInt8.toInt32)) (pl_nb _) ⟨by decide, by decide⟩ 1 rfl (Nat.le_of_ble_eq_true rfl) (hb hby d2_43) ?_
        intro T10 h10 X10 e10 W10 V10
        have K10 := K9.wr W10 (Or.inr sz_c9)
        have N10 := Fr.snoc X10 N9 n0_c9
        have V_c9_10 : Arv Z h10 c9 kc9 .byte (2 : Int32) [(.int x0), (.int ((x1 + (1 : Int32)).toInt8.toInt32))] (.int (0 : Int32)) := V10
        show own_R p e below s _ _ _ T10 (mkF m 44 #[.val (.ref a1), .val (.int (2 : Int32)), .val (.ref c9)] [])
        refine own_aloadN X10 hx (hb hby d2_44) rfl rfl ?_
        refine own_retA X10 hx Bd.returns rfl rfl hlk (hb hby d2_45) ?_ (by decide) (by decide)
        rw [e10]
        exact ⟨_, rfl, N10, K10, (Or.inl ⟨hx1, _, _, rfl, V_c9_10⟩)⟩
      · have hc23 : (2 : Int32) = (0 : Int32) := own_ne0 hc
        exact absurd hc23 (by decide)
    · have hx1 : x1 = (-1 : Int32) := own_ne0 hc
      clear hc
      show own_R p e below s _ _ _ s₁ (mkF m 16 #[.val (.ref a1), .val (.int (2 : Int32)), .unset] [])
      refine own_iinc X0 hx (-1 : Int32) (hb hby d2_16) rfl rfl (l' := #[.val (.ref a1), .val (.int (1 : Int32)), .unset]) rfl ?_
      refine own_goto X0 hx (hb hby d2_19) (pc' := 3) (by decide) (by decide) ?_
      show own_R p e below s _ _ _ s₁ (mkF m 3 #[.val (.ref a1), .val (.int (1 : Int32)), .unset] [])
      refine own_iloadN X0 hx (hb hby d2_3) rfl ?_
      refine own_if X0 hx (hb hby d2_4) (pc' := 22) (by decide) (by decide) (fun hc => ?_) (fun hc => ?_)
      · have hc4 : ¬ (0 : Int32) < (1 : Int32) := own_le1 hc
        exact absurd (by decide) hc4
      · have hc4 : (0 : Int32) < (1 : Int32) := own_le0 hc
        clear hc
        show own_R p e below s _ _ _ s₁ (mkF m 7 #[.val (.ref a1), .val (.int (1 : Int32)), .unset] [])
        refine own_aloadN X0 hx (hb hby d2_7) rfl rfl ?_
        refine own_iloadN X0 hx (hb hby d2_8) rfl ?_
        refine own_iconst X0 hx (1 : Int32) (hb hby d2_9) rfl ?_
        refine own_isub X0 hx (hb hby d2_10) ?_
        refine own_baload X0 hx hZ e0 hV (v := .int x0) ⟨by decide, by decide⟩ rfl (hb hby d2_11) ?_
        show own_R p e below s _ _ _ s₁ (mkF m 12 #[.val (.ref a1), .val (.int (1 : Int32)), .unset] [(.int x0)])
        refine own_iconst X0 hx (-1 : Int32) (hb hby d2_12) rfl ?_
        refine own_icmp X0 hx (hb hby d2_13) (pc' := 22) (by decide) (by decide) (fun hc => ?_) (fun hc => ?_)
        · have hx0 : ¬ x0 = (-1 : Int32) := own_ne1 hc
          clear hc
          show own_R p e below s _ _ _ s₁ (mkF m 22 #[.val (.ref a1), .val (.int (1 : Int32)), .unset] [])
          refine own_iloadN X0 hx (hb hby d2_22) rfl ?_
          refine own_if X0 hx (hb hby d2_23) (pc' := 28) (by decide) (by decide) (fun hc => ?_) (fun hc => ?_)
          · have hc23 : ¬ (1 : Int32) = (0 : Int32) := own_ne1 hc
            clear hc
            show own_R p e below s _ _ _ s₁ (mkF m 28 #[.val (.ref a1), .val (.int (1 : Int32)), .unset] [])
            refine own_aloadN X0 hx (hb hby d2_28) rfl rfl ?_
            refine own_iloadN X0 hx (hb hby d2_29) rfl ?_
            refine own_callS X0 hx hZ (y := (⟨"java/util/Arrays", "copyOf", "([BI)[B"⟩ : MethodName)) hown (hw _ (List.mem_of_getElem? (i := 10) rfl)) (hw _ (List.mem_of_getElem? (i := 11) rfl)) (hw _ (List.mem_of_getElem? (i := 12) rfl)) (hw _ (List.mem_of_getElem? (i := 13) rfl)) (by decide) (rm3 l Z a0 hw [] a1 (1 : Int32) k1 (2 : Int32) [(.int x0), (.int x1)] [(.int x0)] h0 n0 (Nat.le_trans Z0 K0.1) hV hA (by decide) (by decide) (by decide) rfl (fun q => absurd q (by decide))) 0 (by decide) (by decide) e0 (by rw [hml]; rfl) [(.ref a1), (.int (1 : Int32))] [] rfl (lenOf pd_1 rfl) rfl (Nat.le_of_eq rfl) (hb hby d2_30) (by decide) (by decide) ?_
            rintro T11 _ L11 X11 ⟨c11, kc11, rfl, N11q, Kc11, nc11, Vc11⟩
            have N11 := Fr.app N0 N11q
            have K11 := K0.trans Kc11 all0
            show own_R p e below s _ _ _ T11 (mkF m 33 #[.val (.ref a1), .val (.int (1 : Int32)), .unset] [(.ref c11)])
            have sz_c11 : h0.size ≤ c11 := Nat.le_trans K0.1 nc11
            have n0_c11 : n0 ≤ c11 := Nat.le_trans Z0 sz_c11
            have ne_a1_c11 : a1 ≠ c11 := Nat.ne_of_lt (Nat.lt_of_lt_of_le hV.lt nc11)
            refine own_astoreN X11 hx (hb hby d2_33) rfl (l' := #[.val (.ref a1), .val (.int (1 : Int32)), .val (.ref c11)]) rfl ?_
            refine own_aloadN X11 hx (hb hby d2_34) rfl rfl ?_
            refine own_iloadN X11 hx (hb hby d2_35) rfl ?_
            refine own_iconst X11 hx (1 : Int32) (hb hby d2_36) rfl ?_
            refine own_isub X11 hx (hb hby d2_37) ?_
            refine own_dup2 X11 hx (hb hby d2_38) rfl rfl ?_
            refine own_baload X11 hx hZ rfl Vc11 (v := .int x0) ⟨by decide, by decide⟩ rfl (hb hby d2_39) ?_
            show own_R p e below s _ _ _ T11 (mkF m 40 #[.val (.ref a1), .val (.int (1 : Int32)), .val (.ref c11)] [(.int x0), (.int (0 : Int32)), (.ref c11)])
            refine own_iconst X11 hx (1 : Int32) (hb hby d2_40) rfl ?_
            refine own_iadd X11 hx (hb hby d2_41) ?_
            refine own_i2b X11 hx (hb hby d2_42) ?_
            refine own_bastore X11 hx hZ rfl Vc11 (x' := ((x0 + (1 : Int32)).toInt8.toInt32)) (pl_nb _) ⟨by decide, by decide⟩ 0 rfl (Nat.le_of_ble_eq_true rfl) (hb hby d2_43) ?_
            intro T12 h12 X12 e12 W12 V12
            have K12 := K11.wr W12 (Or.inr sz_c11)
            have N12 := Fr.snoc X12 N11 n0_c11
            have V_c11_12 : Arv Z h12 c11 kc11 .byte (1 : Int32) [(.int ((x0 + (1 : Int32)).toInt8.toInt32))] (.int (0 : Int32)) := V12
            show own_R p e below s _ _ _ T12 (mkF m 44 #[.val (.ref a1), .val (.int (1 : Int32)), .val (.ref c11)] [])
            refine own_aloadN X12 hx (hb hby d2_44) rfl rfl ?_
            refine own_retA X12 hx Bd.returns rfl rfl hlk (hb hby d2_45) ?_ (by decide) (by decide)
            rw [e12]
            exact ⟨_, rfl, N12, K12, (Or.inr (Or.inl ⟨hx1, hx0, _, _, rfl, V_c11_12⟩))⟩
          · have hc23 : (1 : Int32) = (0 : Int32) := own_ne0 hc
            exact absurd hc23 (by decide)
        · have hx0 : x0 = (-1 : Int32) := own_ne0 hc
          clear hc
          show own_R p e below s _ _ _ s₁ (mkF m 16 #[.val (.ref a1), .val (.int (1 : Int32)), .unset] [])
          refine own_iinc X0 hx (-1 : Int32) (hb hby d2_16) rfl rfl (l' := #[.val (.ref a1), .val (.int (0 : Int32)), .unset]) rfl ?_
          refine own_goto X0 hx (hb hby d2_19) (pc' := 3) (by decide) (by decide) ?_
          show own_R p e below s _ _ _ s₁ (mkF m 3 #[.val (.ref a1), .val (.int (0 : Int32)), .unset] [])
          refine own_iloadN X0 hx (hb hby d2_3) rfl ?_
          refine own_if X0 hx (hb hby d2_4) (pc' := 22) (by decide) (by decide) (fun hc => ?_) (fun hc => ?_)
          · have hc4 : ¬ (0 : Int32) < (0 : Int32) := own_le1 hc
            clear hc
            show own_R p e below s _ _ _ s₁ (mkF m 22 #[.val (.ref a1), .val (.int (0 : Int32)), .unset] [])
            refine own_iloadN X0 hx (hb hby d2_22) rfl ?_
            refine own_if X0 hx (hb hby d2_23) (pc' := 28) (by decide) (by decide) (fun hc => ?_) (fun hc => ?_)
            · have hc23 : ¬ (0 : Int32) = (0 : Int32) := own_ne1 hc
              exact absurd (by decide) hc23
            · have hc23 : (0 : Int32) = (0 : Int32) := own_ne0 hc
              clear hc
              show own_R p e below s _ _ _ s₁ (mkF m 26 #[.val (.ref a1), .val (.int (0 : Int32)), .unset] [])
              refine own_aconst_null X0 hx (hb hby d2_26) ?_
              refine own_retA X0 hx Bd.returns rfl rfl hlk (hb hby d2_27) ?_ (by decide) (by decide)
              rw [e0]
              exact ⟨_, rfl, N0, K0, (Or.inr (Or.inr ⟨hx1, hx0, rfl⟩))⟩
          · have hc4 : (0 : Int32) < (0 : Int32) := own_le0 hc
            exact absurd hc4 (by decide)
theorem ef_2_3 (m : MethodId) (a1 : Addr) : entryFrame m #[(.ref a1)] 3 = mkF m 0 #[.val (.ref a1), .unset, .unset] [] := by first | (simp [entryFrame, mkF, argsToLocals, Value.category]; done) | rfl
def Q2_3 (Z : State) (a1 : Addr) (k1 : ClassId) (x0 : Int32) (x1 : Int32) (x2 : Int32) (h0 : Heap) (n0 : Nat) (v : Option Value) (h : Heap) (L : List Loc) : Prop := ∃ r, v = some r ∧ Fr n0 L ∧ Keep h0 h [] ∧ ((¬ x2 = (-1 : Int32) ∧ ∃ b kb, r = .ref b ∧ Arv Z h b kb .byte (3 : Int32) [(.int x0), (.int x1), (.int ((x2 + (1 : Int32)).toInt8.toInt32))] (.int (0 : Int32))) ∨ (x2 = (-1 : Int32) ∧ ¬ x1 = (-1 : Int32) ∧ ∃ b kb, r = .ref b ∧ Arv Z h b kb .byte (2 : Int32) [(.int x0), (.int ((x1 + (1 : Int32)).toInt8.toInt32))] (.int (0 : Int32))) ∨ (x2 = (-1 : Int32) ∧ x1 = (-1 : Int32) ∧ ¬ x0 = (-1 : Int32) ∧ ∃ b kb, r = .ref b ∧ Arv Z h b kb .byte (1 : Int32) [(.int ((x0 + (1 : Int32)).toInt8.toInt32))] (.int (0 : Int32))) ∨ (x2 = (-1 : Int32) ∧ x1 = (-1 : Int32) ∧ x0 = (-1 : Int32) ∧ r = .null))
set_option maxRecDepth 65536 in
set_option maxHeartbeats 40000000 in
theorem rm2_3 (l : Launch) (Z : State) (a0 : Array Value) (hw : ∀ d ∈ tables_1, d.before a0 Z = true) (ws : List Jvm.Cond) (a1 : Addr) (k1 : ClassId) (x0 : Int32) (x1 : Int32) (x2 : Int32) (h0 : Heap) (n0 : Nat) (Z0 : n0 ≤ h0.size) (hV : Arv Z h0 a1 k1 .byte (3 : Int32) [(.int x0), (.int x1), (.int x2)] (.int (0 : Int32))) (hA : Exa Z h0 a1 "[B") :
    MetFree l (⟨"com/example/fach/fach/io/KeyBytes", "afterAllWith", "([B)[B"⟩ : MethodName) (head1 (Jvm.Cond.code (⟨"com/example/fach/fach/io/KeyBytes", "afterAllWith", "([B)[B"⟩ : MethodName) prog_1_method_3_code 3 (some (.array .byte)) :: ws) ({ frames := 2, cells := 1, slots := 4, locals := 60 } : Room)) (fun a U => a = #[(.ref a1)] ∧ Z.Warmed39 U.vm ∧ U.heap = h0) (fun _ _ _ _ _ => True) (fun _ U o U' => ∃ v L, o = .returned v ∧ Q2_3 Z a1 k1 x0 x1 x2 h0 n0 v U'.heap L ∧ FrameEnd U o U' L ({ frames := 2, cells := 1, slots := 4, locals := 60 } : Room).cells ({ frames := 2, cells := 1, slots := 4, locals := 60 } : Room).slots) := by
  refine MetFree.of_bodySF pn_2 hisR ?_
  intro p e s m args below meth c s₁ Bd hml0 hP hK
  obtain ⟨rfl, hZ, hh⟩ := hP
  have hx := Bd.exec
  have hby := Bd.bytes
  have hml : c.maxLocals = 3 := hml0
  have hown : s.vm.findClass "com/example/fach/fach/io/KeyBytes" = some m.cls := findClass_of_methodNamed Bd.named
  have hnm := (name_of_methodNamed Bd.named Bd.method).1
  have hlk := BodyLoose.notSynchronized Bd
  have X0 : Stand p l e ({ frames := 2, cells := 1, slots := 4, locals := 60 } : Room) s m #[(.ref a1)] below meth c s₁ [] 0 0 := Stand.of_body Bd
  have e0 : s₁.heap = h0 := by rw [← hh, Bd.state]; rfl
  have N0 := Fr.nil n0
  show own_R p e below s (Q2_3 Z a1 k1 x0 x1 x2 h0 n0) ({ frames := 2, cells := 1, slots := 4, locals := 60 } : Room).cells ({ frames := 2, cells := 1, slots := 4, locals := 60 } : Room).slots s₁ (entryFrame m #[(.ref a1)] 3)
  refine own_cast (ef_2_3 m a1) ?_
  show own_R p e below s _ _ _ s₁ (mkF m 0 #[.val (.ref a1), .unset, .unset] [])
  have K0 := Keep.refl h0 ([] : List Addr)
  refine own_aloadN X0 hx (hb hby d2_0) rfl rfl ?_
  refine own_len X0 hx hZ e0 hV (hb hby d2_1) ?_
  show own_R p e below s _ _ _ s₁ (mkF m 2 #[.val (.ref a1), .unset, .unset] [(.int (3 : Int32))])
  refine own_istoreN X0 hx (hb hby d2_2) (l' := #[.val (.ref a1), .val (.int (3 : Int32)), .unset]) rfl ?_
  refine own_iloadN X0 hx (hb hby d2_3) rfl ?_
  refine own_if X0 hx (hb hby d2_4) (pc' := 22) (by decide) (by decide) (fun hc => ?_) (fun hc => ?_)
  · have hc4 : ¬ (0 : Int32) < (3 : Int32) := own_le1 hc
    exact absurd (by decide) hc4
  · have hc4 : (0 : Int32) < (3 : Int32) := own_le0 hc
    clear hc
    show own_R p e below s _ _ _ s₁ (mkF m 7 #[.val (.ref a1), .val (.int (3 : Int32)), .unset] [])
    refine own_aloadN X0 hx (hb hby d2_7) rfl rfl ?_
    refine own_iloadN X0 hx (hb hby d2_8) rfl ?_
    refine own_iconst X0 hx (1 : Int32) (hb hby d2_9) rfl ?_
    refine own_isub X0 hx (hb hby d2_10) ?_
    refine own_baload X0 hx hZ e0 hV (v := .int x2) ⟨by decide, by decide⟩ rfl (hb hby d2_11) ?_
    show own_R p e below s _ _ _ s₁ (mkF m 12 #[.val (.ref a1), .val (.int (3 : Int32)), .unset] [(.int x2)])
    refine own_iconst X0 hx (-1 : Int32) (hb hby d2_12) rfl ?_
    refine own_icmp X0 hx (hb hby d2_13) (pc' := 22) (by decide) (by decide) (fun hc => ?_) (fun hc => ?_)
    · have hx2 : ¬ x2 = (-1 : Int32) := own_ne1 hc
      clear hc
      show own_R p e below s _ _ _ s₁ (mkF m 22 #[.val (.ref a1), .val (.int (3 : Int32)), .unset] [])
      refine own_iloadN X0 hx (hb hby d2_22) rfl ?_
      refine own_if X0 hx (hb hby d2_23) (pc' := 28) (by decide) (by decide) (fun hc => ?_) (fun hc => ?_)
      · have hc23 : ¬ (3 : Int32) = (0 : Int32) := own_ne1 hc
        clear hc
        show own_R p e below s _ _ _ s₁ (mkF m 28 #[.val (.ref a1), .val (.int (3 : Int32)), .unset] [])
        refine own_aloadN X0 hx (hb hby d2_28) rfl rfl ?_
        refine own_iloadN X0 hx (hb hby d2_29) rfl ?_
        refine own_callS X0 hx hZ (y := (⟨"java/util/Arrays", "copyOf", "([BI)[B"⟩ : MethodName)) hown (hw _ (List.mem_of_getElem? (i := 10) rfl)) (hw _ (List.mem_of_getElem? (i := 11) rfl)) (hw _ (List.mem_of_getElem? (i := 12) rfl)) (hw _ (List.mem_of_getElem? (i := 13) rfl)) (by decide) (rm3 l Z a0 hw [] a1 (3 : Int32) k1 (3 : Int32) [(.int x0), (.int x1), (.int x2)] [(.int x0), (.int x1), (.int x2)] h0 n0 (Nat.le_trans Z0 K0.1) hV hA (by decide) (by decide) (by decide) rfl (fun _ => rfl)) 0 (by decide) (by decide) e0 (by rw [hml]; rfl) [(.ref a1), (.int (3 : Int32))] [] rfl (lenOf pd_1 rfl) rfl (Nat.le_of_eq rfl) (hb hby d2_30) (by decide) (by decide) ?_
        rintro T13 _ L13 X13 ⟨c13, kc13, rfl, N13q, Kc13, nc13, Vc13⟩
        have N13 := Fr.app N0 N13q
        have K13 := K0.trans Kc13 all0
        show own_R p e below s _ _ _ T13 (mkF m 33 #[.val (.ref a1), .val (.int (3 : Int32)), .unset] [(.ref c13)])
        have sz_c13 : h0.size ≤ c13 := Nat.le_trans K0.1 nc13
        have n0_c13 : n0 ≤ c13 := Nat.le_trans Z0 sz_c13
        have ne_a1_c13 : a1 ≠ c13 := Nat.ne_of_lt (Nat.lt_of_lt_of_le hV.lt nc13)
        refine own_astoreN X13 hx (hb hby d2_33) rfl (l' := #[.val (.ref a1), .val (.int (3 : Int32)), .val (.ref c13)]) rfl ?_
        refine own_aloadN X13 hx (hb hby d2_34) rfl rfl ?_
        refine own_iloadN X13 hx (hb hby d2_35) rfl ?_
        refine own_iconst X13 hx (1 : Int32) (hb hby d2_36) rfl ?_
        refine own_isub X13 hx (hb hby d2_37) ?_
        refine own_dup2 X13 hx (hb hby d2_38) rfl rfl ?_
        refine own_baload X13 hx hZ rfl Vc13 (v := .int x2) ⟨by decide, by decide⟩ rfl (hb hby d2_39) ?_
        show own_R p e below s _ _ _ T13 (mkF m 40 #[.val (.ref a1), .val (.int (3 : Int32)), .val (.ref c13)] [(.int x2), (.int (2 : Int32)), (.ref c13)])
        refine own_iconst X13 hx (1 : Int32) (hb hby d2_40) rfl ?_
        refine own_iadd X13 hx (hb hby d2_41) ?_
        refine own_i2b X13 hx (hb hby d2_42) ?_
        refine own_bastore X13 hx hZ rfl Vc13 (x' := ((x2 + (1 : Int32)).toInt8.toInt32)) (pl_nb _) ⟨by decide, by decide⟩ 2 rfl (Nat.le_of_ble_eq_true rfl) (hb hby d2_43) ?_
        intro T14 h14 X14 e14 W14 V14
        have K14 := K13.wr W14 (Or.inr sz_c13)
        have N14 := Fr.snoc X14 N13 n0_c13
        have V_c13_14 : Arv Z h14 c13 kc13 .byte (3 : Int32) [(.int x0), (.int x1), (.int ((x2 + (1 : Int32)).toInt8.toInt32))] (.int (0 : Int32)) := V14
        show own_R p e below s _ _ _ T14 (mkF m 44 #[.val (.ref a1), .val (.int (3 : Int32)), .val (.ref c13)] [])
        refine own_aloadN X14 hx (hb hby d2_44) rfl rfl ?_
        refine own_retA X14 hx Bd.returns rfl rfl hlk (hb hby d2_45) ?_ (by decide) (by decide)
        rw [e14]
        exact ⟨_, rfl, N14, K14, (Or.inl ⟨hx2, _, _, rfl, V_c13_14⟩)⟩
      · have hc23 : (3 : Int32) = (0 : Int32) := own_ne0 hc
        exact absurd hc23 (by decide)
    · have hx2 : x2 = (-1 : Int32) := own_ne0 hc
      clear hc
      show own_R p e below s _ _ _ s₁ (mkF m 16 #[.val (.ref a1), .val (.int (3 : Int32)), .unset] [])
      refine own_iinc X0 hx (-1 : Int32) (hb hby d2_16) rfl rfl (l' := #[.val (.ref a1), .val (.int (2 : Int32)), .unset]) rfl ?_
      refine own_goto X0 hx (hb hby d2_19) (pc' := 3) (by decide) (by decide) ?_
      show own_R p e below s _ _ _ s₁ (mkF m 3 #[.val (.ref a1), .val (.int (2 : Int32)), .unset] [])
      refine own_iloadN X0 hx (hb hby d2_3) rfl ?_
      refine own_if X0 hx (hb hby d2_4) (pc' := 22) (by decide) (by decide) (fun hc => ?_) (fun hc => ?_)
      · have hc4 : ¬ (0 : Int32) < (2 : Int32) := own_le1 hc
        exact absurd (by decide) hc4
      · have hc4 : (0 : Int32) < (2 : Int32) := own_le0 hc
        clear hc
        show own_R p e below s _ _ _ s₁ (mkF m 7 #[.val (.ref a1), .val (.int (2 : Int32)), .unset] [])
        refine own_aloadN X0 hx (hb hby d2_7) rfl rfl ?_
        refine own_iloadN X0 hx (hb hby d2_8) rfl ?_
        refine own_iconst X0 hx (1 : Int32) (hb hby d2_9) rfl ?_
        refine own_isub X0 hx (hb hby d2_10) ?_
        refine own_baload X0 hx hZ e0 hV (v := .int x1) ⟨by decide, by decide⟩ rfl (hb hby d2_11) ?_
        show own_R p e below s _ _ _ s₁ (mkF m 12 #[.val (.ref a1), .val (.int (2 : Int32)), .unset] [(.int x1)])
        refine own_iconst X0 hx (-1 : Int32) (hb hby d2_12) rfl ?_
        refine own_icmp X0 hx (hb hby d2_13) (pc' := 22) (by decide) (by decide) (fun hc => ?_) (fun hc => ?_)
        · have hx1 : ¬ x1 = (-1 : Int32) := own_ne1 hc
          clear hc
          show own_R p e below s _ _ _ s₁ (mkF m 22 #[.val (.ref a1), .val (.int (2 : Int32)), .unset] [])
          refine own_iloadN X0 hx (hb hby d2_22) rfl ?_
          refine own_if X0 hx (hb hby d2_23) (pc' := 28) (by decide) (by decide) (fun hc => ?_) (fun hc => ?_)
          · have hc23 : ¬ (2 : Int32) = (0 : Int32) := own_ne1 hc
            clear hc
            show own_R p e below s _ _ _ s₁ (mkF m 28 #[.val (.ref a1), .val (.int (2 : Int32)), .unset] [])
            refine own_aloadN X0 hx (hb hby d2_28) rfl rfl ?_
            refine own_iloadN X0 hx (hb hby d2_29) rfl ?_
            refine own_callS X0 hx hZ (y := (⟨"java/util/Arrays", "copyOf", "([BI)[B"⟩ : MethodName)) hown (hw _ (List.mem_of_getElem? (i := 10) rfl)) (hw _ (List.mem_of_getElem? (i := 11) rfl)) (hw _ (List.mem_of_getElem? (i := 12) rfl)) (hw _ (List.mem_of_getElem? (i := 13) rfl)) (by decide) (rm3 l Z a0 hw [] a1 (2 : Int32) k1 (3 : Int32) [(.int x0), (.int x1), (.int x2)] [(.int x0), (.int x1)] h0 n0 (Nat.le_trans Z0 K0.1) hV hA (by decide) (by decide) (by decide) rfl (fun q => absurd q (by decide))) 0 (by decide) (by decide) e0 (by rw [hml]; rfl) [(.ref a1), (.int (2 : Int32))] [] rfl (lenOf pd_1 rfl) rfl (Nat.le_of_eq rfl) (hb hby d2_30) (by decide) (by decide) ?_
            rintro T15 _ L15 X15 ⟨c15, kc15, rfl, N15q, Kc15, nc15, Vc15⟩
            have N15 := Fr.app N0 N15q
            have K15 := K0.trans Kc15 all0
            show own_R p e below s _ _ _ T15 (mkF m 33 #[.val (.ref a1), .val (.int (2 : Int32)), .unset] [(.ref c15)])
            have sz_c15 : h0.size ≤ c15 := Nat.le_trans K0.1 nc15
            have n0_c15 : n0 ≤ c15 := Nat.le_trans Z0 sz_c15
            have ne_a1_c15 : a1 ≠ c15 := Nat.ne_of_lt (Nat.lt_of_lt_of_le hV.lt nc15)
            refine own_astoreN X15 hx (hb hby d2_33) rfl (l' := #[.val (.ref a1), .val (.int (2 : Int32)), .val (.ref c15)]) rfl ?_
            refine own_aloadN X15 hx (hb hby d2_34) rfl rfl ?_
            refine own_iloadN X15 hx (hb hby d2_35) rfl ?_
            refine own_iconst X15 hx (1 : Int32) (hb hby d2_36) rfl ?_
            refine own_isub X15 hx (hb hby d2_37) ?_
            refine own_dup2 X15 hx (hb hby d2_38) rfl rfl ?_
            refine own_baload X15 hx hZ rfl Vc15 (v := .int x1) ⟨by decide, by decide⟩ rfl (hb hby d2_39) ?_
            show own_R p e below s _ _ _ T15 (mkF m 40 #[.val (.ref a1), .val (.int (2 : Int32)), .val (.ref c15)] [(.int x1), (.int (1 : Int32)), (.ref c15)])
            refine own_iconst X15 hx (1 : Int32) (hb hby d2_40) rfl ?_
            refine own_iadd X15 hx (hb hby d2_41) ?_
            refine own_i2b X15 hx (hb hby d2_42) ?_
            refine own_bastore X15 hx hZ rfl Vc15 (x' := ((x1 + (1 : Int32)).toInt8.toInt32)) (pl_nb _) ⟨by decide, by decide⟩ 1 rfl (Nat.le_of_ble_eq_true rfl) (hb hby d2_43) ?_
            intro T16 h16 X16 e16 W16 V16
            have K16 := K15.wr W16 (Or.inr sz_c15)
            have N16 := Fr.snoc X16 N15 n0_c15
            have V_c15_16 : Arv Z h16 c15 kc15 .byte (2 : Int32) [(.int x0), (.int ((x1 + (1 : Int32)).toInt8.toInt32))] (.int (0 : Int32)) := V16
            show own_R p e below s _ _ _ T16 (mkF m 44 #[.val (.ref a1), .val (.int (2 : Int32)), .val (.ref c15)] [])
            refine own_aloadN X16 hx (hb hby d2_44) rfl rfl ?_
            refine own_retA X16 hx Bd.returns rfl rfl hlk (hb hby d2_45) ?_ (by decide) (by decide)
            rw [e16]
            exact ⟨_, rfl, N16, K16, (Or.inr (Or.inl ⟨hx2, hx1, _, _, rfl, V_c15_16⟩))⟩
          · have hc23 : (2 : Int32) = (0 : Int32) := own_ne0 hc
            exact absurd hc23 (by decide)
        · have hx1 : x1 = (-1 : Int32) := own_ne0 hc
          clear hc
          show own_R p e below s _ _ _ s₁ (mkF m 16 #[.val (.ref a1), .val (.int (2 : Int32)), .unset] [])
          refine own_iinc X0 hx (-1 : Int32) (hb hby d2_16) rfl rfl (l' := #[.val (.ref a1), .val (.int (1 : Int32)), .unset]) rfl ?_
          refine own_goto X0 hx (hb hby d2_19) (pc' := 3) (by decide) (by decide) ?_
          show own_R p e below s _ _ _ s₁ (mkF m 3 #[.val (.ref a1), .val (.int (1 : Int32)), .unset] [])
          refine own_iloadN X0 hx (hb hby d2_3) rfl ?_
          refine own_if X0 hx (hb hby d2_4) (pc' := 22) (by decide) (by decide) (fun hc => ?_) (fun hc => ?_)
          · have hc4 : ¬ (0 : Int32) < (1 : Int32) := own_le1 hc
            exact absurd (by decide) hc4
          · have hc4 : (0 : Int32) < (1 : Int32) := own_le0 hc
            clear hc
            show own_R p e below s _ _ _ s₁ (mkF m 7 #[.val (.ref a1), .val (.int (1 : Int32)), .unset] [])
            refine own_aloadN X0 hx (hb hby d2_7) rfl rfl ?_
            refine own_iloadN X0 hx (hb hby d2_8) rfl ?_
            refine own_iconst X0 hx (1 : Int32) (hb hby d2_9) rfl ?_
            refine own_isub X0 hx (hb hby d2_10) ?_
            refine own_baload X0 hx hZ e0 hV (v := .int x0) ⟨by decide, by decide⟩ rfl (hb hby d2_11) ?_
            show own_R p e below s _ _ _ s₁ (mkF m 12 #[.val (.ref a1), .val (.int (1 : Int32)), .unset] [(.int x0)])
            refine own_iconst X0 hx (-1 : Int32) (hb hby d2_12) rfl ?_
            refine own_icmp X0 hx (hb hby d2_13) (pc' := 22) (by decide) (by decide) (fun hc => ?_) (fun hc => ?_)
            · have hx0 : ¬ x0 = (-1 : Int32) := own_ne1 hc
              clear hc
              show own_R p e below s _ _ _ s₁ (mkF m 22 #[.val (.ref a1), .val (.int (1 : Int32)), .unset] [])
              refine own_iloadN X0 hx (hb hby d2_22) rfl ?_
              refine own_if X0 hx (hb hby d2_23) (pc' := 28) (by decide) (by decide) (fun hc => ?_) (fun hc => ?_)
              · have hc23 : ¬ (1 : Int32) = (0 : Int32) := own_ne1 hc
                clear hc
                show own_R p e below s _ _ _ s₁ (mkF m 28 #[.val (.ref a1), .val (.int (1 : Int32)), .unset] [])
                refine own_aloadN X0 hx (hb hby d2_28) rfl rfl ?_
                refine own_iloadN X0 hx (hb hby d2_29) rfl ?_
                refine own_callS X0 hx hZ (y := (⟨"java/util/Arrays", "copyOf", "([BI)[B"⟩ : MethodName)) hown (hw _ (List.mem_of_getElem? (i := 10) rfl)) (hw _ (List.mem_of_getElem? (i := 11) rfl)) (hw _ (List.mem_of_getElem? (i := 12) rfl)) (hw _ (List.mem_of_getElem? (i := 13) rfl)) (by decide) (rm3 l Z a0 hw [] a1 (1 : Int32) k1 (3 : Int32) [(.int x0), (.int x1), (.int x2)] [(.int x0)] h0 n0 (Nat.le_trans Z0 K0.1) hV hA (by decide) (by decide) (by decide) rfl (fun q => absurd q (by decide))) 0 (by decide) (by decide) e0 (by rw [hml]; rfl) [(.ref a1), (.int (1 : Int32))] [] rfl (lenOf pd_1 rfl) rfl (Nat.le_of_eq rfl) (hb hby d2_30) (by decide) (by decide) ?_
                rintro T17 _ L17 X17 ⟨c17, kc17, rfl, N17q, Kc17, nc17, Vc17⟩
                have N17 := Fr.app N0 N17q
                have K17 := K0.trans Kc17 all0
                show own_R p e below s _ _ _ T17 (mkF m 33 #[.val (.ref a1), .val (.int (1 : Int32)), .unset] [(.ref c17)])
                have sz_c17 : h0.size ≤ c17 := Nat.le_trans K0.1 nc17
                have n0_c17 : n0 ≤ c17 := Nat.le_trans Z0 sz_c17
                have ne_a1_c17 : a1 ≠ c17 := Nat.ne_of_lt (Nat.lt_of_lt_of_le hV.lt nc17)
                refine own_astoreN X17 hx (hb hby d2_33) rfl (l' := #[.val (.ref a1), .val (.int (1 : Int32)), .val (.ref c17)]) rfl ?_
                refine own_aloadN X17 hx (hb hby d2_34) rfl rfl ?_
                refine own_iloadN X17 hx (hb hby d2_35) rfl ?_
                refine own_iconst X17 hx (1 : Int32) (hb hby d2_36) rfl ?_
                refine own_isub X17 hx (hb hby d2_37) ?_
                refine own_dup2 X17 hx (hb hby d2_38) rfl rfl ?_
                refine own_baload X17 hx hZ rfl Vc17 (v := .int x0) ⟨by decide, by decide⟩ rfl (hb hby d2_39) ?_
                show own_R p e below s _ _ _ T17 (mkF m 40 #[.val (.ref a1), .val (.int (1 : Int32)), .val (.ref c17)] [(.int x0), (.int (0 : Int32)), (.ref c17)])
                refine own_iconst X17 hx (1 : Int32) (hb hby d2_40) rfl ?_
                refine own_iadd X17 hx (hb hby d2_41) ?_
                refine own_i2b X17 hx (hb hby d2_42) ?_
                refine own_bastore X17 hx hZ rfl Vc17 (x' := ((x0 + (1 : Int32)).toInt8.toInt32)) (pl_nb _) ⟨by decide, by decide⟩ 0 rfl (Nat.le_of_ble_eq_true rfl) (hb hby d2_43) ?_
                intro T18 h18 X18 e18 W18 V18
                have K18 := K17.wr W18 (Or.inr sz_c17)
                have N18 := Fr.snoc X18 N17 n0_c17
                have V_c17_18 : Arv Z h18 c17 kc17 .byte (1 : Int32) [(.int ((x0 + (1 : Int32)).toInt8.toInt32))] (.int (0 : Int32)) := V18
                show own_R p e below s _ _ _ T18 (mkF m 44 #[.val (.ref a1), .val (.int (1 : Int32)), .val (.ref c17)] [])
                refine own_aloadN X18 hx (hb hby d2_44) rfl rfl ?_
                refine own_retA X18 hx Bd.returns rfl rfl hlk (hb hby d2_45) ?_ (by decide) (by decide)
                rw [e18]
                exact ⟨_, rfl, N18, K18, (Or.inr (Or.inr (Or.inl ⟨hx2, hx1, hx0, _, _, rfl, V_c17_18⟩)))⟩
              · have hc23 : (1 : Int32) = (0 : Int32) := own_ne0 hc
                exact absurd hc23 (by decide)
            · have hx0 : x0 = (-1 : Int32) := own_ne0 hc
              clear hc
              show own_R p e below s _ _ _ s₁ (mkF m 16 #[.val (.ref a1), .val (.int (1 : Int32)), .unset] [])
              refine own_iinc X0 hx (-1 : Int32) (hb hby d2_16) rfl rfl (l' := #[.val (.ref a1), .val (.int (0 : Int32)), .unset]) rfl ?_
              refine own_goto X0 hx (hb hby d2_19) (pc' := 3) (by decide) (by decide) ?_
              show own_R p e below s _ _ _ s₁ (mkF m 3 #[.val (.ref a1), .val (.int (0 : Int32)), .unset] [])
              refine own_iloadN X0 hx (hb hby d2_3) rfl ?_
              refine own_if X0 hx (hb hby d2_4) (pc' := 22) (by decide) (by decide) (fun hc => ?_) (fun hc => ?_)
              · have hc4 : ¬ (0 : Int32) < (0 : Int32) := own_le1 hc
                clear hc
                show own_R p e below s _ _ _ s₁ (mkF m 22 #[.val (.ref a1), .val (.int (0 : Int32)), .unset] [])
                refine own_iloadN X0 hx (hb hby d2_22) rfl ?_
                refine own_if X0 hx (hb hby d2_23) (pc' := 28) (by decide) (by decide) (fun hc => ?_) (fun hc => ?_)
                · have hc23 : ¬ (0 : Int32) = (0 : Int32) := own_ne1 hc
                  exact absurd (by decide) hc23
                · have hc23 : (0 : Int32) = (0 : Int32) := own_ne0 hc
                  clear hc
                  show own_R p e below s _ _ _ s₁ (mkF m 26 #[.val (.ref a1), .val (.int (0 : Int32)), .unset] [])
                  refine own_aconst_null X0 hx (hb hby d2_26) ?_
                  refine own_retA X0 hx Bd.returns rfl rfl hlk (hb hby d2_27) ?_ (by decide) (by decide)
                  rw [e0]
                  exact ⟨_, rfl, N0, K0, (Or.inr (Or.inr (Or.inr ⟨hx2, hx1, hx0, rfl⟩)))⟩
              · have hc4 : (0 : Int32) < (0 : Int32) := own_le0 hc
                exact absurd hc4 (by decide)
theorem ef_2_4 (m : MethodId) (a1 : Addr) : entryFrame m #[(.ref a1)] 3 = mkF m 0 #[.val (.ref a1), .unset, .unset] [] := by first | (simp [entryFrame, mkF, argsToLocals, Value.category]; done) | rfl
def Q2_4 (Z : State) (a1 : Addr) (k1 : ClassId) (x0 : Int32) (x1 : Int32) (x2 : Int32) (x3 : Int32) (h0 : Heap) (n0 : Nat) (v : Option Value) (h : Heap) (L : List Loc) : Prop := ∃ r, v = some r ∧ Fr n0 L ∧ Keep h0 h [] ∧ ((¬ x3 = (-1 : Int32) ∧ ∃ b kb, r = .ref b ∧ Arv Z h b kb .byte (4 : Int32) [(.int x0), (.int x1), (.int x2), (.int ((x3 + (1 : Int32)).toInt8.toInt32))] (.int (0 : Int32))) ∨ (x3 = (-1 : Int32) ∧ ¬ x2 = (-1 : Int32) ∧ ∃ b kb, r = .ref b ∧ Arv Z h b kb .byte (3 : Int32) [(.int x0), (.int x1), (.int ((x2 + (1 : Int32)).toInt8.toInt32))] (.int (0 : Int32))) ∨ (x3 = (-1 : Int32) ∧ x2 = (-1 : Int32) ∧ ¬ x1 = (-1 : Int32) ∧ ∃ b kb, r = .ref b ∧ Arv Z h b kb .byte (2 : Int32) [(.int x0), (.int ((x1 + (1 : Int32)).toInt8.toInt32))] (.int (0 : Int32))) ∨ (x3 = (-1 : Int32) ∧ x2 = (-1 : Int32) ∧ x1 = (-1 : Int32) ∧ ¬ x0 = (-1 : Int32) ∧ ∃ b kb, r = .ref b ∧ Arv Z h b kb .byte (1 : Int32) [(.int ((x0 + (1 : Int32)).toInt8.toInt32))] (.int (0 : Int32))) ∨ (x3 = (-1 : Int32) ∧ x2 = (-1 : Int32) ∧ x1 = (-1 : Int32) ∧ x0 = (-1 : Int32) ∧ r = .null))
set_option maxRecDepth 65536 in
set_option maxHeartbeats 40000000 in
theorem rm2_4 (l : Launch) (Z : State) (a0 : Array Value) (hw : ∀ d ∈ tables_1, d.before a0 Z = true) (ws : List Jvm.Cond) (a1 : Addr) (k1 : ClassId) (x0 : Int32) (x1 : Int32) (x2 : Int32) (x3 : Int32) (h0 : Heap) (n0 : Nat) (Z0 : n0 ≤ h0.size) (hV : Arv Z h0 a1 k1 .byte (4 : Int32) [(.int x0), (.int x1), (.int x2), (.int x3)] (.int (0 : Int32))) (hA : Exa Z h0 a1 "[B") :
    MetFree l (⟨"com/example/fach/fach/io/KeyBytes", "afterAllWith", "([B)[B"⟩ : MethodName) (head1 (Jvm.Cond.code (⟨"com/example/fach/fach/io/KeyBytes", "afterAllWith", "([B)[B"⟩ : MethodName) prog_1_method_3_code 3 (some (.array .byte)) :: ws) ({ frames := 2, cells := 1, slots := 4, locals := 60 } : Room)) (fun a U => a = #[(.ref a1)] ∧ Z.Warmed39 U.vm ∧ U.heap = h0) (fun _ _ _ _ _ => True) (fun _ U o U' => ∃ v L, o = .returned v ∧ Q2_4 Z a1 k1 x0 x1 x2 x3 h0 n0 v U'.heap L ∧ FrameEnd U o U' L ({ frames := 2, cells := 1, slots := 4, locals := 60 } : Room).cells ({ frames := 2, cells := 1, slots := 4, locals := 60 } : Room).slots) := by
  refine MetFree.of_bodySF pn_2 hisR ?_
  intro p e s m args below meth c s₁ Bd hml0 hP hK
  obtain ⟨rfl, hZ, hh⟩ := hP
  have hx := Bd.exec
  have hby := Bd.bytes
  have hml : c.maxLocals = 3 := hml0
  have hown : s.vm.findClass "com/example/fach/fach/io/KeyBytes" = some m.cls := findClass_of_methodNamed Bd.named
  have hnm := (name_of_methodNamed Bd.named Bd.method).1
  have hlk := BodyLoose.notSynchronized Bd
  have X0 : Stand p l e ({ frames := 2, cells := 1, slots := 4, locals := 60 } : Room) s m #[(.ref a1)] below meth c s₁ [] 0 0 := Stand.of_body Bd
  have e0 : s₁.heap = h0 := by rw [← hh, Bd.state]; rfl
  have N0 := Fr.nil n0
  show own_R p e below s (Q2_4 Z a1 k1 x0 x1 x2 x3 h0 n0) ({ frames := 2, cells := 1, slots := 4, locals := 60 } : Room).cells ({ frames := 2, cells := 1, slots := 4, locals := 60 } : Room).slots s₁ (entryFrame m #[(.ref a1)] 3)
  refine own_cast (ef_2_4 m a1) ?_
  show own_R p e below s _ _ _ s₁ (mkF m 0 #[.val (.ref a1), .unset, .unset] [])
  have K0 := Keep.refl h0 ([] : List Addr)
  refine own_aloadN X0 hx (hb hby d2_0) rfl rfl ?_
  refine own_len X0 hx hZ e0 hV (hb hby d2_1) ?_
  show own_R p e below s _ _ _ s₁ (mkF m 2 #[.val (.ref a1), .unset, .unset] [(.int (4 : Int32))])
  refine own_istoreN X0 hx (hb hby d2_2) (l' := #[.val (.ref a1), .val (.int (4 : Int32)), .unset]) rfl ?_
  refine own_iloadN X0 hx (hb hby d2_3) rfl ?_
  refine own_if X0 hx (hb hby d2_4) (pc' := 22) (by decide) (by decide) (fun hc => ?_) (fun hc => ?_)
  · have hc4 : ¬ (0 : Int32) < (4 : Int32) := own_le1 hc
    exact absurd (by decide) hc4
  · have hc4 : (0 : Int32) < (4 : Int32) := own_le0 hc
    clear hc
    show own_R p e below s _ _ _ s₁ (mkF m 7 #[.val (.ref a1), .val (.int (4 : Int32)), .unset] [])
    refine own_aloadN X0 hx (hb hby d2_7) rfl rfl ?_
    refine own_iloadN X0 hx (hb hby d2_8) rfl ?_
    refine own_iconst X0 hx (1 : Int32) (hb hby d2_9) rfl ?_
    refine own_isub X0 hx (hb hby d2_10) ?_
    refine own_baload X0 hx hZ e0 hV (v := .int x3) ⟨by decide, by decide⟩ rfl (hb hby d2_11) ?_
    show own_R p e below s _ _ _ s₁ (mkF m 12 #[.val (.ref a1), .val (.int (4 : Int32)), .unset] [(.int x3)])
    refine own_iconst X0 hx (-1 : Int32) (hb hby d2_12) rfl ?_
    refine own_icmp X0 hx (hb hby d2_13) (pc' := 22) (by decide) (by decide) (fun hc => ?_) (fun hc => ?_)
    · have hx3 : ¬ x3 = (-1 : Int32) := own_ne1 hc
      clear hc
      show own_R p e below s _ _ _ s₁ (mkF m 22 #[.val (.ref a1), .val (.int (4 : Int32)), .unset] [])
      refine own_iloadN X0 hx (hb hby d2_22) rfl ?_
      refine own_if X0 hx (hb hby d2_23) (pc' := 28) (by decide) (by decide) (fun hc => ?_) (fun hc => ?_)
      · have hc23 : ¬ (4 : Int32) = (0 : Int32) := own_ne1 hc
        clear hc
        show own_R p e below s _ _ _ s₁ (mkF m 28 #[.val (.ref a1), .val (.int (4 : Int32)), .unset] [])
        refine own_aloadN X0 hx (hb hby d2_28) rfl rfl ?_
        refine own_iloadN X0 hx (hb hby d2_29) rfl ?_
        refine own_callS X0 hx hZ (y := (⟨"java/util/Arrays", "copyOf", "([BI)[B"⟩ : MethodName)) hown (hw _ (List.mem_of_getElem? (i := 10) rfl)) (hw _ (List.mem_of_getElem? (i := 11) rfl)) (hw _ (List.mem_of_getElem? (i := 12) rfl)) (hw _ (List.mem_of_getElem? (i := 13) rfl)) (by decide) (rm3 l Z a0 hw [] a1 (4 : Int32) k1 (4 : Int32) [(.int x0), (.int x1), (.int x2), (.int x3)] [(.int x0), (.int x1), (.int x2), (.int x3)] h0 n0 (Nat.le_trans Z0 K0.1) hV hA (by decide) (by decide) (by decide) rfl (fun _ => rfl)) 0 (by decide) (by decide) e0 (by rw [hml]; rfl) [(.ref a1), (.int (4 : Int32))] [] rfl (lenOf pd_1 rfl) rfl (Nat.le_of_eq rfl) (hb hby d2_30) (by decide) (by decide) ?_
        rintro T19 _ L19 X19 ⟨c19, kc19, rfl, N19q, Kc19, nc19, Vc19⟩
        have N19 := Fr.app N0 N19q
        have K19 := K0.trans Kc19 all0
        show own_R p e below s _ _ _ T19 (mkF m 33 #[.val (.ref a1), .val (.int (4 : Int32)), .unset] [(.ref c19)])
        have sz_c19 : h0.size ≤ c19 := Nat.le_trans K0.1 nc19
        have n0_c19 : n0 ≤ c19 := Nat.le_trans Z0 sz_c19
        have ne_a1_c19 : a1 ≠ c19 := Nat.ne_of_lt (Nat.lt_of_lt_of_le hV.lt nc19)
        refine own_astoreN X19 hx (hb hby d2_33) rfl (l' := #[.val (.ref a1), .val (.int (4 : Int32)), .val (.ref c19)]) rfl ?_
        refine own_aloadN X19 hx (hb hby d2_34) rfl rfl ?_
        refine own_iloadN X19 hx (hb hby d2_35) rfl ?_
        refine own_iconst X19 hx (1 : Int32) (hb hby d2_36) rfl ?_
        refine own_isub X19 hx (hb hby d2_37) ?_
        refine own_dup2 X19 hx (hb hby d2_38) rfl rfl ?_
        refine own_baload X19 hx hZ rfl Vc19 (v := .int x3) ⟨by decide, by decide⟩ rfl (hb hby d2_39) ?_
        show own_R p e below s _ _ _ T19 (mkF m 40 #[.val (.ref a1), .val (.int (4 : Int32)), .val (.ref c19)] [(.int x3), (.int (3 : Int32)), (.ref c19)])
        refine own_iconst X19 hx (1 : Int32) (hb hby d2_40) rfl ?_
        refine own_iadd X19 hx (hb hby d2_41) ?_
        refine own_i2b X19 hx (hb hby d2_42) ?_
        refine own_bastore X19 hx hZ rfl Vc19 (x' := ((x3 + (1 : Int32)).toInt8.toInt32)) (pl_nb _) ⟨by decide, by decide⟩ 3 rfl (Nat.le_of_ble_eq_true rfl) (hb hby d2_43) ?_
        intro T20 h20 X20 e20 W20 V20
        have K20 := K19.wr W20 (Or.inr sz_c19)
        have N20 := Fr.snoc X20 N19 n0_c19
        have V_c19_20 : Arv Z h20 c19 kc19 .byte (4 : Int32) [(.int x0), (.int x1), (.int x2), (.int ((x3 + (1 : Int32)).toInt8.toInt32))] (.int (0 : Int32)) := V20
        show own_R p e below s _ _ _ T20 (mkF m 44 #[.val (.ref a1), .val (.int (4 : Int32)), .val (.ref c19)] [])
        refine own_aloadN X20 hx (hb hby d2_44) rfl rfl ?_
        refine own_retA X20 hx Bd.returns rfl rfl hlk (hb hby d2_45) ?_ (by decide) (by decide)
        rw [e20]
        exact ⟨_, rfl, N20, K20, (Or.inl ⟨hx3, _, _, rfl, V_c19_20⟩)⟩
      · have hc23 : (4 : Int32) = (0 : Int32) := own_ne0 hc
        exact absurd hc23 (by decide)
    · have hx3 : x3 = (-1 : Int32) := own_ne0 hc
      clear hc
      show own_R p e below s _ _ _ s₁ (mkF m 16 #[.val (.ref a1), .val (.int (4 : Int32)), .unset] [])
      refine own_iinc X0 hx (-1 : Int32) (hb hby d2_16) rfl rfl (l' := #[.val (.ref a1), .val (.int (3 : Int32)), .unset]) rfl ?_
      refine own_goto X0 hx (hb hby d2_19) (pc' := 3) (by decide) (by decide) ?_
      show own_R p e below s _ _ _ s₁ (mkF m 3 #[.val (.ref a1), .val (.int (3 : Int32)), .unset] [])
      refine own_iloadN X0 hx (hb hby d2_3) rfl ?_
      refine own_if X0 hx (hb hby d2_4) (pc' := 22) (by decide) (by decide) (fun hc => ?_) (fun hc => ?_)
      · have hc4 : ¬ (0 : Int32) < (3 : Int32) := own_le1 hc
        exact absurd (by decide) hc4
      · have hc4 : (0 : Int32) < (3 : Int32) := own_le0 hc
        clear hc
        show own_R p e below s _ _ _ s₁ (mkF m 7 #[.val (.ref a1), .val (.int (3 : Int32)), .unset] [])
        refine own_aloadN X0 hx (hb hby d2_7) rfl rfl ?_
        refine own_iloadN X0 hx (hb hby d2_8) rfl ?_
        refine own_iconst X0 hx (1 : Int32) (hb hby d2_9) rfl ?_
        refine own_isub X0 hx (hb hby d2_10) ?_
        refine own_baload X0 hx hZ e0 hV (v := .int x2) ⟨by decide, by decide⟩ rfl (hb hby d2_11) ?_
        show own_R p e below s _ _ _ s₁ (mkF m 12 #[.val (.ref a1), .val (.int (3 : Int32)), .unset] [(.int x2)])
        refine own_iconst X0 hx (-1 : Int32) (hb hby d2_12) rfl ?_
        refine own_icmp X0 hx (hb hby d2_13) (pc' := 22) (by decide) (by decide) (fun hc => ?_) (fun hc => ?_)
        · have hx2 : ¬ x2 = (-1 : Int32) := own_ne1 hc
          clear hc
          show own_R p e below s _ _ _ s₁ (mkF m 22 #[.val (.ref a1), .val (.int (3 : Int32)), .unset] [])
          refine own_iloadN X0 hx (hb hby d2_22) rfl ?_
          refine own_if X0 hx (hb hby d2_23) (pc' := 28) (by decide) (by decide) (fun hc => ?_) (fun hc => ?_)
          · have hc23 : ¬ (3 : Int32) = (0 : Int32) := own_ne1 hc
            clear hc
            show own_R p e below s _ _ _ s₁ (mkF m 28 #[.val (.ref a1), .val (.int (3 : Int32)), .unset] [])
            refine own_aloadN X0 hx (hb hby d2_28) rfl rfl ?_
            refine own_iloadN X0 hx (hb hby d2_29) rfl ?_
            refine own_callS X0 hx hZ (y := (⟨"java/util/Arrays", "copyOf", "([BI)[B"⟩ : MethodName)) hown (hw _ (List.mem_of_getElem? (i := 10) rfl)) (hw _ (List.mem_of_getElem? (i := 11) rfl)) (hw _ (List.mem_of_getElem? (i := 12) rfl)) (hw _ (List.mem_of_getElem? (i := 13) rfl)) (by decide) (rm3 l Z a0 hw [] a1 (3 : Int32) k1 (4 : Int32) [(.int x0), (.int x1), (.int x2), (.int x3)] [(.int x0), (.int x1), (.int x2)] h0 n0 (Nat.le_trans Z0 K0.1) hV hA (by decide) (by decide) (by decide) rfl (fun q => absurd q (by decide))) 0 (by decide) (by decide) e0 (by rw [hml]; rfl) [(.ref a1), (.int (3 : Int32))] [] rfl (lenOf pd_1 rfl) rfl (Nat.le_of_eq rfl) (hb hby d2_30) (by decide) (by decide) ?_
            rintro T21 _ L21 X21 ⟨c21, kc21, rfl, N21q, Kc21, nc21, Vc21⟩
            have N21 := Fr.app N0 N21q
            have K21 := K0.trans Kc21 all0
            show own_R p e below s _ _ _ T21 (mkF m 33 #[.val (.ref a1), .val (.int (3 : Int32)), .unset] [(.ref c21)])
            have sz_c21 : h0.size ≤ c21 := Nat.le_trans K0.1 nc21
            have n0_c21 : n0 ≤ c21 := Nat.le_trans Z0 sz_c21
            have ne_a1_c21 : a1 ≠ c21 := Nat.ne_of_lt (Nat.lt_of_lt_of_le hV.lt nc21)
            refine own_astoreN X21 hx (hb hby d2_33) rfl (l' := #[.val (.ref a1), .val (.int (3 : Int32)), .val (.ref c21)]) rfl ?_
            refine own_aloadN X21 hx (hb hby d2_34) rfl rfl ?_
            refine own_iloadN X21 hx (hb hby d2_35) rfl ?_
            refine own_iconst X21 hx (1 : Int32) (hb hby d2_36) rfl ?_
            refine own_isub X21 hx (hb hby d2_37) ?_
            refine own_dup2 X21 hx (hb hby d2_38) rfl rfl ?_
            refine own_baload X21 hx hZ rfl Vc21 (v := .int x2) ⟨by decide, by decide⟩ rfl (hb hby d2_39) ?_
            show own_R p e below s _ _ _ T21 (mkF m 40 #[.val (.ref a1), .val (.int (3 : Int32)), .val (.ref c21)] [(.int x2), (.int (2 : Int32)), (.ref c21)])
            refine own_iconst X21 hx (1 : Int32) (hb hby d2_40) rfl ?_
            refine own_iadd X21 hx (hb hby d2_41) ?_
            refine own_i2b X21 hx (hb hby d2_42) ?_
            refine own_bastore X21 hx hZ rfl Vc21 (x' := ((x2 + (1 : Int32)).toInt8.toInt32)) (pl_nb _) ⟨by decide, by decide⟩ 2 rfl (Nat.le_of_ble_eq_true rfl) (hb hby d2_43) ?_
            intro T22 h22 X22 e22 W22 V22
            have K22 := K21.wr W22 (Or.inr sz_c21)
            have N22 := Fr.snoc X22 N21 n0_c21
            have V_c21_22 : Arv Z h22 c21 kc21 .byte (3 : Int32) [(.int x0), (.int x1), (.int ((x2 + (1 : Int32)).toInt8.toInt32))] (.int (0 : Int32)) := V22
            show own_R p e below s _ _ _ T22 (mkF m 44 #[.val (.ref a1), .val (.int (3 : Int32)), .val (.ref c21)] [])
            refine own_aloadN X22 hx (hb hby d2_44) rfl rfl ?_
            refine own_retA X22 hx Bd.returns rfl rfl hlk (hb hby d2_45) ?_ (by decide) (by decide)
            rw [e22]
            exact ⟨_, rfl, N22, K22, (Or.inr (Or.inl ⟨hx3, hx2, _, _, rfl, V_c21_22⟩))⟩
          · have hc23 : (3 : Int32) = (0 : Int32) := own_ne0 hc
            exact absurd hc23 (by decide)
        · have hx2 : x2 = (-1 : Int32) := own_ne0 hc
          clear hc
          show own_R p e below s _ _ _ s₁ (mkF m 16 #[.val (.ref a1), .val (.int (3 : Int32)), .unset] [])
          refine own_iinc X0 hx (-1 : Int32) (hb hby d2_16) rfl rfl (l' := #[.val (.ref a1), .val (.int (2 : Int32)), .unset]) rfl ?_
          refine own_goto X0 hx (hb hby d2_19) (pc' := 3) (by decide) (by decide) ?_
          show own_R p e below s _ _ _ s₁ (mkF m 3 #[.val (.ref a1), .val (.int (2 : Int32)), .unset] [])
          refine own_iloadN X0 hx (hb hby d2_3) rfl ?_
          refine own_if X0 hx (hb hby d2_4) (pc' := 22) (by decide) (by decide) (fun hc => ?_) (fun hc => ?_)
          · have hc4 : ¬ (0 : Int32) < (2 : Int32) := own_le1 hc
            exact absurd (by decide) hc4
          · have hc4 : (0 : Int32) < (2 : Int32) := own_le0 hc
            clear hc
            show own_R p e below s _ _ _ s₁ (mkF m 7 #[.val (.ref a1), .val (.int (2 : Int32)), .unset] [])
            refine own_aloadN X0 hx (hb hby d2_7) rfl rfl ?_
            refine own_iloadN X0 hx (hb hby d2_8) rfl ?_
            refine own_iconst X0 hx (1 : Int32) (hb hby d2_9) rfl ?_
            refine own_isub X0 hx (hb hby d2_10) ?_
            refine own_baload X0 hx hZ e0 hV (v := .int x1) ⟨by decide, by decide⟩ rfl (hb hby d2_11) ?_
            show own_R p e below s _ _ _ s₁ (mkF m 12 #[.val (.ref a1), .val (.int (2 : Int32)), .unset] [(.int x1)])
            refine own_iconst X0 hx (-1 : Int32) (hb hby d2_12) rfl ?_
            refine own_icmp X0 hx (hb hby d2_13) (pc' := 22) (by decide) (by decide) (fun hc => ?_) (fun hc => ?_)
            · have hx1 : ¬ x1 = (-1 : Int32) := own_ne1 hc
              clear hc
              show own_R p e below s _ _ _ s₁ (mkF m 22 #[.val (.ref a1), .val (.int (2 : Int32)), .unset] [])
              refine own_iloadN X0 hx (hb hby d2_22) rfl ?_
              refine own_if X0 hx (hb hby d2_23) (pc' := 28) (by decide) (by decide) (fun hc => ?_) (fun hc => ?_)
              · have hc23 : ¬ (2 : Int32) = (0 : Int32) := own_ne1 hc
                clear hc
                show own_R p e below s _ _ _ s₁ (mkF m 28 #[.val (.ref a1), .val (.int (2 : Int32)), .unset] [])
                refine own_aloadN X0 hx (hb hby d2_28) rfl rfl ?_
                refine own_iloadN X0 hx (hb hby d2_29) rfl ?_
                refine own_callS X0 hx hZ (y := (⟨"java/util/Arrays", "copyOf", "([BI)[B"⟩ : MethodName)) hown (hw _ (List.mem_of_getElem? (i := 10) rfl)) (hw _ (List.mem_of_getElem? (i := 11) rfl)) (hw _ (List.mem_of_getElem? (i := 12) rfl)) (hw _ (List.mem_of_getElem? (i := 13) rfl)) (by decide) (rm3 l Z a0 hw [] a1 (2 : Int32) k1 (4 : Int32) [(.int x0), (.int x1), (.int x2), (.int x3)] [(.int x0), (.int x1)] h0 n0 (Nat.le_trans Z0 K0.1) hV hA (by decide) (by decide) (by decide) rfl (fun q => absurd q (by decide))) 0 (by decide) (by decide) e0 (by rw [hml]; rfl) [(.ref a1), (.int (2 : Int32))] [] rfl (lenOf pd_1 rfl) rfl (Nat.le_of_eq rfl) (hb hby d2_30) (by decide) (by decide) ?_
                rintro T23 _ L23 X23 ⟨c23, kc23, rfl, N23q, Kc23, nc23, Vc23⟩
                have N23 := Fr.app N0 N23q
                have K23 := K0.trans Kc23 all0
                show own_R p e below s _ _ _ T23 (mkF m 33 #[.val (.ref a1), .val (.int (2 : Int32)), .unset] [(.ref c23)])
                have sz_c23 : h0.size ≤ c23 := Nat.le_trans K0.1 nc23
                have n0_c23 : n0 ≤ c23 := Nat.le_trans Z0 sz_c23
                have ne_a1_c23 : a1 ≠ c23 := Nat.ne_of_lt (Nat.lt_of_lt_of_le hV.lt nc23)
                refine own_astoreN X23 hx (hb hby d2_33) rfl (l' := #[.val (.ref a1), .val (.int (2 : Int32)), .val (.ref c23)]) rfl ?_
                refine own_aloadN X23 hx (hb hby d2_34) rfl rfl ?_
                refine own_iloadN X23 hx (hb hby d2_35) rfl ?_
                refine own_iconst X23 hx (1 : Int32) (hb hby d2_36) rfl ?_
                refine own_isub X23 hx (hb hby d2_37) ?_
                refine own_dup2 X23 hx (hb hby d2_38) rfl rfl ?_
                refine own_baload X23 hx hZ rfl Vc23 (v := .int x1) ⟨by decide, by decide⟩ rfl (hb hby d2_39) ?_
                show own_R p e below s _ _ _ T23 (mkF m 40 #[.val (.ref a1), .val (.int (2 : Int32)), .val (.ref c23)] [(.int x1), (.int (1 : Int32)), (.ref c23)])
                refine own_iconst X23 hx (1 : Int32) (hb hby d2_40) rfl ?_
                refine own_iadd X23 hx (hb hby d2_41) ?_
                refine own_i2b X23 hx (hb hby d2_42) ?_
                refine own_bastore X23 hx hZ rfl Vc23 (x' := ((x1 + (1 : Int32)).toInt8.toInt32)) (pl_nb _) ⟨by decide, by decide⟩ 1 rfl (Nat.le_of_ble_eq_true rfl) (hb hby d2_43) ?_
                intro T24 h24 X24 e24 W24 V24
                have K24 := K23.wr W24 (Or.inr sz_c23)
                have N24 := Fr.snoc X24 N23 n0_c23
                have V_c23_24 : Arv Z h24 c23 kc23 .byte (2 : Int32) [(.int x0), (.int ((x1 + (1 : Int32)).toInt8.toInt32))] (.int (0 : Int32)) := V24
                show own_R p e below s _ _ _ T24 (mkF m 44 #[.val (.ref a1), .val (.int (2 : Int32)), .val (.ref c23)] [])
                refine own_aloadN X24 hx (hb hby d2_44) rfl rfl ?_
                refine own_retA X24 hx Bd.returns rfl rfl hlk (hb hby d2_45) ?_ (by decide) (by decide)
                rw [e24]
                exact ⟨_, rfl, N24, K24, (Or.inr (Or.inr (Or.inl ⟨hx3, hx2, hx1, _, _, rfl, V_c23_24⟩)))⟩
              · have hc23 : (2 : Int32) = (0 : Int32) := own_ne0 hc
                exact absurd hc23 (by decide)
            · have hx1 : x1 = (-1 : Int32) := own_ne0 hc
              clear hc
              show own_R p e below s _ _ _ s₁ (mkF m 16 #[.val (.ref a1), .val (.int (2 : Int32)), .unset] [])
              refine own_iinc X0 hx (-1 : Int32) (hb hby d2_16) rfl rfl (l' := #[.val (.ref a1), .val (.int (1 : Int32)), .unset]) rfl ?_
              refine own_goto X0 hx (hb hby d2_19) (pc' := 3) (by decide) (by decide) ?_
              show own_R p e below s _ _ _ s₁ (mkF m 3 #[.val (.ref a1), .val (.int (1 : Int32)), .unset] [])
              refine own_iloadN X0 hx (hb hby d2_3) rfl ?_
              refine own_if X0 hx (hb hby d2_4) (pc' := 22) (by decide) (by decide) (fun hc => ?_) (fun hc => ?_)
              · have hc4 : ¬ (0 : Int32) < (1 : Int32) := own_le1 hc
                exact absurd (by decide) hc4
              · have hc4 : (0 : Int32) < (1 : Int32) := own_le0 hc
                clear hc
                show own_R p e below s _ _ _ s₁ (mkF m 7 #[.val (.ref a1), .val (.int (1 : Int32)), .unset] [])
                refine own_aloadN X0 hx (hb hby d2_7) rfl rfl ?_
                refine own_iloadN X0 hx (hb hby d2_8) rfl ?_
                refine own_iconst X0 hx (1 : Int32) (hb hby d2_9) rfl ?_
                refine own_isub X0 hx (hb hby d2_10) ?_
                refine own_baload X0 hx hZ e0 hV (v := .int x0) ⟨by decide, by decide⟩ rfl (hb hby d2_11) ?_
                show own_R p e below s _ _ _ s₁ (mkF m 12 #[.val (.ref a1), .val (.int (1 : Int32)), .unset] [(.int x0)])
                refine own_iconst X0 hx (-1 : Int32) (hb hby d2_12) rfl ?_
                refine own_icmp X0 hx (hb hby d2_13) (pc' := 22) (by decide) (by decide) (fun hc => ?_) (fun hc => ?_)
                · have hx0 : ¬ x0 = (-1 : Int32) := own_ne1 hc
                  clear hc
                  show own_R p e below s _ _ _ s₁ (mkF m 22 #[.val (.ref a1), .val (.int (1 : Int32)), .unset] [])
                  refine own_iloadN X0 hx (hb hby d2_22) rfl ?_
                  refine own_if X0 hx (hb hby d2_23) (pc' := 28) (by decide) (by decide) (fun hc => ?_) (fun hc => ?_)
                  · have hc23 : ¬ (1 : Int32) = (0 : Int32) := own_ne1 hc
                    clear hc
                    show own_R p e below s _ _ _ s₁ (mkF m 28 #[.val (.ref a1), .val (.int (1 : Int32)), .unset] [])
                    refine own_aloadN X0 hx (hb hby d2_28) rfl rfl ?_
                    refine own_iloadN X0 hx (hb hby d2_29) rfl ?_
                    refine own_callS X0 hx hZ (y := (⟨"java/util/Arrays", "copyOf", "([BI)[B"⟩ : MethodName)) hown (hw _ (List.mem_of_getElem? (i := 10) rfl)) (hw _ (List.mem_of_getElem? (i := 11) rfl)) (hw _ (List.mem_of_getElem? (i := 12) rfl)) (hw _ (List.mem_of_getElem? (i := 13) rfl)) (by decide) (rm3 l Z a0 hw [] a1 (1 : Int32) k1 (4 : Int32) [(.int x0), (.int x1), (.int x2), (.int x3)] [(.int x0)] h0 n0 (Nat.le_trans Z0 K0.1) hV hA (by decide) (by decide) (by decide) rfl (fun q => absurd q (by decide))) 0 (by decide) (by decide) e0 (by rw [hml]; rfl) [(.ref a1), (.int (1 : Int32))] [] rfl (lenOf pd_1 rfl) rfl (Nat.le_of_eq rfl) (hb hby d2_30) (by decide) (by decide) ?_
                    rintro T25 _ L25 X25 ⟨c25, kc25, rfl, N25q, Kc25, nc25, Vc25⟩
                    have N25 := Fr.app N0 N25q
                    have K25 := K0.trans Kc25 all0
                    show own_R p e below s _ _ _ T25 (mkF m 33 #[.val (.ref a1), .val (.int (1 : Int32)), .unset] [(.ref c25)])
                    have sz_c25 : h0.size ≤ c25 := Nat.le_trans K0.1 nc25
                    have n0_c25 : n0 ≤ c25 := Nat.le_trans Z0 sz_c25
                    have ne_a1_c25 : a1 ≠ c25 := Nat.ne_of_lt (Nat.lt_of_lt_of_le hV.lt nc25)
                    refine own_astoreN X25 hx (hb hby d2_33) rfl (l' := #[.val (.ref a1), .val (.int (1 : Int32)), .val (.ref c25)]) rfl ?_
                    refine own_aloadN X25 hx (hb hby d2_34) rfl rfl ?_
                    refine own_iloadN X25 hx (hb hby d2_35) rfl ?_
                    refine own_iconst X25 hx (1 : Int32) (hb hby d2_36) rfl ?_
                    refine own_isub X25 hx (hb hby d2_37) ?_
                    refine own_dup2 X25 hx (hb hby d2_38) rfl rfl ?_
                    refine own_baload X25 hx hZ rfl Vc25 (v := .int x0) ⟨by decide, by decide⟩ rfl (hb hby d2_39) ?_
                    show own_R p e below s _ _ _ T25 (mkF m 40 #[.val (.ref a1), .val (.int (1 : Int32)), .val (.ref c25)] [(.int x0), (.int (0 : Int32)), (.ref c25)])
                    refine own_iconst X25 hx (1 : Int32) (hb hby d2_40) rfl ?_
                    refine own_iadd X25 hx (hb hby d2_41) ?_
                    refine own_i2b X25 hx (hb hby d2_42) ?_
                    refine own_bastore X25 hx hZ rfl Vc25 (x' := ((x0 + (1 : Int32)).toInt8.toInt32)) (pl_nb _) ⟨by decide, by decide⟩ 0 rfl (Nat.le_of_ble_eq_true rfl) (hb hby d2_43) ?_
                    intro T26 h26 X26 e26 W26 V26
                    have K26 := K25.wr W26 (Or.inr sz_c25)
                    have N26 := Fr.snoc X26 N25 n0_c25
                    have V_c25_26 : Arv Z h26 c25 kc25 .byte (1 : Int32) [(.int ((x0 + (1 : Int32)).toInt8.toInt32))] (.int (0 : Int32)) := V26
                    show own_R p e below s _ _ _ T26 (mkF m 44 #[.val (.ref a1), .val (.int (1 : Int32)), .val (.ref c25)] [])
                    refine own_aloadN X26 hx (hb hby d2_44) rfl rfl ?_
                    refine own_retA X26 hx Bd.returns rfl rfl hlk (hb hby d2_45) ?_ (by decide) (by decide)
                    rw [e26]
                    exact ⟨_, rfl, N26, K26, (Or.inr (Or.inr (Or.inr (Or.inl ⟨hx3, hx2, hx1, hx0, _, _, rfl, V_c25_26⟩))))⟩
                  · have hc23 : (1 : Int32) = (0 : Int32) := own_ne0 hc
                    exact absurd hc23 (by decide)
                · have hx0 : x0 = (-1 : Int32) := own_ne0 hc
                  clear hc
                  show own_R p e below s _ _ _ s₁ (mkF m 16 #[.val (.ref a1), .val (.int (1 : Int32)), .unset] [])
                  refine own_iinc X0 hx (-1 : Int32) (hb hby d2_16) rfl rfl (l' := #[.val (.ref a1), .val (.int (0 : Int32)), .unset]) rfl ?_
                  refine own_goto X0 hx (hb hby d2_19) (pc' := 3) (by decide) (by decide) ?_
                  show own_R p e below s _ _ _ s₁ (mkF m 3 #[.val (.ref a1), .val (.int (0 : Int32)), .unset] [])
                  refine own_iloadN X0 hx (hb hby d2_3) rfl ?_
                  refine own_if X0 hx (hb hby d2_4) (pc' := 22) (by decide) (by decide) (fun hc => ?_) (fun hc => ?_)
                  · have hc4 : ¬ (0 : Int32) < (0 : Int32) := own_le1 hc
                    clear hc
                    show own_R p e below s _ _ _ s₁ (mkF m 22 #[.val (.ref a1), .val (.int (0 : Int32)), .unset] [])
                    refine own_iloadN X0 hx (hb hby d2_22) rfl ?_
                    refine own_if X0 hx (hb hby d2_23) (pc' := 28) (by decide) (by decide) (fun hc => ?_) (fun hc => ?_)
                    · have hc23 : ¬ (0 : Int32) = (0 : Int32) := own_ne1 hc
                      exact absurd (by decide) hc23
                    · have hc23 : (0 : Int32) = (0 : Int32) := own_ne0 hc
                      clear hc
                      show own_R p e below s _ _ _ s₁ (mkF m 26 #[.val (.ref a1), .val (.int (0 : Int32)), .unset] [])
                      refine own_aconst_null X0 hx (hb hby d2_26) ?_
                      refine own_retA X0 hx Bd.returns rfl rfl hlk (hb hby d2_27) ?_ (by decide) (by decide)
                      rw [e0]
                      exact ⟨_, rfl, N0, K0, (Or.inr (Or.inr (Or.inr (Or.inr ⟨hx3, hx2, hx1, hx0, rfl⟩))))⟩
                  · have hc4 : (0 : Int32) < (0 : Int32) := own_le0 hc
                    exact absurd hc4 (by decide)
theorem pn_0 : plainFor (⟨"com/example/fach/fach/io/KeyBytesAfterAllWithPinLaw", "law", "(IIIII)Z"⟩ : MethodName) = true := by decide +kernel
theorem ef_0 (m : MethodId) (p0 : Int32) (p1 : Int32) (p2 : Int32) (p3 : Int32) (p4 : Int32) : entryFrame m #[(.int p0), (.int p1), (.int p2), (.int p3), (.int p4)] maxLocals = mkF m 0 #[.val (.int p0), .val (.int p1), .val (.int p2), .val (.int p3), .val (.int p4), .unset, .unset, .unset, .unset, .unset, .unset] [] := by first | (simp [entryFrame, mkF, argsToLocals, Value.category, maxLocals]; done) | rfl
def Q0 (Z : State) (p0 : Int32) (p1 : Int32) (p2 : Int32) (p3 : Int32) (p4 : Int32) (h0 : Heap) (n0 : Nat) (v : Option Value) (h : Heap) (L : List Loc) : Prop := v = some (.int 1) ∧ Fr n0 L
set_option maxRecDepth 65536 in
set_option maxHeartbeats 40000000 in
theorem rm0 (l : Launch) (Z : State) (a0 : Array Value) (hw : ∀ d ∈ tables_1, d.before a0 Z = true) (ws : List Jvm.Cond) (p0 : Int32) (p1 : Int32) (p2 : Int32) (p3 : Int32) (p4 : Int32) (h0 : Heap) (n0 : Nat) (Z0 : n0 ≤ h0.size) :
    MetFree l x (head1 (Jvm.Cond.code x code maxLocals ret :: ws) room_1) (fun a U => a = #[(.int p0), (.int p1), (.int p2), (.int p3), (.int p4)] ∧ Z.Warmed39 U.vm ∧ U.heap = h0) (fun _ _ _ _ _ => True) (fun _ U o U' => ∃ v L, o = .returned v ∧ Q0 Z p0 p1 p2 p3 p4 h0 n0 v U'.heap L ∧ FrameEnd U o U' L room_1.cells room_1.slots) := by
  refine MetFree.of_bodySF pn_0 hisR ?_
  intro p e s m args below meth c s₁ Bd hml0 hP hK
  obtain ⟨rfl, hZ, hh⟩ := hP
  have hx := Bd.exec
  have hby := Bd.bytes
  have hml : c.maxLocals = 11 := hml0
  have hown : s.vm.findClass "com/example/fach/fach/io/KeyBytesAfterAllWithPinLaw" = some m.cls := findClass_of_methodNamed Bd.named
  have hnm := (name_of_methodNamed Bd.named Bd.method).1
  have hlk := BodyLoose.notSynchronized Bd
  have X0 : Stand p l e room_1 s m #[(.int p0), (.int p1), (.int p2), (.int p3), (.int p4)] below meth c s₁ [] 0 0 := Stand.of_body Bd
  have e0 : s₁.heap = h0 := by rw [← hh, Bd.state]; rfl
  have N0 := Fr.nil n0
  show own_R p e below s (Q0 Z p0 p1 p2 p3 p4 h0 n0) room_1.cells room_1.slots s₁ (entryFrame m #[(.int p0), (.int p1), (.int p2), (.int p3), (.int p4)] maxLocals)
  refine own_cast (ef_0 m p0 p1 p2 p3 p4) ?_
  show own_R p e below s _ _ _ s₁ (mkF m 0 #[.val (.int p0), .val (.int p1), .val (.int p2), .val (.int p3), .val (.int p4), .unset, .unset, .unset, .unset, .unset, .unset] [])
  have K0 := Keep.refl h0 ([] : List Addr)
  refine own_iloadN X0 hx (hb hby at_0) rfl ?_
  refine own_ldc X0 hx hZ hown (hw _ (List.mem_of_getElem? (i := 0) rfl)) (hb hby at_1) ?_
  refine own_iand X0 hx (hb hby at_3) ?_
  refine own_iconst X0 hx (5 : Int32) (hb hby at_4) rfl ?_
  refine own_irem X0 hx (hb hby at_5) (by decide) ?_
  refine own_istore X0 hx (hb hby at_6) (l' := #[.val (.int p0), .val (.int p1), .val (.int p2), .val (.int p3), .val (.int p4), .val (.int ((p0 &&& (2147483647 : Int32)) % (5 : Int32))), .unset, .unset, .unset, .unset, .unset]) rfl ?_
  obtain ⟨n, hn, hn5⟩ : ∃ z : Int32, z = ((p0 &&& (2147483647 : Int32)) % (5 : Int32)) ∧ (z = 0 ∨ z = 1 ∨ z = 2 ∨ z = 3 ∨ z = 4) := ⟨_, rfl, pl_5 _⟩
  rw [← hn]
  show own_R p e below s _ _ _ s₁ (mkF m 8 #[.val (.int p0), .val (.int p1), .val (.int p2), .val (.int p3), .val (.int p4), .val (.int n), .unset, .unset, .unset, .unset, .unset] [])
  refine own_iconst X0 hx (4 : Int32) (hb hby at_8) rfl ?_
  refine own_newA X0 hx hZ (hw _ (List.mem_of_getElem? (i := 1) rfl)) e0 (hb hby at_9) (by decide) 4 (by decide) (by decide) (by decide) (by decide) (ad := "[B") (by decide) 4 ?_
  intro T27 h27 b27 k27 g27 X27 e27 E27 V27 A27
  have sz_b27 : h0.size ≤ b27 := Nat.le_trans K0.1 (Nat.le_of_eq g27.symm)
  have n0_b27 : n0 ≤ b27 := Nat.le_trans Z0 sz_b27
  have K27 := K0.ext E27
  have V_b27 : Arv Z h27 b27 k27 .byte (4 : Int32) [(.int (0 : Int32)), (.int (0 : Int32)), (.int (0 : Int32)), (.int (0 : Int32))] (.int (0 : Int32)) := V27
  show own_R p e below s _ _ _ T27 (mkF m 11 #[.val (.int p0), .val (.int p1), .val (.int p2), .val (.int p3), .val (.int p4), .val (.int n), .unset, .unset, .unset, .unset, .unset] [(.ref b27)])
  refine own_dup X27 hx (hb hby at_11) rfl ?_
  refine own_iconst X27 hx (0 : Int32) (hb hby at_12) rfl ?_
  refine own_iloadN X27 hx (hb hby at_13) rfl ?_
  refine own_callS X27 hx hZ (y := (⟨"com/example/fach/fach/io/KeyBytesAfterAllWithPinLaw", "draw", "(I)B"⟩ : MethodName)) hown (hw _ (List.mem_of_getElem? (i := 2) rfl)) (hw _ (List.mem_of_getElem? (i := 3) rfl)) (hw _ (List.mem_of_getElem? (i := 4) rfl)) (hw _ (List.mem_of_getElem? (i := 5) rfl)) (by decide) (rm1 l Z a0 hw [] p1 h27 n0 (Nat.le_trans Z0 K27.1)) 3 (by decide) (by decide) e27 (by rw [hml]; rfl) [(.int p1)] [(.int (0 : Int32)), (.ref b27), (.ref b27)] rfl (lenOf pd_2 rfl) rfl (Nat.le_of_eq rfl) (hb hby at_14) (by decide) (by decide) ?_
  rintro T28 _ L28 X28 ⟨rfl, N28q, e28⟩
  have N28 := Fr.app N0 N28q
  show own_R p e below s _ _ _ T28 (mkF m 17 #[.val (.int p0), .val (.int p1), .val (.int p2), .val (.int p3), .val (.int p4), .val (.int n), .unset, .unset, .unset, .unset, .unset] [(.int (pl_draw p1)), (.int (0 : Int32)), (.ref b27), (.ref b27)])
  obtain ⟨x0, hx0⟩ : ∃ z, z = nar .byte (pl_draw p1) := ⟨_, rfl⟩
  refine own_bastore X28 hx hZ e28 V_b27 (x' := x0) hx0.symm ⟨by decide, by decide⟩ 0 rfl (Nat.le_of_ble_eq_true rfl) (hb hby at_17) ?_
  intro T29 h29 X29 e29 W29 V29
  have K29 := K27.wr W29 (Or.inr sz_b27)
  have N29 := Fr.snoc X29 N28 n0_b27
  have V_b27_29 : Arv Z h29 b27 k27 .byte (4 : Int32) [(.int x0), (.int (0 : Int32)), (.int (0 : Int32)), (.int (0 : Int32))] (.int (0 : Int32)) := V29
  show own_R p e below s _ _ _ T29 (mkF m 18 #[.val (.int p0), .val (.int p1), .val (.int p2), .val (.int p3), .val (.int p4), .val (.int n), .unset, .unset, .unset, .unset, .unset] [(.ref b27)])
  refine own_dup X29 hx (hb hby at_18) rfl ?_
  refine own_iconst X29 hx (1 : Int32) (hb hby at_19) rfl ?_
  refine own_iloadN X29 hx (hb hby at_20) rfl ?_
  refine own_callS X29 hx hZ (y := (⟨"com/example/fach/fach/io/KeyBytesAfterAllWithPinLaw", "draw", "(I)B"⟩ : MethodName)) hown (hw _ (List.mem_of_getElem? (i := 2) rfl)) (hw _ (List.mem_of_getElem? (i := 3) rfl)) (hw _ (List.mem_of_getElem? (i := 4) rfl)) (hw _ (List.mem_of_getElem? (i := 5) rfl)) (by decide) (rm1 l Z a0 hw [] p2 h29 n0 (Nat.le_trans Z0 K29.1)) 3 (by decide) (by decide) e29 (by rw [hml]; rfl) [(.int p2)] [(.int (1 : Int32)), (.ref b27), (.ref b27)] rfl (lenOf pd_2 rfl) rfl (Nat.le_of_eq rfl) (hb hby at_21) (by decide) (by decide) ?_
  rintro T30 _ L30 X30 ⟨rfl, N30q, e30⟩
  have N30 := Fr.app N29 N30q
  show own_R p e below s _ _ _ T30 (mkF m 24 #[.val (.int p0), .val (.int p1), .val (.int p2), .val (.int p3), .val (.int p4), .val (.int n), .unset, .unset, .unset, .unset, .unset] [(.int (pl_draw p2)), (.int (1 : Int32)), (.ref b27), (.ref b27)])
  obtain ⟨x1, hx1⟩ : ∃ z, z = nar .byte (pl_draw p2) := ⟨_, rfl⟩
  refine own_bastore X30 hx hZ e30 V_b27_29 (x' := x1) hx1.symm ⟨by decide, by decide⟩ 1 rfl (Nat.le_of_ble_eq_true rfl) (hb hby at_24) ?_
  intro T31 h31 X31 e31 W31 V31
  have K31 := K29.wr W31 (Or.inr sz_b27)
  have N31 := Fr.snoc X31 N30 n0_b27
  have V_b27_31 : Arv Z h31 b27 k27 .byte (4 : Int32) [(.int x0), (.int x1), (.int (0 : Int32)), (.int (0 : Int32))] (.int (0 : Int32)) := V31
  show own_R p e below s _ _ _ T31 (mkF m 25 #[.val (.int p0), .val (.int p1), .val (.int p2), .val (.int p3), .val (.int p4), .val (.int n), .unset, .unset, .unset, .unset, .unset] [(.ref b27)])
  refine own_dup X31 hx (hb hby at_25) rfl ?_
  refine own_iconst X31 hx (2 : Int32) (hb hby at_26) rfl ?_
  refine own_iloadN X31 hx (hb hby at_27) rfl ?_
  refine own_callS X31 hx hZ (y := (⟨"com/example/fach/fach/io/KeyBytesAfterAllWithPinLaw", "draw", "(I)B"⟩ : MethodName)) hown (hw _ (List.mem_of_getElem? (i := 2) rfl)) (hw _ (List.mem_of_getElem? (i := 3) rfl)) (hw _ (List.mem_of_getElem? (i := 4) rfl)) (hw _ (List.mem_of_getElem? (i := 5) rfl)) (by decide) (rm1 l Z a0 hw [] p3 h31 n0 (Nat.le_trans Z0 K31.1)) 3 (by decide) (by decide) e31 (by rw [hml]; rfl) [(.int p3)] [(.int (2 : Int32)), (.ref b27), (.ref b27)] rfl (lenOf pd_2 rfl) rfl (Nat.le_of_eq rfl) (hb hby at_28) (by decide) (by decide) ?_
  rintro T32 _ L32 X32 ⟨rfl, N32q, e32⟩
  have N32 := Fr.app N31 N32q
  show own_R p e below s _ _ _ T32 (mkF m 31 #[.val (.int p0), .val (.int p1), .val (.int p2), .val (.int p3), .val (.int p4), .val (.int n), .unset, .unset, .unset, .unset, .unset] [(.int (pl_draw p3)), (.int (2 : Int32)), (.ref b27), (.ref b27)])
  obtain ⟨x2, hx2⟩ : ∃ z, z = nar .byte (pl_draw p3) := ⟨_, rfl⟩
  refine own_bastore X32 hx hZ e32 V_b27_31 (x' := x2) hx2.symm ⟨by decide, by decide⟩ 2 rfl (Nat.le_of_ble_eq_true rfl) (hb hby at_31) ?_
  intro T33 h33 X33 e33 W33 V33
  have K33 := K31.wr W33 (Or.inr sz_b27)
  have N33 := Fr.snoc X33 N32 n0_b27
  have V_b27_33 : Arv Z h33 b27 k27 .byte (4 : Int32) [(.int x0), (.int x1), (.int x2), (.int (0 : Int32))] (.int (0 : Int32)) := V33
  show own_R p e below s _ _ _ T33 (mkF m 32 #[.val (.int p0), .val (.int p1), .val (.int p2), .val (.int p3), .val (.int p4), .val (.int n), .unset, .unset, .unset, .unset, .unset] [(.ref b27)])
  refine own_dup X33 hx (hb hby at_32) rfl ?_
  refine own_iconst X33 hx (3 : Int32) (hb hby at_33) rfl ?_
  refine own_iload X33 hx (hb hby at_34) rfl ?_
  refine own_callS X33 hx hZ (y := (⟨"com/example/fach/fach/io/KeyBytesAfterAllWithPinLaw", "draw", "(I)B"⟩ : MethodName)) hown (hw _ (List.mem_of_getElem? (i := 2) rfl)) (hw _ (List.mem_of_getElem? (i := 3) rfl)) (hw _ (List.mem_of_getElem? (i := 4) rfl)) (hw _ (List.mem_of_getElem? (i := 5) rfl)) (by decide) (rm1 l Z a0 hw [] p4 h33 n0 (Nat.le_trans Z0 K33.1)) 3 (by decide) (by decide) e33 (by rw [hml]; rfl) [(.int p4)] [(.int (3 : Int32)), (.ref b27), (.ref b27)] rfl (lenOf pd_2 rfl) rfl (Nat.le_of_eq rfl) (hb hby at_36) (by decide) (by decide) ?_
  rintro T34 _ L34 X34 ⟨rfl, N34q, e34⟩
  have N34 := Fr.app N33 N34q
  show own_R p e below s _ _ _ T34 (mkF m 39 #[.val (.int p0), .val (.int p1), .val (.int p2), .val (.int p3), .val (.int p4), .val (.int n), .unset, .unset, .unset, .unset, .unset] [(.int (pl_draw p4)), (.int (3 : Int32)), (.ref b27), (.ref b27)])
  obtain ⟨x3, hx3⟩ : ∃ z, z = nar .byte (pl_draw p4) := ⟨_, rfl⟩
  refine own_bastore X34 hx hZ e34 V_b27_33 (x' := x3) hx3.symm ⟨by decide, by decide⟩ 3 rfl (Nat.le_of_ble_eq_true rfl) (hb hby at_39) ?_
  intro T35 h35 X35 e35 W35 V35
  have K35 := K33.wr W35 (Or.inr sz_b27)
  have N35 := Fr.snoc X35 N34 n0_b27
  have V_b27_35 : Arv Z h35 b27 k27 .byte (4 : Int32) [(.int x0), (.int x1), (.int x2), (.int x3)] (.int (0 : Int32)) := V35
  show own_R p e below s _ _ _ T35 (mkF m 40 #[.val (.int p0), .val (.int p1), .val (.int p2), .val (.int p3), .val (.int p4), .val (.int n), .unset, .unset, .unset, .unset, .unset] [(.ref b27)])
  refine own_astore X35 hx (hb hby at_40) rfl (l' := #[.val (.int p0), .val (.int p1), .val (.int p2), .val (.int p3), .val (.int p4), .val (.int n), .val (.ref b27), .unset, .unset, .unset, .unset]) rfl ?_
  rcases hn5 with rfl | rfl | rfl | rfl | rfl
  ·
    show own_R p e below s _ _ _ T35 (mkF m 42 #[.val (.int p0), .val (.int p1), .val (.int p2), .val (.int p3), .val (.int p4), .val (.int (0 : Int32)), .val (.ref b27), .unset, .unset, .unset, .unset] [])
    refine own_iload X35 hx (hb hby at_42) rfl ?_
    refine own_newA X35 hx hZ (hw _ (List.mem_of_getElem? (i := 1) rfl)) e35 (hb hby at_44) (by decide) 0 (by decide) (by decide) (by decide) (by decide) (ad := "[B") (by decide) 0 ?_
    intro T36 h36 b36 k36 g36 X36 e36 E36 V36 A36
    have ne_b27_b36 : b27 ≠ b36 := Nat.ne_of_lt (Nat.lt_of_lt_of_le V_b27_35.lt (Nat.le_of_eq g36.symm))
    have sz_b36 : h0.size ≤ b36 := Nat.le_trans K35.1 (Nat.le_of_eq g36.symm)
    have n0_b36 : n0 ≤ b36 := Nat.le_trans Z0 sz_b36
    have K36 := K35.ext E36
    have V_b36 : Arv Z h36 b36 k36 .byte (0 : Int32) [] (.int (0 : Int32)) := V36
    show own_R p e below s _ _ _ T36 (mkF m 46 #[.val (.int p0), .val (.int p1), .val (.int p2), .val (.int p3), .val (.int p4), .val (.int (0 : Int32)), .val (.ref b27), .unset, .unset, .unset, .unset] [(.ref b36)])
    refine own_astore X36 hx (hb hby at_46) rfl (l' := #[.val (.int p0), .val (.int p1), .val (.int p2), .val (.int p3), .val (.int p4), .val (.int (0 : Int32)), .val (.ref b27), .val (.ref b36), .unset, .unset, .unset]) rfl ?_
    refine own_iload X36 hx (hb hby at_48) rfl ?_
    refine own_if X36 hx (hb hby at_50) (pc' := 61) (by decide) (by decide) (fun hc => ?_) (fun hc => ?_)
    · have hc50 : ¬ (0 : Int32) < (0 : Int32) := own_le1 hc
      clear hc
      show own_R p e below s _ _ _ T36 (mkF m 61 #[.val (.int p0), .val (.int p1), .val (.int p2), .val (.int p3), .val (.int p4), .val (.int (0 : Int32)), .val (.ref b27), .val (.ref b36), .unset, .unset, .unset] [])
      refine own_iload X36 hx (hb hby at_61) rfl ?_
      refine own_iconst X36 hx (1 : Int32) (hb hby at_63) rfl ?_
      refine own_icmp X36 hx (hb hby at_64) (pc' := 75) (by decide) (by decide) (fun hc => ?_) (fun hc => ?_)
      · have hc64 : ¬ (1 : Int32) < (0 : Int32) := own_le1 hc
        clear hc
        show own_R p e below s _ _ _ T36 (mkF m 75 #[.val (.int p0), .val (.int p1), .val (.int p2), .val (.int p3), .val (.int p4), .val (.int (0 : Int32)), .val (.ref b27), .val (.ref b36), .unset, .unset, .unset] [])
        refine own_iload X36 hx (hb hby at_75) rfl ?_
        refine own_iconst X36 hx (2 : Int32) (hb hby at_77) rfl ?_
        refine own_icmp X36 hx (hb hby at_78) (pc' := 89) (by decide) (by decide) (fun hc => ?_) (fun hc => ?_)
        · have hc78 : ¬ (2 : Int32) < (0 : Int32) := own_le1 hc
          clear hc
          show own_R p e below s _ _ _ T36 (mkF m 89 #[.val (.int p0), .val (.int p1), .val (.int p2), .val (.int p3), .val (.int p4), .val (.int (0 : Int32)), .val (.ref b27), .val (.ref b36), .unset, .unset, .unset] [])
          refine own_iload X36 hx (hb hby at_89) rfl ?_
          refine own_iconst X36 hx (3 : Int32) (hb hby at_91) rfl ?_
          refine own_icmp X36 hx (hb hby at_92) (pc' := 103) (by decide) (by decide) (fun hc => ?_) (fun hc => ?_)
          · have hc92 : ¬ (3 : Int32) < (0 : Int32) := own_le1 hc
            clear hc
            show own_R p e below s _ _ _ T36 (mkF m 103 #[.val (.int p0), .val (.int p1), .val (.int p2), .val (.int p3), .val (.int p4), .val (.int (0 : Int32)), .val (.ref b27), .val (.ref b36), .unset, .unset, .unset] [])
            refine own_aload X36 hx (hb hby at_103) rfl rfl ?_
            refine own_callS X36 hx hZ (y := (⟨"com/example/fach/fach/io/KeyBytes", "afterAllWith", "([B)[B"⟩ : MethodName)) hown (hw _ (List.mem_of_getElem? (i := 6) rfl)) (hw _ (List.mem_of_getElem? (i := 7) rfl)) (hw _ (List.mem_of_getElem? (i := 8) rfl)) (hw _ (List.mem_of_getElem? (i := 9) rfl)) (by decide) (rm2_0 l Z a0 hw [] b36 k36  h36 n0 (Nat.le_trans Z0 K36.1) V_b36 A36) 0 (by decide) (by decide) e36 (by rw [hml]; rfl) [(.ref b36)] [] rfl (lenOf pd_3 rfl) rfl (Nat.le_of_eq rfl) (hb hby at_105) (by decide) (by decide) ?_
            rintro T37 _ L37 X37 ⟨r37, rfl, N37q, Kc37, hr37⟩
            have N37 := Fr.app N35 N37q
            have K37 := K36.trans Kc37 all0
            rcases hr37 with rfl
            ·
              show own_R p e below s _ _ _ T37 (mkF m 108 #[.val (.int p0), .val (.int p1), .val (.int p2), .val (.int p3), .val (.int p4), .val (.int (0 : Int32)), .val (.ref b27), .val (.ref b36), .unset, .unset, .unset] [.null])
              refine own_astore X37 hx (hb hby at_108) rfl (l' := #[.val (.int p0), .val (.int p1), .val (.int p2), .val (.int p3), .val (.int p4), .val (.int (0 : Int32)), .val (.ref b27), .val (.ref b36), .val .null, .unset, .unset]) rfl ?_
              refine own_aload X37 hx (hb hby at_110) rfl rfl ?_
              have f38 := (V_b36.keep Kc37 nin0)
              refine own_len X37 hx hZ rfl f38 (hb hby at_112) ?_
              show own_R p e below s _ _ _ T37 (mkF m 113 #[.val (.int p0), .val (.int p1), .val (.int p2), .val (.int p3), .val (.int p4), .val (.int (0 : Int32)), .val (.ref b27), .val (.ref b36), .val .null, .unset, .unset] [(.int (0 : Int32))])
              refine own_iload X37 hx (hb hby at_113) rfl ?_
              refine own_icmp X37 hx (hb hby at_115) (pc' := 122) (by decide) (by decide) (fun hc => ?_) (fun hc => ?_)
              · have hc115 : ¬ (0 : Int32) = (0 : Int32) := own_ne1 hc
                exact absurd (by decide) hc115
              · have hc115 : (0 : Int32) = (0 : Int32) := own_ne0 hc
                clear hc
                show own_R p e below s _ _ _ T37 (mkF m 118 #[.val (.int p0), .val (.int p1), .val (.int p2), .val (.int p3), .val (.int p4), .val (.int (0 : Int32)), .val (.ref b27), .val (.ref b36), .val .null, .unset, .unset] [])
                refine own_iconst X37 hx (1 : Int32) (hb hby at_118) rfl ?_
                refine own_goto X37 hx (hb hby at_119) (pc' := 123) (by decide) (by decide) ?_
                show own_R p e below s _ _ _ T37 (mkF m 123 #[.val (.int p0), .val (.int p1), .val (.int p2), .val (.int p3), .val (.int p4), .val (.int (0 : Int32)), .val (.ref b27), .val (.ref b36), .val .null, .unset, .unset] [(.int (1 : Int32))])
                refine own_istore X37 hx (hb hby at_123) (l' := #[.val (.int p0), .val (.int p1), .val (.int p2), .val (.int p3), .val (.int p4), .val (.int (0 : Int32)), .val (.ref b27), .val (.ref b36), .val .null, .val (.int (1 : Int32)), .unset]) rfl ?_
                refine own_iload X37 hx (hb hby at_125) rfl ?_
                refine own_if X37 hx (hb hby at_127) (pc' := 153) (by decide) (by decide) (fun hc => ?_) (fun hc => ?_)
                · have hc127 : ¬ (0 : Int32) < (0 : Int32) := own_le1 hc
                  clear hc
                  show own_R p e below s _ _ _ T37 (mkF m 153 #[.val (.int p0), .val (.int p1), .val (.int p2), .val (.int p3), .val (.int p4), .val (.int (0 : Int32)), .val (.ref b27), .val (.ref b36), .val .null, .val (.int (1 : Int32)), .unset] [])
                  refine own_iload X37 hx (hb hby at_153) rfl ?_
                  refine own_iconst X37 hx (1 : Int32) (hb hby at_155) rfl ?_
                  refine own_icmp X37 hx (hb hby at_156) (pc' := 182) (by decide) (by decide) (fun hc => ?_) (fun hc => ?_)
                  · have hc156 : ¬ (1 : Int32) < (0 : Int32) := own_le1 hc
                    clear hc
                    show own_R p e below s _ _ _ T37 (mkF m 182 #[.val (.int p0), .val (.int p1), .val (.int p2), .val (.int p3), .val (.int p4), .val (.int (0 : Int32)), .val (.ref b27), .val (.ref b36), .val .null, .val (.int (1 : Int32)), .unset] [])
                    refine own_iload X37 hx (hb hby at_182) rfl ?_
                    refine own_iconst X37 hx (2 : Int32) (hb hby at_184) rfl ?_
                    refine own_icmp X37 hx (hb hby at_185) (pc' := 211) (by decide) (by decide) (fun hc => ?_) (fun hc => ?_)
                    · have hc185 : ¬ (2 : Int32) < (0 : Int32) := own_le1 hc
                      clear hc
                      show own_R p e below s _ _ _ T37 (mkF m 211 #[.val (.int p0), .val (.int p1), .val (.int p2), .val (.int p3), .val (.int p4), .val (.int (0 : Int32)), .val (.ref b27), .val (.ref b36), .val .null, .val (.int (1 : Int32)), .unset] [])
                      refine own_iload X37 hx (hb hby at_211) rfl ?_
                      refine own_iconst X37 hx (3 : Int32) (hb hby at_213) rfl ?_
                      refine own_icmp X37 hx (hb hby at_214) (pc' := 240) (by decide) (by decide) (fun hc => ?_) (fun hc => ?_)
                      · have hc214 : ¬ (3 : Int32) < (0 : Int32) := own_le1 hc
                        clear hc
                        show own_R p e below s _ _ _ T37 (mkF m 240 #[.val (.int p0), .val (.int p1), .val (.int p2), .val (.int p3), .val (.int p4), .val (.int (0 : Int32)), .val (.ref b27), .val (.ref b36), .val .null, .val (.int (1 : Int32)), .unset] [])
                        refine own_iconst X37 hx (0 : Int32) (hb hby at_240) rfl ?_
                        refine own_istore X37 hx (hb hby at_241) (l' := #[.val (.int p0), .val (.int p1), .val (.int p2), .val (.int p3), .val (.int p4), .val (.int (0 : Int32)), .val (.ref b27), .val (.ref b36), .val .null, .val (.int (1 : Int32)), .val (.int (0 : Int32))]) rfl ?_
                        refine own_iload X37 hx (hb hby at_243) rfl ?_
                        refine own_if X37 hx (hb hby at_245) (pc' := 259) (by decide) (by decide) (fun hc => ?_) (fun hc => ?_)
                        · have hc245 : ¬ (0 : Int32) < (0 : Int32) := own_le1 hc
                          clear hc
                          show own_R p e below s _ _ _ T37 (mkF m 259 #[.val (.int p0), .val (.int p1), .val (.int p2), .val (.int p3), .val (.int p4), .val (.int (0 : Int32)), .val (.ref b27), .val (.ref b36), .val .null, .val (.int (1 : Int32)), .val (.int (0 : Int32))] [])
                          refine own_iload X37 hx (hb hby at_259) rfl ?_
                          refine own_iconst X37 hx (1 : Int32) (hb hby at_261) rfl ?_
                          refine own_icmp X37 hx (hb hby at_262) (pc' := 276) (by decide) (by decide) (fun hc => ?_) (fun hc => ?_)
                          · have hc262 : ¬ (1 : Int32) < (0 : Int32) := own_le1 hc
                            clear hc
                            show own_R p e below s _ _ _ T37 (mkF m 276 #[.val (.int p0), .val (.int p1), .val (.int p2), .val (.int p3), .val (.int p4), .val (.int (0 : Int32)), .val (.ref b27), .val (.ref b36), .val .null, .val (.int (1 : Int32)), .val (.int (0 : Int32))] [])
                            refine own_iload X37 hx (hb hby at_276) rfl ?_
                            refine own_iconst X37 hx (2 : Int32) (hb hby at_278) rfl ?_
                            refine own_icmp X37 hx (hb hby at_279) (pc' := 293) (by decide) (by decide) (fun hc => ?_) (fun hc => ?_)
                            · have hc279 : ¬ (2 : Int32) < (0 : Int32) := own_le1 hc
                              clear hc
                              show own_R p e below s _ _ _ T37 (mkF m 293 #[.val (.int p0), .val (.int p1), .val (.int p2), .val (.int p3), .val (.int p4), .val (.int (0 : Int32)), .val (.ref b27), .val (.ref b36), .val .null, .val (.int (1 : Int32)), .val (.int (0 : Int32))] [])
                              refine own_iload X37 hx (hb hby at_293) rfl ?_
                              refine own_iconst X37 hx (3 : Int32) (hb hby at_295) rfl ?_
                              refine own_icmp X37 hx (hb hby at_296) (pc' := 310) (by decide) (by decide) (fun hc => ?_) (fun hc => ?_)
                              · have hc296 : ¬ (3 : Int32) < (0 : Int32) := own_le1 hc
                                clear hc
                                show own_R p e below s _ _ _ T37 (mkF m 310 #[.val (.int p0), .val (.int p1), .val (.int p2), .val (.int p3), .val (.int p4), .val (.int (0 : Int32)), .val (.ref b27), .val (.ref b36), .val .null, .val (.int (1 : Int32)), .val (.int (0 : Int32))] [])
                                refine own_iload X37 hx (hb hby at_310) rfl ?_
                                refine own_if X37 hx (hb hby at_312) (pc' := 331) (by decide) (by decide) (fun hc => ?_) (fun hc => ?_)
                                · have hc312 : ¬ (0 : Int32) = (0 : Int32) := own_ne1 hc
                                  exact absurd (by decide) hc312
                                · have hc312 : (0 : Int32) = (0 : Int32) := own_ne0 hc
                                  clear hc
                                  show own_R p e below s _ _ _ T37 (mkF m 315 #[.val (.int p0), .val (.int p1), .val (.int p2), .val (.int p3), .val (.int p4), .val (.int (0 : Int32)), .val (.ref b27), .val (.ref b36), .val .null, .val (.int (1 : Int32)), .val (.int (0 : Int32))] [])
                                  refine own_iload X37 hx (hb hby at_315) rfl ?_
                                  refine own_if X37 hx (hb hby at_317) (pc' := 329) (by decide) (by decide) (fun hc => ?_) (fun hc => ?_)
                                  · have hc317 : (1 : Int32) = (0 : Int32) := own_eq1 hc
                                    exact absurd hc317 (by decide)
                                  · have hc317 : ¬ (1 : Int32) = (0 : Int32) := own_eq0 hc
                                    clear hc
                                    show own_R p e below s _ _ _ T37 (mkF m 320 #[.val (.int p0), .val (.int p1), .val (.int p2), .val (.int p3), .val (.int p4), .val (.int (0 : Int32)), .val (.ref b27), .val (.ref b36), .val .null, .val (.int (1 : Int32)), .val (.int (0 : Int32))] [])
                                    refine own_aload X37 hx (hb hby at_320) rfl rfl ?_
                                    refine own_ifnonnullN X37 hx (hb hby at_322) ?_
                                    show own_R p e below s _ _ _ T37 (mkF m 325 #[.val (.int p0), .val (.int p1), .val (.int p2), .val (.int p3), .val (.int p4), .val (.int (0 : Int32)), .val (.ref b27), .val (.ref b36), .val .null, .val (.int (1 : Int32)), .val (.int (0 : Int32))] [])
                                    refine own_iconst X37 hx (1 : Int32) (hb hby at_325) rfl ?_
                                    refine own_goto X37 hx (hb hby at_326) (pc' := 330) (by decide) (by decide) ?_
                                    show own_R p e below s _ _ _ T37 (mkF m 330 #[.val (.int p0), .val (.int p1), .val (.int p2), .val (.int p3), .val (.int p4), .val (.int (0 : Int32)), .val (.ref b27), .val (.ref b36), .val .null, .val (.int (1 : Int32)), .val (.int (0 : Int32))] [(.int (1 : Int32))])
                                    refine own_retN X37 hx (t := .boolean) Bd.returns (by simp) hlk (hb hby at_330) ?_ (by decide) (by decide)
                                    exact ⟨rfl, N37⟩
                              · have hc296 : (3 : Int32) < (0 : Int32) := own_le0 hc
                                exact absurd hc296 (by decide)
                            · have hc279 : (2 : Int32) < (0 : Int32) := own_le0 hc
                              exact absurd hc279 (by decide)
                          · have hc262 : (1 : Int32) < (0 : Int32) := own_le0 hc
                            exact absurd hc262 (by decide)
                        · have hc245 : (0 : Int32) < (0 : Int32) := own_le0 hc
                          exact absurd hc245 (by decide)
                      · have hc214 : (3 : Int32) < (0 : Int32) := own_le0 hc
                        exact absurd hc214 (by decide)
                    · have hc185 : (2 : Int32) < (0 : Int32) := own_le0 hc
                      exact absurd hc185 (by decide)
                  · have hc156 : (1 : Int32) < (0 : Int32) := own_le0 hc
                    exact absurd hc156 (by decide)
                · have hc127 : (0 : Int32) < (0 : Int32) := own_le0 hc
                  exact absurd hc127 (by decide)
          · have hc92 : (3 : Int32) < (0 : Int32) := own_le0 hc
            exact absurd hc92 (by decide)
        · have hc78 : (2 : Int32) < (0 : Int32) := own_le0 hc
          exact absurd hc78 (by decide)
      · have hc64 : (1 : Int32) < (0 : Int32) := own_le0 hc
        exact absurd hc64 (by decide)
    · have hc50 : (0 : Int32) < (0 : Int32) := own_le0 hc
      exact absurd hc50 (by decide)
  ·
    show own_R p e below s _ _ _ T35 (mkF m 42 #[.val (.int p0), .val (.int p1), .val (.int p2), .val (.int p3), .val (.int p4), .val (.int (1 : Int32)), .val (.ref b27), .unset, .unset, .unset, .unset] [])
    refine own_iload X35 hx (hb hby at_42) rfl ?_
    refine own_newA X35 hx hZ (hw _ (List.mem_of_getElem? (i := 1) rfl)) e35 (hb hby at_44) (by decide) 1 (by decide) (by decide) (by decide) (by decide) (ad := "[B") (by decide) 1 ?_
    intro T39 h39 b39 k39 g39 X39 e39 E39 V39 A39
    have ne_b27_b39 : b27 ≠ b39 := Nat.ne_of_lt (Nat.lt_of_lt_of_le V_b27_35.lt (Nat.le_of_eq g39.symm))
    have sz_b39 : h0.size ≤ b39 := Nat.le_trans K35.1 (Nat.le_of_eq g39.symm)
    have n0_b39 : n0 ≤ b39 := Nat.le_trans Z0 sz_b39
    have K39 := K35.ext E39
    have V_b39 : Arv Z h39 b39 k39 .byte (1 : Int32) [(.int (0 : Int32))] (.int (0 : Int32)) := V39
    show own_R p e below s _ _ _ T39 (mkF m 46 #[.val (.int p0), .val (.int p1), .val (.int p2), .val (.int p3), .val (.int p4), .val (.int (1 : Int32)), .val (.ref b27), .unset, .unset, .unset, .unset] [(.ref b39)])
    refine own_astore X39 hx (hb hby at_46) rfl (l' := #[.val (.int p0), .val (.int p1), .val (.int p2), .val (.int p3), .val (.int p4), .val (.int (1 : Int32)), .val (.ref b27), .val (.ref b39), .unset, .unset, .unset]) rfl ?_
    refine own_iload X39 hx (hb hby at_48) rfl ?_
    refine own_if X39 hx (hb hby at_50) (pc' := 61) (by decide) (by decide) (fun hc => ?_) (fun hc => ?_)
    · have hc50 : ¬ (0 : Int32) < (1 : Int32) := own_le1 hc
      exact absurd (by decide) hc50
    · have hc50 : (0 : Int32) < (1 : Int32) := own_le0 hc
      clear hc
      show own_R p e below s _ _ _ T39 (mkF m 53 #[.val (.int p0), .val (.int p1), .val (.int p2), .val (.int p3), .val (.int p4), .val (.int (1 : Int32)), .val (.ref b27), .val (.ref b39), .unset, .unset, .unset] [])
      refine own_aload X39 hx (hb hby at_53) rfl rfl ?_
      refine own_iconst X39 hx (0 : Int32) (hb hby at_55) rfl ?_
      refine own_aload X39 hx (hb hby at_56) rfl rfl ?_
      refine own_iconst X39 hx (0 : Int32) (hb hby at_58) rfl ?_
      have f40 := (V_b27_35.ext E39)
      refine own_baload X39 hx hZ e39 f40 (v := .int x0) ⟨by decide, by decide⟩ rfl (hb hby at_59) ?_
      show own_R p e below s _ _ _ T39 (mkF m 60 #[.val (.int p0), .val (.int p1), .val (.int p2), .val (.int p3), .val (.int p4), .val (.int (1 : Int32)), .val (.ref b27), .val (.ref b39), .unset, .unset, .unset] [(.int x0), (.int (0 : Int32)), (.ref b39)])
      refine own_bastore X39 hx hZ e39 V_b39 (x' := x0) (pl_nn hx0) ⟨by decide, by decide⟩ 0 rfl (Nat.le_of_ble_eq_true rfl) (hb hby at_60) ?_
      intro T41 h41 X41 e41 W41 V41
      have K41 := K39.wr W41 (Or.inr sz_b39)
      have N41 := Fr.snoc X41 N35 n0_b39
      have V_b39_41 : Arv Z h41 b39 k39 .byte (1 : Int32) [(.int x0)] (.int (0 : Int32)) := V41
      show own_R p e below s _ _ _ T41 (mkF m 61 #[.val (.int p0), .val (.int p1), .val (.int p2), .val (.int p3), .val (.int p4), .val (.int (1 : Int32)), .val (.ref b27), .val (.ref b39), .unset, .unset, .unset] [])
      refine own_iload X41 hx (hb hby at_61) rfl ?_
      refine own_iconst X41 hx (1 : Int32) (hb hby at_63) rfl ?_
      refine own_icmp X41 hx (hb hby at_64) (pc' := 75) (by decide) (by decide) (fun hc => ?_) (fun hc => ?_)
      · have hc64 : ¬ (1 : Int32) < (1 : Int32) := own_le1 hc
        clear hc
        show own_R p e below s _ _ _ T41 (mkF m 75 #[.val (.int p0), .val (.int p1), .val (.int p2), .val (.int p3), .val (.int p4), .val (.int (1 : Int32)), .val (.ref b27), .val (.ref b39), .unset, .unset, .unset] [])
        refine own_iload X41 hx (hb hby at_75) rfl ?_
        refine own_iconst X41 hx (2 : Int32) (hb hby at_77) rfl ?_
        refine own_icmp X41 hx (hb hby at_78) (pc' := 89) (by decide) (by decide) (fun hc => ?_) (fun hc => ?_)
        · have hc78 : ¬ (2 : Int32) < (1 : Int32) := own_le1 hc
          clear hc
          show own_R p e below s _ _ _ T41 (mkF m 89 #[.val (.int p0), .val (.int p1), .val (.int p2), .val (.int p3), .val (.int p4), .val (.int (1 : Int32)), .val (.ref b27), .val (.ref b39), .unset, .unset, .unset] [])
          refine own_iload X41 hx (hb hby at_89) rfl ?_
          refine own_iconst X41 hx (3 : Int32) (hb hby at_91) rfl ?_
          refine own_icmp X41 hx (hb hby at_92) (pc' := 103) (by decide) (by decide) (fun hc => ?_) (fun hc => ?_)
          · have hc92 : ¬ (3 : Int32) < (1 : Int32) := own_le1 hc
            clear hc
            show own_R p e below s _ _ _ T41 (mkF m 103 #[.val (.int p0), .val (.int p1), .val (.int p2), .val (.int p3), .val (.int p4), .val (.int (1 : Int32)), .val (.ref b27), .val (.ref b39), .unset, .unset, .unset] [])
            refine own_aload X41 hx (hb hby at_103) rfl rfl ?_
            have f42 := (Exa.wr W41 A39)
            refine own_callS X41 hx hZ (y := (⟨"com/example/fach/fach/io/KeyBytes", "afterAllWith", "([B)[B"⟩ : MethodName)) hown (hw _ (List.mem_of_getElem? (i := 6) rfl)) (hw _ (List.mem_of_getElem? (i := 7) rfl)) (hw _ (List.mem_of_getElem? (i := 8) rfl)) (hw _ (List.mem_of_getElem? (i := 9) rfl)) (by decide) (rm2_1 l Z a0 hw [] b39 k39 x0 h41 n0 (Nat.le_trans Z0 K41.1) V_b39_41 f42) 0 (by decide) (by decide) e41 (by rw [hml]; rfl) [(.ref b39)] [] rfl (lenOf pd_3 rfl) rfl (Nat.le_of_eq rfl) (hb hby at_105) (by decide) (by decide) ?_
            rintro T43 _ L43 X43 ⟨r43, rfl, N43q, Kc43, hr43⟩
            have N43 := Fr.app N41 N43q
            have K43 := K41.trans Kc43 all0
            rcases hr43 with ⟨y0, br, kr, rfl, Vr⟩ | ⟨y0, rfl⟩
            ·
              show own_R p e below s _ _ _ T43 (mkF m 108 #[.val (.int p0), .val (.int p1), .val (.int p2), .val (.int p3), .val (.int p4), .val (.int (1 : Int32)), .val (.ref b27), .val (.ref b39), .unset, .unset, .unset] [(.ref br)])
              refine own_astore X43 hx (hb hby at_108) rfl (l' := #[.val (.int p0), .val (.int p1), .val (.int p2), .val (.int p3), .val (.int p4), .val (.int (1 : Int32)), .val (.ref b27), .val (.ref b39), .val (.ref br), .unset, .unset]) rfl ?_
              refine own_aload X43 hx (hb hby at_110) rfl rfl ?_
              have f44 := (V_b39_41.keep Kc43 nin0)
              refine own_len X43 hx hZ rfl f44 (hb hby at_112) ?_
              show own_R p e below s _ _ _ T43 (mkF m 113 #[.val (.int p0), .val (.int p1), .val (.int p2), .val (.int p3), .val (.int p4), .val (.int (1 : Int32)), .val (.ref b27), .val (.ref b39), .val (.ref br), .unset, .unset] [(.int (1 : Int32))])
              refine own_iload X43 hx (hb hby at_113) rfl ?_
              refine own_icmp X43 hx (hb hby at_115) (pc' := 122) (by decide) (by decide) (fun hc => ?_) (fun hc => ?_)
              · have hc115 : ¬ (1 : Int32) = (1 : Int32) := own_ne1 hc
                exact absurd (by decide) hc115
              · have hc115 : (1 : Int32) = (1 : Int32) := own_ne0 hc
                clear hc
                show own_R p e below s _ _ _ T43 (mkF m 118 #[.val (.int p0), .val (.int p1), .val (.int p2), .val (.int p3), .val (.int p4), .val (.int (1 : Int32)), .val (.ref b27), .val (.ref b39), .val (.ref br), .unset, .unset] [])
                refine own_iconst X43 hx (1 : Int32) (hb hby at_118) rfl ?_
                refine own_goto X43 hx (hb hby at_119) (pc' := 123) (by decide) (by decide) ?_
                show own_R p e below s _ _ _ T43 (mkF m 123 #[.val (.int p0), .val (.int p1), .val (.int p2), .val (.int p3), .val (.int p4), .val (.int (1 : Int32)), .val (.ref b27), .val (.ref b39), .val (.ref br), .unset, .unset] [(.int (1 : Int32))])
                refine own_istore X43 hx (hb hby at_123) (l' := #[.val (.int p0), .val (.int p1), .val (.int p2), .val (.int p3), .val (.int p4), .val (.int (1 : Int32)), .val (.ref b27), .val (.ref b39), .val (.ref br), .val (.int (1 : Int32)), .unset]) rfl ?_
                refine own_iload X43 hx (hb hby at_125) rfl ?_
                refine own_if X43 hx (hb hby at_127) (pc' := 153) (by decide) (by decide) (fun hc => ?_) (fun hc => ?_)
                · have hc127 : ¬ (0 : Int32) < (1 : Int32) := own_le1 hc
                  exact absurd (by decide) hc127
                · have hc127 : (0 : Int32) < (1 : Int32) := own_le0 hc
                  clear hc
                  show own_R p e below s _ _ _ T43 (mkF m 130 #[.val (.int p0), .val (.int p1), .val (.int p2), .val (.int p3), .val (.int p4), .val (.int (1 : Int32)), .val (.ref b27), .val (.ref b39), .val (.ref br), .val (.int (1 : Int32)), .unset] [])
                  refine own_iload X43 hx (hb hby at_130) rfl ?_
                  refine own_if X43 hx (hb hby at_132) (pc' := 150) (by decide) (by decide) (fun hc => ?_) (fun hc => ?_)
                  · have hc132 : (1 : Int32) = (0 : Int32) := own_eq1 hc
                    exact absurd hc132 (by decide)
                  · have hc132 : ¬ (1 : Int32) = (0 : Int32) := own_eq0 hc
                    clear hc
                    show own_R p e below s _ _ _ T43 (mkF m 135 #[.val (.int p0), .val (.int p1), .val (.int p2), .val (.int p3), .val (.int p4), .val (.int (1 : Int32)), .val (.ref b27), .val (.ref b39), .val (.ref br), .val (.int (1 : Int32)), .unset] [])
                    refine own_aload X43 hx (hb hby at_135) rfl rfl ?_
                    refine own_iconst X43 hx (0 : Int32) (hb hby at_137) rfl ?_
                    refine own_baload X43 hx hZ rfl f44 (v := .int x0) ⟨by decide, by decide⟩ rfl (hb hby at_138) ?_
                    show own_R p e below s _ _ _ T43 (mkF m 139 #[.val (.int p0), .val (.int p1), .val (.int p2), .val (.int p3), .val (.int p4), .val (.int (1 : Int32)), .val (.ref b27), .val (.ref b39), .val (.ref br), .val (.int (1 : Int32)), .unset] [(.int x0)])
                    refine own_aload X43 hx (hb hby at_139) rfl rfl ?_
                    refine own_iconst X43 hx (0 : Int32) (hb hby at_141) rfl ?_
                    have f45 := ((f40.other W41 ne_b27_b39).keep Kc43 nin0)
                    refine own_baload X43 hx hZ rfl f45 (v := .int x0) ⟨by decide, by decide⟩ rfl (hb hby at_142) ?_
                    show own_R p e below s _ _ _ T43 (mkF m 143 #[.val (.int p0), .val (.int p1), .val (.int p2), .val (.int p3), .val (.int p4), .val (.int (1 : Int32)), .val (.ref b27), .val (.ref b39), .val (.ref br), .val (.int (1 : Int32)), .unset] [(.int x0), (.int x0)])
                    refine own_icmp X43 hx (hb hby at_143) (pc' := 150) (by decide) (by decide) (fun hc => ?_) (fun hc => ?_)
                    · have hc143 : ¬ x0 = x0 := own_ne1 hc
                      exact absurd rfl hc143
                    · have hc143 : x0 = x0 := own_ne0 hc
                      clear hc
                      show own_R p e below s _ _ _ T43 (mkF m 146 #[.val (.int p0), .val (.int p1), .val (.int p2), .val (.int p3), .val (.int p4), .val (.int (1 : Int32)), .val (.ref b27), .val (.ref b39), .val (.ref br), .val (.int (1 : Int32)), .unset] [])
                      refine own_iconst X43 hx (1 : Int32) (hb hby at_146) rfl ?_
                      refine own_goto X43 hx (hb hby at_147) (pc' := 151) (by decide) (by decide) ?_
                      show own_R p e below s _ _ _ T43 (mkF m 151 #[.val (.int p0), .val (.int p1), .val (.int p2), .val (.int p3), .val (.int p4), .val (.int (1 : Int32)), .val (.ref b27), .val (.ref b39), .val (.ref br), .val (.int (1 : Int32)), .unset] [(.int (1 : Int32))])
                      refine own_istore X43 hx (hb hby at_151) (l' := #[.val (.int p0), .val (.int p1), .val (.int p2), .val (.int p3), .val (.int p4), .val (.int (1 : Int32)), .val (.ref b27), .val (.ref b39), .val (.ref br), .val (.int (1 : Int32)), .unset]) rfl ?_
                      refine own_iload X43 hx (hb hby at_153) rfl ?_
                      refine own_iconst X43 hx (1 : Int32) (hb hby at_155) rfl ?_
                      refine own_icmp X43 hx (hb hby at_156) (pc' := 182) (by decide) (by decide) (fun hc => ?_) (fun hc => ?_)
                      · have hc156 : ¬ (1 : Int32) < (1 : Int32) := own_le1 hc
                        clear hc
                        show own_R p e below s _ _ _ T43 (mkF m 182 #[.val (.int p0), .val (.int p1), .val (.int p2), .val (.int p3), .val (.int p4), .val (.int (1 : Int32)), .val (.ref b27), .val (.ref b39), .val (.ref br), .val (.int (1 : Int32)), .unset] [])
                        refine own_iload X43 hx (hb hby at_182) rfl ?_
                        refine own_iconst X43 hx (2 : Int32) (hb hby at_184) rfl ?_
                        refine own_icmp X43 hx (hb hby at_185) (pc' := 211) (by decide) (by decide) (fun hc => ?_) (fun hc => ?_)
                        · have hc185 : ¬ (2 : Int32) < (1 : Int32) := own_le1 hc
                          clear hc
                          show own_R p e below s _ _ _ T43 (mkF m 211 #[.val (.int p0), .val (.int p1), .val (.int p2), .val (.int p3), .val (.int p4), .val (.int (1 : Int32)), .val (.ref b27), .val (.ref b39), .val (.ref br), .val (.int (1 : Int32)), .unset] [])
                          refine own_iload X43 hx (hb hby at_211) rfl ?_
                          refine own_iconst X43 hx (3 : Int32) (hb hby at_213) rfl ?_
                          refine own_icmp X43 hx (hb hby at_214) (pc' := 240) (by decide) (by decide) (fun hc => ?_) (fun hc => ?_)
                          · have hc214 : ¬ (3 : Int32) < (1 : Int32) := own_le1 hc
                            clear hc
                            show own_R p e below s _ _ _ T43 (mkF m 240 #[.val (.int p0), .val (.int p1), .val (.int p2), .val (.int p3), .val (.int p4), .val (.int (1 : Int32)), .val (.ref b27), .val (.ref b39), .val (.ref br), .val (.int (1 : Int32)), .unset] [])
                            refine own_iconst X43 hx (0 : Int32) (hb hby at_240) rfl ?_
                            refine own_istore X43 hx (hb hby at_241) (l' := #[.val (.int p0), .val (.int p1), .val (.int p2), .val (.int p3), .val (.int p4), .val (.int (1 : Int32)), .val (.ref b27), .val (.ref b39), .val (.ref br), .val (.int (1 : Int32)), .val (.int (0 : Int32))]) rfl ?_
                            refine own_iload X43 hx (hb hby at_243) rfl ?_
                            refine own_if X43 hx (hb hby at_245) (pc' := 259) (by decide) (by decide) (fun hc => ?_) (fun hc => ?_)
                            · have hc245 : ¬ (0 : Int32) < (1 : Int32) := own_le1 hc
                              exact absurd (by decide) hc245
                            · have hc245 : (0 : Int32) < (1 : Int32) := own_le0 hc
                              clear hc
                              show own_R p e below s _ _ _ T43 (mkF m 248 #[.val (.int p0), .val (.int p1), .val (.int p2), .val (.int p3), .val (.int p4), .val (.int (1 : Int32)), .val (.ref b27), .val (.ref b39), .val (.ref br), .val (.int (1 : Int32)), .val (.int (0 : Int32))] [])
                              refine own_aload X43 hx (hb hby at_248) rfl rfl ?_
                              refine own_iconst X43 hx (0 : Int32) (hb hby at_250) rfl ?_
                              refine own_baload X43 hx hZ rfl f45 (v := .int x0) ⟨by decide, by decide⟩ rfl (hb hby at_251) ?_
                              show own_R p e below s _ _ _ T43 (mkF m 252 #[.val (.int p0), .val (.int p1), .val (.int p2), .val (.int p3), .val (.int p4), .val (.int (1 : Int32)), .val (.ref b27), .val (.ref b39), .val (.ref br), .val (.int (1 : Int32)), .val (.int (0 : Int32))] [(.int x0)])
                              refine own_iconst X43 hx (-1 : Int32) (hb hby at_252) rfl ?_
                              refine own_icmp X43 hx (hb hby at_253) (pc' := 259) (by decide) (by decide) (fun hc => ?_) (fun hc => ?_)
                              · have hc253 : x0 = (-1 : Int32) := own_eq1 hc
                                exact absurd hc253 y0
                              · have hc253 : ¬ x0 = (-1 : Int32) := own_eq0 hc
                                clear hc
                                show own_R p e below s _ _ _ T43 (mkF m 256 #[.val (.int p0), .val (.int p1), .val (.int p2), .val (.int p3), .val (.int p4), .val (.int (1 : Int32)), .val (.ref b27), .val (.ref b39), .val (.ref br), .val (.int (1 : Int32)), .val (.int (0 : Int32))] [])
                                refine own_iconst X43 hx (1 : Int32) (hb hby at_256) rfl ?_
                                refine own_istore X43 hx (hb hby at_257) (l' := #[.val (.int p0), .val (.int p1), .val (.int p2), .val (.int p3), .val (.int p4), .val (.int (1 : Int32)), .val (.ref b27), .val (.ref b39), .val (.ref br), .val (.int (1 : Int32)), .val (.int (1 : Int32))]) rfl ?_
                                refine own_iload X43 hx (hb hby at_259) rfl ?_
                                refine own_iconst X43 hx (1 : Int32) (hb hby at_261) rfl ?_
                                refine own_icmp X43 hx (hb hby at_262) (pc' := 276) (by decide) (by decide) (fun hc => ?_) (fun hc => ?_)
                                · have hc262 : ¬ (1 : Int32) < (1 : Int32) := own_le1 hc
                                  clear hc
                                  show own_R p e below s _ _ _ T43 (mkF m 276 #[.val (.int p0), .val (.int p1), .val (.int p2), .val (.int p3), .val (.int p4), .val (.int (1 : Int32)), .val (.ref b27), .val (.ref b39), .val (.ref br), .val (.int (1 : Int32)), .val (.int (1 : Int32))] [])
                                  refine own_iload X43 hx (hb hby at_276) rfl ?_
                                  refine own_iconst X43 hx (2 : Int32) (hb hby at_278) rfl ?_
                                  refine own_icmp X43 hx (hb hby at_279) (pc' := 293) (by decide) (by decide) (fun hc => ?_) (fun hc => ?_)
                                  · have hc279 : ¬ (2 : Int32) < (1 : Int32) := own_le1 hc
                                    clear hc
                                    show own_R p e below s _ _ _ T43 (mkF m 293 #[.val (.int p0), .val (.int p1), .val (.int p2), .val (.int p3), .val (.int p4), .val (.int (1 : Int32)), .val (.ref b27), .val (.ref b39), .val (.ref br), .val (.int (1 : Int32)), .val (.int (1 : Int32))] [])
                                    refine own_iload X43 hx (hb hby at_293) rfl ?_
                                    refine own_iconst X43 hx (3 : Int32) (hb hby at_295) rfl ?_
                                    refine own_icmp X43 hx (hb hby at_296) (pc' := 310) (by decide) (by decide) (fun hc => ?_) (fun hc => ?_)
                                    · have hc296 : ¬ (3 : Int32) < (1 : Int32) := own_le1 hc
                                      clear hc
                                      show own_R p e below s _ _ _ T43 (mkF m 310 #[.val (.int p0), .val (.int p1), .val (.int p2), .val (.int p3), .val (.int p4), .val (.int (1 : Int32)), .val (.ref b27), .val (.ref b39), .val (.ref br), .val (.int (1 : Int32)), .val (.int (1 : Int32))] [])
                                      refine own_iload X43 hx (hb hby at_310) rfl ?_
                                      refine own_if X43 hx (hb hby at_312) (pc' := 331) (by decide) (by decide) (fun hc => ?_) (fun hc => ?_)
                                      · have hc312 : ¬ (1 : Int32) = (0 : Int32) := own_ne1 hc
                                        clear hc
                                        show own_R p e below s _ _ _ T43 (mkF m 331 #[.val (.int p0), .val (.int p1), .val (.int p2), .val (.int p3), .val (.int p4), .val (.int (1 : Int32)), .val (.ref b27), .val (.ref b39), .val (.ref br), .val (.int (1 : Int32)), .val (.int (1 : Int32))] [])
                                        refine own_aload X43 hx (hb hby at_331) rfl rfl ?_
                                        refine own_ifnullN X43 hx (hb hby at_333) ?_
                                        show own_R p e below s _ _ _ T43 (mkF m 336 #[.val (.int p0), .val (.int p1), .val (.int p2), .val (.int p3), .val (.int p4), .val (.int (1 : Int32)), .val (.ref b27), .val (.ref b39), .val (.ref br), .val (.int (1 : Int32)), .val (.int (1 : Int32))] [])
                                        refine own_aload X43 hx (hb hby at_336) rfl rfl ?_
                                        refine own_len X43 hx hZ rfl Vr (hb hby at_338) ?_
                                        show own_R p e below s _ _ _ T43 (mkF m 339 #[.val (.int p0), .val (.int p1), .val (.int p2), .val (.int p3), .val (.int p4), .val (.int (1 : Int32)), .val (.ref b27), .val (.ref b39), .val (.ref br), .val (.int (1 : Int32)), .val (.int (1 : Int32))] [(.int (1 : Int32))])
                                        refine own_iload X43 hx (hb hby at_339) rfl ?_
                                        refine own_icmp X43 hx (hb hby at_341) (pc' := 346) (by decide) (by decide) (fun hc => ?_) (fun hc => ?_)
                                        · have hc341 : (1 : Int32) = (1 : Int32) := own_eq1 hc
                                          clear hc
                                          show own_R p e below s _ _ _ T43 (mkF m 346 #[.val (.int p0), .val (.int p1), .val (.int p2), .val (.int p3), .val (.int p4), .val (.int (1 : Int32)), .val (.ref b27), .val (.ref b39), .val (.ref br), .val (.int (1 : Int32)), .val (.int (1 : Int32))] [])
                                          refine own_iload X43 hx (hb hby at_346) rfl ?_
                                          refine own_iconst X43 hx (1 : Int32) (hb hby at_348) rfl ?_
                                          refine own_icmp X43 hx (hb hby at_349) (pc' := 375) (by decide) (by decide) (fun hc => ?_) (fun hc => ?_)
                                          · have hc349 : ¬ (1 : Int32) < (1 : Int32) := own_le1 hc
                                            clear hc
                                            show own_R p e below s _ _ _ T43 (mkF m 375 #[.val (.int p0), .val (.int p1), .val (.int p2), .val (.int p3), .val (.int p4), .val (.int (1 : Int32)), .val (.ref b27), .val (.ref b39), .val (.ref br), .val (.int (1 : Int32)), .val (.int (1 : Int32))] [])
                                            refine own_iload X43 hx (hb hby at_375) rfl ?_
                                            refine own_iconst X43 hx (2 : Int32) (hb hby at_377) rfl ?_
                                            refine own_icmp X43 hx (hb hby at_378) (pc' := 404) (by decide) (by decide) (fun hc => ?_) (fun hc => ?_)
                                            · have hc378 : ¬ (2 : Int32) < (1 : Int32) := own_le1 hc
                                              clear hc
                                              show own_R p e below s _ _ _ T43 (mkF m 404 #[.val (.int p0), .val (.int p1), .val (.int p2), .val (.int p3), .val (.int p4), .val (.int (1 : Int32)), .val (.ref b27), .val (.ref b39), .val (.ref br), .val (.int (1 : Int32)), .val (.int (1 : Int32))] [])
                                              refine own_iload X43 hx (hb hby at_404) rfl ?_
                                              refine own_iconst X43 hx (3 : Int32) (hb hby at_406) rfl ?_
                                              refine own_icmp X43 hx (hb hby at_407) (pc' := 433) (by decide) (by decide) (fun hc => ?_) (fun hc => ?_)
                                              · have hc407 : ¬ (3 : Int32) < (1 : Int32) := own_le1 hc
                                                clear hc
                                                show own_R p e below s _ _ _ T43 (mkF m 433 #[.val (.int p0), .val (.int p1), .val (.int p2), .val (.int p3), .val (.int p4), .val (.int (1 : Int32)), .val (.ref b27), .val (.ref b39), .val (.ref br), .val (.int (1 : Int32)), .val (.int (1 : Int32))] [])
                                                refine own_iload X43 hx (hb hby at_433) rfl ?_
                                                refine own_if X43 hx (hb hby at_435) (pc' := 462) (by decide) (by decide) (fun hc => ?_) (fun hc => ?_)
                                                · have hc435 : (1 : Int32) = (0 : Int32) := own_eq1 hc
                                                  exact absurd hc435 (by decide)
                                                · have hc435 : ¬ (1 : Int32) = (0 : Int32) := own_eq0 hc
                                                  clear hc
                                                  show own_R p e below s _ _ _ T43 (mkF m 438 #[.val (.int p0), .val (.int p1), .val (.int p2), .val (.int p3), .val (.int p4), .val (.int (1 : Int32)), .val (.ref b27), .val (.ref b39), .val (.ref br), .val (.int (1 : Int32)), .val (.int (1 : Int32))] [])
                                                  refine own_aload X43 hx (hb hby at_438) rfl rfl ?_
                                                  refine own_iload X43 hx (hb hby at_440) rfl ?_
                                                  refine own_iconst X43 hx (1 : Int32) (hb hby at_442) rfl ?_
                                                  refine own_isub X43 hx (hb hby at_443) ?_
                                                  refine own_baload X43 hx hZ rfl Vr (v := .int ((x0 + (1 : Int32)).toInt8.toInt32)) ⟨by decide, by decide⟩ rfl (hb hby at_444) ?_
                                                  show own_R p e below s _ _ _ T43 (mkF m 445 #[.val (.int p0), .val (.int p1), .val (.int p2), .val (.int p3), .val (.int p4), .val (.int (1 : Int32)), .val (.ref b27), .val (.ref b39), .val (.ref br), .val (.int (1 : Int32)), .val (.int (1 : Int32))] [(.int ((x0 + (1 : Int32)).toInt8.toInt32))])
                                                  refine own_aload X43 hx (hb hby at_445) rfl rfl ?_
                                                  refine own_iload X43 hx (hb hby at_447) rfl ?_
                                                  refine own_iconst X43 hx (1 : Int32) (hb hby at_449) rfl ?_
                                                  refine own_isub X43 hx (hb hby at_450) ?_
                                                  refine own_baload X43 hx hZ rfl f45 (v := .int x0) ⟨by decide, by decide⟩ rfl (hb hby at_451) ?_
                                                  show own_R p e below s _ _ _ T43 (mkF m 452 #[.val (.int p0), .val (.int p1), .val (.int p2), .val (.int p3), .val (.int p4), .val (.int (1 : Int32)), .val (.ref b27), .val (.ref b39), .val (.ref br), .val (.int (1 : Int32)), .val (.int (1 : Int32))] [(.int x0), (.int ((x0 + (1 : Int32)).toInt8.toInt32))])
                                                  refine own_iconst X43 hx (1 : Int32) (hb hby at_452) rfl ?_
                                                  refine own_iadd X43 hx (hb hby at_453) ?_
                                                  refine own_i2b X43 hx (hb hby at_454) ?_
                                                  refine own_icmp X43 hx (hb hby at_455) (pc' := 462) (by decide) (by decide) (fun hc => ?_) (fun hc => ?_)
                                                  · have hc455 : ¬ ((x0 + (1 : Int32)).toInt8.toInt32) = ((x0 + (1 : Int32)).toInt8.toInt32) := own_ne1 hc
                                                    exact absurd rfl hc455
                                                  · have hc455 : ((x0 + (1 : Int32)).toInt8.toInt32) = ((x0 + (1 : Int32)).toInt8.toInt32) := own_ne0 hc
                                                    clear hc
                                                    show own_R p e below s _ _ _ T43 (mkF m 458 #[.val (.int p0), .val (.int p1), .val (.int p2), .val (.int p3), .val (.int p4), .val (.int (1 : Int32)), .val (.ref b27), .val (.ref b39), .val (.ref br), .val (.int (1 : Int32)), .val (.int (1 : Int32))] [])
                                                    refine own_iconst X43 hx (1 : Int32) (hb hby at_458) rfl ?_
                                                    refine own_goto X43 hx (hb hby at_459) (pc' := 463) (by decide) (by decide) ?_
                                                    show own_R p e below s _ _ _ T43 (mkF m 463 #[.val (.int p0), .val (.int p1), .val (.int p2), .val (.int p3), .val (.int p4), .val (.int (1 : Int32)), .val (.ref b27), .val (.ref b39), .val (.ref br), .val (.int (1 : Int32)), .val (.int (1 : Int32))] [(.int (1 : Int32))])
                                                    refine own_istore X43 hx (hb hby at_463) (l' := #[.val (.int p0), .val (.int p1), .val (.int p2), .val (.int p3), .val (.int p4), .val (.int (1 : Int32)), .val (.ref b27), .val (.ref b39), .val (.ref br), .val (.int (1 : Int32)), .val (.int (1 : Int32))]) rfl ?_
                                                    refine own_iload X43 hx (hb hby at_465) rfl ?_
                                                    refine own_retN X43 hx (t := .boolean) Bd.returns (by simp) hlk (hb hby at_467) ?_ (by decide) (by decide)
                                                    exact ⟨rfl, N43⟩
                                              · have hc407 : (3 : Int32) < (1 : Int32) := own_le0 hc
                                                exact absurd hc407 (by decide)
                                            · have hc378 : (2 : Int32) < (1 : Int32) := own_le0 hc
                                              exact absurd hc378 (by decide)
                                          · have hc349 : (1 : Int32) < (1 : Int32) := own_le0 hc
                                            exact absurd hc349 (by decide)
                                        · have hc341 : ¬ (1 : Int32) = (1 : Int32) := own_eq0 hc
                                          exact absurd (by decide) hc341
                                      · have hc312 : (1 : Int32) = (0 : Int32) := own_ne0 hc
                                        exact absurd hc312 (by decide)
                                    · have hc296 : (3 : Int32) < (1 : Int32) := own_le0 hc
                                      exact absurd hc296 (by decide)
                                  · have hc279 : (2 : Int32) < (1 : Int32) := own_le0 hc
                                    exact absurd hc279 (by decide)
                                · have hc262 : (1 : Int32) < (1 : Int32) := own_le0 hc
                                  exact absurd hc262 (by decide)
                          · have hc214 : (3 : Int32) < (1 : Int32) := own_le0 hc
                            exact absurd hc214 (by decide)
                        · have hc185 : (2 : Int32) < (1 : Int32) := own_le0 hc
                          exact absurd hc185 (by decide)
                      · have hc156 : (1 : Int32) < (1 : Int32) := own_le0 hc
                        exact absurd hc156 (by decide)
            ·
              show own_R p e below s _ _ _ T43 (mkF m 108 #[.val (.int p0), .val (.int p1), .val (.int p2), .val (.int p3), .val (.int p4), .val (.int (1 : Int32)), .val (.ref b27), .val (.ref b39), .unset, .unset, .unset] [.null])
              refine own_astore X43 hx (hb hby at_108) rfl (l' := #[.val (.int p0), .val (.int p1), .val (.int p2), .val (.int p3), .val (.int p4), .val (.int (1 : Int32)), .val (.ref b27), .val (.ref b39), .val .null, .unset, .unset]) rfl ?_
              refine own_aload X43 hx (hb hby at_110) rfl rfl ?_
              have f46 := (V_b39_41.keep Kc43 nin0)
              refine own_len X43 hx hZ rfl f46 (hb hby at_112) ?_
              show own_R p e below s _ _ _ T43 (mkF m 113 #[.val (.int p0), .val (.int p1), .val (.int p2), .val (.int p3), .val (.int p4), .val (.int (1 : Int32)), .val (.ref b27), .val (.ref b39), .val .null, .unset, .unset] [(.int (1 : Int32))])
              refine own_iload X43 hx (hb hby at_113) rfl ?_
              refine own_icmp X43 hx (hb hby at_115) (pc' := 122) (by decide) (by decide) (fun hc => ?_) (fun hc => ?_)
              · have hc115 : ¬ (1 : Int32) = (1 : Int32) := own_ne1 hc
                exact absurd (by decide) hc115
              · have hc115 : (1 : Int32) = (1 : Int32) := own_ne0 hc
                clear hc
                show own_R p e below s _ _ _ T43 (mkF m 118 #[.val (.int p0), .val (.int p1), .val (.int p2), .val (.int p3), .val (.int p4), .val (.int (1 : Int32)), .val (.ref b27), .val (.ref b39), .val .null, .unset, .unset] [])
                refine own_iconst X43 hx (1 : Int32) (hb hby at_118) rfl ?_
                refine own_goto X43 hx (hb hby at_119) (pc' := 123) (by decide) (by decide) ?_
                show own_R p e below s _ _ _ T43 (mkF m 123 #[.val (.int p0), .val (.int p1), .val (.int p2), .val (.int p3), .val (.int p4), .val (.int (1 : Int32)), .val (.ref b27), .val (.ref b39), .val .null, .unset, .unset] [(.int (1 : Int32))])
                refine own_istore X43 hx (hb hby at_123) (l' := #[.val (.int p0), .val (.int p1), .val (.int p2), .val (.int p3), .val (.int p4), .val (.int (1 : Int32)), .val (.ref b27), .val (.ref b39), .val .null, .val (.int (1 : Int32)), .unset]) rfl ?_
                refine own_iload X43 hx (hb hby at_125) rfl ?_
                refine own_if X43 hx (hb hby at_127) (pc' := 153) (by decide) (by decide) (fun hc => ?_) (fun hc => ?_)
                · have hc127 : ¬ (0 : Int32) < (1 : Int32) := own_le1 hc
                  exact absurd (by decide) hc127
                · have hc127 : (0 : Int32) < (1 : Int32) := own_le0 hc
                  clear hc
                  show own_R p e below s _ _ _ T43 (mkF m 130 #[.val (.int p0), .val (.int p1), .val (.int p2), .val (.int p3), .val (.int p4), .val (.int (1 : Int32)), .val (.ref b27), .val (.ref b39), .val .null, .val (.int (1 : Int32)), .unset] [])
                  refine own_iload X43 hx (hb hby at_130) rfl ?_
                  refine own_if X43 hx (hb hby at_132) (pc' := 150) (by decide) (by decide) (fun hc => ?_) (fun hc => ?_)
                  · have hc132 : (1 : Int32) = (0 : Int32) := own_eq1 hc
                    exact absurd hc132 (by decide)
                  · have hc132 : ¬ (1 : Int32) = (0 : Int32) := own_eq0 hc
                    clear hc
                    show own_R p e below s _ _ _ T43 (mkF m 135 #[.val (.int p0), .val (.int p1), .val (.int p2), .val (.int p3), .val (.int p4), .val (.int (1 : Int32)), .val (.ref b27), .val (.ref b39), .val .null, .val (.int (1 : Int32)), .unset] [])
                    refine own_aload X43 hx (hb hby at_135) rfl rfl ?_
                    refine own_iconst X43 hx (0 : Int32) (hb hby at_137) rfl ?_
                    refine own_baload X43 hx hZ rfl f46 (v := .int x0) ⟨by decide, by decide⟩ rfl (hb hby at_138) ?_
                    show own_R p e below s _ _ _ T43 (mkF m 139 #[.val (.int p0), .val (.int p1), .val (.int p2), .val (.int p3), .val (.int p4), .val (.int (1 : Int32)), .val (.ref b27), .val (.ref b39), .val .null, .val (.int (1 : Int32)), .unset] [(.int x0)])
                    refine own_aload X43 hx (hb hby at_139) rfl rfl ?_
                    refine own_iconst X43 hx (0 : Int32) (hb hby at_141) rfl ?_
                    have f47 := ((f40.other W41 ne_b27_b39).keep Kc43 nin0)
                    refine own_baload X43 hx hZ rfl f47 (v := .int x0) ⟨by decide, by decide⟩ rfl (hb hby at_142) ?_
                    show own_R p e below s _ _ _ T43 (mkF m 143 #[.val (.int p0), .val (.int p1), .val (.int p2), .val (.int p3), .val (.int p4), .val (.int (1 : Int32)), .val (.ref b27), .val (.ref b39), .val .null, .val (.int (1 : Int32)), .unset] [(.int x0), (.int x0)])
                    refine own_icmp X43 hx (hb hby at_143) (pc' := 150) (by decide) (by decide) (fun hc => ?_) (fun hc => ?_)
                    · have hc143 : ¬ x0 = x0 := own_ne1 hc
                      exact absurd rfl hc143
                    · have hc143 : x0 = x0 := own_ne0 hc
                      clear hc
                      show own_R p e below s _ _ _ T43 (mkF m 146 #[.val (.int p0), .val (.int p1), .val (.int p2), .val (.int p3), .val (.int p4), .val (.int (1 : Int32)), .val (.ref b27), .val (.ref b39), .val .null, .val (.int (1 : Int32)), .unset] [])
                      refine own_iconst X43 hx (1 : Int32) (hb hby at_146) rfl ?_
                      refine own_goto X43 hx (hb hby at_147) (pc' := 151) (by decide) (by decide) ?_
                      show own_R p e below s _ _ _ T43 (mkF m 151 #[.val (.int p0), .val (.int p1), .val (.int p2), .val (.int p3), .val (.int p4), .val (.int (1 : Int32)), .val (.ref b27), .val (.ref b39), .val .null, .val (.int (1 : Int32)), .unset] [(.int (1 : Int32))])
                      refine own_istore X43 hx (hb hby at_151) (l' := #[.val (.int p0), .val (.int p1), .val (.int p2), .val (.int p3), .val (.int p4), .val (.int (1 : Int32)), .val (.ref b27), .val (.ref b39), .val .null, .val (.int (1 : Int32)), .unset]) rfl ?_
                      refine own_iload X43 hx (hb hby at_153) rfl ?_
                      refine own_iconst X43 hx (1 : Int32) (hb hby at_155) rfl ?_
                      refine own_icmp X43 hx (hb hby at_156) (pc' := 182) (by decide) (by decide) (fun hc => ?_) (fun hc => ?_)
                      · have hc156 : ¬ (1 : Int32) < (1 : Int32) := own_le1 hc
                        clear hc
                        show own_R p e below s _ _ _ T43 (mkF m 182 #[.val (.int p0), .val (.int p1), .val (.int p2), .val (.int p3), .val (.int p4), .val (.int (1 : Int32)), .val (.ref b27), .val (.ref b39), .val .null, .val (.int (1 : Int32)), .unset] [])
                        refine own_iload X43 hx (hb hby at_182) rfl ?_
                        refine own_iconst X43 hx (2 : Int32) (hb hby at_184) rfl ?_
                        refine own_icmp X43 hx (hb hby at_185) (pc' := 211) (by decide) (by decide) (fun hc => ?_) (fun hc => ?_)
                        · have hc185 : ¬ (2 : Int32) < (1 : Int32) := own_le1 hc
                          clear hc
                          show own_R p e below s _ _ _ T43 (mkF m 211 #[.val (.int p0), .val (.int p1), .val (.int p2), .val (.int p3), .val (.int p4), .val (.int (1 : Int32)), .val (.ref b27), .val (.ref b39), .val .null, .val (.int (1 : Int32)), .unset] [])
                          refine own_iload X43 hx (hb hby at_211) rfl ?_
                          refine own_iconst X43 hx (3 : Int32) (hb hby at_213) rfl ?_
                          refine own_icmp X43 hx (hb hby at_214) (pc' := 240) (by decide) (by decide) (fun hc => ?_) (fun hc => ?_)
                          · have hc214 : ¬ (3 : Int32) < (1 : Int32) := own_le1 hc
                            clear hc
                            show own_R p e below s _ _ _ T43 (mkF m 240 #[.val (.int p0), .val (.int p1), .val (.int p2), .val (.int p3), .val (.int p4), .val (.int (1 : Int32)), .val (.ref b27), .val (.ref b39), .val .null, .val (.int (1 : Int32)), .unset] [])
                            refine own_iconst X43 hx (0 : Int32) (hb hby at_240) rfl ?_
                            refine own_istore X43 hx (hb hby at_241) (l' := #[.val (.int p0), .val (.int p1), .val (.int p2), .val (.int p3), .val (.int p4), .val (.int (1 : Int32)), .val (.ref b27), .val (.ref b39), .val .null, .val (.int (1 : Int32)), .val (.int (0 : Int32))]) rfl ?_
                            refine own_iload X43 hx (hb hby at_243) rfl ?_
                            refine own_if X43 hx (hb hby at_245) (pc' := 259) (by decide) (by decide) (fun hc => ?_) (fun hc => ?_)
                            · have hc245 : ¬ (0 : Int32) < (1 : Int32) := own_le1 hc
                              exact absurd (by decide) hc245
                            · have hc245 : (0 : Int32) < (1 : Int32) := own_le0 hc
                              clear hc
                              show own_R p e below s _ _ _ T43 (mkF m 248 #[.val (.int p0), .val (.int p1), .val (.int p2), .val (.int p3), .val (.int p4), .val (.int (1 : Int32)), .val (.ref b27), .val (.ref b39), .val .null, .val (.int (1 : Int32)), .val (.int (0 : Int32))] [])
                              refine own_aload X43 hx (hb hby at_248) rfl rfl ?_
                              refine own_iconst X43 hx (0 : Int32) (hb hby at_250) rfl ?_
                              refine own_baload X43 hx hZ rfl f47 (v := .int x0) ⟨by decide, by decide⟩ rfl (hb hby at_251) ?_
                              show own_R p e below s _ _ _ T43 (mkF m 252 #[.val (.int p0), .val (.int p1), .val (.int p2), .val (.int p3), .val (.int p4), .val (.int (1 : Int32)), .val (.ref b27), .val (.ref b39), .val .null, .val (.int (1 : Int32)), .val (.int (0 : Int32))] [(.int x0)])
                              refine own_iconst X43 hx (-1 : Int32) (hb hby at_252) rfl ?_
                              refine own_icmp X43 hx (hb hby at_253) (pc' := 259) (by decide) (by decide) (fun hc => ?_) (fun hc => ?_)
                              · have hc253 : x0 = (-1 : Int32) := own_eq1 hc
                                clear hc
                                show own_R p e below s _ _ _ T43 (mkF m 259 #[.val (.int p0), .val (.int p1), .val (.int p2), .val (.int p3), .val (.int p4), .val (.int (1 : Int32)), .val (.ref b27), .val (.ref b39), .val .null, .val (.int (1 : Int32)), .val (.int (0 : Int32))] [])
                                refine own_iload X43 hx (hb hby at_259) rfl ?_
                                refine own_iconst X43 hx (1 : Int32) (hb hby at_261) rfl ?_
                                refine own_icmp X43 hx (hb hby at_262) (pc' := 276) (by decide) (by decide) (fun hc => ?_) (fun hc => ?_)
                                · have hc262 : ¬ (1 : Int32) < (1 : Int32) := own_le1 hc
                                  clear hc
                                  show own_R p e below s _ _ _ T43 (mkF m 276 #[.val (.int p0), .val (.int p1), .val (.int p2), .val (.int p3), .val (.int p4), .val (.int (1 : Int32)), .val (.ref b27), .val (.ref b39), .val .null, .val (.int (1 : Int32)), .val (.int (0 : Int32))] [])
                                  refine own_iload X43 hx (hb hby at_276) rfl ?_
                                  refine own_iconst X43 hx (2 : Int32) (hb hby at_278) rfl ?_
                                  refine own_icmp X43 hx (hb hby at_279) (pc' := 293) (by decide) (by decide) (fun hc => ?_) (fun hc => ?_)
                                  · have hc279 : ¬ (2 : Int32) < (1 : Int32) := own_le1 hc
                                    clear hc
                                    show own_R p e below s _ _ _ T43 (mkF m 293 #[.val (.int p0), .val (.int p1), .val (.int p2), .val (.int p3), .val (.int p4), .val (.int (1 : Int32)), .val (.ref b27), .val (.ref b39), .val .null, .val (.int (1 : Int32)), .val (.int (0 : Int32))] [])
                                    refine own_iload X43 hx (hb hby at_293) rfl ?_
                                    refine own_iconst X43 hx (3 : Int32) (hb hby at_295) rfl ?_
                                    refine own_icmp X43 hx (hb hby at_296) (pc' := 310) (by decide) (by decide) (fun hc => ?_) (fun hc => ?_)
                                    · have hc296 : ¬ (3 : Int32) < (1 : Int32) := own_le1 hc
                                      clear hc
                                      show own_R p e below s _ _ _ T43 (mkF m 310 #[.val (.int p0), .val (.int p1), .val (.int p2), .val (.int p3), .val (.int p4), .val (.int (1 : Int32)), .val (.ref b27), .val (.ref b39), .val .null, .val (.int (1 : Int32)), .val (.int (0 : Int32))] [])
                                      refine own_iload X43 hx (hb hby at_310) rfl ?_
                                      refine own_if X43 hx (hb hby at_312) (pc' := 331) (by decide) (by decide) (fun hc => ?_) (fun hc => ?_)
                                      · have hc312 : ¬ (0 : Int32) = (0 : Int32) := own_ne1 hc
                                        exact absurd (by decide) hc312
                                      · have hc312 : (0 : Int32) = (0 : Int32) := own_ne0 hc
                                        clear hc
                                        show own_R p e below s _ _ _ T43 (mkF m 315 #[.val (.int p0), .val (.int p1), .val (.int p2), .val (.int p3), .val (.int p4), .val (.int (1 : Int32)), .val (.ref b27), .val (.ref b39), .val .null, .val (.int (1 : Int32)), .val (.int (0 : Int32))] [])
                                        refine own_iload X43 hx (hb hby at_315) rfl ?_
                                        refine own_if X43 hx (hb hby at_317) (pc' := 329) (by decide) (by decide) (fun hc => ?_) (fun hc => ?_)
                                        · have hc317 : (1 : Int32) = (0 : Int32) := own_eq1 hc
                                          exact absurd hc317 (by decide)
                                        · have hc317 : ¬ (1 : Int32) = (0 : Int32) := own_eq0 hc
                                          clear hc
                                          show own_R p e below s _ _ _ T43 (mkF m 320 #[.val (.int p0), .val (.int p1), .val (.int p2), .val (.int p3), .val (.int p4), .val (.int (1 : Int32)), .val (.ref b27), .val (.ref b39), .val .null, .val (.int (1 : Int32)), .val (.int (0 : Int32))] [])
                                          refine own_aload X43 hx (hb hby at_320) rfl rfl ?_
                                          refine own_ifnonnullN X43 hx (hb hby at_322) ?_
                                          show own_R p e below s _ _ _ T43 (mkF m 325 #[.val (.int p0), .val (.int p1), .val (.int p2), .val (.int p3), .val (.int p4), .val (.int (1 : Int32)), .val (.ref b27), .val (.ref b39), .val .null, .val (.int (1 : Int32)), .val (.int (0 : Int32))] [])
                                          refine own_iconst X43 hx (1 : Int32) (hb hby at_325) rfl ?_
                                          refine own_goto X43 hx (hb hby at_326) (pc' := 330) (by decide) (by decide) ?_
                                          show own_R p e below s _ _ _ T43 (mkF m 330 #[.val (.int p0), .val (.int p1), .val (.int p2), .val (.int p3), .val (.int p4), .val (.int (1 : Int32)), .val (.ref b27), .val (.ref b39), .val .null, .val (.int (1 : Int32)), .val (.int (0 : Int32))] [(.int (1 : Int32))])
                                          refine own_retN X43 hx (t := .boolean) Bd.returns (by simp) hlk (hb hby at_330) ?_ (by decide) (by decide)
                                          exact ⟨rfl, N43⟩
                                    · have hc296 : (3 : Int32) < (1 : Int32) := own_le0 hc
                                      exact absurd hc296 (by decide)
                                  · have hc279 : (2 : Int32) < (1 : Int32) := own_le0 hc
                                    exact absurd hc279 (by decide)
                                · have hc262 : (1 : Int32) < (1 : Int32) := own_le0 hc
                                  exact absurd hc262 (by decide)
                              · have hc253 : ¬ x0 = (-1 : Int32) := own_eq0 hc
                                exact absurd y0 hc253
                          · have hc214 : (3 : Int32) < (1 : Int32) := own_le0 hc
                            exact absurd hc214 (by decide)
                        · have hc185 : (2 : Int32) < (1 : Int32) := own_le0 hc
                          exact absurd hc185 (by decide)
                      · have hc156 : (1 : Int32) < (1 : Int32) := own_le0 hc
                        exact absurd hc156 (by decide)
          · have hc92 : (3 : Int32) < (1 : Int32) := own_le0 hc
            exact absurd hc92 (by decide)
        · have hc78 : (2 : Int32) < (1 : Int32) := own_le0 hc
          exact absurd hc78 (by decide)
      · have hc64 : (1 : Int32) < (1 : Int32) := own_le0 hc
        exact absurd hc64 (by decide)
  ·
    show own_R p e below s _ _ _ T35 (mkF m 42 #[.val (.int p0), .val (.int p1), .val (.int p2), .val (.int p3), .val (.int p4), .val (.int (2 : Int32)), .val (.ref b27), .unset, .unset, .unset, .unset] [])
    refine own_iload X35 hx (hb hby at_42) rfl ?_
    refine own_newA X35 hx hZ (hw _ (List.mem_of_getElem? (i := 1) rfl)) e35 (hb hby at_44) (by decide) 2 (by decide) (by decide) (by decide) (by decide) (ad := "[B") (by decide) 2 ?_
    intro T48 h48 b48 k48 g48 X48 e48 E48 V48 A48
    have ne_b27_b48 : b27 ≠ b48 := Nat.ne_of_lt (Nat.lt_of_lt_of_le V_b27_35.lt (Nat.le_of_eq g48.symm))
    have sz_b48 : h0.size ≤ b48 := Nat.le_trans K35.1 (Nat.le_of_eq g48.symm)
    have n0_b48 : n0 ≤ b48 := Nat.le_trans Z0 sz_b48
    have K48 := K35.ext E48
    have V_b48 : Arv Z h48 b48 k48 .byte (2 : Int32) [(.int (0 : Int32)), (.int (0 : Int32))] (.int (0 : Int32)) := V48
    show own_R p e below s _ _ _ T48 (mkF m 46 #[.val (.int p0), .val (.int p1), .val (.int p2), .val (.int p3), .val (.int p4), .val (.int (2 : Int32)), .val (.ref b27), .unset, .unset, .unset, .unset] [(.ref b48)])
    refine own_astore X48 hx (hb hby at_46) rfl (l' := #[.val (.int p0), .val (.int p1), .val (.int p2), .val (.int p3), .val (.int p4), .val (.int (2 : Int32)), .val (.ref b27), .val (.ref b48), .unset, .unset, .unset]) rfl ?_
    refine own_iload X48 hx (hb hby at_48) rfl ?_
    refine own_if X48 hx (hb hby at_50) (pc' := 61) (by decide) (by decide) (fun hc => ?_) (fun hc => ?_)
    · have hc50 : ¬ (0 : Int32) < (2 : Int32) := own_le1 hc
      exact absurd (by decide) hc50
    · have hc50 : (0 : Int32) < (2 : Int32) := own_le0 hc
      clear hc
      show own_R p e below s _ _ _ T48 (mkF m 53 #[.val (.int p0), .val (.int p1), .val (.int p2), .val (.int p3), .val (.int p4), .val (.int (2 : Int32)), .val (.ref b27), .val (.ref b48), .unset, .unset, .unset] [])
      refine own_aload X48 hx (hb hby at_53) rfl rfl ?_
      refine own_iconst X48 hx (0 : Int32) (hb hby at_55) rfl ?_
      refine own_aload X48 hx (hb hby at_56) rfl rfl ?_
      refine own_iconst X48 hx (0 : Int32) (hb hby at_58) rfl ?_
      have f49 := (V_b27_35.ext E48)
      refine own_baload X48 hx hZ e48 f49 (v := .int x0) ⟨by decide, by decide⟩ rfl (hb hby at_59) ?_
      show own_R p e below s _ _ _ T48 (mkF m 60 #[.val (.int p0), .val (.int p1), .val (.int p2), .val (.int p3), .val (.int p4), .val (.int (2 : Int32)), .val (.ref b27), .val (.ref b48), .unset, .unset, .unset] [(.int x0), (.int (0 : Int32)), (.ref b48)])
      refine own_bastore X48 hx hZ e48 V_b48 (x' := x0) (pl_nn hx0) ⟨by decide, by decide⟩ 0 rfl (Nat.le_of_ble_eq_true rfl) (hb hby at_60) ?_
      intro T50 h50 X50 e50 W50 V50
      have K50 := K48.wr W50 (Or.inr sz_b48)
      have N50 := Fr.snoc X50 N35 n0_b48
      have V_b48_50 : Arv Z h50 b48 k48 .byte (2 : Int32) [(.int x0), (.int (0 : Int32))] (.int (0 : Int32)) := V50
      show own_R p e below s _ _ _ T50 (mkF m 61 #[.val (.int p0), .val (.int p1), .val (.int p2), .val (.int p3), .val (.int p4), .val (.int (2 : Int32)), .val (.ref b27), .val (.ref b48), .unset, .unset, .unset] [])
      refine own_iload X50 hx (hb hby at_61) rfl ?_
      refine own_iconst X50 hx (1 : Int32) (hb hby at_63) rfl ?_
      refine own_icmp X50 hx (hb hby at_64) (pc' := 75) (by decide) (by decide) (fun hc => ?_) (fun hc => ?_)
      · have hc64 : ¬ (1 : Int32) < (2 : Int32) := own_le1 hc
        exact absurd (by decide) hc64
      · have hc64 : (1 : Int32) < (2 : Int32) := own_le0 hc
        clear hc
        show own_R p e below s _ _ _ T50 (mkF m 67 #[.val (.int p0), .val (.int p1), .val (.int p2), .val (.int p3), .val (.int p4), .val (.int (2 : Int32)), .val (.ref b27), .val (.ref b48), .unset, .unset, .unset] [])
        refine own_aload X50 hx (hb hby at_67) rfl rfl ?_
        refine own_iconst X50 hx (1 : Int32) (hb hby at_69) rfl ?_
        refine own_aload X50 hx (hb hby at_70) rfl rfl ?_
        refine own_iconst X50 hx (1 : Int32) (hb hby at_72) rfl ?_
        have f51 := (f49.other W50 ne_b27_b48)
        refine own_baload X50 hx hZ e50 f51 (v := .int x1) ⟨by decide, by decide⟩ rfl (hb hby at_73) ?_
        show own_R p e below s _ _ _ T50 (mkF m 74 #[.val (.int p0), .val (.int p1), .val (.int p2), .val (.int p3), .val (.int p4), .val (.int (2 : Int32)), .val (.ref b27), .val (.ref b48), .unset, .unset, .unset] [(.int x1), (.int (1 : Int32)), (.ref b48)])
        refine own_bastore X50 hx hZ e50 V_b48_50 (x' := x1) (pl_nn hx1) ⟨by decide, by decide⟩ 1 rfl (Nat.le_of_ble_eq_true rfl) (hb hby at_74) ?_
        intro T52 h52 X52 e52 W52 V52
        have K52 := K50.wr W52 (Or.inr sz_b48)
        have N52 := Fr.snoc X52 N50 n0_b48
        have V_b48_52 : Arv Z h52 b48 k48 .byte (2 : Int32) [(.int x0), (.int x1)] (.int (0 : Int32)) := V52
        show own_R p e below s _ _ _ T52 (mkF m 75 #[.val (.int p0), .val (.int p1), .val (.int p2), .val (.int p3), .val (.int p4), .val (.int (2 : Int32)), .val (.ref b27), .val (.ref b48), .unset, .unset, .unset] [])
        refine own_iload X52 hx (hb hby at_75) rfl ?_
        refine own_iconst X52 hx (2 : Int32) (hb hby at_77) rfl ?_
        refine own_icmp X52 hx (hb hby at_78) (pc' := 89) (by decide) (by decide) (fun hc => ?_) (fun hc => ?_)
        · have hc78 : ¬ (2 : Int32) < (2 : Int32) := own_le1 hc
          clear hc
          show own_R p e below s _ _ _ T52 (mkF m 89 #[.val (.int p0), .val (.int p1), .val (.int p2), .val (.int p3), .val (.int p4), .val (.int (2 : Int32)), .val (.ref b27), .val (.ref b48), .unset, .unset, .unset] [])
          refine own_iload X52 hx (hb hby at_89) rfl ?_
          refine own_iconst X52 hx (3 : Int32) (hb hby at_91) rfl ?_
          refine own_icmp X52 hx (hb hby at_92) (pc' := 103) (by decide) (by decide) (fun hc => ?_) (fun hc => ?_)
          · have hc92 : ¬ (3 : Int32) < (2 : Int32) := own_le1 hc
            clear hc
            show own_R p e below s _ _ _ T52 (mkF m 103 #[.val (.int p0), .val (.int p1), .val (.int p2), .val (.int p3), .val (.int p4), .val (.int (2 : Int32)), .val (.ref b27), .val (.ref b48), .unset, .unset, .unset] [])
            refine own_aload X52 hx (hb hby at_103) rfl rfl ?_
            have f53 := (Exa.wr W52 (Exa.wr W50 A48))
            refine own_callS X52 hx hZ (y := (⟨"com/example/fach/fach/io/KeyBytes", "afterAllWith", "([B)[B"⟩ : MethodName)) hown (hw _ (List.mem_of_getElem? (i := 6) rfl)) (hw _ (List.mem_of_getElem? (i := 7) rfl)) (hw _ (List.mem_of_getElem? (i := 8) rfl)) (hw _ (List.mem_of_getElem? (i := 9) rfl)) (by decide) (rm2_2 l Z a0 hw [] b48 k48 x0 x1 h52 n0 (Nat.le_trans Z0 K52.1) V_b48_52 f53) 0 (by decide) (by decide) e52 (by rw [hml]; rfl) [(.ref b48)] [] rfl (lenOf pd_3 rfl) rfl (Nat.le_of_eq rfl) (hb hby at_105) (by decide) (by decide) ?_
            rintro T54 _ L54 X54 ⟨r54, rfl, N54q, Kc54, hr54⟩
            have N54 := Fr.app N52 N54q
            have K54 := K52.trans Kc54 all0
            rcases hr54 with ⟨y1, br, kr, rfl, Vr⟩ | ⟨y1, y0, br, kr, rfl, Vr⟩ | ⟨y1, y0, rfl⟩
            ·
              show own_R p e below s _ _ _ T54 (mkF m 108 #[.val (.int p0), .val (.int p1), .val (.int p2), .val (.int p3), .val (.int p4), .val (.int (2 : Int32)), .val (.ref b27), .val (.ref b48), .unset, .unset, .unset] [(.ref br)])
              refine own_astore X54 hx (hb hby at_108) rfl (l' := #[.val (.int p0), .val (.int p1), .val (.int p2), .val (.int p3), .val (.int p4), .val (.int (2 : Int32)), .val (.ref b27), .val (.ref b48), .val (.ref br), .unset, .unset]) rfl ?_
              refine own_aload X54 hx (hb hby at_110) rfl rfl ?_
              have f55 := (V_b48_52.keep Kc54 nin0)
              refine own_len X54 hx hZ rfl f55 (hb hby at_112) ?_
              show own_R p e below s _ _ _ T54 (mkF m 113 #[.val (.int p0), .val (.int p1), .val (.int p2), .val (.int p3), .val (.int p4), .val (.int (2 : Int32)), .val (.ref b27), .val (.ref b48), .val (.ref br), .unset, .unset] [(.int (2 : Int32))])
              refine own_iload X54 hx (hb hby at_113) rfl ?_
              refine own_icmp X54 hx (hb hby at_115) (pc' := 122) (by decide) (by decide) (fun hc => ?_) (fun hc => ?_)
              · have hc115 : ¬ (2 : Int32) = (2 : Int32) := own_ne1 hc
                exact absurd (by decide) hc115
              · have hc115 : (2 : Int32) = (2 : Int32) := own_ne0 hc
                clear hc
                show own_R p e below s _ _ _ T54 (mkF m 118 #[.val (.int p0), .val (.int p1), .val (.int p2), .val (.int p3), .val (.int p4), .val (.int (2 : Int32)), .val (.ref b27), .val (.ref b48), .val (.ref br), .unset, .unset] [])
                refine own_iconst X54 hx (1 : Int32) (hb hby at_118) rfl ?_
                refine own_goto X54 hx (hb hby at_119) (pc' := 123) (by decide) (by decide) ?_
                show own_R p e below s _ _ _ T54 (mkF m 123 #[.val (.int p0), .val (.int p1), .val (.int p2), .val (.int p3), .val (.int p4), .val (.int (2 : Int32)), .val (.ref b27), .val (.ref b48), .val (.ref br), .unset, .unset] [(.int (1 : Int32))])
                refine own_istore X54 hx (hb hby at_123) (l' := #[.val (.int p0), .val (.int p1), .val (.int p2), .val (.int p3), .val (.int p4), .val (.int (2 : Int32)), .val (.ref b27), .val (.ref b48), .val (.ref br), .val (.int (1 : Int32)), .unset]) rfl ?_
                refine own_iload X54 hx (hb hby at_125) rfl ?_
                refine own_if X54 hx (hb hby at_127) (pc' := 153) (by decide) (by decide) (fun hc => ?_) (fun hc => ?_)
                · have hc127 : ¬ (0 : Int32) < (2 : Int32) := own_le1 hc
                  exact absurd (by decide) hc127
                · have hc127 : (0 : Int32) < (2 : Int32) := own_le0 hc
                  clear hc
                  show own_R p e below s _ _ _ T54 (mkF m 130 #[.val (.int p0), .val (.int p1), .val (.int p2), .val (.int p3), .val (.int p4), .val (.int (2 : Int32)), .val (.ref b27), .val (.ref b48), .val (.ref br), .val (.int (1 : Int32)), .unset] [])
                  refine own_iload X54 hx (hb hby at_130) rfl ?_
                  refine own_if X54 hx (hb hby at_132) (pc' := 150) (by decide) (by decide) (fun hc => ?_) (fun hc => ?_)
                  · have hc132 : (1 : Int32) = (0 : Int32) := own_eq1 hc
                    exact absurd hc132 (by decide)
                  · have hc132 : ¬ (1 : Int32) = (0 : Int32) := own_eq0 hc
                    clear hc
                    show own_R p e below s _ _ _ T54 (mkF m 135 #[.val (.int p0), .val (.int p1), .val (.int p2), .val (.int p3), .val (.int p4), .val (.int (2 : Int32)), .val (.ref b27), .val (.ref b48), .val (.ref br), .val (.int (1 : Int32)), .unset] [])
                    refine own_aload X54 hx (hb hby at_135) rfl rfl ?_
                    refine own_iconst X54 hx (0 : Int32) (hb hby at_137) rfl ?_
                    refine own_baload X54 hx hZ rfl f55 (v := .int x0) ⟨by decide, by decide⟩ rfl (hb hby at_138) ?_
                    show own_R p e below s _ _ _ T54 (mkF m 139 #[.val (.int p0), .val (.int p1), .val (.int p2), .val (.int p3), .val (.int p4), .val (.int (2 : Int32)), .val (.ref b27), .val (.ref b48), .val (.ref br), .val (.int (1 : Int32)), .unset] [(.int x0)])
                    refine own_aload X54 hx (hb hby at_139) rfl rfl ?_
                    refine own_iconst X54 hx (0 : Int32) (hb hby at_141) rfl ?_
                    have f56 := ((f51.other W52 ne_b27_b48).keep Kc54 nin0)
                    refine own_baload X54 hx hZ rfl f56 (v := .int x0) ⟨by decide, by decide⟩ rfl (hb hby at_142) ?_
                    show own_R p e below s _ _ _ T54 (mkF m 143 #[.val (.int p0), .val (.int p1), .val (.int p2), .val (.int p3), .val (.int p4), .val (.int (2 : Int32)), .val (.ref b27), .val (.ref b48), .val (.ref br), .val (.int (1 : Int32)), .unset] [(.int x0), (.int x0)])
                    refine own_icmp X54 hx (hb hby at_143) (pc' := 150) (by decide) (by decide) (fun hc => ?_) (fun hc => ?_)
                    · have hc143 : ¬ x0 = x0 := own_ne1 hc
                      exact absurd rfl hc143
                    · have hc143 : x0 = x0 := own_ne0 hc
                      clear hc
                      show own_R p e below s _ _ _ T54 (mkF m 146 #[.val (.int p0), .val (.int p1), .val (.int p2), .val (.int p3), .val (.int p4), .val (.int (2 : Int32)), .val (.ref b27), .val (.ref b48), .val (.ref br), .val (.int (1 : Int32)), .unset] [])
                      refine own_iconst X54 hx (1 : Int32) (hb hby at_146) rfl ?_
                      refine own_goto X54 hx (hb hby at_147) (pc' := 151) (by decide) (by decide) ?_
                      show own_R p e below s _ _ _ T54 (mkF m 151 #[.val (.int p0), .val (.int p1), .val (.int p2), .val (.int p3), .val (.int p4), .val (.int (2 : Int32)), .val (.ref b27), .val (.ref b48), .val (.ref br), .val (.int (1 : Int32)), .unset] [(.int (1 : Int32))])
                      refine own_istore X54 hx (hb hby at_151) (l' := #[.val (.int p0), .val (.int p1), .val (.int p2), .val (.int p3), .val (.int p4), .val (.int (2 : Int32)), .val (.ref b27), .val (.ref b48), .val (.ref br), .val (.int (1 : Int32)), .unset]) rfl ?_
                      refine own_iload X54 hx (hb hby at_153) rfl ?_
                      refine own_iconst X54 hx (1 : Int32) (hb hby at_155) rfl ?_
                      refine own_icmp X54 hx (hb hby at_156) (pc' := 182) (by decide) (by decide) (fun hc => ?_) (fun hc => ?_)
                      · have hc156 : ¬ (1 : Int32) < (2 : Int32) := own_le1 hc
                        exact absurd (by decide) hc156
                      · have hc156 : (1 : Int32) < (2 : Int32) := own_le0 hc
                        clear hc
                        show own_R p e below s _ _ _ T54 (mkF m 159 #[.val (.int p0), .val (.int p1), .val (.int p2), .val (.int p3), .val (.int p4), .val (.int (2 : Int32)), .val (.ref b27), .val (.ref b48), .val (.ref br), .val (.int (1 : Int32)), .unset] [])
                        refine own_iload X54 hx (hb hby at_159) rfl ?_
                        refine own_if X54 hx (hb hby at_161) (pc' := 179) (by decide) (by decide) (fun hc => ?_) (fun hc => ?_)
                        · have hc161 : (1 : Int32) = (0 : Int32) := own_eq1 hc
                          exact absurd hc161 (by decide)
                        · have hc161 : ¬ (1 : Int32) = (0 : Int32) := own_eq0 hc
                          clear hc
                          show own_R p e below s _ _ _ T54 (mkF m 164 #[.val (.int p0), .val (.int p1), .val (.int p2), .val (.int p3), .val (.int p4), .val (.int (2 : Int32)), .val (.ref b27), .val (.ref b48), .val (.ref br), .val (.int (1 : Int32)), .unset] [])
                          refine own_aload X54 hx (hb hby at_164) rfl rfl ?_
                          refine own_iconst X54 hx (1 : Int32) (hb hby at_166) rfl ?_
                          refine own_baload X54 hx hZ rfl f55 (v := .int x1) ⟨by decide, by decide⟩ rfl (hb hby at_167) ?_
                          show own_R p e below s _ _ _ T54 (mkF m 168 #[.val (.int p0), .val (.int p1), .val (.int p2), .val (.int p3), .val (.int p4), .val (.int (2 : Int32)), .val (.ref b27), .val (.ref b48), .val (.ref br), .val (.int (1 : Int32)), .unset] [(.int x1)])
                          refine own_aload X54 hx (hb hby at_168) rfl rfl ?_
                          refine own_iconst X54 hx (1 : Int32) (hb hby at_170) rfl ?_
                          refine own_baload X54 hx hZ rfl f56 (v := .int x1) ⟨by decide, by decide⟩ rfl (hb hby at_171) ?_
                          show own_R p e below s _ _ _ T54 (mkF m 172 #[.val (.int p0), .val (.int p1), .val (.int p2), .val (.int p3), .val (.int p4), .val (.int (2 : Int32)), .val (.ref b27), .val (.ref b48), .val (.ref br), .val (.int (1 : Int32)), .unset] [(.int x1), (.int x1)])
                          refine own_icmp X54 hx (hb hby at_172) (pc' := 179) (by decide) (by decide) (fun hc => ?_) (fun hc => ?_)
                          · have hc172 : ¬ x1 = x1 := own_ne1 hc
                            exact absurd rfl hc172
                          · have hc172 : x1 = x1 := own_ne0 hc
                            clear hc
                            show own_R p e below s _ _ _ T54 (mkF m 175 #[.val (.int p0), .val (.int p1), .val (.int p2), .val (.int p3), .val (.int p4), .val (.int (2 : Int32)), .val (.ref b27), .val (.ref b48), .val (.ref br), .val (.int (1 : Int32)), .unset] [])
                            refine own_iconst X54 hx (1 : Int32) (hb hby at_175) rfl ?_
                            refine own_goto X54 hx (hb hby at_176) (pc' := 180) (by decide) (by decide) ?_
                            show own_R p e below s _ _ _ T54 (mkF m 180 #[.val (.int p0), .val (.int p1), .val (.int p2), .val (.int p3), .val (.int p4), .val (.int (2 : Int32)), .val (.ref b27), .val (.ref b48), .val (.ref br), .val (.int (1 : Int32)), .unset] [(.int (1 : Int32))])
                            refine own_istore X54 hx (hb hby at_180) (l' := #[.val (.int p0), .val (.int p1), .val (.int p2), .val (.int p3), .val (.int p4), .val (.int (2 : Int32)), .val (.ref b27), .val (.ref b48), .val (.ref br), .val (.int (1 : Int32)), .unset]) rfl ?_
                            refine own_iload X54 hx (hb hby at_182) rfl ?_
                            refine own_iconst X54 hx (2 : Int32) (hb hby at_184) rfl ?_
                            refine own_icmp X54 hx (hb hby at_185) (pc' := 211) (by decide) (by decide) (fun hc => ?_) (fun hc => ?_)
                            · have hc185 : ¬ (2 : Int32) < (2 : Int32) := own_le1 hc
                              clear hc
                              show own_R p e below s _ _ _ T54 (mkF m 211 #[.val (.int p0), .val (.int p1), .val (.int p2), .val (.int p3), .val (.int p4), .val (.int (2 : Int32)), .val (.ref b27), .val (.ref b48), .val (.ref br), .val (.int (1 : Int32)), .unset] [])
                              refine own_iload X54 hx (hb hby at_211) rfl ?_
                              refine own_iconst X54 hx (3 : Int32) (hb hby at_213) rfl ?_
                              refine own_icmp X54 hx (hb hby at_214) (pc' := 240) (by decide) (by decide) (fun hc => ?_) (fun hc => ?_)
                              · have hc214 : ¬ (3 : Int32) < (2 : Int32) := own_le1 hc
                                clear hc
                                show own_R p e below s _ _ _ T54 (mkF m 240 #[.val (.int p0), .val (.int p1), .val (.int p2), .val (.int p3), .val (.int p4), .val (.int (2 : Int32)), .val (.ref b27), .val (.ref b48), .val (.ref br), .val (.int (1 : Int32)), .unset] [])
                                refine own_iconst X54 hx (0 : Int32) (hb hby at_240) rfl ?_
                                refine own_istore X54 hx (hb hby at_241) (l' := #[.val (.int p0), .val (.int p1), .val (.int p2), .val (.int p3), .val (.int p4), .val (.int (2 : Int32)), .val (.ref b27), .val (.ref b48), .val (.ref br), .val (.int (1 : Int32)), .val (.int (0 : Int32))]) rfl ?_
                                refine own_iload X54 hx (hb hby at_243) rfl ?_
                                have Jk0 : ∀ (kk : Int32), own_R p e below s (Q0 Z p0 p1 p2 p3 p4 h0 n0) room_1.cells room_1.slots T54 (mkF m 259 #[.val (.int p0), .val (.int p1), .val (.int p2), .val (.int p3), .val (.int p4), .val (.int (2 : Int32)), .val (.ref b27), .val (.ref b48), .val (.ref br), .val (.int (1 : Int32)), .val (.int kk)] []) := by
                                  intro kk
                                  refine own_iload X54 hx (hb hby at_259) rfl ?_
                                  refine own_iconst X54 hx (1 : Int32) (hb hby at_261) rfl ?_
                                  refine own_icmp X54 hx (hb hby at_262) (pc' := 276) (by decide) (by decide) (fun hc => ?_) (fun hc => ?_)
                                  · have hc262 : ¬ (1 : Int32) < (2 : Int32) := own_le1 hc
                                    exact absurd (by decide) hc262
                                  · have hc262 : (1 : Int32) < (2 : Int32) := own_le0 hc
                                    clear hc
                                    show own_R p e below s _ _ _ T54 (mkF m 265 #[.val (.int p0), .val (.int p1), .val (.int p2), .val (.int p3), .val (.int p4), .val (.int (2 : Int32)), .val (.ref b27), .val (.ref b48), .val (.ref br), .val (.int (1 : Int32)), .val (.int kk)] [])
                                    refine own_aload X54 hx (hb hby at_265) rfl rfl ?_
                                    refine own_iconst X54 hx (1 : Int32) (hb hby at_267) rfl ?_
                                    refine own_baload X54 hx hZ rfl f56 (v := .int x1) ⟨by decide, by decide⟩ rfl (hb hby at_268) ?_
                                    show own_R p e below s _ _ _ T54 (mkF m 269 #[.val (.int p0), .val (.int p1), .val (.int p2), .val (.int p3), .val (.int p4), .val (.int (2 : Int32)), .val (.ref b27), .val (.ref b48), .val (.ref br), .val (.int (1 : Int32)), .val (.int kk)] [(.int x1)])
                                    refine own_iconst X54 hx (-1 : Int32) (hb hby at_269) rfl ?_
                                    refine own_icmp X54 hx (hb hby at_270) (pc' := 276) (by decide) (by decide) (fun hc => ?_) (fun hc => ?_)
                                    · have hc270 : x1 = (-1 : Int32) := own_eq1 hc
                                      exact absurd hc270 y1
                                    · have hc270 : ¬ x1 = (-1 : Int32) := own_eq0 hc
                                      clear hc
                                      show own_R p e below s _ _ _ T54 (mkF m 273 #[.val (.int p0), .val (.int p1), .val (.int p2), .val (.int p3), .val (.int p4), .val (.int (2 : Int32)), .val (.ref b27), .val (.ref b48), .val (.ref br), .val (.int (1 : Int32)), .val (.int kk)] [])
                                      refine own_iconst X54 hx (2 : Int32) (hb hby at_273) rfl ?_
                                      refine own_istore X54 hx (hb hby at_274) (l' := #[.val (.int p0), .val (.int p1), .val (.int p2), .val (.int p3), .val (.int p4), .val (.int (2 : Int32)), .val (.ref b27), .val (.ref b48), .val (.ref br), .val (.int (1 : Int32)), .val (.int (2 : Int32))]) rfl ?_
                                      refine own_iload X54 hx (hb hby at_276) rfl ?_
                                      refine own_iconst X54 hx (2 : Int32) (hb hby at_278) rfl ?_
                                      refine own_icmp X54 hx (hb hby at_279) (pc' := 293) (by decide) (by decide) (fun hc => ?_) (fun hc => ?_)
                                      · have hc279 : ¬ (2 : Int32) < (2 : Int32) := own_le1 hc
                                        clear hc
                                        show own_R p e below s _ _ _ T54 (mkF m 293 #[.val (.int p0), .val (.int p1), .val (.int p2), .val (.int p3), .val (.int p4), .val (.int (2 : Int32)), .val (.ref b27), .val (.ref b48), .val (.ref br), .val (.int (1 : Int32)), .val (.int (2 : Int32))] [])
                                        refine own_iload X54 hx (hb hby at_293) rfl ?_
                                        refine own_iconst X54 hx (3 : Int32) (hb hby at_295) rfl ?_
                                        refine own_icmp X54 hx (hb hby at_296) (pc' := 310) (by decide) (by decide) (fun hc => ?_) (fun hc => ?_)
                                        · have hc296 : ¬ (3 : Int32) < (2 : Int32) := own_le1 hc
                                          clear hc
                                          show own_R p e below s _ _ _ T54 (mkF m 310 #[.val (.int p0), .val (.int p1), .val (.int p2), .val (.int p3), .val (.int p4), .val (.int (2 : Int32)), .val (.ref b27), .val (.ref b48), .val (.ref br), .val (.int (1 : Int32)), .val (.int (2 : Int32))] [])
                                          refine own_iload X54 hx (hb hby at_310) rfl ?_
                                          refine own_if X54 hx (hb hby at_312) (pc' := 331) (by decide) (by decide) (fun hc => ?_) (fun hc => ?_)
                                          · have hc312 : ¬ (2 : Int32) = (0 : Int32) := own_ne1 hc
                                            clear hc
                                            show own_R p e below s _ _ _ T54 (mkF m 331 #[.val (.int p0), .val (.int p1), .val (.int p2), .val (.int p3), .val (.int p4), .val (.int (2 : Int32)), .val (.ref b27), .val (.ref b48), .val (.ref br), .val (.int (1 : Int32)), .val (.int (2 : Int32))] [])
                                            refine own_aload X54 hx (hb hby at_331) rfl rfl ?_
                                            refine own_ifnullN X54 hx (hb hby at_333) ?_
                                            show own_R p e below s _ _ _ T54 (mkF m 336 #[.val (.int p0), .val (.int p1), .val (.int p2), .val (.int p3), .val (.int p4), .val (.int (2 : Int32)), .val (.ref b27), .val (.ref b48), .val (.ref br), .val (.int (1 : Int32)), .val (.int (2 : Int32))] [])
                                            refine own_aload X54 hx (hb hby at_336) rfl rfl ?_
                                            refine own_len X54 hx hZ rfl Vr (hb hby at_338) ?_
                                            show own_R p e below s _ _ _ T54 (mkF m 339 #[.val (.int p0), .val (.int p1), .val (.int p2), .val (.int p3), .val (.int p4), .val (.int (2 : Int32)), .val (.ref b27), .val (.ref b48), .val (.ref br), .val (.int (1 : Int32)), .val (.int (2 : Int32))] [(.int (2 : Int32))])
                                            refine own_iload X54 hx (hb hby at_339) rfl ?_
                                            refine own_icmp X54 hx (hb hby at_341) (pc' := 346) (by decide) (by decide) (fun hc => ?_) (fun hc => ?_)
                                            · have hc341 : (2 : Int32) = (2 : Int32) := own_eq1 hc
                                              clear hc
                                              show own_R p e below s _ _ _ T54 (mkF m 346 #[.val (.int p0), .val (.int p1), .val (.int p2), .val (.int p3), .val (.int p4), .val (.int (2 : Int32)), .val (.ref b27), .val (.ref b48), .val (.ref br), .val (.int (1 : Int32)), .val (.int (2 : Int32))] [])
                                              refine own_iload X54 hx (hb hby at_346) rfl ?_
                                              refine own_iconst X54 hx (1 : Int32) (hb hby at_348) rfl ?_
                                              refine own_icmp X54 hx (hb hby at_349) (pc' := 375) (by decide) (by decide) (fun hc => ?_) (fun hc => ?_)
                                              · have hc349 : ¬ (1 : Int32) < (2 : Int32) := own_le1 hc
                                                exact absurd (by decide) hc349
                                              · have hc349 : (1 : Int32) < (2 : Int32) := own_le0 hc
                                                clear hc
                                                show own_R p e below s _ _ _ T54 (mkF m 352 #[.val (.int p0), .val (.int p1), .val (.int p2), .val (.int p3), .val (.int p4), .val (.int (2 : Int32)), .val (.ref b27), .val (.ref b48), .val (.ref br), .val (.int (1 : Int32)), .val (.int (2 : Int32))] [])
                                                refine own_iload X54 hx (hb hby at_352) rfl ?_
                                                refine own_if X54 hx (hb hby at_354) (pc' := 372) (by decide) (by decide) (fun hc => ?_) (fun hc => ?_)
                                                · have hc354 : (1 : Int32) = (0 : Int32) := own_eq1 hc
                                                  exact absurd hc354 (by decide)
                                                · have hc354 : ¬ (1 : Int32) = (0 : Int32) := own_eq0 hc
                                                  clear hc
                                                  show own_R p e below s _ _ _ T54 (mkF m 357 #[.val (.int p0), .val (.int p1), .val (.int p2), .val (.int p3), .val (.int p4), .val (.int (2 : Int32)), .val (.ref b27), .val (.ref b48), .val (.ref br), .val (.int (1 : Int32)), .val (.int (2 : Int32))] [])
                                                  refine own_aload X54 hx (hb hby at_357) rfl rfl ?_
                                                  refine own_iconst X54 hx (0 : Int32) (hb hby at_359) rfl ?_
                                                  refine own_baload X54 hx hZ rfl Vr (v := .int x0) ⟨by decide, by decide⟩ rfl (hb hby at_360) ?_
                                                  show own_R p e below s _ _ _ T54 (mkF m 361 #[.val (.int p0), .val (.int p1), .val (.int p2), .val (.int p3), .val (.int p4), .val (.int (2 : Int32)), .val (.ref b27), .val (.ref b48), .val (.ref br), .val (.int (1 : Int32)), .val (.int (2 : Int32))] [(.int x0)])
                                                  refine own_aload X54 hx (hb hby at_361) rfl rfl ?_
                                                  refine own_iconst X54 hx (0 : Int32) (hb hby at_363) rfl ?_
                                                  refine own_baload X54 hx hZ rfl f56 (v := .int x0) ⟨by decide, by decide⟩ rfl (hb hby at_364) ?_
                                                  show own_R p e below s _ _ _ T54 (mkF m 365 #[.val (.int p0), .val (.int p1), .val (.int p2), .val (.int p3), .val (.int p4), .val (.int (2 : Int32)), .val (.ref b27), .val (.ref b48), .val (.ref br), .val (.int (1 : Int32)), .val (.int (2 : Int32))] [(.int x0), (.int x0)])
                                                  refine own_icmp X54 hx (hb hby at_365) (pc' := 372) (by decide) (by decide) (fun hc => ?_) (fun hc => ?_)
                                                  · have hc365 : ¬ x0 = x0 := own_ne1 hc
                                                    exact absurd rfl hc365
                                                  · have hc365 : x0 = x0 := own_ne0 hc
                                                    clear hc
                                                    show own_R p e below s _ _ _ T54 (mkF m 368 #[.val (.int p0), .val (.int p1), .val (.int p2), .val (.int p3), .val (.int p4), .val (.int (2 : Int32)), .val (.ref b27), .val (.ref b48), .val (.ref br), .val (.int (1 : Int32)), .val (.int (2 : Int32))] [])
                                                    refine own_iconst X54 hx (1 : Int32) (hb hby at_368) rfl ?_
                                                    refine own_goto X54 hx (hb hby at_369) (pc' := 373) (by decide) (by decide) ?_
                                                    show own_R p e below s _ _ _ T54 (mkF m 373 #[.val (.int p0), .val (.int p1), .val (.int p2), .val (.int p3), .val (.int p4), .val (.int (2 : Int32)), .val (.ref b27), .val (.ref b48), .val (.ref br), .val (.int (1 : Int32)), .val (.int (2 : Int32))] [(.int (1 : Int32))])
                                                    refine own_istore X54 hx (hb hby at_373) (l' := #[.val (.int p0), .val (.int p1), .val (.int p2), .val (.int p3), .val (.int p4), .val (.int (2 : Int32)), .val (.ref b27), .val (.ref b48), .val (.ref br), .val (.int (1 : Int32)), .val (.int (2 : Int32))]) rfl ?_
                                                    refine own_iload X54 hx (hb hby at_375) rfl ?_
                                                    refine own_iconst X54 hx (2 : Int32) (hb hby at_377) rfl ?_
                                                    refine own_icmp X54 hx (hb hby at_378) (pc' := 404) (by decide) (by decide) (fun hc => ?_) (fun hc => ?_)
                                                    · have hc378 : ¬ (2 : Int32) < (2 : Int32) := own_le1 hc
                                                      clear hc
                                                      show own_R p e below s _ _ _ T54 (mkF m 404 #[.val (.int p0), .val (.int p1), .val (.int p2), .val (.int p3), .val (.int p4), .val (.int (2 : Int32)), .val (.ref b27), .val (.ref b48), .val (.ref br), .val (.int (1 : Int32)), .val (.int (2 : Int32))] [])
                                                      refine own_iload X54 hx (hb hby at_404) rfl ?_
                                                      refine own_iconst X54 hx (3 : Int32) (hb hby at_406) rfl ?_
                                                      refine own_icmp X54 hx (hb hby at_407) (pc' := 433) (by decide) (by decide) (fun hc => ?_) (fun hc => ?_)
                                                      · have hc407 : ¬ (3 : Int32) < (2 : Int32) := own_le1 hc
                                                        clear hc
                                                        show own_R p e below s _ _ _ T54 (mkF m 433 #[.val (.int p0), .val (.int p1), .val (.int p2), .val (.int p3), .val (.int p4), .val (.int (2 : Int32)), .val (.ref b27), .val (.ref b48), .val (.ref br), .val (.int (1 : Int32)), .val (.int (2 : Int32))] [])
                                                        refine own_iload X54 hx (hb hby at_433) rfl ?_
                                                        refine own_if X54 hx (hb hby at_435) (pc' := 462) (by decide) (by decide) (fun hc => ?_) (fun hc => ?_)
                                                        · have hc435 : (1 : Int32) = (0 : Int32) := own_eq1 hc
                                                          exact absurd hc435 (by decide)
                                                        · have hc435 : ¬ (1 : Int32) = (0 : Int32) := own_eq0 hc
                                                          clear hc
                                                          show own_R p e below s _ _ _ T54 (mkF m 438 #[.val (.int p0), .val (.int p1), .val (.int p2), .val (.int p3), .val (.int p4), .val (.int (2 : Int32)), .val (.ref b27), .val (.ref b48), .val (.ref br), .val (.int (1 : Int32)), .val (.int (2 : Int32))] [])
                                                          refine own_aload X54 hx (hb hby at_438) rfl rfl ?_
                                                          refine own_iload X54 hx (hb hby at_440) rfl ?_
                                                          refine own_iconst X54 hx (1 : Int32) (hb hby at_442) rfl ?_
                                                          refine own_isub X54 hx (hb hby at_443) ?_
                                                          refine own_baload X54 hx hZ rfl Vr (v := .int ((x1 + (1 : Int32)).toInt8.toInt32)) ⟨by decide, by decide⟩ rfl (hb hby at_444) ?_
                                                          show own_R p e below s _ _ _ T54 (mkF m 445 #[.val (.int p0), .val (.int p1), .val (.int p2), .val (.int p3), .val (.int p4), .val (.int (2 : Int32)), .val (.ref b27), .val (.ref b48), .val (.ref br), .val (.int (1 : Int32)), .val (.int (2 : Int32))] [(.int ((x1 + (1 : Int32)).toInt8.toInt32))])
                                                          refine own_aload X54 hx (hb hby at_445) rfl rfl ?_
                                                          refine own_iload X54 hx (hb hby at_447) rfl ?_
                                                          refine own_iconst X54 hx (1 : Int32) (hb hby at_449) rfl ?_
                                                          refine own_isub X54 hx (hb hby at_450) ?_
                                                          refine own_baload X54 hx hZ rfl f56 (v := .int x1) ⟨by decide, by decide⟩ rfl (hb hby at_451) ?_
                                                          show own_R p e below s _ _ _ T54 (mkF m 452 #[.val (.int p0), .val (.int p1), .val (.int p2), .val (.int p3), .val (.int p4), .val (.int (2 : Int32)), .val (.ref b27), .val (.ref b48), .val (.ref br), .val (.int (1 : Int32)), .val (.int (2 : Int32))] [(.int x1), (.int ((x1 + (1 : Int32)).toInt8.toInt32))])
                                                          refine own_iconst X54 hx (1 : Int32) (hb hby at_452) rfl ?_
                                                          refine own_iadd X54 hx (hb hby at_453) ?_
                                                          refine own_i2b X54 hx (hb hby at_454) ?_
                                                          refine own_icmp X54 hx (hb hby at_455) (pc' := 462) (by decide) (by decide) (fun hc => ?_) (fun hc => ?_)
                                                          · have hc455 : ¬ ((x1 + (1 : Int32)).toInt8.toInt32) = ((x1 + (1 : Int32)).toInt8.toInt32) := own_ne1 hc
                                                            exact absurd rfl hc455
                                                          · have hc455 : ((x1 + (1 : Int32)).toInt8.toInt32) = ((x1 + (1 : Int32)).toInt8.toInt32) := own_ne0 hc
                                                            clear hc
                                                            show own_R p e below s _ _ _ T54 (mkF m 458 #[.val (.int p0), .val (.int p1), .val (.int p2), .val (.int p3), .val (.int p4), .val (.int (2 : Int32)), .val (.ref b27), .val (.ref b48), .val (.ref br), .val (.int (1 : Int32)), .val (.int (2 : Int32))] [])
                                                            refine own_iconst X54 hx (1 : Int32) (hb hby at_458) rfl ?_
                                                            refine own_goto X54 hx (hb hby at_459) (pc' := 463) (by decide) (by decide) ?_
                                                            show own_R p e below s _ _ _ T54 (mkF m 463 #[.val (.int p0), .val (.int p1), .val (.int p2), .val (.int p3), .val (.int p4), .val (.int (2 : Int32)), .val (.ref b27), .val (.ref b48), .val (.ref br), .val (.int (1 : Int32)), .val (.int (2 : Int32))] [(.int (1 : Int32))])
                                                            refine own_istore X54 hx (hb hby at_463) (l' := #[.val (.int p0), .val (.int p1), .val (.int p2), .val (.int p3), .val (.int p4), .val (.int (2 : Int32)), .val (.ref b27), .val (.ref b48), .val (.ref br), .val (.int (1 : Int32)), .val (.int (2 : Int32))]) rfl ?_
                                                            refine own_iload X54 hx (hb hby at_465) rfl ?_
                                                            refine own_retN X54 hx (t := .boolean) Bd.returns (by simp) hlk (hb hby at_467) ?_ (by decide) (by decide)
                                                            exact ⟨rfl, N54⟩
                                                      · have hc407 : (3 : Int32) < (2 : Int32) := own_le0 hc
                                                        exact absurd hc407 (by decide)
                                                    · have hc378 : (2 : Int32) < (2 : Int32) := own_le0 hc
                                                      exact absurd hc378 (by decide)
                                            · have hc341 : ¬ (2 : Int32) = (2 : Int32) := own_eq0 hc
                                              exact absurd (by decide) hc341
                                          · have hc312 : (2 : Int32) = (0 : Int32) := own_ne0 hc
                                            exact absurd hc312 (by decide)
                                        · have hc296 : (3 : Int32) < (2 : Int32) := own_le0 hc
                                          exact absurd hc296 (by decide)
                                      · have hc279 : (2 : Int32) < (2 : Int32) := own_le0 hc
                                        exact absurd hc279 (by decide)
                                refine own_if X54 hx (hb hby at_245) (pc' := 259) (by decide) (by decide) (fun hc => ?_) (fun hc => ?_)
                                · have hc245 : ¬ (0 : Int32) < (2 : Int32) := own_le1 hc
                                  exact absurd (by decide) hc245
                                · have hc245 : (0 : Int32) < (2 : Int32) := own_le0 hc
                                  clear hc
                                  show own_R p e below s _ _ _ T54 (mkF m 248 #[.val (.int p0), .val (.int p1), .val (.int p2), .val (.int p3), .val (.int p4), .val (.int (2 : Int32)), .val (.ref b27), .val (.ref b48), .val (.ref br), .val (.int (1 : Int32)), .val (.int (0 : Int32))] [])
                                  refine own_aload X54 hx (hb hby at_248) rfl rfl ?_
                                  refine own_iconst X54 hx (0 : Int32) (hb hby at_250) rfl ?_
                                  refine own_baload X54 hx hZ rfl f56 (v := .int x0) ⟨by decide, by decide⟩ rfl (hb hby at_251) ?_
                                  show own_R p e below s _ _ _ T54 (mkF m 252 #[.val (.int p0), .val (.int p1), .val (.int p2), .val (.int p3), .val (.int p4), .val (.int (2 : Int32)), .val (.ref b27), .val (.ref b48), .val (.ref br), .val (.int (1 : Int32)), .val (.int (0 : Int32))] [(.int x0)])
                                  refine own_iconst X54 hx (-1 : Int32) (hb hby at_252) rfl ?_
                                  refine own_icmp X54 hx (hb hby at_253) (pc' := 259) (by decide) (by decide) (fun hc => ?_) (fun hc => ?_)
                                  · have hc253 : x0 = (-1 : Int32) := own_eq1 hc
                                    clear hc
                                    show own_R p e below s _ _ _ T54 (mkF m 259 #[.val (.int p0), .val (.int p1), .val (.int p2), .val (.int p3), .val (.int p4), .val (.int (2 : Int32)), .val (.ref b27), .val (.ref b48), .val (.ref br), .val (.int (1 : Int32)), .val (.int (0 : Int32))] [])
                                    exact Jk0 _
                                  · have hc253 : ¬ x0 = (-1 : Int32) := own_eq0 hc
                                    clear hc
                                    show own_R p e below s _ _ _ T54 (mkF m 256 #[.val (.int p0), .val (.int p1), .val (.int p2), .val (.int p3), .val (.int p4), .val (.int (2 : Int32)), .val (.ref b27), .val (.ref b48), .val (.ref br), .val (.int (1 : Int32)), .val (.int (0 : Int32))] [])
                                    refine own_iconst X54 hx (1 : Int32) (hb hby at_256) rfl ?_
                                    refine own_istore X54 hx (hb hby at_257) (l' := #[.val (.int p0), .val (.int p1), .val (.int p2), .val (.int p3), .val (.int p4), .val (.int (2 : Int32)), .val (.ref b27), .val (.ref b48), .val (.ref br), .val (.int (1 : Int32)), .val (.int (1 : Int32))]) rfl ?_
                                    exact Jk0 _
                              · have hc214 : (3 : Int32) < (2 : Int32) := own_le0 hc
                                exact absurd hc214 (by decide)
                            · have hc185 : (2 : Int32) < (2 : Int32) := own_le0 hc
                              exact absurd hc185 (by decide)
            ·
              show own_R p e below s _ _ _ T54 (mkF m 108 #[.val (.int p0), .val (.int p1), .val (.int p2), .val (.int p3), .val (.int p4), .val (.int (2 : Int32)), .val (.ref b27), .val (.ref b48), .unset, .unset, .unset] [(.ref br)])
              refine own_astore X54 hx (hb hby at_108) rfl (l' := #[.val (.int p0), .val (.int p1), .val (.int p2), .val (.int p3), .val (.int p4), .val (.int (2 : Int32)), .val (.ref b27), .val (.ref b48), .val (.ref br), .unset, .unset]) rfl ?_
              refine own_aload X54 hx (hb hby at_110) rfl rfl ?_
              have f57 := (V_b48_52.keep Kc54 nin0)
              refine own_len X54 hx hZ rfl f57 (hb hby at_112) ?_
              show own_R p e below s _ _ _ T54 (mkF m 113 #[.val (.int p0), .val (.int p1), .val (.int p2), .val (.int p3), .val (.int p4), .val (.int (2 : Int32)), .val (.ref b27), .val (.ref b48), .val (.ref br), .unset, .unset] [(.int (2 : Int32))])
              refine own_iload X54 hx (hb hby at_113) rfl ?_
              refine own_icmp X54 hx (hb hby at_115) (pc' := 122) (by decide) (by decide) (fun hc => ?_) (fun hc => ?_)
              · have hc115 : ¬ (2 : Int32) = (2 : Int32) := own_ne1 hc
                exact absurd (by decide) hc115
              · have hc115 : (2 : Int32) = (2 : Int32) := own_ne0 hc
                clear hc
                show own_R p e below s _ _ _ T54 (mkF m 118 #[.val (.int p0), .val (.int p1), .val (.int p2), .val (.int p3), .val (.int p4), .val (.int (2 : Int32)), .val (.ref b27), .val (.ref b48), .val (.ref br), .unset, .unset] [])
                refine own_iconst X54 hx (1 : Int32) (hb hby at_118) rfl ?_
                refine own_goto X54 hx (hb hby at_119) (pc' := 123) (by decide) (by decide) ?_
                show own_R p e below s _ _ _ T54 (mkF m 123 #[.val (.int p0), .val (.int p1), .val (.int p2), .val (.int p3), .val (.int p4), .val (.int (2 : Int32)), .val (.ref b27), .val (.ref b48), .val (.ref br), .unset, .unset] [(.int (1 : Int32))])
                refine own_istore X54 hx (hb hby at_123) (l' := #[.val (.int p0), .val (.int p1), .val (.int p2), .val (.int p3), .val (.int p4), .val (.int (2 : Int32)), .val (.ref b27), .val (.ref b48), .val (.ref br), .val (.int (1 : Int32)), .unset]) rfl ?_
                refine own_iload X54 hx (hb hby at_125) rfl ?_
                refine own_if X54 hx (hb hby at_127) (pc' := 153) (by decide) (by decide) (fun hc => ?_) (fun hc => ?_)
                · have hc127 : ¬ (0 : Int32) < (2 : Int32) := own_le1 hc
                  exact absurd (by decide) hc127
                · have hc127 : (0 : Int32) < (2 : Int32) := own_le0 hc
                  clear hc
                  show own_R p e below s _ _ _ T54 (mkF m 130 #[.val (.int p0), .val (.int p1), .val (.int p2), .val (.int p3), .val (.int p4), .val (.int (2 : Int32)), .val (.ref b27), .val (.ref b48), .val (.ref br), .val (.int (1 : Int32)), .unset] [])
                  refine own_iload X54 hx (hb hby at_130) rfl ?_
                  refine own_if X54 hx (hb hby at_132) (pc' := 150) (by decide) (by decide) (fun hc => ?_) (fun hc => ?_)
                  · have hc132 : (1 : Int32) = (0 : Int32) := own_eq1 hc
                    exact absurd hc132 (by decide)
                  · have hc132 : ¬ (1 : Int32) = (0 : Int32) := own_eq0 hc
                    clear hc
                    show own_R p e below s _ _ _ T54 (mkF m 135 #[.val (.int p0), .val (.int p1), .val (.int p2), .val (.int p3), .val (.int p4), .val (.int (2 : Int32)), .val (.ref b27), .val (.ref b48), .val (.ref br), .val (.int (1 : Int32)), .unset] [])
                    refine own_aload X54 hx (hb hby at_135) rfl rfl ?_
                    refine own_iconst X54 hx (0 : Int32) (hb hby at_137) rfl ?_
                    refine own_baload X54 hx hZ rfl f57 (v := .int x0) ⟨by decide, by decide⟩ rfl (hb hby at_138) ?_
                    show own_R p e below s _ _ _ T54 (mkF m 139 #[.val (.int p0), .val (.int p1), .val (.int p2), .val (.int p3), .val (.int p4), .val (.int (2 : Int32)), .val (.ref b27), .val (.ref b48), .val (.ref br), .val (.int (1 : Int32)), .unset] [(.int x0)])
                    refine own_aload X54 hx (hb hby at_139) rfl rfl ?_
                    refine own_iconst X54 hx (0 : Int32) (hb hby at_141) rfl ?_
                    have f58 := ((f51.other W52 ne_b27_b48).keep Kc54 nin0)
                    refine own_baload X54 hx hZ rfl f58 (v := .int x0) ⟨by decide, by decide⟩ rfl (hb hby at_142) ?_
                    show own_R p e below s _ _ _ T54 (mkF m 143 #[.val (.int p0), .val (.int p1), .val (.int p2), .val (.int p3), .val (.int p4), .val (.int (2 : Int32)), .val (.ref b27), .val (.ref b48), .val (.ref br), .val (.int (1 : Int32)), .unset] [(.int x0), (.int x0)])
                    refine own_icmp X54 hx (hb hby at_143) (pc' := 150) (by decide) (by decide) (fun hc => ?_) (fun hc => ?_)
                    · have hc143 : ¬ x0 = x0 := own_ne1 hc
                      exact absurd rfl hc143
                    · have hc143 : x0 = x0 := own_ne0 hc
                      clear hc
                      show own_R p e below s _ _ _ T54 (mkF m 146 #[.val (.int p0), .val (.int p1), .val (.int p2), .val (.int p3), .val (.int p4), .val (.int (2 : Int32)), .val (.ref b27), .val (.ref b48), .val (.ref br), .val (.int (1 : Int32)), .unset] [])
                      refine own_iconst X54 hx (1 : Int32) (hb hby at_146) rfl ?_
                      refine own_goto X54 hx (hb hby at_147) (pc' := 151) (by decide) (by decide) ?_
                      show own_R p e below s _ _ _ T54 (mkF m 151 #[.val (.int p0), .val (.int p1), .val (.int p2), .val (.int p3), .val (.int p4), .val (.int (2 : Int32)), .val (.ref b27), .val (.ref b48), .val (.ref br), .val (.int (1 : Int32)), .unset] [(.int (1 : Int32))])
                      refine own_istore X54 hx (hb hby at_151) (l' := #[.val (.int p0), .val (.int p1), .val (.int p2), .val (.int p3), .val (.int p4), .val (.int (2 : Int32)), .val (.ref b27), .val (.ref b48), .val (.ref br), .val (.int (1 : Int32)), .unset]) rfl ?_
                      refine own_iload X54 hx (hb hby at_153) rfl ?_
                      refine own_iconst X54 hx (1 : Int32) (hb hby at_155) rfl ?_
                      refine own_icmp X54 hx (hb hby at_156) (pc' := 182) (by decide) (by decide) (fun hc => ?_) (fun hc => ?_)
                      · have hc156 : ¬ (1 : Int32) < (2 : Int32) := own_le1 hc
                        exact absurd (by decide) hc156
                      · have hc156 : (1 : Int32) < (2 : Int32) := own_le0 hc
                        clear hc
                        show own_R p e below s _ _ _ T54 (mkF m 159 #[.val (.int p0), .val (.int p1), .val (.int p2), .val (.int p3), .val (.int p4), .val (.int (2 : Int32)), .val (.ref b27), .val (.ref b48), .val (.ref br), .val (.int (1 : Int32)), .unset] [])
                        refine own_iload X54 hx (hb hby at_159) rfl ?_
                        refine own_if X54 hx (hb hby at_161) (pc' := 179) (by decide) (by decide) (fun hc => ?_) (fun hc => ?_)
                        · have hc161 : (1 : Int32) = (0 : Int32) := own_eq1 hc
                          exact absurd hc161 (by decide)
                        · have hc161 : ¬ (1 : Int32) = (0 : Int32) := own_eq0 hc
                          clear hc
                          show own_R p e below s _ _ _ T54 (mkF m 164 #[.val (.int p0), .val (.int p1), .val (.int p2), .val (.int p3), .val (.int p4), .val (.int (2 : Int32)), .val (.ref b27), .val (.ref b48), .val (.ref br), .val (.int (1 : Int32)), .unset] [])
                          refine own_aload X54 hx (hb hby at_164) rfl rfl ?_
                          refine own_iconst X54 hx (1 : Int32) (hb hby at_166) rfl ?_
                          refine own_baload X54 hx hZ rfl f57 (v := .int x1) ⟨by decide, by decide⟩ rfl (hb hby at_167) ?_
                          show own_R p e below s _ _ _ T54 (mkF m 168 #[.val (.int p0), .val (.int p1), .val (.int p2), .val (.int p3), .val (.int p4), .val (.int (2 : Int32)), .val (.ref b27), .val (.ref b48), .val (.ref br), .val (.int (1 : Int32)), .unset] [(.int x1)])
                          refine own_aload X54 hx (hb hby at_168) rfl rfl ?_
                          refine own_iconst X54 hx (1 : Int32) (hb hby at_170) rfl ?_
                          refine own_baload X54 hx hZ rfl f58 (v := .int x1) ⟨by decide, by decide⟩ rfl (hb hby at_171) ?_
                          show own_R p e below s _ _ _ T54 (mkF m 172 #[.val (.int p0), .val (.int p1), .val (.int p2), .val (.int p3), .val (.int p4), .val (.int (2 : Int32)), .val (.ref b27), .val (.ref b48), .val (.ref br), .val (.int (1 : Int32)), .unset] [(.int x1), (.int x1)])
                          refine own_icmp X54 hx (hb hby at_172) (pc' := 179) (by decide) (by decide) (fun hc => ?_) (fun hc => ?_)
                          · have hc172 : ¬ x1 = x1 := own_ne1 hc
                            exact absurd rfl hc172
                          · have hc172 : x1 = x1 := own_ne0 hc
                            clear hc
                            show own_R p e below s _ _ _ T54 (mkF m 175 #[.val (.int p0), .val (.int p1), .val (.int p2), .val (.int p3), .val (.int p4), .val (.int (2 : Int32)), .val (.ref b27), .val (.ref b48), .val (.ref br), .val (.int (1 : Int32)), .unset] [])
                            refine own_iconst X54 hx (1 : Int32) (hb hby at_175) rfl ?_
                            refine own_goto X54 hx (hb hby at_176) (pc' := 180) (by decide) (by decide) ?_
                            show own_R p e below s _ _ _ T54 (mkF m 180 #[.val (.int p0), .val (.int p1), .val (.int p2), .val (.int p3), .val (.int p4), .val (.int (2 : Int32)), .val (.ref b27), .val (.ref b48), .val (.ref br), .val (.int (1 : Int32)), .unset] [(.int (1 : Int32))])
                            refine own_istore X54 hx (hb hby at_180) (l' := #[.val (.int p0), .val (.int p1), .val (.int p2), .val (.int p3), .val (.int p4), .val (.int (2 : Int32)), .val (.ref b27), .val (.ref b48), .val (.ref br), .val (.int (1 : Int32)), .unset]) rfl ?_
                            refine own_iload X54 hx (hb hby at_182) rfl ?_
                            refine own_iconst X54 hx (2 : Int32) (hb hby at_184) rfl ?_
                            refine own_icmp X54 hx (hb hby at_185) (pc' := 211) (by decide) (by decide) (fun hc => ?_) (fun hc => ?_)
                            · have hc185 : ¬ (2 : Int32) < (2 : Int32) := own_le1 hc
                              clear hc
                              show own_R p e below s _ _ _ T54 (mkF m 211 #[.val (.int p0), .val (.int p1), .val (.int p2), .val (.int p3), .val (.int p4), .val (.int (2 : Int32)), .val (.ref b27), .val (.ref b48), .val (.ref br), .val (.int (1 : Int32)), .unset] [])
                              refine own_iload X54 hx (hb hby at_211) rfl ?_
                              refine own_iconst X54 hx (3 : Int32) (hb hby at_213) rfl ?_
                              refine own_icmp X54 hx (hb hby at_214) (pc' := 240) (by decide) (by decide) (fun hc => ?_) (fun hc => ?_)
                              · have hc214 : ¬ (3 : Int32) < (2 : Int32) := own_le1 hc
                                clear hc
                                show own_R p e below s _ _ _ T54 (mkF m 240 #[.val (.int p0), .val (.int p1), .val (.int p2), .val (.int p3), .val (.int p4), .val (.int (2 : Int32)), .val (.ref b27), .val (.ref b48), .val (.ref br), .val (.int (1 : Int32)), .unset] [])
                                refine own_iconst X54 hx (0 : Int32) (hb hby at_240) rfl ?_
                                refine own_istore X54 hx (hb hby at_241) (l' := #[.val (.int p0), .val (.int p1), .val (.int p2), .val (.int p3), .val (.int p4), .val (.int (2 : Int32)), .val (.ref b27), .val (.ref b48), .val (.ref br), .val (.int (1 : Int32)), .val (.int (0 : Int32))]) rfl ?_
                                refine own_iload X54 hx (hb hby at_243) rfl ?_
                                refine own_if X54 hx (hb hby at_245) (pc' := 259) (by decide) (by decide) (fun hc => ?_) (fun hc => ?_)
                                · have hc245 : ¬ (0 : Int32) < (2 : Int32) := own_le1 hc
                                  exact absurd (by decide) hc245
                                · have hc245 : (0 : Int32) < (2 : Int32) := own_le0 hc
                                  clear hc
                                  show own_R p e below s _ _ _ T54 (mkF m 248 #[.val (.int p0), .val (.int p1), .val (.int p2), .val (.int p3), .val (.int p4), .val (.int (2 : Int32)), .val (.ref b27), .val (.ref b48), .val (.ref br), .val (.int (1 : Int32)), .val (.int (0 : Int32))] [])
                                  refine own_aload X54 hx (hb hby at_248) rfl rfl ?_
                                  refine own_iconst X54 hx (0 : Int32) (hb hby at_250) rfl ?_
                                  refine own_baload X54 hx hZ rfl f58 (v := .int x0) ⟨by decide, by decide⟩ rfl (hb hby at_251) ?_
                                  show own_R p e below s _ _ _ T54 (mkF m 252 #[.val (.int p0), .val (.int p1), .val (.int p2), .val (.int p3), .val (.int p4), .val (.int (2 : Int32)), .val (.ref b27), .val (.ref b48), .val (.ref br), .val (.int (1 : Int32)), .val (.int (0 : Int32))] [(.int x0)])
                                  refine own_iconst X54 hx (-1 : Int32) (hb hby at_252) rfl ?_
                                  refine own_icmp X54 hx (hb hby at_253) (pc' := 259) (by decide) (by decide) (fun hc => ?_) (fun hc => ?_)
                                  · have hc253 : x0 = (-1 : Int32) := own_eq1 hc
                                    exact absurd hc253 y0
                                  · have hc253 : ¬ x0 = (-1 : Int32) := own_eq0 hc
                                    clear hc
                                    show own_R p e below s _ _ _ T54 (mkF m 256 #[.val (.int p0), .val (.int p1), .val (.int p2), .val (.int p3), .val (.int p4), .val (.int (2 : Int32)), .val (.ref b27), .val (.ref b48), .val (.ref br), .val (.int (1 : Int32)), .val (.int (0 : Int32))] [])
                                    refine own_iconst X54 hx (1 : Int32) (hb hby at_256) rfl ?_
                                    refine own_istore X54 hx (hb hby at_257) (l' := #[.val (.int p0), .val (.int p1), .val (.int p2), .val (.int p3), .val (.int p4), .val (.int (2 : Int32)), .val (.ref b27), .val (.ref b48), .val (.ref br), .val (.int (1 : Int32)), .val (.int (1 : Int32))]) rfl ?_
                                    refine own_iload X54 hx (hb hby at_259) rfl ?_
                                    refine own_iconst X54 hx (1 : Int32) (hb hby at_261) rfl ?_
                                    refine own_icmp X54 hx (hb hby at_262) (pc' := 276) (by decide) (by decide) (fun hc => ?_) (fun hc => ?_)
                                    · have hc262 : ¬ (1 : Int32) < (2 : Int32) := own_le1 hc
                                      exact absurd (by decide) hc262
                                    · have hc262 : (1 : Int32) < (2 : Int32) := own_le0 hc
                                      clear hc
                                      show own_R p e below s _ _ _ T54 (mkF m 265 #[.val (.int p0), .val (.int p1), .val (.int p2), .val (.int p3), .val (.int p4), .val (.int (2 : Int32)), .val (.ref b27), .val (.ref b48), .val (.ref br), .val (.int (1 : Int32)), .val (.int (1 : Int32))] [])
                                      refine own_aload X54 hx (hb hby at_265) rfl rfl ?_
                                      refine own_iconst X54 hx (1 : Int32) (hb hby at_267) rfl ?_
                                      refine own_baload X54 hx hZ rfl f58 (v := .int x1) ⟨by decide, by decide⟩ rfl (hb hby at_268) ?_
                                      show own_R p e below s _ _ _ T54 (mkF m 269 #[.val (.int p0), .val (.int p1), .val (.int p2), .val (.int p3), .val (.int p4), .val (.int (2 : Int32)), .val (.ref b27), .val (.ref b48), .val (.ref br), .val (.int (1 : Int32)), .val (.int (1 : Int32))] [(.int x1)])
                                      refine own_iconst X54 hx (-1 : Int32) (hb hby at_269) rfl ?_
                                      refine own_icmp X54 hx (hb hby at_270) (pc' := 276) (by decide) (by decide) (fun hc => ?_) (fun hc => ?_)
                                      · have hc270 : x1 = (-1 : Int32) := own_eq1 hc
                                        clear hc
                                        show own_R p e below s _ _ _ T54 (mkF m 276 #[.val (.int p0), .val (.int p1), .val (.int p2), .val (.int p3), .val (.int p4), .val (.int (2 : Int32)), .val (.ref b27), .val (.ref b48), .val (.ref br), .val (.int (1 : Int32)), .val (.int (1 : Int32))] [])
                                        refine own_iload X54 hx (hb hby at_276) rfl ?_
                                        refine own_iconst X54 hx (2 : Int32) (hb hby at_278) rfl ?_
                                        refine own_icmp X54 hx (hb hby at_279) (pc' := 293) (by decide) (by decide) (fun hc => ?_) (fun hc => ?_)
                                        · have hc279 : ¬ (2 : Int32) < (2 : Int32) := own_le1 hc
                                          clear hc
                                          show own_R p e below s _ _ _ T54 (mkF m 293 #[.val (.int p0), .val (.int p1), .val (.int p2), .val (.int p3), .val (.int p4), .val (.int (2 : Int32)), .val (.ref b27), .val (.ref b48), .val (.ref br), .val (.int (1 : Int32)), .val (.int (1 : Int32))] [])
                                          refine own_iload X54 hx (hb hby at_293) rfl ?_
                                          refine own_iconst X54 hx (3 : Int32) (hb hby at_295) rfl ?_
                                          refine own_icmp X54 hx (hb hby at_296) (pc' := 310) (by decide) (by decide) (fun hc => ?_) (fun hc => ?_)
                                          · have hc296 : ¬ (3 : Int32) < (2 : Int32) := own_le1 hc
                                            clear hc
                                            show own_R p e below s _ _ _ T54 (mkF m 310 #[.val (.int p0), .val (.int p1), .val (.int p2), .val (.int p3), .val (.int p4), .val (.int (2 : Int32)), .val (.ref b27), .val (.ref b48), .val (.ref br), .val (.int (1 : Int32)), .val (.int (1 : Int32))] [])
                                            refine own_iload X54 hx (hb hby at_310) rfl ?_
                                            refine own_if X54 hx (hb hby at_312) (pc' := 331) (by decide) (by decide) (fun hc => ?_) (fun hc => ?_)
                                            · have hc312 : ¬ (1 : Int32) = (0 : Int32) := own_ne1 hc
                                              clear hc
                                              show own_R p e below s _ _ _ T54 (mkF m 331 #[.val (.int p0), .val (.int p1), .val (.int p2), .val (.int p3), .val (.int p4), .val (.int (2 : Int32)), .val (.ref b27), .val (.ref b48), .val (.ref br), .val (.int (1 : Int32)), .val (.int (1 : Int32))] [])
                                              refine own_aload X54 hx (hb hby at_331) rfl rfl ?_
                                              refine own_ifnullN X54 hx (hb hby at_333) ?_
                                              show own_R p e below s _ _ _ T54 (mkF m 336 #[.val (.int p0), .val (.int p1), .val (.int p2), .val (.int p3), .val (.int p4), .val (.int (2 : Int32)), .val (.ref b27), .val (.ref b48), .val (.ref br), .val (.int (1 : Int32)), .val (.int (1 : Int32))] [])
                                              refine own_aload X54 hx (hb hby at_336) rfl rfl ?_
                                              refine own_len X54 hx hZ rfl Vr (hb hby at_338) ?_
                                              show own_R p e below s _ _ _ T54 (mkF m 339 #[.val (.int p0), .val (.int p1), .val (.int p2), .val (.int p3), .val (.int p4), .val (.int (2 : Int32)), .val (.ref b27), .val (.ref b48), .val (.ref br), .val (.int (1 : Int32)), .val (.int (1 : Int32))] [(.int (1 : Int32))])
                                              refine own_iload X54 hx (hb hby at_339) rfl ?_
                                              refine own_icmp X54 hx (hb hby at_341) (pc' := 346) (by decide) (by decide) (fun hc => ?_) (fun hc => ?_)
                                              · have hc341 : (1 : Int32) = (1 : Int32) := own_eq1 hc
                                                clear hc
                                                show own_R p e below s _ _ _ T54 (mkF m 346 #[.val (.int p0), .val (.int p1), .val (.int p2), .val (.int p3), .val (.int p4), .val (.int (2 : Int32)), .val (.ref b27), .val (.ref b48), .val (.ref br), .val (.int (1 : Int32)), .val (.int (1 : Int32))] [])
                                                refine own_iload X54 hx (hb hby at_346) rfl ?_
                                                refine own_iconst X54 hx (1 : Int32) (hb hby at_348) rfl ?_
                                                refine own_icmp X54 hx (hb hby at_349) (pc' := 375) (by decide) (by decide) (fun hc => ?_) (fun hc => ?_)
                                                · have hc349 : ¬ (1 : Int32) < (1 : Int32) := own_le1 hc
                                                  clear hc
                                                  show own_R p e below s _ _ _ T54 (mkF m 375 #[.val (.int p0), .val (.int p1), .val (.int p2), .val (.int p3), .val (.int p4), .val (.int (2 : Int32)), .val (.ref b27), .val (.ref b48), .val (.ref br), .val (.int (1 : Int32)), .val (.int (1 : Int32))] [])
                                                  refine own_iload X54 hx (hb hby at_375) rfl ?_
                                                  refine own_iconst X54 hx (2 : Int32) (hb hby at_377) rfl ?_
                                                  refine own_icmp X54 hx (hb hby at_378) (pc' := 404) (by decide) (by decide) (fun hc => ?_) (fun hc => ?_)
                                                  · have hc378 : ¬ (2 : Int32) < (1 : Int32) := own_le1 hc
                                                    clear hc
                                                    show own_R p e below s _ _ _ T54 (mkF m 404 #[.val (.int p0), .val (.int p1), .val (.int p2), .val (.int p3), .val (.int p4), .val (.int (2 : Int32)), .val (.ref b27), .val (.ref b48), .val (.ref br), .val (.int (1 : Int32)), .val (.int (1 : Int32))] [])
                                                    refine own_iload X54 hx (hb hby at_404) rfl ?_
                                                    refine own_iconst X54 hx (3 : Int32) (hb hby at_406) rfl ?_
                                                    refine own_icmp X54 hx (hb hby at_407) (pc' := 433) (by decide) (by decide) (fun hc => ?_) (fun hc => ?_)
                                                    · have hc407 : ¬ (3 : Int32) < (1 : Int32) := own_le1 hc
                                                      clear hc
                                                      show own_R p e below s _ _ _ T54 (mkF m 433 #[.val (.int p0), .val (.int p1), .val (.int p2), .val (.int p3), .val (.int p4), .val (.int (2 : Int32)), .val (.ref b27), .val (.ref b48), .val (.ref br), .val (.int (1 : Int32)), .val (.int (1 : Int32))] [])
                                                      refine own_iload X54 hx (hb hby at_433) rfl ?_
                                                      refine own_if X54 hx (hb hby at_435) (pc' := 462) (by decide) (by decide) (fun hc => ?_) (fun hc => ?_)
                                                      · have hc435 : (1 : Int32) = (0 : Int32) := own_eq1 hc
                                                        exact absurd hc435 (by decide)
                                                      · have hc435 : ¬ (1 : Int32) = (0 : Int32) := own_eq0 hc
                                                        clear hc
                                                        show own_R p e below s _ _ _ T54 (mkF m 438 #[.val (.int p0), .val (.int p1), .val (.int p2), .val (.int p3), .val (.int p4), .val (.int (2 : Int32)), .val (.ref b27), .val (.ref b48), .val (.ref br), .val (.int (1 : Int32)), .val (.int (1 : Int32))] [])
                                                        refine own_aload X54 hx (hb hby at_438) rfl rfl ?_
                                                        refine own_iload X54 hx (hb hby at_440) rfl ?_
                                                        refine own_iconst X54 hx (1 : Int32) (hb hby at_442) rfl ?_
                                                        refine own_isub X54 hx (hb hby at_443) ?_
                                                        refine own_baload X54 hx hZ rfl Vr (v := .int ((x0 + (1 : Int32)).toInt8.toInt32)) ⟨by decide, by decide⟩ rfl (hb hby at_444) ?_
                                                        show own_R p e below s _ _ _ T54 (mkF m 445 #[.val (.int p0), .val (.int p1), .val (.int p2), .val (.int p3), .val (.int p4), .val (.int (2 : Int32)), .val (.ref b27), .val (.ref b48), .val (.ref br), .val (.int (1 : Int32)), .val (.int (1 : Int32))] [(.int ((x0 + (1 : Int32)).toInt8.toInt32))])
                                                        refine own_aload X54 hx (hb hby at_445) rfl rfl ?_
                                                        refine own_iload X54 hx (hb hby at_447) rfl ?_
                                                        refine own_iconst X54 hx (1 : Int32) (hb hby at_449) rfl ?_
                                                        refine own_isub X54 hx (hb hby at_450) ?_
                                                        refine own_baload X54 hx hZ rfl f58 (v := .int x0) ⟨by decide, by decide⟩ rfl (hb hby at_451) ?_
                                                        show own_R p e below s _ _ _ T54 (mkF m 452 #[.val (.int p0), .val (.int p1), .val (.int p2), .val (.int p3), .val (.int p4), .val (.int (2 : Int32)), .val (.ref b27), .val (.ref b48), .val (.ref br), .val (.int (1 : Int32)), .val (.int (1 : Int32))] [(.int x0), (.int ((x0 + (1 : Int32)).toInt8.toInt32))])
                                                        refine own_iconst X54 hx (1 : Int32) (hb hby at_452) rfl ?_
                                                        refine own_iadd X54 hx (hb hby at_453) ?_
                                                        refine own_i2b X54 hx (hb hby at_454) ?_
                                                        refine own_icmp X54 hx (hb hby at_455) (pc' := 462) (by decide) (by decide) (fun hc => ?_) (fun hc => ?_)
                                                        · have hc455 : ¬ ((x0 + (1 : Int32)).toInt8.toInt32) = ((x0 + (1 : Int32)).toInt8.toInt32) := own_ne1 hc
                                                          exact absurd rfl hc455
                                                        · have hc455 : ((x0 + (1 : Int32)).toInt8.toInt32) = ((x0 + (1 : Int32)).toInt8.toInt32) := own_ne0 hc
                                                          clear hc
                                                          show own_R p e below s _ _ _ T54 (mkF m 458 #[.val (.int p0), .val (.int p1), .val (.int p2), .val (.int p3), .val (.int p4), .val (.int (2 : Int32)), .val (.ref b27), .val (.ref b48), .val (.ref br), .val (.int (1 : Int32)), .val (.int (1 : Int32))] [])
                                                          refine own_iconst X54 hx (1 : Int32) (hb hby at_458) rfl ?_
                                                          refine own_goto X54 hx (hb hby at_459) (pc' := 463) (by decide) (by decide) ?_
                                                          show own_R p e below s _ _ _ T54 (mkF m 463 #[.val (.int p0), .val (.int p1), .val (.int p2), .val (.int p3), .val (.int p4), .val (.int (2 : Int32)), .val (.ref b27), .val (.ref b48), .val (.ref br), .val (.int (1 : Int32)), .val (.int (1 : Int32))] [(.int (1 : Int32))])
                                                          refine own_istore X54 hx (hb hby at_463) (l' := #[.val (.int p0), .val (.int p1), .val (.int p2), .val (.int p3), .val (.int p4), .val (.int (2 : Int32)), .val (.ref b27), .val (.ref b48), .val (.ref br), .val (.int (1 : Int32)), .val (.int (1 : Int32))]) rfl ?_
                                                          refine own_iload X54 hx (hb hby at_465) rfl ?_
                                                          refine own_retN X54 hx (t := .boolean) Bd.returns (by simp) hlk (hb hby at_467) ?_ (by decide) (by decide)
                                                          exact ⟨rfl, N54⟩
                                                    · have hc407 : (3 : Int32) < (1 : Int32) := own_le0 hc
                                                      exact absurd hc407 (by decide)
                                                  · have hc378 : (2 : Int32) < (1 : Int32) := own_le0 hc
                                                    exact absurd hc378 (by decide)
                                                · have hc349 : (1 : Int32) < (1 : Int32) := own_le0 hc
                                                  exact absurd hc349 (by decide)
                                              · have hc341 : ¬ (1 : Int32) = (1 : Int32) := own_eq0 hc
                                                exact absurd (by decide) hc341
                                            · have hc312 : (1 : Int32) = (0 : Int32) := own_ne0 hc
                                              exact absurd hc312 (by decide)
                                          · have hc296 : (3 : Int32) < (2 : Int32) := own_le0 hc
                                            exact absurd hc296 (by decide)
                                        · have hc279 : (2 : Int32) < (2 : Int32) := own_le0 hc
                                          exact absurd hc279 (by decide)
                                      · have hc270 : ¬ x1 = (-1 : Int32) := own_eq0 hc
                                        exact absurd y1 hc270
                              · have hc214 : (3 : Int32) < (2 : Int32) := own_le0 hc
                                exact absurd hc214 (by decide)
                            · have hc185 : (2 : Int32) < (2 : Int32) := own_le0 hc
                              exact absurd hc185 (by decide)
            ·
              show own_R p e below s _ _ _ T54 (mkF m 108 #[.val (.int p0), .val (.int p1), .val (.int p2), .val (.int p3), .val (.int p4), .val (.int (2 : Int32)), .val (.ref b27), .val (.ref b48), .unset, .unset, .unset] [.null])
              refine own_astore X54 hx (hb hby at_108) rfl (l' := #[.val (.int p0), .val (.int p1), .val (.int p2), .val (.int p3), .val (.int p4), .val (.int (2 : Int32)), .val (.ref b27), .val (.ref b48), .val .null, .unset, .unset]) rfl ?_
              refine own_aload X54 hx (hb hby at_110) rfl rfl ?_
              have f59 := (V_b48_52.keep Kc54 nin0)
              refine own_len X54 hx hZ rfl f59 (hb hby at_112) ?_
              show own_R p e below s _ _ _ T54 (mkF m 113 #[.val (.int p0), .val (.int p1), .val (.int p2), .val (.int p3), .val (.int p4), .val (.int (2 : Int32)), .val (.ref b27), .val (.ref b48), .val .null, .unset, .unset] [(.int (2 : Int32))])
              refine own_iload X54 hx (hb hby at_113) rfl ?_
              refine own_icmp X54 hx (hb hby at_115) (pc' := 122) (by decide) (by decide) (fun hc => ?_) (fun hc => ?_)
              · have hc115 : ¬ (2 : Int32) = (2 : Int32) := own_ne1 hc
                exact absurd (by decide) hc115
              · have hc115 : (2 : Int32) = (2 : Int32) := own_ne0 hc
                clear hc
                show own_R p e below s _ _ _ T54 (mkF m 118 #[.val (.int p0), .val (.int p1), .val (.int p2), .val (.int p3), .val (.int p4), .val (.int (2 : Int32)), .val (.ref b27), .val (.ref b48), .val .null, .unset, .unset] [])
                refine own_iconst X54 hx (1 : Int32) (hb hby at_118) rfl ?_
                refine own_goto X54 hx (hb hby at_119) (pc' := 123) (by decide) (by decide) ?_
                show own_R p e below s _ _ _ T54 (mkF m 123 #[.val (.int p0), .val (.int p1), .val (.int p2), .val (.int p3), .val (.int p4), .val (.int (2 : Int32)), .val (.ref b27), .val (.ref b48), .val .null, .unset, .unset] [(.int (1 : Int32))])
                refine own_istore X54 hx (hb hby at_123) (l' := #[.val (.int p0), .val (.int p1), .val (.int p2), .val (.int p3), .val (.int p4), .val (.int (2 : Int32)), .val (.ref b27), .val (.ref b48), .val .null, .val (.int (1 : Int32)), .unset]) rfl ?_
                refine own_iload X54 hx (hb hby at_125) rfl ?_
                refine own_if X54 hx (hb hby at_127) (pc' := 153) (by decide) (by decide) (fun hc => ?_) (fun hc => ?_)
                · have hc127 : ¬ (0 : Int32) < (2 : Int32) := own_le1 hc
                  exact absurd (by decide) hc127
                · have hc127 : (0 : Int32) < (2 : Int32) := own_le0 hc
                  clear hc
                  show own_R p e below s _ _ _ T54 (mkF m 130 #[.val (.int p0), .val (.int p1), .val (.int p2), .val (.int p3), .val (.int p4), .val (.int (2 : Int32)), .val (.ref b27), .val (.ref b48), .val .null, .val (.int (1 : Int32)), .unset] [])
                  refine own_iload X54 hx (hb hby at_130) rfl ?_
                  refine own_if X54 hx (hb hby at_132) (pc' := 150) (by decide) (by decide) (fun hc => ?_) (fun hc => ?_)
                  · have hc132 : (1 : Int32) = (0 : Int32) := own_eq1 hc
                    exact absurd hc132 (by decide)
                  · have hc132 : ¬ (1 : Int32) = (0 : Int32) := own_eq0 hc
                    clear hc
                    show own_R p e below s _ _ _ T54 (mkF m 135 #[.val (.int p0), .val (.int p1), .val (.int p2), .val (.int p3), .val (.int p4), .val (.int (2 : Int32)), .val (.ref b27), .val (.ref b48), .val .null, .val (.int (1 : Int32)), .unset] [])
                    refine own_aload X54 hx (hb hby at_135) rfl rfl ?_
                    refine own_iconst X54 hx (0 : Int32) (hb hby at_137) rfl ?_
                    refine own_baload X54 hx hZ rfl f59 (v := .int x0) ⟨by decide, by decide⟩ rfl (hb hby at_138) ?_
                    show own_R p e below s _ _ _ T54 (mkF m 139 #[.val (.int p0), .val (.int p1), .val (.int p2), .val (.int p3), .val (.int p4), .val (.int (2 : Int32)), .val (.ref b27), .val (.ref b48), .val .null, .val (.int (1 : Int32)), .unset] [(.int x0)])
                    refine own_aload X54 hx (hb hby at_139) rfl rfl ?_
                    refine own_iconst X54 hx (0 : Int32) (hb hby at_141) rfl ?_
                    have f60 := ((f51.other W52 ne_b27_b48).keep Kc54 nin0)
                    refine own_baload X54 hx hZ rfl f60 (v := .int x0) ⟨by decide, by decide⟩ rfl (hb hby at_142) ?_
                    show own_R p e below s _ _ _ T54 (mkF m 143 #[.val (.int p0), .val (.int p1), .val (.int p2), .val (.int p3), .val (.int p4), .val (.int (2 : Int32)), .val (.ref b27), .val (.ref b48), .val .null, .val (.int (1 : Int32)), .unset] [(.int x0), (.int x0)])
                    refine own_icmp X54 hx (hb hby at_143) (pc' := 150) (by decide) (by decide) (fun hc => ?_) (fun hc => ?_)
                    · have hc143 : ¬ x0 = x0 := own_ne1 hc
                      exact absurd rfl hc143
                    · have hc143 : x0 = x0 := own_ne0 hc
                      clear hc
                      show own_R p e below s _ _ _ T54 (mkF m 146 #[.val (.int p0), .val (.int p1), .val (.int p2), .val (.int p3), .val (.int p4), .val (.int (2 : Int32)), .val (.ref b27), .val (.ref b48), .val .null, .val (.int (1 : Int32)), .unset] [])
                      refine own_iconst X54 hx (1 : Int32) (hb hby at_146) rfl ?_
                      refine own_goto X54 hx (hb hby at_147) (pc' := 151) (by decide) (by decide) ?_
                      show own_R p e below s _ _ _ T54 (mkF m 151 #[.val (.int p0), .val (.int p1), .val (.int p2), .val (.int p3), .val (.int p4), .val (.int (2 : Int32)), .val (.ref b27), .val (.ref b48), .val .null, .val (.int (1 : Int32)), .unset] [(.int (1 : Int32))])
                      refine own_istore X54 hx (hb hby at_151) (l' := #[.val (.int p0), .val (.int p1), .val (.int p2), .val (.int p3), .val (.int p4), .val (.int (2 : Int32)), .val (.ref b27), .val (.ref b48), .val .null, .val (.int (1 : Int32)), .unset]) rfl ?_
                      refine own_iload X54 hx (hb hby at_153) rfl ?_
                      refine own_iconst X54 hx (1 : Int32) (hb hby at_155) rfl ?_
                      refine own_icmp X54 hx (hb hby at_156) (pc' := 182) (by decide) (by decide) (fun hc => ?_) (fun hc => ?_)
                      · have hc156 : ¬ (1 : Int32) < (2 : Int32) := own_le1 hc
                        exact absurd (by decide) hc156
                      · have hc156 : (1 : Int32) < (2 : Int32) := own_le0 hc
                        clear hc
                        show own_R p e below s _ _ _ T54 (mkF m 159 #[.val (.int p0), .val (.int p1), .val (.int p2), .val (.int p3), .val (.int p4), .val (.int (2 : Int32)), .val (.ref b27), .val (.ref b48), .val .null, .val (.int (1 : Int32)), .unset] [])
                        refine own_iload X54 hx (hb hby at_159) rfl ?_
                        refine own_if X54 hx (hb hby at_161) (pc' := 179) (by decide) (by decide) (fun hc => ?_) (fun hc => ?_)
                        · have hc161 : (1 : Int32) = (0 : Int32) := own_eq1 hc
                          exact absurd hc161 (by decide)
                        · have hc161 : ¬ (1 : Int32) = (0 : Int32) := own_eq0 hc
                          clear hc
                          show own_R p e below s _ _ _ T54 (mkF m 164 #[.val (.int p0), .val (.int p1), .val (.int p2), .val (.int p3), .val (.int p4), .val (.int (2 : Int32)), .val (.ref b27), .val (.ref b48), .val .null, .val (.int (1 : Int32)), .unset] [])
                          refine own_aload X54 hx (hb hby at_164) rfl rfl ?_
                          refine own_iconst X54 hx (1 : Int32) (hb hby at_166) rfl ?_
                          refine own_baload X54 hx hZ rfl f59 (v := .int x1) ⟨by decide, by decide⟩ rfl (hb hby at_167) ?_
                          show own_R p e below s _ _ _ T54 (mkF m 168 #[.val (.int p0), .val (.int p1), .val (.int p2), .val (.int p3), .val (.int p4), .val (.int (2 : Int32)), .val (.ref b27), .val (.ref b48), .val .null, .val (.int (1 : Int32)), .unset] [(.int x1)])
                          refine own_aload X54 hx (hb hby at_168) rfl rfl ?_
                          refine own_iconst X54 hx (1 : Int32) (hb hby at_170) rfl ?_
                          refine own_baload X54 hx hZ rfl f60 (v := .int x1) ⟨by decide, by decide⟩ rfl (hb hby at_171) ?_
                          show own_R p e below s _ _ _ T54 (mkF m 172 #[.val (.int p0), .val (.int p1), .val (.int p2), .val (.int p3), .val (.int p4), .val (.int (2 : Int32)), .val (.ref b27), .val (.ref b48), .val .null, .val (.int (1 : Int32)), .unset] [(.int x1), (.int x1)])
                          refine own_icmp X54 hx (hb hby at_172) (pc' := 179) (by decide) (by decide) (fun hc => ?_) (fun hc => ?_)
                          · have hc172 : ¬ x1 = x1 := own_ne1 hc
                            exact absurd rfl hc172
                          · have hc172 : x1 = x1 := own_ne0 hc
                            clear hc
                            show own_R p e below s _ _ _ T54 (mkF m 175 #[.val (.int p0), .val (.int p1), .val (.int p2), .val (.int p3), .val (.int p4), .val (.int (2 : Int32)), .val (.ref b27), .val (.ref b48), .val .null, .val (.int (1 : Int32)), .unset] [])
                            refine own_iconst X54 hx (1 : Int32) (hb hby at_175) rfl ?_
                            refine own_goto X54 hx (hb hby at_176) (pc' := 180) (by decide) (by decide) ?_
                            show own_R p e below s _ _ _ T54 (mkF m 180 #[.val (.int p0), .val (.int p1), .val (.int p2), .val (.int p3), .val (.int p4), .val (.int (2 : Int32)), .val (.ref b27), .val (.ref b48), .val .null, .val (.int (1 : Int32)), .unset] [(.int (1 : Int32))])
                            refine own_istore X54 hx (hb hby at_180) (l' := #[.val (.int p0), .val (.int p1), .val (.int p2), .val (.int p3), .val (.int p4), .val (.int (2 : Int32)), .val (.ref b27), .val (.ref b48), .val .null, .val (.int (1 : Int32)), .unset]) rfl ?_
                            refine own_iload X54 hx (hb hby at_182) rfl ?_
                            refine own_iconst X54 hx (2 : Int32) (hb hby at_184) rfl ?_
                            refine own_icmp X54 hx (hb hby at_185) (pc' := 211) (by decide) (by decide) (fun hc => ?_) (fun hc => ?_)
                            · have hc185 : ¬ (2 : Int32) < (2 : Int32) := own_le1 hc
                              clear hc
                              show own_R p e below s _ _ _ T54 (mkF m 211 #[.val (.int p0), .val (.int p1), .val (.int p2), .val (.int p3), .val (.int p4), .val (.int (2 : Int32)), .val (.ref b27), .val (.ref b48), .val .null, .val (.int (1 : Int32)), .unset] [])
                              refine own_iload X54 hx (hb hby at_211) rfl ?_
                              refine own_iconst X54 hx (3 : Int32) (hb hby at_213) rfl ?_
                              refine own_icmp X54 hx (hb hby at_214) (pc' := 240) (by decide) (by decide) (fun hc => ?_) (fun hc => ?_)
                              · have hc214 : ¬ (3 : Int32) < (2 : Int32) := own_le1 hc
                                clear hc
                                show own_R p e below s _ _ _ T54 (mkF m 240 #[.val (.int p0), .val (.int p1), .val (.int p2), .val (.int p3), .val (.int p4), .val (.int (2 : Int32)), .val (.ref b27), .val (.ref b48), .val .null, .val (.int (1 : Int32)), .unset] [])
                                refine own_iconst X54 hx (0 : Int32) (hb hby at_240) rfl ?_
                                refine own_istore X54 hx (hb hby at_241) (l' := #[.val (.int p0), .val (.int p1), .val (.int p2), .val (.int p3), .val (.int p4), .val (.int (2 : Int32)), .val (.ref b27), .val (.ref b48), .val .null, .val (.int (1 : Int32)), .val (.int (0 : Int32))]) rfl ?_
                                refine own_iload X54 hx (hb hby at_243) rfl ?_
                                refine own_if X54 hx (hb hby at_245) (pc' := 259) (by decide) (by decide) (fun hc => ?_) (fun hc => ?_)
                                · have hc245 : ¬ (0 : Int32) < (2 : Int32) := own_le1 hc
                                  exact absurd (by decide) hc245
                                · have hc245 : (0 : Int32) < (2 : Int32) := own_le0 hc
                                  clear hc
                                  show own_R p e below s _ _ _ T54 (mkF m 248 #[.val (.int p0), .val (.int p1), .val (.int p2), .val (.int p3), .val (.int p4), .val (.int (2 : Int32)), .val (.ref b27), .val (.ref b48), .val .null, .val (.int (1 : Int32)), .val (.int (0 : Int32))] [])
                                  refine own_aload X54 hx (hb hby at_248) rfl rfl ?_
                                  refine own_iconst X54 hx (0 : Int32) (hb hby at_250) rfl ?_
                                  refine own_baload X54 hx hZ rfl f60 (v := .int x0) ⟨by decide, by decide⟩ rfl (hb hby at_251) ?_
                                  show own_R p e below s _ _ _ T54 (mkF m 252 #[.val (.int p0), .val (.int p1), .val (.int p2), .val (.int p3), .val (.int p4), .val (.int (2 : Int32)), .val (.ref b27), .val (.ref b48), .val .null, .val (.int (1 : Int32)), .val (.int (0 : Int32))] [(.int x0)])
                                  refine own_iconst X54 hx (-1 : Int32) (hb hby at_252) rfl ?_
                                  refine own_icmp X54 hx (hb hby at_253) (pc' := 259) (by decide) (by decide) (fun hc => ?_) (fun hc => ?_)
                                  · have hc253 : x0 = (-1 : Int32) := own_eq1 hc
                                    clear hc
                                    show own_R p e below s _ _ _ T54 (mkF m 259 #[.val (.int p0), .val (.int p1), .val (.int p2), .val (.int p3), .val (.int p4), .val (.int (2 : Int32)), .val (.ref b27), .val (.ref b48), .val .null, .val (.int (1 : Int32)), .val (.int (0 : Int32))] [])
                                    refine own_iload X54 hx (hb hby at_259) rfl ?_
                                    refine own_iconst X54 hx (1 : Int32) (hb hby at_261) rfl ?_
                                    refine own_icmp X54 hx (hb hby at_262) (pc' := 276) (by decide) (by decide) (fun hc => ?_) (fun hc => ?_)
                                    · have hc262 : ¬ (1 : Int32) < (2 : Int32) := own_le1 hc
                                      exact absurd (by decide) hc262
                                    · have hc262 : (1 : Int32) < (2 : Int32) := own_le0 hc
                                      clear hc
                                      show own_R p e below s _ _ _ T54 (mkF m 265 #[.val (.int p0), .val (.int p1), .val (.int p2), .val (.int p3), .val (.int p4), .val (.int (2 : Int32)), .val (.ref b27), .val (.ref b48), .val .null, .val (.int (1 : Int32)), .val (.int (0 : Int32))] [])
                                      refine own_aload X54 hx (hb hby at_265) rfl rfl ?_
                                      refine own_iconst X54 hx (1 : Int32) (hb hby at_267) rfl ?_
                                      refine own_baload X54 hx hZ rfl f60 (v := .int x1) ⟨by decide, by decide⟩ rfl (hb hby at_268) ?_
                                      show own_R p e below s _ _ _ T54 (mkF m 269 #[.val (.int p0), .val (.int p1), .val (.int p2), .val (.int p3), .val (.int p4), .val (.int (2 : Int32)), .val (.ref b27), .val (.ref b48), .val .null, .val (.int (1 : Int32)), .val (.int (0 : Int32))] [(.int x1)])
                                      refine own_iconst X54 hx (-1 : Int32) (hb hby at_269) rfl ?_
                                      refine own_icmp X54 hx (hb hby at_270) (pc' := 276) (by decide) (by decide) (fun hc => ?_) (fun hc => ?_)
                                      · have hc270 : x1 = (-1 : Int32) := own_eq1 hc
                                        clear hc
                                        show own_R p e below s _ _ _ T54 (mkF m 276 #[.val (.int p0), .val (.int p1), .val (.int p2), .val (.int p3), .val (.int p4), .val (.int (2 : Int32)), .val (.ref b27), .val (.ref b48), .val .null, .val (.int (1 : Int32)), .val (.int (0 : Int32))] [])
                                        refine own_iload X54 hx (hb hby at_276) rfl ?_
                                        refine own_iconst X54 hx (2 : Int32) (hb hby at_278) rfl ?_
                                        refine own_icmp X54 hx (hb hby at_279) (pc' := 293) (by decide) (by decide) (fun hc => ?_) (fun hc => ?_)
                                        · have hc279 : ¬ (2 : Int32) < (2 : Int32) := own_le1 hc
                                          clear hc
                                          show own_R p e below s _ _ _ T54 (mkF m 293 #[.val (.int p0), .val (.int p1), .val (.int p2), .val (.int p3), .val (.int p4), .val (.int (2 : Int32)), .val (.ref b27), .val (.ref b48), .val .null, .val (.int (1 : Int32)), .val (.int (0 : Int32))] [])
                                          refine own_iload X54 hx (hb hby at_293) rfl ?_
                                          refine own_iconst X54 hx (3 : Int32) (hb hby at_295) rfl ?_
                                          refine own_icmp X54 hx (hb hby at_296) (pc' := 310) (by decide) (by decide) (fun hc => ?_) (fun hc => ?_)
                                          · have hc296 : ¬ (3 : Int32) < (2 : Int32) := own_le1 hc
                                            clear hc
                                            show own_R p e below s _ _ _ T54 (mkF m 310 #[.val (.int p0), .val (.int p1), .val (.int p2), .val (.int p3), .val (.int p4), .val (.int (2 : Int32)), .val (.ref b27), .val (.ref b48), .val .null, .val (.int (1 : Int32)), .val (.int (0 : Int32))] [])
                                            refine own_iload X54 hx (hb hby at_310) rfl ?_
                                            refine own_if X54 hx (hb hby at_312) (pc' := 331) (by decide) (by decide) (fun hc => ?_) (fun hc => ?_)
                                            · have hc312 : ¬ (0 : Int32) = (0 : Int32) := own_ne1 hc
                                              exact absurd (by decide) hc312
                                            · have hc312 : (0 : Int32) = (0 : Int32) := own_ne0 hc
                                              clear hc
                                              show own_R p e below s _ _ _ T54 (mkF m 315 #[.val (.int p0), .val (.int p1), .val (.int p2), .val (.int p3), .val (.int p4), .val (.int (2 : Int32)), .val (.ref b27), .val (.ref b48), .val .null, .val (.int (1 : Int32)), .val (.int (0 : Int32))] [])
                                              refine own_iload X54 hx (hb hby at_315) rfl ?_
                                              refine own_if X54 hx (hb hby at_317) (pc' := 329) (by decide) (by decide) (fun hc => ?_) (fun hc => ?_)
                                              · have hc317 : (1 : Int32) = (0 : Int32) := own_eq1 hc
                                                exact absurd hc317 (by decide)
                                              · have hc317 : ¬ (1 : Int32) = (0 : Int32) := own_eq0 hc
                                                clear hc
                                                show own_R p e below s _ _ _ T54 (mkF m 320 #[.val (.int p0), .val (.int p1), .val (.int p2), .val (.int p3), .val (.int p4), .val (.int (2 : Int32)), .val (.ref b27), .val (.ref b48), .val .null, .val (.int (1 : Int32)), .val (.int (0 : Int32))] [])
                                                refine own_aload X54 hx (hb hby at_320) rfl rfl ?_
                                                refine own_ifnonnullN X54 hx (hb hby at_322) ?_
                                                show own_R p e below s _ _ _ T54 (mkF m 325 #[.val (.int p0), .val (.int p1), .val (.int p2), .val (.int p3), .val (.int p4), .val (.int (2 : Int32)), .val (.ref b27), .val (.ref b48), .val .null, .val (.int (1 : Int32)), .val (.int (0 : Int32))] [])
                                                refine own_iconst X54 hx (1 : Int32) (hb hby at_325) rfl ?_
                                                refine own_goto X54 hx (hb hby at_326) (pc' := 330) (by decide) (by decide) ?_
                                                show own_R p e below s _ _ _ T54 (mkF m 330 #[.val (.int p0), .val (.int p1), .val (.int p2), .val (.int p3), .val (.int p4), .val (.int (2 : Int32)), .val (.ref b27), .val (.ref b48), .val .null, .val (.int (1 : Int32)), .val (.int (0 : Int32))] [(.int (1 : Int32))])
                                                refine own_retN X54 hx (t := .boolean) Bd.returns (by simp) hlk (hb hby at_330) ?_ (by decide) (by decide)
                                                exact ⟨rfl, N54⟩
                                          · have hc296 : (3 : Int32) < (2 : Int32) := own_le0 hc
                                            exact absurd hc296 (by decide)
                                        · have hc279 : (2 : Int32) < (2 : Int32) := own_le0 hc
                                          exact absurd hc279 (by decide)
                                      · have hc270 : ¬ x1 = (-1 : Int32) := own_eq0 hc
                                        exact absurd y1 hc270
                                  · have hc253 : ¬ x0 = (-1 : Int32) := own_eq0 hc
                                    exact absurd y0 hc253
                              · have hc214 : (3 : Int32) < (2 : Int32) := own_le0 hc
                                exact absurd hc214 (by decide)
                            · have hc185 : (2 : Int32) < (2 : Int32) := own_le0 hc
                              exact absurd hc185 (by decide)
          · have hc92 : (3 : Int32) < (2 : Int32) := own_le0 hc
            exact absurd hc92 (by decide)
        · have hc78 : (2 : Int32) < (2 : Int32) := own_le0 hc
          exact absurd hc78 (by decide)
  ·
    show own_R p e below s _ _ _ T35 (mkF m 42 #[.val (.int p0), .val (.int p1), .val (.int p2), .val (.int p3), .val (.int p4), .val (.int (3 : Int32)), .val (.ref b27), .unset, .unset, .unset, .unset] [])
    refine own_iload X35 hx (hb hby at_42) rfl ?_
    refine own_newA X35 hx hZ (hw _ (List.mem_of_getElem? (i := 1) rfl)) e35 (hb hby at_44) (by decide) 3 (by decide) (by decide) (by decide) (by decide) (ad := "[B") (by decide) 3 ?_
    intro T61 h61 b61 k61 g61 X61 e61 E61 V61 A61
    have ne_b27_b61 : b27 ≠ b61 := Nat.ne_of_lt (Nat.lt_of_lt_of_le V_b27_35.lt (Nat.le_of_eq g61.symm))
    have sz_b61 : h0.size ≤ b61 := Nat.le_trans K35.1 (Nat.le_of_eq g61.symm)
    have n0_b61 : n0 ≤ b61 := Nat.le_trans Z0 sz_b61
    have K61 := K35.ext E61
    have V_b61 : Arv Z h61 b61 k61 .byte (3 : Int32) [(.int (0 : Int32)), (.int (0 : Int32)), (.int (0 : Int32))] (.int (0 : Int32)) := V61
    show own_R p e below s _ _ _ T61 (mkF m 46 #[.val (.int p0), .val (.int p1), .val (.int p2), .val (.int p3), .val (.int p4), .val (.int (3 : Int32)), .val (.ref b27), .unset, .unset, .unset, .unset] [(.ref b61)])
    refine own_astore X61 hx (hb hby at_46) rfl (l' := #[.val (.int p0), .val (.int p1), .val (.int p2), .val (.int p3), .val (.int p4), .val (.int (3 : Int32)), .val (.ref b27), .val (.ref b61), .unset, .unset, .unset]) rfl ?_
    refine own_iload X61 hx (hb hby at_48) rfl ?_
    refine own_if X61 hx (hb hby at_50) (pc' := 61) (by decide) (by decide) (fun hc => ?_) (fun hc => ?_)
    · have hc50 : ¬ (0 : Int32) < (3 : Int32) := own_le1 hc
      exact absurd (by decide) hc50
    · have hc50 : (0 : Int32) < (3 : Int32) := own_le0 hc
      clear hc
      show own_R p e below s _ _ _ T61 (mkF m 53 #[.val (.int p0), .val (.int p1), .val (.int p2), .val (.int p3), .val (.int p4), .val (.int (3 : Int32)), .val (.ref b27), .val (.ref b61), .unset, .unset, .unset] [])
      refine own_aload X61 hx (hb hby at_53) rfl rfl ?_
      refine own_iconst X61 hx (0 : Int32) (hb hby at_55) rfl ?_
      refine own_aload X61 hx (hb hby at_56) rfl rfl ?_
      refine own_iconst X61 hx (0 : Int32) (hb hby at_58) rfl ?_
      have f62 := (V_b27_35.ext E61)
      refine own_baload X61 hx hZ e61 f62 (v := .int x0) ⟨by decide, by decide⟩ rfl (hb hby at_59) ?_
      show own_R p e below s _ _ _ T61 (mkF m 60 #[.val (.int p0), .val (.int p1), .val (.int p2), .val (.int p3), .val (.int p4), .val (.int (3 : Int32)), .val (.ref b27), .val (.ref b61), .unset, .unset, .unset] [(.int x0), (.int (0 : Int32)), (.ref b61)])
      refine own_bastore X61 hx hZ e61 V_b61 (x' := x0) (pl_nn hx0) ⟨by decide, by decide⟩ 0 rfl (Nat.le_of_ble_eq_true rfl) (hb hby at_60) ?_
      intro T63 h63 X63 e63 W63 V63
      have K63 := K61.wr W63 (Or.inr sz_b61)
      have N63 := Fr.snoc X63 N35 n0_b61
      have V_b61_63 : Arv Z h63 b61 k61 .byte (3 : Int32) [(.int x0), (.int (0 : Int32)), (.int (0 : Int32))] (.int (0 : Int32)) := V63
      show own_R p e below s _ _ _ T63 (mkF m 61 #[.val (.int p0), .val (.int p1), .val (.int p2), .val (.int p3), .val (.int p4), .val (.int (3 : Int32)), .val (.ref b27), .val (.ref b61), .unset, .unset, .unset] [])
      refine own_iload X63 hx (hb hby at_61) rfl ?_
      refine own_iconst X63 hx (1 : Int32) (hb hby at_63) rfl ?_
      refine own_icmp X63 hx (hb hby at_64) (pc' := 75) (by decide) (by decide) (fun hc => ?_) (fun hc => ?_)
      · have hc64 : ¬ (1 : Int32) < (3 : Int32) := own_le1 hc
        exact absurd (by decide) hc64
      · have hc64 : (1 : Int32) < (3 : Int32) := own_le0 hc
        clear hc
        show own_R p e below s _ _ _ T63 (mkF m 67 #[.val (.int p0), .val (.int p1), .val (.int p2), .val (.int p3), .val (.int p4), .val (.int (3 : Int32)), .val (.ref b27), .val (.ref b61), .unset, .unset, .unset] [])
        refine own_aload X63 hx (hb hby at_67) rfl rfl ?_
        refine own_iconst X63 hx (1 : Int32) (hb hby at_69) rfl ?_
        refine own_aload X63 hx (hb hby at_70) rfl rfl ?_
        refine own_iconst X63 hx (1 : Int32) (hb hby at_72) rfl ?_
        have f64 := (f62.other W63 ne_b27_b61)
        refine own_baload X63 hx hZ e63 f64 (v := .int x1) ⟨by decide, by decide⟩ rfl (hb hby at_73) ?_
        show own_R p e below s _ _ _ T63 (mkF m 74 #[.val (.int p0), .val (.int p1), .val (.int p2), .val (.int p3), .val (.int p4), .val (.int (3 : Int32)), .val (.ref b27), .val (.ref b61), .unset, .unset, .unset] [(.int x1), (.int (1 : Int32)), (.ref b61)])
        refine own_bastore X63 hx hZ e63 V_b61_63 (x' := x1) (pl_nn hx1) ⟨by decide, by decide⟩ 1 rfl (Nat.le_of_ble_eq_true rfl) (hb hby at_74) ?_
        intro T65 h65 X65 e65 W65 V65
        have K65 := K63.wr W65 (Or.inr sz_b61)
        have N65 := Fr.snoc X65 N63 n0_b61
        have V_b61_65 : Arv Z h65 b61 k61 .byte (3 : Int32) [(.int x0), (.int x1), (.int (0 : Int32))] (.int (0 : Int32)) := V65
        show own_R p e below s _ _ _ T65 (mkF m 75 #[.val (.int p0), .val (.int p1), .val (.int p2), .val (.int p3), .val (.int p4), .val (.int (3 : Int32)), .val (.ref b27), .val (.ref b61), .unset, .unset, .unset] [])
        refine own_iload X65 hx (hb hby at_75) rfl ?_
        refine own_iconst X65 hx (2 : Int32) (hb hby at_77) rfl ?_
        refine own_icmp X65 hx (hb hby at_78) (pc' := 89) (by decide) (by decide) (fun hc => ?_) (fun hc => ?_)
        · have hc78 : ¬ (2 : Int32) < (3 : Int32) := own_le1 hc
          exact absurd (by decide) hc78
        · have hc78 : (2 : Int32) < (3 : Int32) := own_le0 hc
          clear hc
          show own_R p e below s _ _ _ T65 (mkF m 81 #[.val (.int p0), .val (.int p1), .val (.int p2), .val (.int p3), .val (.int p4), .val (.int (3 : Int32)), .val (.ref b27), .val (.ref b61), .unset, .unset, .unset] [])
          refine own_aload X65 hx (hb hby at_81) rfl rfl ?_
          refine own_iconst X65 hx (2 : Int32) (hb hby at_83) rfl ?_
          refine own_aload X65 hx (hb hby at_84) rfl rfl ?_
          refine own_iconst X65 hx (2 : Int32) (hb hby at_86) rfl ?_
          have f66 := (f64.other W65 ne_b27_b61)
          refine own_baload X65 hx hZ e65 f66 (v := .int x2) ⟨by decide, by decide⟩ rfl (hb hby at_87) ?_
          show own_R p e below s _ _ _ T65 (mkF m 88 #[.val (.int p0), .val (.int p1), .val (.int p2), .val (.int p3), .val (.int p4), .val (.int (3 : Int32)), .val (.ref b27), .val (.ref b61), .unset, .unset, .unset] [(.int x2), (.int (2 : Int32)), (.ref b61)])
          refine own_bastore X65 hx hZ e65 V_b61_65 (x' := x2) (pl_nn hx2) ⟨by decide, by decide⟩ 2 rfl (Nat.le_of_ble_eq_true rfl) (hb hby at_88) ?_
          intro T67 h67 X67 e67 W67 V67
          have K67 := K65.wr W67 (Or.inr sz_b61)
          have N67 := Fr.snoc X67 N65 n0_b61
          have V_b61_67 : Arv Z h67 b61 k61 .byte (3 : Int32) [(.int x0), (.int x1), (.int x2)] (.int (0 : Int32)) := V67
          show own_R p e below s _ _ _ T67 (mkF m 89 #[.val (.int p0), .val (.int p1), .val (.int p2), .val (.int p3), .val (.int p4), .val (.int (3 : Int32)), .val (.ref b27), .val (.ref b61), .unset, .unset, .unset] [])
          refine own_iload X67 hx (hb hby at_89) rfl ?_
          refine own_iconst X67 hx (3 : Int32) (hb hby at_91) rfl ?_
          refine own_icmp X67 hx (hb hby at_92) (pc' := 103) (by decide) (by decide) (fun hc => ?_) (fun hc => ?_)
          · have hc92 : ¬ (3 : Int32) < (3 : Int32) := own_le1 hc
            clear hc
            show own_R p e below s _ _ _ T67 (mkF m 103 #[.val (.int p0), .val (.int p1), .val (.int p2), .val (.int p3), .val (.int p4), .val (.int (3 : Int32)), .val (.ref b27), .val (.ref b61), .unset, .unset, .unset] [])
            refine own_aload X67 hx (hb hby at_103) rfl rfl ?_
            have f68 := (Exa.wr W67 (Exa.wr W65 (Exa.wr W63 A61)))
            refine own_callS X67 hx hZ (y := (⟨"com/example/fach/fach/io/KeyBytes", "afterAllWith", "([B)[B"⟩ : MethodName)) hown (hw _ (List.mem_of_getElem? (i := 6) rfl)) (hw _ (List.mem_of_getElem? (i := 7) rfl)) (hw _ (List.mem_of_getElem? (i := 8) rfl)) (hw _ (List.mem_of_getElem? (i := 9) rfl)) (by decide) (rm2_3 l Z a0 hw [] b61 k61 x0 x1 x2 h67 n0 (Nat.le_trans Z0 K67.1) V_b61_67 f68) 0 (by decide) (by decide) e67 (by rw [hml]; rfl) [(.ref b61)] [] rfl (lenOf pd_3 rfl) rfl (Nat.le_of_eq rfl) (hb hby at_105) (by decide) (by decide) ?_
            rintro T69 _ L69 X69 ⟨r69, rfl, N69q, Kc69, hr69⟩
            have N69 := Fr.app N67 N69q
            have K69 := K67.trans Kc69 all0
            rcases hr69 with ⟨y2, br, kr, rfl, Vr⟩ | ⟨y2, y1, br, kr, rfl, Vr⟩ | ⟨y2, y1, y0, br, kr, rfl, Vr⟩ | ⟨y2, y1, y0, rfl⟩
            ·
              show own_R p e below s _ _ _ T69 (mkF m 108 #[.val (.int p0), .val (.int p1), .val (.int p2), .val (.int p3), .val (.int p4), .val (.int (3 : Int32)), .val (.ref b27), .val (.ref b61), .unset, .unset, .unset] [(.ref br)])
              refine own_astore X69 hx (hb hby at_108) rfl (l' := #[.val (.int p0), .val (.int p1), .val (.int p2), .val (.int p3), .val (.int p4), .val (.int (3 : Int32)), .val (.ref b27), .val (.ref b61), .val (.ref br), .unset, .unset]) rfl ?_
              refine own_aload X69 hx (hb hby at_110) rfl rfl ?_
              have f70 := (V_b61_67.keep Kc69 nin0)
              refine own_len X69 hx hZ rfl f70 (hb hby at_112) ?_
              show own_R p e below s _ _ _ T69 (mkF m 113 #[.val (.int p0), .val (.int p1), .val (.int p2), .val (.int p3), .val (.int p4), .val (.int (3 : Int32)), .val (.ref b27), .val (.ref b61), .val (.ref br), .unset, .unset] [(.int (3 : Int32))])
              refine own_iload X69 hx (hb hby at_113) rfl ?_
              refine own_icmp X69 hx (hb hby at_115) (pc' := 122) (by decide) (by decide) (fun hc => ?_) (fun hc => ?_)
              · have hc115 : ¬ (3 : Int32) = (3 : Int32) := own_ne1 hc
                exact absurd (by decide) hc115
              · have hc115 : (3 : Int32) = (3 : Int32) := own_ne0 hc
                clear hc
                show own_R p e below s _ _ _ T69 (mkF m 118 #[.val (.int p0), .val (.int p1), .val (.int p2), .val (.int p3), .val (.int p4), .val (.int (3 : Int32)), .val (.ref b27), .val (.ref b61), .val (.ref br), .unset, .unset] [])
                refine own_iconst X69 hx (1 : Int32) (hb hby at_118) rfl ?_
                refine own_goto X69 hx (hb hby at_119) (pc' := 123) (by decide) (by decide) ?_
                show own_R p e below s _ _ _ T69 (mkF m 123 #[.val (.int p0), .val (.int p1), .val (.int p2), .val (.int p3), .val (.int p4), .val (.int (3 : Int32)), .val (.ref b27), .val (.ref b61), .val (.ref br), .unset, .unset] [(.int (1 : Int32))])
                refine own_istore X69 hx (hb hby at_123) (l' := #[.val (.int p0), .val (.int p1), .val (.int p2), .val (.int p3), .val (.int p4), .val (.int (3 : Int32)), .val (.ref b27), .val (.ref b61), .val (.ref br), .val (.int (1 : Int32)), .unset]) rfl ?_
                refine own_iload X69 hx (hb hby at_125) rfl ?_
                refine own_if X69 hx (hb hby at_127) (pc' := 153) (by decide) (by decide) (fun hc => ?_) (fun hc => ?_)
                · have hc127 : ¬ (0 : Int32) < (3 : Int32) := own_le1 hc
                  exact absurd (by decide) hc127
                · have hc127 : (0 : Int32) < (3 : Int32) := own_le0 hc
                  clear hc
                  show own_R p e below s _ _ _ T69 (mkF m 130 #[.val (.int p0), .val (.int p1), .val (.int p2), .val (.int p3), .val (.int p4), .val (.int (3 : Int32)), .val (.ref b27), .val (.ref b61), .val (.ref br), .val (.int (1 : Int32)), .unset] [])
                  refine own_iload X69 hx (hb hby at_130) rfl ?_
                  refine own_if X69 hx (hb hby at_132) (pc' := 150) (by decide) (by decide) (fun hc => ?_) (fun hc => ?_)
                  · have hc132 : (1 : Int32) = (0 : Int32) := own_eq1 hc
                    exact absurd hc132 (by decide)
                  · have hc132 : ¬ (1 : Int32) = (0 : Int32) := own_eq0 hc
                    clear hc
                    show own_R p e below s _ _ _ T69 (mkF m 135 #[.val (.int p0), .val (.int p1), .val (.int p2), .val (.int p3), .val (.int p4), .val (.int (3 : Int32)), .val (.ref b27), .val (.ref b61), .val (.ref br), .val (.int (1 : Int32)), .unset] [])
                    refine own_aload X69 hx (hb hby at_135) rfl rfl ?_
                    refine own_iconst X69 hx (0 : Int32) (hb hby at_137) rfl ?_
                    refine own_baload X69 hx hZ rfl f70 (v := .int x0) ⟨by decide, by decide⟩ rfl (hb hby at_138) ?_
                    show own_R p e below s _ _ _ T69 (mkF m 139 #[.val (.int p0), .val (.int p1), .val (.int p2), .val (.int p3), .val (.int p4), .val (.int (3 : Int32)), .val (.ref b27), .val (.ref b61), .val (.ref br), .val (.int (1 : Int32)), .unset] [(.int x0)])
                    refine own_aload X69 hx (hb hby at_139) rfl rfl ?_
                    refine own_iconst X69 hx (0 : Int32) (hb hby at_141) rfl ?_
                    have f71 := ((f66.other W67 ne_b27_b61).keep Kc69 nin0)
                    refine own_baload X69 hx hZ rfl f71 (v := .int x0) ⟨by decide, by decide⟩ rfl (hb hby at_142) ?_
                    show own_R p e below s _ _ _ T69 (mkF m 143 #[.val (.int p0), .val (.int p1), .val (.int p2), .val (.int p3), .val (.int p4), .val (.int (3 : Int32)), .val (.ref b27), .val (.ref b61), .val (.ref br), .val (.int (1 : Int32)), .unset] [(.int x0), (.int x0)])
                    refine own_icmp X69 hx (hb hby at_143) (pc' := 150) (by decide) (by decide) (fun hc => ?_) (fun hc => ?_)
                    · have hc143 : ¬ x0 = x0 := own_ne1 hc
                      exact absurd rfl hc143
                    · have hc143 : x0 = x0 := own_ne0 hc
                      clear hc
                      show own_R p e below s _ _ _ T69 (mkF m 146 #[.val (.int p0), .val (.int p1), .val (.int p2), .val (.int p3), .val (.int p4), .val (.int (3 : Int32)), .val (.ref b27), .val (.ref b61), .val (.ref br), .val (.int (1 : Int32)), .unset] [])
                      refine own_iconst X69 hx (1 : Int32) (hb hby at_146) rfl ?_
                      refine own_goto X69 hx (hb hby at_147) (pc' := 151) (by decide) (by decide) ?_
                      show own_R p e below s _ _ _ T69 (mkF m 151 #[.val (.int p0), .val (.int p1), .val (.int p2), .val (.int p3), .val (.int p4), .val (.int (3 : Int32)), .val (.ref b27), .val (.ref b61), .val (.ref br), .val (.int (1 : Int32)), .unset] [(.int (1 : Int32))])
                      refine own_istore X69 hx (hb hby at_151) (l' := #[.val (.int p0), .val (.int p1), .val (.int p2), .val (.int p3), .val (.int p4), .val (.int (3 : Int32)), .val (.ref b27), .val (.ref b61), .val (.ref br), .val (.int (1 : Int32)), .unset]) rfl ?_
                      refine own_iload X69 hx (hb hby at_153) rfl ?_
                      refine own_iconst X69 hx (1 : Int32) (hb hby at_155) rfl ?_
                      refine own_icmp X69 hx (hb hby at_156) (pc' := 182) (by decide) (by decide) (fun hc => ?_) (fun hc => ?_)
                      · have hc156 : ¬ (1 : Int32) < (3 : Int32) := own_le1 hc
                        exact absurd (by decide) hc156
                      · have hc156 : (1 : Int32) < (3 : Int32) := own_le0 hc
                        clear hc
                        show own_R p e below s _ _ _ T69 (mkF m 159 #[.val (.int p0), .val (.int p1), .val (.int p2), .val (.int p3), .val (.int p4), .val (.int (3 : Int32)), .val (.ref b27), .val (.ref b61), .val (.ref br), .val (.int (1 : Int32)), .unset] [])
                        refine own_iload X69 hx (hb hby at_159) rfl ?_
                        refine own_if X69 hx (hb hby at_161) (pc' := 179) (by decide) (by decide) (fun hc => ?_) (fun hc => ?_)
                        · have hc161 : (1 : Int32) = (0 : Int32) := own_eq1 hc
                          exact absurd hc161 (by decide)
                        · have hc161 : ¬ (1 : Int32) = (0 : Int32) := own_eq0 hc
                          clear hc
                          show own_R p e below s _ _ _ T69 (mkF m 164 #[.val (.int p0), .val (.int p1), .val (.int p2), .val (.int p3), .val (.int p4), .val (.int (3 : Int32)), .val (.ref b27), .val (.ref b61), .val (.ref br), .val (.int (1 : Int32)), .unset] [])
                          refine own_aload X69 hx (hb hby at_164) rfl rfl ?_
                          refine own_iconst X69 hx (1 : Int32) (hb hby at_166) rfl ?_
                          refine own_baload X69 hx hZ rfl f70 (v := .int x1) ⟨by decide, by decide⟩ rfl (hb hby at_167) ?_
                          show own_R p e below s _ _ _ T69 (mkF m 168 #[.val (.int p0), .val (.int p1), .val (.int p2), .val (.int p3), .val (.int p4), .val (.int (3 : Int32)), .val (.ref b27), .val (.ref b61), .val (.ref br), .val (.int (1 : Int32)), .unset] [(.int x1)])
                          refine own_aload X69 hx (hb hby at_168) rfl rfl ?_
                          refine own_iconst X69 hx (1 : Int32) (hb hby at_170) rfl ?_
                          refine own_baload X69 hx hZ rfl f71 (v := .int x1) ⟨by decide, by decide⟩ rfl (hb hby at_171) ?_
                          show own_R p e below s _ _ _ T69 (mkF m 172 #[.val (.int p0), .val (.int p1), .val (.int p2), .val (.int p3), .val (.int p4), .val (.int (3 : Int32)), .val (.ref b27), .val (.ref b61), .val (.ref br), .val (.int (1 : Int32)), .unset] [(.int x1), (.int x1)])
                          refine own_icmp X69 hx (hb hby at_172) (pc' := 179) (by decide) (by decide) (fun hc => ?_) (fun hc => ?_)
                          · have hc172 : ¬ x1 = x1 := own_ne1 hc
                            exact absurd rfl hc172
                          · have hc172 : x1 = x1 := own_ne0 hc
                            clear hc
                            show own_R p e below s _ _ _ T69 (mkF m 175 #[.val (.int p0), .val (.int p1), .val (.int p2), .val (.int p3), .val (.int p4), .val (.int (3 : Int32)), .val (.ref b27), .val (.ref b61), .val (.ref br), .val (.int (1 : Int32)), .unset] [])
                            refine own_iconst X69 hx (1 : Int32) (hb hby at_175) rfl ?_
                            refine own_goto X69 hx (hb hby at_176) (pc' := 180) (by decide) (by decide) ?_
                            show own_R p e below s _ _ _ T69 (mkF m 180 #[.val (.int p0), .val (.int p1), .val (.int p2), .val (.int p3), .val (.int p4), .val (.int (3 : Int32)), .val (.ref b27), .val (.ref b61), .val (.ref br), .val (.int (1 : Int32)), .unset] [(.int (1 : Int32))])
                            refine own_istore X69 hx (hb hby at_180) (l' := #[.val (.int p0), .val (.int p1), .val (.int p2), .val (.int p3), .val (.int p4), .val (.int (3 : Int32)), .val (.ref b27), .val (.ref b61), .val (.ref br), .val (.int (1 : Int32)), .unset]) rfl ?_
                            refine own_iload X69 hx (hb hby at_182) rfl ?_
                            refine own_iconst X69 hx (2 : Int32) (hb hby at_184) rfl ?_
                            refine own_icmp X69 hx (hb hby at_185) (pc' := 211) (by decide) (by decide) (fun hc => ?_) (fun hc => ?_)
                            · have hc185 : ¬ (2 : Int32) < (3 : Int32) := own_le1 hc
                              exact absurd (by decide) hc185
                            · have hc185 : (2 : Int32) < (3 : Int32) := own_le0 hc
                              clear hc
                              show own_R p e below s _ _ _ T69 (mkF m 188 #[.val (.int p0), .val (.int p1), .val (.int p2), .val (.int p3), .val (.int p4), .val (.int (3 : Int32)), .val (.ref b27), .val (.ref b61), .val (.ref br), .val (.int (1 : Int32)), .unset] [])
                              refine own_iload X69 hx (hb hby at_188) rfl ?_
                              refine own_if X69 hx (hb hby at_190) (pc' := 208) (by decide) (by decide) (fun hc => ?_) (fun hc => ?_)
                              · have hc190 : (1 : Int32) = (0 : Int32) := own_eq1 hc
                                exact absurd hc190 (by decide)
                              · have hc190 : ¬ (1 : Int32) = (0 : Int32) := own_eq0 hc
                                clear hc
                                show own_R p e below s _ _ _ T69 (mkF m 193 #[.val (.int p0), .val (.int p1), .val (.int p2), .val (.int p3), .val (.int p4), .val (.int (3 : Int32)), .val (.ref b27), .val (.ref b61), .val (.ref br), .val (.int (1 : Int32)), .unset] [])
                                refine own_aload X69 hx (hb hby at_193) rfl rfl ?_
                                refine own_iconst X69 hx (2 : Int32) (hb hby at_195) rfl ?_
                                refine own_baload X69 hx hZ rfl f70 (v := .int x2) ⟨by decide, by decide⟩ rfl (hb hby at_196) ?_
                                show own_R p e below s _ _ _ T69 (mkF m 197 #[.val (.int p0), .val (.int p1), .val (.int p2), .val (.int p3), .val (.int p4), .val (.int (3 : Int32)), .val (.ref b27), .val (.ref b61), .val (.ref br), .val (.int (1 : Int32)), .unset] [(.int x2)])
                                refine own_aload X69 hx (hb hby at_197) rfl rfl ?_
                                refine own_iconst X69 hx (2 : Int32) (hb hby at_199) rfl ?_
                                refine own_baload X69 hx hZ rfl f71 (v := .int x2) ⟨by decide, by decide⟩ rfl (hb hby at_200) ?_
                                show own_R p e below s _ _ _ T69 (mkF m 201 #[.val (.int p0), .val (.int p1), .val (.int p2), .val (.int p3), .val (.int p4), .val (.int (3 : Int32)), .val (.ref b27), .val (.ref b61), .val (.ref br), .val (.int (1 : Int32)), .unset] [(.int x2), (.int x2)])
                                refine own_icmp X69 hx (hb hby at_201) (pc' := 208) (by decide) (by decide) (fun hc => ?_) (fun hc => ?_)
                                · have hc201 : ¬ x2 = x2 := own_ne1 hc
                                  exact absurd rfl hc201
                                · have hc201 : x2 = x2 := own_ne0 hc
                                  clear hc
                                  show own_R p e below s _ _ _ T69 (mkF m 204 #[.val (.int p0), .val (.int p1), .val (.int p2), .val (.int p3), .val (.int p4), .val (.int (3 : Int32)), .val (.ref b27), .val (.ref b61), .val (.ref br), .val (.int (1 : Int32)), .unset] [])
                                  refine own_iconst X69 hx (1 : Int32) (hb hby at_204) rfl ?_
                                  refine own_goto X69 hx (hb hby at_205) (pc' := 209) (by decide) (by decide) ?_
                                  show own_R p e below s _ _ _ T69 (mkF m 209 #[.val (.int p0), .val (.int p1), .val (.int p2), .val (.int p3), .val (.int p4), .val (.int (3 : Int32)), .val (.ref b27), .val (.ref b61), .val (.ref br), .val (.int (1 : Int32)), .unset] [(.int (1 : Int32))])
                                  refine own_istore X69 hx (hb hby at_209) (l' := #[.val (.int p0), .val (.int p1), .val (.int p2), .val (.int p3), .val (.int p4), .val (.int (3 : Int32)), .val (.ref b27), .val (.ref b61), .val (.ref br), .val (.int (1 : Int32)), .unset]) rfl ?_
                                  refine own_iload X69 hx (hb hby at_211) rfl ?_
                                  refine own_iconst X69 hx (3 : Int32) (hb hby at_213) rfl ?_
                                  refine own_icmp X69 hx (hb hby at_214) (pc' := 240) (by decide) (by decide) (fun hc => ?_) (fun hc => ?_)
                                  · have hc214 : ¬ (3 : Int32) < (3 : Int32) := own_le1 hc
                                    clear hc
                                    show own_R p e below s _ _ _ T69 (mkF m 240 #[.val (.int p0), .val (.int p1), .val (.int p2), .val (.int p3), .val (.int p4), .val (.int (3 : Int32)), .val (.ref b27), .val (.ref b61), .val (.ref br), .val (.int (1 : Int32)), .unset] [])
                                    refine own_iconst X69 hx (0 : Int32) (hb hby at_240) rfl ?_
                                    refine own_istore X69 hx (hb hby at_241) (l' := #[.val (.int p0), .val (.int p1), .val (.int p2), .val (.int p3), .val (.int p4), .val (.int (3 : Int32)), .val (.ref b27), .val (.ref b61), .val (.ref br), .val (.int (1 : Int32)), .val (.int (0 : Int32))]) rfl ?_
                                    refine own_iload X69 hx (hb hby at_243) rfl ?_
                                    have Jk0 : ∀ (kk : Int32), own_R p e below s (Q0 Z p0 p1 p2 p3 p4 h0 n0) room_1.cells room_1.slots T69 (mkF m 259 #[.val (.int p0), .val (.int p1), .val (.int p2), .val (.int p3), .val (.int p4), .val (.int (3 : Int32)), .val (.ref b27), .val (.ref b61), .val (.ref br), .val (.int (1 : Int32)), .val (.int kk)] []) := by
                                      intro kk
                                      refine own_iload X69 hx (hb hby at_259) rfl ?_
                                      refine own_iconst X69 hx (1 : Int32) (hb hby at_261) rfl ?_
                                      have Jk1 : ∀ (kk : Int32), own_R p e below s (Q0 Z p0 p1 p2 p3 p4 h0 n0) room_1.cells room_1.slots T69 (mkF m 276 #[.val (.int p0), .val (.int p1), .val (.int p2), .val (.int p3), .val (.int p4), .val (.int (3 : Int32)), .val (.ref b27), .val (.ref b61), .val (.ref br), .val (.int (1 : Int32)), .val (.int kk)] []) := by
                                        intro kk
                                        refine own_iload X69 hx (hb hby at_276) rfl ?_
                                        refine own_iconst X69 hx (2 : Int32) (hb hby at_278) rfl ?_
                                        refine own_icmp X69 hx (hb hby at_279) (pc' := 293) (by decide) (by decide) (fun hc => ?_) (fun hc => ?_)
                                        · have hc279 : ¬ (2 : Int32) < (3 : Int32) := own_le1 hc
                                          exact absurd (by decide) hc279
                                        · have hc279 : (2 : Int32) < (3 : Int32) := own_le0 hc
                                          clear hc
                                          show own_R p e below s _ _ _ T69 (mkF m 282 #[.val (.int p0), .val (.int p1), .val (.int p2), .val (.int p3), .val (.int p4), .val (.int (3 : Int32)), .val (.ref b27), .val (.ref b61), .val (.ref br), .val (.int (1 : Int32)), .val (.int kk)] [])
                                          refine own_aload X69 hx (hb hby at_282) rfl rfl ?_
                                          refine own_iconst X69 hx (2 : Int32) (hb hby at_284) rfl ?_
                                          refine own_baload X69 hx hZ rfl f71 (v := .int x2) ⟨by decide, by decide⟩ rfl (hb hby at_285) ?_
                                          show own_R p e below s _ _ _ T69 (mkF m 286 #[.val (.int p0), .val (.int p1), .val (.int p2), .val (.int p3), .val (.int p4), .val (.int (3 : Int32)), .val (.ref b27), .val (.ref b61), .val (.ref br), .val (.int (1 : Int32)), .val (.int kk)] [(.int x2)])
                                          refine own_iconst X69 hx (-1 : Int32) (hb hby at_286) rfl ?_
                                          refine own_icmp X69 hx (hb hby at_287) (pc' := 293) (by decide) (by decide) (fun hc => ?_) (fun hc => ?_)
                                          · have hc287 : x2 = (-1 : Int32) := own_eq1 hc
                                            exact absurd hc287 y2
                                          · have hc287 : ¬ x2 = (-1 : Int32) := own_eq0 hc
                                            clear hc
                                            show own_R p e below s _ _ _ T69 (mkF m 290 #[.val (.int p0), .val (.int p1), .val (.int p2), .val (.int p3), .val (.int p4), .val (.int (3 : Int32)), .val (.ref b27), .val (.ref b61), .val (.ref br), .val (.int (1 : Int32)), .val (.int kk)] [])
                                            refine own_iconst X69 hx (3 : Int32) (hb hby at_290) rfl ?_
                                            refine own_istore X69 hx (hb hby at_291) (l' := #[.val (.int p0), .val (.int p1), .val (.int p2), .val (.int p3), .val (.int p4), .val (.int (3 : Int32)), .val (.ref b27), .val (.ref b61), .val (.ref br), .val (.int (1 : Int32)), .val (.int (3 : Int32))]) rfl ?_
                                            refine own_iload X69 hx (hb hby at_293) rfl ?_
                                            refine own_iconst X69 hx (3 : Int32) (hb hby at_295) rfl ?_
                                            refine own_icmp X69 hx (hb hby at_296) (pc' := 310) (by decide) (by decide) (fun hc => ?_) (fun hc => ?_)
                                            · have hc296 : ¬ (3 : Int32) < (3 : Int32) := own_le1 hc
                                              clear hc
                                              show own_R p e below s _ _ _ T69 (mkF m 310 #[.val (.int p0), .val (.int p1), .val (.int p2), .val (.int p3), .val (.int p4), .val (.int (3 : Int32)), .val (.ref b27), .val (.ref b61), .val (.ref br), .val (.int (1 : Int32)), .val (.int (3 : Int32))] [])
                                              refine own_iload X69 hx (hb hby at_310) rfl ?_
                                              refine own_if X69 hx (hb hby at_312) (pc' := 331) (by decide) (by decide) (fun hc => ?_) (fun hc => ?_)
                                              · have hc312 : ¬ (3 : Int32) = (0 : Int32) := own_ne1 hc
                                                clear hc
                                                show own_R p e below s _ _ _ T69 (mkF m 331 #[.val (.int p0), .val (.int p1), .val (.int p2), .val (.int p3), .val (.int p4), .val (.int (3 : Int32)), .val (.ref b27), .val (.ref b61), .val (.ref br), .val (.int (1 : Int32)), .val (.int (3 : Int32))] [])
                                                refine own_aload X69 hx (hb hby at_331) rfl rfl ?_
                                                refine own_ifnullN X69 hx (hb hby at_333) ?_
                                                show own_R p e below s _ _ _ T69 (mkF m 336 #[.val (.int p0), .val (.int p1), .val (.int p2), .val (.int p3), .val (.int p4), .val (.int (3 : Int32)), .val (.ref b27), .val (.ref b61), .val (.ref br), .val (.int (1 : Int32)), .val (.int (3 : Int32))] [])
                                                refine own_aload X69 hx (hb hby at_336) rfl rfl ?_
                                                refine own_len X69 hx hZ rfl Vr (hb hby at_338) ?_
                                                show own_R p e below s _ _ _ T69 (mkF m 339 #[.val (.int p0), .val (.int p1), .val (.int p2), .val (.int p3), .val (.int p4), .val (.int (3 : Int32)), .val (.ref b27), .val (.ref b61), .val (.ref br), .val (.int (1 : Int32)), .val (.int (3 : Int32))] [(.int (3 : Int32))])
                                                refine own_iload X69 hx (hb hby at_339) rfl ?_
                                                refine own_icmp X69 hx (hb hby at_341) (pc' := 346) (by decide) (by decide) (fun hc => ?_) (fun hc => ?_)
                                                · have hc341 : (3 : Int32) = (3 : Int32) := own_eq1 hc
                                                  clear hc
                                                  show own_R p e below s _ _ _ T69 (mkF m 346 #[.val (.int p0), .val (.int p1), .val (.int p2), .val (.int p3), .val (.int p4), .val (.int (3 : Int32)), .val (.ref b27), .val (.ref b61), .val (.ref br), .val (.int (1 : Int32)), .val (.int (3 : Int32))] [])
                                                  refine own_iload X69 hx (hb hby at_346) rfl ?_
                                                  refine own_iconst X69 hx (1 : Int32) (hb hby at_348) rfl ?_
                                                  refine own_icmp X69 hx (hb hby at_349) (pc' := 375) (by decide) (by decide) (fun hc => ?_) (fun hc => ?_)
                                                  · have hc349 : ¬ (1 : Int32) < (3 : Int32) := own_le1 hc
                                                    exact absurd (by decide) hc349
                                                  · have hc349 : (1 : Int32) < (3 : Int32) := own_le0 hc
                                                    clear hc
                                                    show own_R p e below s _ _ _ T69 (mkF m 352 #[.val (.int p0), .val (.int p1), .val (.int p2), .val (.int p3), .val (.int p4), .val (.int (3 : Int32)), .val (.ref b27), .val (.ref b61), .val (.ref br), .val (.int (1 : Int32)), .val (.int (3 : Int32))] [])
                                                    refine own_iload X69 hx (hb hby at_352) rfl ?_
                                                    refine own_if X69 hx (hb hby at_354) (pc' := 372) (by decide) (by decide) (fun hc => ?_) (fun hc => ?_)
                                                    · have hc354 : (1 : Int32) = (0 : Int32) := own_eq1 hc
                                                      exact absurd hc354 (by decide)
                                                    · have hc354 : ¬ (1 : Int32) = (0 : Int32) := own_eq0 hc
                                                      clear hc
                                                      show own_R p e below s _ _ _ T69 (mkF m 357 #[.val (.int p0), .val (.int p1), .val (.int p2), .val (.int p3), .val (.int p4), .val (.int (3 : Int32)), .val (.ref b27), .val (.ref b61), .val (.ref br), .val (.int (1 : Int32)), .val (.int (3 : Int32))] [])
                                                      refine own_aload X69 hx (hb hby at_357) rfl rfl ?_
                                                      refine own_iconst X69 hx (0 : Int32) (hb hby at_359) rfl ?_
                                                      refine own_baload X69 hx hZ rfl Vr (v := .int x0) ⟨by decide, by decide⟩ rfl (hb hby at_360) ?_
                                                      show own_R p e below s _ _ _ T69 (mkF m 361 #[.val (.int p0), .val (.int p1), .val (.int p2), .val (.int p3), .val (.int p4), .val (.int (3 : Int32)), .val (.ref b27), .val (.ref b61), .val (.ref br), .val (.int (1 : Int32)), .val (.int (3 : Int32))] [(.int x0)])
                                                      refine own_aload X69 hx (hb hby at_361) rfl rfl ?_
                                                      refine own_iconst X69 hx (0 : Int32) (hb hby at_363) rfl ?_
                                                      refine own_baload X69 hx hZ rfl f71 (v := .int x0) ⟨by decide, by decide⟩ rfl (hb hby at_364) ?_
                                                      show own_R p e below s _ _ _ T69 (mkF m 365 #[.val (.int p0), .val (.int p1), .val (.int p2), .val (.int p3), .val (.int p4), .val (.int (3 : Int32)), .val (.ref b27), .val (.ref b61), .val (.ref br), .val (.int (1 : Int32)), .val (.int (3 : Int32))] [(.int x0), (.int x0)])
                                                      refine own_icmp X69 hx (hb hby at_365) (pc' := 372) (by decide) (by decide) (fun hc => ?_) (fun hc => ?_)
                                                      · have hc365 : ¬ x0 = x0 := own_ne1 hc
                                                        exact absurd rfl hc365
                                                      · have hc365 : x0 = x0 := own_ne0 hc
                                                        clear hc
                                                        show own_R p e below s _ _ _ T69 (mkF m 368 #[.val (.int p0), .val (.int p1), .val (.int p2), .val (.int p3), .val (.int p4), .val (.int (3 : Int32)), .val (.ref b27), .val (.ref b61), .val (.ref br), .val (.int (1 : Int32)), .val (.int (3 : Int32))] [])
                                                        refine own_iconst X69 hx (1 : Int32) (hb hby at_368) rfl ?_
                                                        refine own_goto X69 hx (hb hby at_369) (pc' := 373) (by decide) (by decide) ?_
                                                        show own_R p e below s _ _ _ T69 (mkF m 373 #[.val (.int p0), .val (.int p1), .val (.int p2), .val (.int p3), .val (.int p4), .val (.int (3 : Int32)), .val (.ref b27), .val (.ref b61), .val (.ref br), .val (.int (1 : Int32)), .val (.int (3 : Int32))] [(.int (1 : Int32))])
                                                        refine own_istore X69 hx (hb hby at_373) (l' := #[.val (.int p0), .val (.int p1), .val (.int p2), .val (.int p3), .val (.int p4), .val (.int (3 : Int32)), .val (.ref b27), .val (.ref b61), .val (.ref br), .val (.int (1 : Int32)), .val (.int (3 : Int32))]) rfl ?_
                                                        refine own_iload X69 hx (hb hby at_375) rfl ?_
                                                        refine own_iconst X69 hx (2 : Int32) (hb hby at_377) rfl ?_
                                                        refine own_icmp X69 hx (hb hby at_378) (pc' := 404) (by decide) (by decide) (fun hc => ?_) (fun hc => ?_)
                                                        · have hc378 : ¬ (2 : Int32) < (3 : Int32) := own_le1 hc
                                                          exact absurd (by decide) hc378
                                                        · have hc378 : (2 : Int32) < (3 : Int32) := own_le0 hc
                                                          clear hc
                                                          show own_R p e below s _ _ _ T69 (mkF m 381 #[.val (.int p0), .val (.int p1), .val (.int p2), .val (.int p3), .val (.int p4), .val (.int (3 : Int32)), .val (.ref b27), .val (.ref b61), .val (.ref br), .val (.int (1 : Int32)), .val (.int (3 : Int32))] [])
                                                          refine own_iload X69 hx (hb hby at_381) rfl ?_
                                                          refine own_if X69 hx (hb hby at_383) (pc' := 401) (by decide) (by decide) (fun hc => ?_) (fun hc => ?_)
                                                          · have hc383 : (1 : Int32) = (0 : Int32) := own_eq1 hc
                                                            exact absurd hc383 (by decide)
                                                          · have hc383 : ¬ (1 : Int32) = (0 : Int32) := own_eq0 hc
                                                            clear hc
                                                            show own_R p e below s _ _ _ T69 (mkF m 386 #[.val (.int p0), .val (.int p1), .val (.int p2), .val (.int p3), .val (.int p4), .val (.int (3 : Int32)), .val (.ref b27), .val (.ref b61), .val (.ref br), .val (.int (1 : Int32)), .val (.int (3 : Int32))] [])
                                                            refine own_aload X69 hx (hb hby at_386) rfl rfl ?_
                                                            refine own_iconst X69 hx (1 : Int32) (hb hby at_388) rfl ?_
                                                            refine own_baload X69 hx hZ rfl Vr (v := .int x1) ⟨by decide, by decide⟩ rfl (hb hby at_389) ?_
                                                            show own_R p e below s _ _ _ T69 (mkF m 390 #[.val (.int p0), .val (.int p1), .val (.int p2), .val (.int p3), .val (.int p4), .val (.int (3 : Int32)), .val (.ref b27), .val (.ref b61), .val (.ref br), .val (.int (1 : Int32)), .val (.int (3 : Int32))] [(.int x1)])
                                                            refine own_aload X69 hx (hb hby at_390) rfl rfl ?_
                                                            refine own_iconst X69 hx (1 : Int32) (hb hby at_392) rfl ?_
                                                            refine own_baload X69 hx hZ rfl f71 (v := .int x1) ⟨by decide, by decide⟩ rfl (hb hby at_393) ?_
                                                            show own_R p e below s _ _ _ T69 (mkF m 394 #[.val (.int p0), .val (.int p1), .val (.int p2), .val (.int p3), .val (.int p4), .val (.int (3 : Int32)), .val (.ref b27), .val (.ref b61), .val (.ref br), .val (.int (1 : Int32)), .val (.int (3 : Int32))] [(.int x1), (.int x1)])
                                                            refine own_icmp X69 hx (hb hby at_394) (pc' := 401) (by decide) (by decide) (fun hc => ?_) (fun hc => ?_)
                                                            · have hc394 : ¬ x1 = x1 := own_ne1 hc
                                                              exact absurd rfl hc394
                                                            · have hc394 : x1 = x1 := own_ne0 hc
                                                              clear hc
                                                              show own_R p e below s _ _ _ T69 (mkF m 397 #[.val (.int p0), .val (.int p1), .val (.int p2), .val (.int p3), .val (.int p4), .val (.int (3 : Int32)), .val (.ref b27), .val (.ref b61), .val (.ref br), .val (.int (1 : Int32)), .val (.int (3 : Int32))] [])
                                                              refine own_iconst X69 hx (1 : Int32) (hb hby at_397) rfl ?_
                                                              refine own_goto X69 hx (hb hby at_398) (pc' := 402) (by decide) (by decide) ?_
                                                              show own_R p e below s _ _ _ T69 (mkF m 402 #[.val (.int p0), .val (.int p1), .val (.int p2), .val (.int p3), .val (.int p4), .val (.int (3 : Int32)), .val (.ref b27), .val (.ref b61), .val (.ref br), .val (.int (1 : Int32)), .val (.int (3 : Int32))] [(.int (1 : Int32))])
                                                              refine own_istore X69 hx (hb hby at_402) (l' := #[.val (.int p0), .val (.int p1), .val (.int p2), .val (.int p3), .val (.int p4), .val (.int (3 : Int32)), .val (.ref b27), .val (.ref b61), .val (.ref br), .val (.int (1 : Int32)), .val (.int (3 : Int32))]) rfl ?_
                                                              refine own_iload X69 hx (hb hby at_404) rfl ?_
                                                              refine own_iconst X69 hx (3 : Int32) (hb hby at_406) rfl ?_
                                                              refine own_icmp X69 hx (hb hby at_407) (pc' := 433) (by decide) (by decide) (fun hc => ?_) (fun hc => ?_)
                                                              · have hc407 : ¬ (3 : Int32) < (3 : Int32) := own_le1 hc
                                                                clear hc
                                                                show own_R p e below s _ _ _ T69 (mkF m 433 #[.val (.int p0), .val (.int p1), .val (.int p2), .val (.int p3), .val (.int p4), .val (.int (3 : Int32)), .val (.ref b27), .val (.ref b61), .val (.ref br), .val (.int (1 : Int32)), .val (.int (3 : Int32))] [])
                                                                refine own_iload X69 hx (hb hby at_433) rfl ?_
                                                                refine own_if X69 hx (hb hby at_435) (pc' := 462) (by decide) (by decide) (fun hc => ?_) (fun hc => ?_)
                                                                · have hc435 : (1 : Int32) = (0 : Int32) := own_eq1 hc
                                                                  exact absurd hc435 (by decide)
                                                                · have hc435 : ¬ (1 : Int32) = (0 : Int32) := own_eq0 hc
                                                                  clear hc
                                                                  show own_R p e below s _ _ _ T69 (mkF m 438 #[.val (.int p0), .val (.int p1), .val (.int p2), .val (.int p3), .val (.int p4), .val (.int (3 : Int32)), .val (.ref b27), .val (.ref b61), .val (.ref br), .val (.int (1 : Int32)), .val (.int (3 : Int32))] [])
                                                                  refine own_aload X69 hx (hb hby at_438) rfl rfl ?_
                                                                  refine own_iload X69 hx (hb hby at_440) rfl ?_
                                                                  refine own_iconst X69 hx (1 : Int32) (hb hby at_442) rfl ?_
                                                                  refine own_isub X69 hx (hb hby at_443) ?_
                                                                  refine own_baload X69 hx hZ rfl Vr (v := .int ((x2 + (1 : Int32)).toInt8.toInt32)) ⟨by decide, by decide⟩ rfl (hb hby at_444) ?_
                                                                  show own_R p e below s _ _ _ T69 (mkF m 445 #[.val (.int p0), .val (.int p1), .val (.int p2), .val (.int p3), .val (.int p4), .val (.int (3 : Int32)), .val (.ref b27), .val (.ref b61), .val (.ref br), .val (.int (1 : Int32)), .val (.int (3 : Int32))] [(.int ((x2 + (1 : Int32)).toInt8.toInt32))])
                                                                  refine own_aload X69 hx (hb hby at_445) rfl rfl ?_
                                                                  refine own_iload X69 hx (hb hby at_447) rfl ?_
                                                                  refine own_iconst X69 hx (1 : Int32) (hb hby at_449) rfl ?_
                                                                  refine own_isub X69 hx (hb hby at_450) ?_
                                                                  refine own_baload X69 hx hZ rfl f71 (v := .int x2) ⟨by decide, by decide⟩ rfl (hb hby at_451) ?_
                                                                  show own_R p e below s _ _ _ T69 (mkF m 452 #[.val (.int p0), .val (.int p1), .val (.int p2), .val (.int p3), .val (.int p4), .val (.int (3 : Int32)), .val (.ref b27), .val (.ref b61), .val (.ref br), .val (.int (1 : Int32)), .val (.int (3 : Int32))] [(.int x2), (.int ((x2 + (1 : Int32)).toInt8.toInt32))])
                                                                  refine own_iconst X69 hx (1 : Int32) (hb hby at_452) rfl ?_
                                                                  refine own_iadd X69 hx (hb hby at_453) ?_
                                                                  refine own_i2b X69 hx (hb hby at_454) ?_
                                                                  refine own_icmp X69 hx (hb hby at_455) (pc' := 462) (by decide) (by decide) (fun hc => ?_) (fun hc => ?_)
                                                                  · have hc455 : ¬ ((x2 + (1 : Int32)).toInt8.toInt32) = ((x2 + (1 : Int32)).toInt8.toInt32) := own_ne1 hc
                                                                    exact absurd rfl hc455
                                                                  · have hc455 : ((x2 + (1 : Int32)).toInt8.toInt32) = ((x2 + (1 : Int32)).toInt8.toInt32) := own_ne0 hc
                                                                    clear hc
                                                                    show own_R p e below s _ _ _ T69 (mkF m 458 #[.val (.int p0), .val (.int p1), .val (.int p2), .val (.int p3), .val (.int p4), .val (.int (3 : Int32)), .val (.ref b27), .val (.ref b61), .val (.ref br), .val (.int (1 : Int32)), .val (.int (3 : Int32))] [])
                                                                    refine own_iconst X69 hx (1 : Int32) (hb hby at_458) rfl ?_
                                                                    refine own_goto X69 hx (hb hby at_459) (pc' := 463) (by decide) (by decide) ?_
                                                                    show own_R p e below s _ _ _ T69 (mkF m 463 #[.val (.int p0), .val (.int p1), .val (.int p2), .val (.int p3), .val (.int p4), .val (.int (3 : Int32)), .val (.ref b27), .val (.ref b61), .val (.ref br), .val (.int (1 : Int32)), .val (.int (3 : Int32))] [(.int (1 : Int32))])
                                                                    refine own_istore X69 hx (hb hby at_463) (l' := #[.val (.int p0), .val (.int p1), .val (.int p2), .val (.int p3), .val (.int p4), .val (.int (3 : Int32)), .val (.ref b27), .val (.ref b61), .val (.ref br), .val (.int (1 : Int32)), .val (.int (3 : Int32))]) rfl ?_
                                                                    refine own_iload X69 hx (hb hby at_465) rfl ?_
                                                                    refine own_retN X69 hx (t := .boolean) Bd.returns (by simp) hlk (hb hby at_467) ?_ (by decide) (by decide)
                                                                    exact ⟨rfl, N69⟩
                                                              · have hc407 : (3 : Int32) < (3 : Int32) := own_le0 hc
                                                                exact absurd hc407 (by decide)
                                                · have hc341 : ¬ (3 : Int32) = (3 : Int32) := own_eq0 hc
                                                  exact absurd (by decide) hc341
                                              · have hc312 : (3 : Int32) = (0 : Int32) := own_ne0 hc
                                                exact absurd hc312 (by decide)
                                            · have hc296 : (3 : Int32) < (3 : Int32) := own_le0 hc
                                              exact absurd hc296 (by decide)
                                      refine own_icmp X69 hx (hb hby at_262) (pc' := 276) (by decide) (by decide) (fun hc => ?_) (fun hc => ?_)
                                      · have hc262 : ¬ (1 : Int32) < (3 : Int32) := own_le1 hc
                                        exact absurd (by decide) hc262
                                      · have hc262 : (1 : Int32) < (3 : Int32) := own_le0 hc
                                        clear hc
                                        show own_R p e below s _ _ _ T69 (mkF m 265 #[.val (.int p0), .val (.int p1), .val (.int p2), .val (.int p3), .val (.int p4), .val (.int (3 : Int32)), .val (.ref b27), .val (.ref b61), .val (.ref br), .val (.int (1 : Int32)), .val (.int kk)] [])
                                        refine own_aload X69 hx (hb hby at_265) rfl rfl ?_
                                        refine own_iconst X69 hx (1 : Int32) (hb hby at_267) rfl ?_
                                        refine own_baload X69 hx hZ rfl f71 (v := .int x1) ⟨by decide, by decide⟩ rfl (hb hby at_268) ?_
                                        show own_R p e below s _ _ _ T69 (mkF m 269 #[.val (.int p0), .val (.int p1), .val (.int p2), .val (.int p3), .val (.int p4), .val (.int (3 : Int32)), .val (.ref b27), .val (.ref b61), .val (.ref br), .val (.int (1 : Int32)), .val (.int kk)] [(.int x1)])
                                        refine own_iconst X69 hx (-1 : Int32) (hb hby at_269) rfl ?_
                                        refine own_icmp X69 hx (hb hby at_270) (pc' := 276) (by decide) (by decide) (fun hc => ?_) (fun hc => ?_)
                                        · have hc270 : x1 = (-1 : Int32) := own_eq1 hc
                                          clear hc
                                          show own_R p e below s _ _ _ T69 (mkF m 276 #[.val (.int p0), .val (.int p1), .val (.int p2), .val (.int p3), .val (.int p4), .val (.int (3 : Int32)), .val (.ref b27), .val (.ref b61), .val (.ref br), .val (.int (1 : Int32)), .val (.int kk)] [])
                                          exact Jk1 _
                                        · have hc270 : ¬ x1 = (-1 : Int32) := own_eq0 hc
                                          clear hc
                                          show own_R p e below s _ _ _ T69 (mkF m 273 #[.val (.int p0), .val (.int p1), .val (.int p2), .val (.int p3), .val (.int p4), .val (.int (3 : Int32)), .val (.ref b27), .val (.ref b61), .val (.ref br), .val (.int (1 : Int32)), .val (.int kk)] [])
                                          refine own_iconst X69 hx (2 : Int32) (hb hby at_273) rfl ?_
                                          refine own_istore X69 hx (hb hby at_274) (l' := #[.val (.int p0), .val (.int p1), .val (.int p2), .val (.int p3), .val (.int p4), .val (.int (3 : Int32)), .val (.ref b27), .val (.ref b61), .val (.ref br), .val (.int (1 : Int32)), .val (.int (2 : Int32))]) rfl ?_
                                          exact Jk1 _
                                    refine own_if X69 hx (hb hby at_245) (pc' := 259) (by decide) (by decide) (fun hc => ?_) (fun hc => ?_)
                                    · have hc245 : ¬ (0 : Int32) < (3 : Int32) := own_le1 hc
                                      exact absurd (by decide) hc245
                                    · have hc245 : (0 : Int32) < (3 : Int32) := own_le0 hc
                                      clear hc
                                      show own_R p e below s _ _ _ T69 (mkF m 248 #[.val (.int p0), .val (.int p1), .val (.int p2), .val (.int p3), .val (.int p4), .val (.int (3 : Int32)), .val (.ref b27), .val (.ref b61), .val (.ref br), .val (.int (1 : Int32)), .val (.int (0 : Int32))] [])
                                      refine own_aload X69 hx (hb hby at_248) rfl rfl ?_
                                      refine own_iconst X69 hx (0 : Int32) (hb hby at_250) rfl ?_
                                      refine own_baload X69 hx hZ rfl f71 (v := .int x0) ⟨by decide, by decide⟩ rfl (hb hby at_251) ?_
                                      show own_R p e below s _ _ _ T69 (mkF m 252 #[.val (.int p0), .val (.int p1), .val (.int p2), .val (.int p3), .val (.int p4), .val (.int (3 : Int32)), .val (.ref b27), .val (.ref b61), .val (.ref br), .val (.int (1 : Int32)), .val (.int (0 : Int32))] [(.int x0)])
                                      refine own_iconst X69 hx (-1 : Int32) (hb hby at_252) rfl ?_
                                      refine own_icmp X69 hx (hb hby at_253) (pc' := 259) (by decide) (by decide) (fun hc => ?_) (fun hc => ?_)
                                      · have hc253 : x0 = (-1 : Int32) := own_eq1 hc
                                        clear hc
                                        show own_R p e below s _ _ _ T69 (mkF m 259 #[.val (.int p0), .val (.int p1), .val (.int p2), .val (.int p3), .val (.int p4), .val (.int (3 : Int32)), .val (.ref b27), .val (.ref b61), .val (.ref br), .val (.int (1 : Int32)), .val (.int (0 : Int32))] [])
                                        exact Jk0 _
                                      · have hc253 : ¬ x0 = (-1 : Int32) := own_eq0 hc
                                        clear hc
                                        show own_R p e below s _ _ _ T69 (mkF m 256 #[.val (.int p0), .val (.int p1), .val (.int p2), .val (.int p3), .val (.int p4), .val (.int (3 : Int32)), .val (.ref b27), .val (.ref b61), .val (.ref br), .val (.int (1 : Int32)), .val (.int (0 : Int32))] [])
                                        refine own_iconst X69 hx (1 : Int32) (hb hby at_256) rfl ?_
                                        refine own_istore X69 hx (hb hby at_257) (l' := #[.val (.int p0), .val (.int p1), .val (.int p2), .val (.int p3), .val (.int p4), .val (.int (3 : Int32)), .val (.ref b27), .val (.ref b61), .val (.ref br), .val (.int (1 : Int32)), .val (.int (1 : Int32))]) rfl ?_
                                        exact Jk0 _
                                  · have hc214 : (3 : Int32) < (3 : Int32) := own_le0 hc
                                    exact absurd hc214 (by decide)
            ·
              show own_R p e below s _ _ _ T69 (mkF m 108 #[.val (.int p0), .val (.int p1), .val (.int p2), .val (.int p3), .val (.int p4), .val (.int (3 : Int32)), .val (.ref b27), .val (.ref b61), .unset, .unset, .unset] [(.ref br)])
              refine own_astore X69 hx (hb hby at_108) rfl (l' := #[.val (.int p0), .val (.int p1), .val (.int p2), .val (.int p3), .val (.int p4), .val (.int (3 : Int32)), .val (.ref b27), .val (.ref b61), .val (.ref br), .unset, .unset]) rfl ?_
              refine own_aload X69 hx (hb hby at_110) rfl rfl ?_
              have f72 := (V_b61_67.keep Kc69 nin0)
              refine own_len X69 hx hZ rfl f72 (hb hby at_112) ?_
              show own_R p e below s _ _ _ T69 (mkF m 113 #[.val (.int p0), .val (.int p1), .val (.int p2), .val (.int p3), .val (.int p4), .val (.int (3 : Int32)), .val (.ref b27), .val (.ref b61), .val (.ref br), .unset, .unset] [(.int (3 : Int32))])
              refine own_iload X69 hx (hb hby at_113) rfl ?_
              refine own_icmp X69 hx (hb hby at_115) (pc' := 122) (by decide) (by decide) (fun hc => ?_) (fun hc => ?_)
              · have hc115 : ¬ (3 : Int32) = (3 : Int32) := own_ne1 hc
                exact absurd (by decide) hc115
              · have hc115 : (3 : Int32) = (3 : Int32) := own_ne0 hc
                clear hc
                show own_R p e below s _ _ _ T69 (mkF m 118 #[.val (.int p0), .val (.int p1), .val (.int p2), .val (.int p3), .val (.int p4), .val (.int (3 : Int32)), .val (.ref b27), .val (.ref b61), .val (.ref br), .unset, .unset] [])
                refine own_iconst X69 hx (1 : Int32) (hb hby at_118) rfl ?_
                refine own_goto X69 hx (hb hby at_119) (pc' := 123) (by decide) (by decide) ?_
                show own_R p e below s _ _ _ T69 (mkF m 123 #[.val (.int p0), .val (.int p1), .val (.int p2), .val (.int p3), .val (.int p4), .val (.int (3 : Int32)), .val (.ref b27), .val (.ref b61), .val (.ref br), .unset, .unset] [(.int (1 : Int32))])
                refine own_istore X69 hx (hb hby at_123) (l' := #[.val (.int p0), .val (.int p1), .val (.int p2), .val (.int p3), .val (.int p4), .val (.int (3 : Int32)), .val (.ref b27), .val (.ref b61), .val (.ref br), .val (.int (1 : Int32)), .unset]) rfl ?_
                refine own_iload X69 hx (hb hby at_125) rfl ?_
                refine own_if X69 hx (hb hby at_127) (pc' := 153) (by decide) (by decide) (fun hc => ?_) (fun hc => ?_)
                · have hc127 : ¬ (0 : Int32) < (3 : Int32) := own_le1 hc
                  exact absurd (by decide) hc127
                · have hc127 : (0 : Int32) < (3 : Int32) := own_le0 hc
                  clear hc
                  show own_R p e below s _ _ _ T69 (mkF m 130 #[.val (.int p0), .val (.int p1), .val (.int p2), .val (.int p3), .val (.int p4), .val (.int (3 : Int32)), .val (.ref b27), .val (.ref b61), .val (.ref br), .val (.int (1 : Int32)), .unset] [])
                  refine own_iload X69 hx (hb hby at_130) rfl ?_
                  refine own_if X69 hx (hb hby at_132) (pc' := 150) (by decide) (by decide) (fun hc => ?_) (fun hc => ?_)
                  · have hc132 : (1 : Int32) = (0 : Int32) := own_eq1 hc
                    exact absurd hc132 (by decide)
                  · have hc132 : ¬ (1 : Int32) = (0 : Int32) := own_eq0 hc
                    clear hc
                    show own_R p e below s _ _ _ T69 (mkF m 135 #[.val (.int p0), .val (.int p1), .val (.int p2), .val (.int p3), .val (.int p4), .val (.int (3 : Int32)), .val (.ref b27), .val (.ref b61), .val (.ref br), .val (.int (1 : Int32)), .unset] [])
                    refine own_aload X69 hx (hb hby at_135) rfl rfl ?_
                    refine own_iconst X69 hx (0 : Int32) (hb hby at_137) rfl ?_
                    refine own_baload X69 hx hZ rfl f72 (v := .int x0) ⟨by decide, by decide⟩ rfl (hb hby at_138) ?_
                    show own_R p e below s _ _ _ T69 (mkF m 139 #[.val (.int p0), .val (.int p1), .val (.int p2), .val (.int p3), .val (.int p4), .val (.int (3 : Int32)), .val (.ref b27), .val (.ref b61), .val (.ref br), .val (.int (1 : Int32)), .unset] [(.int x0)])
                    refine own_aload X69 hx (hb hby at_139) rfl rfl ?_
                    refine own_iconst X69 hx (0 : Int32) (hb hby at_141) rfl ?_
                    have f73 := ((f66.other W67 ne_b27_b61).keep Kc69 nin0)
                    refine own_baload X69 hx hZ rfl f73 (v := .int x0) ⟨by decide, by decide⟩ rfl (hb hby at_142) ?_
                    show own_R p e below s _ _ _ T69 (mkF m 143 #[.val (.int p0), .val (.int p1), .val (.int p2), .val (.int p3), .val (.int p4), .val (.int (3 : Int32)), .val (.ref b27), .val (.ref b61), .val (.ref br), .val (.int (1 : Int32)), .unset] [(.int x0), (.int x0)])
                    refine own_icmp X69 hx (hb hby at_143) (pc' := 150) (by decide) (by decide) (fun hc => ?_) (fun hc => ?_)
                    · have hc143 : ¬ x0 = x0 := own_ne1 hc
                      exact absurd rfl hc143
                    · have hc143 : x0 = x0 := own_ne0 hc
                      clear hc
                      show own_R p e below s _ _ _ T69 (mkF m 146 #[.val (.int p0), .val (.int p1), .val (.int p2), .val (.int p3), .val (.int p4), .val (.int (3 : Int32)), .val (.ref b27), .val (.ref b61), .val (.ref br), .val (.int (1 : Int32)), .unset] [])
                      refine own_iconst X69 hx (1 : Int32) (hb hby at_146) rfl ?_
                      refine own_goto X69 hx (hb hby at_147) (pc' := 151) (by decide) (by decide) ?_
                      show own_R p e below s _ _ _ T69 (mkF m 151 #[.val (.int p0), .val (.int p1), .val (.int p2), .val (.int p3), .val (.int p4), .val (.int (3 : Int32)), .val (.ref b27), .val (.ref b61), .val (.ref br), .val (.int (1 : Int32)), .unset] [(.int (1 : Int32))])
                      refine own_istore X69 hx (hb hby at_151) (l' := #[.val (.int p0), .val (.int p1), .val (.int p2), .val (.int p3), .val (.int p4), .val (.int (3 : Int32)), .val (.ref b27), .val (.ref b61), .val (.ref br), .val (.int (1 : Int32)), .unset]) rfl ?_
                      refine own_iload X69 hx (hb hby at_153) rfl ?_
                      refine own_iconst X69 hx (1 : Int32) (hb hby at_155) rfl ?_
                      refine own_icmp X69 hx (hb hby at_156) (pc' := 182) (by decide) (by decide) (fun hc => ?_) (fun hc => ?_)
                      · have hc156 : ¬ (1 : Int32) < (3 : Int32) := own_le1 hc
                        exact absurd (by decide) hc156
                      · have hc156 : (1 : Int32) < (3 : Int32) := own_le0 hc
                        clear hc
                        show own_R p e below s _ _ _ T69 (mkF m 159 #[.val (.int p0), .val (.int p1), .val (.int p2), .val (.int p3), .val (.int p4), .val (.int (3 : Int32)), .val (.ref b27), .val (.ref b61), .val (.ref br), .val (.int (1 : Int32)), .unset] [])
                        refine own_iload X69 hx (hb hby at_159) rfl ?_
                        refine own_if X69 hx (hb hby at_161) (pc' := 179) (by decide) (by decide) (fun hc => ?_) (fun hc => ?_)
                        · have hc161 : (1 : Int32) = (0 : Int32) := own_eq1 hc
                          exact absurd hc161 (by decide)
                        · have hc161 : ¬ (1 : Int32) = (0 : Int32) := own_eq0 hc
                          clear hc
                          show own_R p e below s _ _ _ T69 (mkF m 164 #[.val (.int p0), .val (.int p1), .val (.int p2), .val (.int p3), .val (.int p4), .val (.int (3 : Int32)), .val (.ref b27), .val (.ref b61), .val (.ref br), .val (.int (1 : Int32)), .unset] [])
                          refine own_aload X69 hx (hb hby at_164) rfl rfl ?_
                          refine own_iconst X69 hx (1 : Int32) (hb hby at_166) rfl ?_
                          refine own_baload X69 hx hZ rfl f72 (v := .int x1) ⟨by decide, by decide⟩ rfl (hb hby at_167) ?_
                          show own_R p e below s _ _ _ T69 (mkF m 168 #[.val (.int p0), .val (.int p1), .val (.int p2), .val (.int p3), .val (.int p4), .val (.int (3 : Int32)), .val (.ref b27), .val (.ref b61), .val (.ref br), .val (.int (1 : Int32)), .unset] [(.int x1)])
                          refine own_aload X69 hx (hb hby at_168) rfl rfl ?_
                          refine own_iconst X69 hx (1 : Int32) (hb hby at_170) rfl ?_
                          refine own_baload X69 hx hZ rfl f73 (v := .int x1) ⟨by decide, by decide⟩ rfl (hb hby at_171) ?_
                          show own_R p e below s _ _ _ T69 (mkF m 172 #[.val (.int p0), .val (.int p1), .val (.int p2), .val (.int p3), .val (.int p4), .val (.int (3 : Int32)), .val (.ref b27), .val (.ref b61), .val (.ref br), .val (.int (1 : Int32)), .unset] [(.int x1), (.int x1)])
                          refine own_icmp X69 hx (hb hby at_172) (pc' := 179) (by decide) (by decide) (fun hc => ?_) (fun hc => ?_)
                          · have hc172 : ¬ x1 = x1 := own_ne1 hc
                            exact absurd rfl hc172
                          · have hc172 : x1 = x1 := own_ne0 hc
                            clear hc
                            show own_R p e below s _ _ _ T69 (mkF m 175 #[.val (.int p0), .val (.int p1), .val (.int p2), .val (.int p3), .val (.int p4), .val (.int (3 : Int32)), .val (.ref b27), .val (.ref b61), .val (.ref br), .val (.int (1 : Int32)), .unset] [])
                            refine own_iconst X69 hx (1 : Int32) (hb hby at_175) rfl ?_
                            refine own_goto X69 hx (hb hby at_176) (pc' := 180) (by decide) (by decide) ?_
                            show own_R p e below s _ _ _ T69 (mkF m 180 #[.val (.int p0), .val (.int p1), .val (.int p2), .val (.int p3), .val (.int p4), .val (.int (3 : Int32)), .val (.ref b27), .val (.ref b61), .val (.ref br), .val (.int (1 : Int32)), .unset] [(.int (1 : Int32))])
                            refine own_istore X69 hx (hb hby at_180) (l' := #[.val (.int p0), .val (.int p1), .val (.int p2), .val (.int p3), .val (.int p4), .val (.int (3 : Int32)), .val (.ref b27), .val (.ref b61), .val (.ref br), .val (.int (1 : Int32)), .unset]) rfl ?_
                            refine own_iload X69 hx (hb hby at_182) rfl ?_
                            refine own_iconst X69 hx (2 : Int32) (hb hby at_184) rfl ?_
                            refine own_icmp X69 hx (hb hby at_185) (pc' := 211) (by decide) (by decide) (fun hc => ?_) (fun hc => ?_)
                            · have hc185 : ¬ (2 : Int32) < (3 : Int32) := own_le1 hc
                              exact absurd (by decide) hc185
                            · have hc185 : (2 : Int32) < (3 : Int32) := own_le0 hc
                              clear hc
                              show own_R p e below s _ _ _ T69 (mkF m 188 #[.val (.int p0), .val (.int p1), .val (.int p2), .val (.int p3), .val (.int p4), .val (.int (3 : Int32)), .val (.ref b27), .val (.ref b61), .val (.ref br), .val (.int (1 : Int32)), .unset] [])
                              refine own_iload X69 hx (hb hby at_188) rfl ?_
                              refine own_if X69 hx (hb hby at_190) (pc' := 208) (by decide) (by decide) (fun hc => ?_) (fun hc => ?_)
                              · have hc190 : (1 : Int32) = (0 : Int32) := own_eq1 hc
                                exact absurd hc190 (by decide)
                              · have hc190 : ¬ (1 : Int32) = (0 : Int32) := own_eq0 hc
                                clear hc
                                show own_R p e below s _ _ _ T69 (mkF m 193 #[.val (.int p0), .val (.int p1), .val (.int p2), .val (.int p3), .val (.int p4), .val (.int (3 : Int32)), .val (.ref b27), .val (.ref b61), .val (.ref br), .val (.int (1 : Int32)), .unset] [])
                                refine own_aload X69 hx (hb hby at_193) rfl rfl ?_
                                refine own_iconst X69 hx (2 : Int32) (hb hby at_195) rfl ?_
                                refine own_baload X69 hx hZ rfl f72 (v := .int x2) ⟨by decide, by decide⟩ rfl (hb hby at_196) ?_
                                show own_R p e below s _ _ _ T69 (mkF m 197 #[.val (.int p0), .val (.int p1), .val (.int p2), .val (.int p3), .val (.int p4), .val (.int (3 : Int32)), .val (.ref b27), .val (.ref b61), .val (.ref br), .val (.int (1 : Int32)), .unset] [(.int x2)])
                                refine own_aload X69 hx (hb hby at_197) rfl rfl ?_
                                refine own_iconst X69 hx (2 : Int32) (hb hby at_199) rfl ?_
                                refine own_baload X69 hx hZ rfl f73 (v := .int x2) ⟨by decide, by decide⟩ rfl (hb hby at_200) ?_
                                show own_R p e below s _ _ _ T69 (mkF m 201 #[.val (.int p0), .val (.int p1), .val (.int p2), .val (.int p3), .val (.int p4), .val (.int (3 : Int32)), .val (.ref b27), .val (.ref b61), .val (.ref br), .val (.int (1 : Int32)), .unset] [(.int x2), (.int x2)])
                                refine own_icmp X69 hx (hb hby at_201) (pc' := 208) (by decide) (by decide) (fun hc => ?_) (fun hc => ?_)
                                · have hc201 : ¬ x2 = x2 := own_ne1 hc
                                  exact absurd rfl hc201
                                · have hc201 : x2 = x2 := own_ne0 hc
                                  clear hc
                                  show own_R p e below s _ _ _ T69 (mkF m 204 #[.val (.int p0), .val (.int p1), .val (.int p2), .val (.int p3), .val (.int p4), .val (.int (3 : Int32)), .val (.ref b27), .val (.ref b61), .val (.ref br), .val (.int (1 : Int32)), .unset] [])
                                  refine own_iconst X69 hx (1 : Int32) (hb hby at_204) rfl ?_
                                  refine own_goto X69 hx (hb hby at_205) (pc' := 209) (by decide) (by decide) ?_
                                  show own_R p e below s _ _ _ T69 (mkF m 209 #[.val (.int p0), .val (.int p1), .val (.int p2), .val (.int p3), .val (.int p4), .val (.int (3 : Int32)), .val (.ref b27), .val (.ref b61), .val (.ref br), .val (.int (1 : Int32)), .unset] [(.int (1 : Int32))])
                                  refine own_istore X69 hx (hb hby at_209) (l' := #[.val (.int p0), .val (.int p1), .val (.int p2), .val (.int p3), .val (.int p4), .val (.int (3 : Int32)), .val (.ref b27), .val (.ref b61), .val (.ref br), .val (.int (1 : Int32)), .unset]) rfl ?_
                                  refine own_iload X69 hx (hb hby at_211) rfl ?_
                                  refine own_iconst X69 hx (3 : Int32) (hb hby at_213) rfl ?_
                                  refine own_icmp X69 hx (hb hby at_214) (pc' := 240) (by decide) (by decide) (fun hc => ?_) (fun hc => ?_)
                                  · have hc214 : ¬ (3 : Int32) < (3 : Int32) := own_le1 hc
                                    clear hc
                                    show own_R p e below s _ _ _ T69 (mkF m 240 #[.val (.int p0), .val (.int p1), .val (.int p2), .val (.int p3), .val (.int p4), .val (.int (3 : Int32)), .val (.ref b27), .val (.ref b61), .val (.ref br), .val (.int (1 : Int32)), .unset] [])
                                    refine own_iconst X69 hx (0 : Int32) (hb hby at_240) rfl ?_
                                    refine own_istore X69 hx (hb hby at_241) (l' := #[.val (.int p0), .val (.int p1), .val (.int p2), .val (.int p3), .val (.int p4), .val (.int (3 : Int32)), .val (.ref b27), .val (.ref b61), .val (.ref br), .val (.int (1 : Int32)), .val (.int (0 : Int32))]) rfl ?_
                                    refine own_iload X69 hx (hb hby at_243) rfl ?_
                                    have Jk0 : ∀ (kk : Int32), own_R p e below s (Q0 Z p0 p1 p2 p3 p4 h0 n0) room_1.cells room_1.slots T69 (mkF m 259 #[.val (.int p0), .val (.int p1), .val (.int p2), .val (.int p3), .val (.int p4), .val (.int (3 : Int32)), .val (.ref b27), .val (.ref b61), .val (.ref br), .val (.int (1 : Int32)), .val (.int kk)] []) := by
                                      intro kk
                                      refine own_iload X69 hx (hb hby at_259) rfl ?_
                                      refine own_iconst X69 hx (1 : Int32) (hb hby at_261) rfl ?_
                                      refine own_icmp X69 hx (hb hby at_262) (pc' := 276) (by decide) (by decide) (fun hc => ?_) (fun hc => ?_)
                                      · have hc262 : ¬ (1 : Int32) < (3 : Int32) := own_le1 hc
                                        exact absurd (by decide) hc262
                                      · have hc262 : (1 : Int32) < (3 : Int32) := own_le0 hc
                                        clear hc
                                        show own_R p e below s _ _ _ T69 (mkF m 265 #[.val (.int p0), .val (.int p1), .val (.int p2), .val (.int p3), .val (.int p4), .val (.int (3 : Int32)), .val (.ref b27), .val (.ref b61), .val (.ref br), .val (.int (1 : Int32)), .val (.int kk)] [])
                                        refine own_aload X69 hx (hb hby at_265) rfl rfl ?_
                                        refine own_iconst X69 hx (1 : Int32) (hb hby at_267) rfl ?_
                                        refine own_baload X69 hx hZ rfl f73 (v := .int x1) ⟨by decide, by decide⟩ rfl (hb hby at_268) ?_
                                        show own_R p e below s _ _ _ T69 (mkF m 269 #[.val (.int p0), .val (.int p1), .val (.int p2), .val (.int p3), .val (.int p4), .val (.int (3 : Int32)), .val (.ref b27), .val (.ref b61), .val (.ref br), .val (.int (1 : Int32)), .val (.int kk)] [(.int x1)])
                                        refine own_iconst X69 hx (-1 : Int32) (hb hby at_269) rfl ?_
                                        refine own_icmp X69 hx (hb hby at_270) (pc' := 276) (by decide) (by decide) (fun hc => ?_) (fun hc => ?_)
                                        · have hc270 : x1 = (-1 : Int32) := own_eq1 hc
                                          exact absurd hc270 y1
                                        · have hc270 : ¬ x1 = (-1 : Int32) := own_eq0 hc
                                          clear hc
                                          show own_R p e below s _ _ _ T69 (mkF m 273 #[.val (.int p0), .val (.int p1), .val (.int p2), .val (.int p3), .val (.int p4), .val (.int (3 : Int32)), .val (.ref b27), .val (.ref b61), .val (.ref br), .val (.int (1 : Int32)), .val (.int kk)] [])
                                          refine own_iconst X69 hx (2 : Int32) (hb hby at_273) rfl ?_
                                          refine own_istore X69 hx (hb hby at_274) (l' := #[.val (.int p0), .val (.int p1), .val (.int p2), .val (.int p3), .val (.int p4), .val (.int (3 : Int32)), .val (.ref b27), .val (.ref b61), .val (.ref br), .val (.int (1 : Int32)), .val (.int (2 : Int32))]) rfl ?_
                                          refine own_iload X69 hx (hb hby at_276) rfl ?_
                                          refine own_iconst X69 hx (2 : Int32) (hb hby at_278) rfl ?_
                                          refine own_icmp X69 hx (hb hby at_279) (pc' := 293) (by decide) (by decide) (fun hc => ?_) (fun hc => ?_)
                                          · have hc279 : ¬ (2 : Int32) < (3 : Int32) := own_le1 hc
                                            exact absurd (by decide) hc279
                                          · have hc279 : (2 : Int32) < (3 : Int32) := own_le0 hc
                                            clear hc
                                            show own_R p e below s _ _ _ T69 (mkF m 282 #[.val (.int p0), .val (.int p1), .val (.int p2), .val (.int p3), .val (.int p4), .val (.int (3 : Int32)), .val (.ref b27), .val (.ref b61), .val (.ref br), .val (.int (1 : Int32)), .val (.int (2 : Int32))] [])
                                            refine own_aload X69 hx (hb hby at_282) rfl rfl ?_
                                            refine own_iconst X69 hx (2 : Int32) (hb hby at_284) rfl ?_
                                            refine own_baload X69 hx hZ rfl f73 (v := .int x2) ⟨by decide, by decide⟩ rfl (hb hby at_285) ?_
                                            show own_R p e below s _ _ _ T69 (mkF m 286 #[.val (.int p0), .val (.int p1), .val (.int p2), .val (.int p3), .val (.int p4), .val (.int (3 : Int32)), .val (.ref b27), .val (.ref b61), .val (.ref br), .val (.int (1 : Int32)), .val (.int (2 : Int32))] [(.int x2)])
                                            refine own_iconst X69 hx (-1 : Int32) (hb hby at_286) rfl ?_
                                            refine own_icmp X69 hx (hb hby at_287) (pc' := 293) (by decide) (by decide) (fun hc => ?_) (fun hc => ?_)
                                            · have hc287 : x2 = (-1 : Int32) := own_eq1 hc
                                              clear hc
                                              show own_R p e below s _ _ _ T69 (mkF m 293 #[.val (.int p0), .val (.int p1), .val (.int p2), .val (.int p3), .val (.int p4), .val (.int (3 : Int32)), .val (.ref b27), .val (.ref b61), .val (.ref br), .val (.int (1 : Int32)), .val (.int (2 : Int32))] [])
                                              refine own_iload X69 hx (hb hby at_293) rfl ?_
                                              refine own_iconst X69 hx (3 : Int32) (hb hby at_295) rfl ?_
                                              refine own_icmp X69 hx (hb hby at_296) (pc' := 310) (by decide) (by decide) (fun hc => ?_) (fun hc => ?_)
                                              · have hc296 : ¬ (3 : Int32) < (3 : Int32) := own_le1 hc
                                                clear hc
                                                show own_R p e below s _ _ _ T69 (mkF m 310 #[.val (.int p0), .val (.int p1), .val (.int p2), .val (.int p3), .val (.int p4), .val (.int (3 : Int32)), .val (.ref b27), .val (.ref b61), .val (.ref br), .val (.int (1 : Int32)), .val (.int (2 : Int32))] [])
                                                refine own_iload X69 hx (hb hby at_310) rfl ?_
                                                refine own_if X69 hx (hb hby at_312) (pc' := 331) (by decide) (by decide) (fun hc => ?_) (fun hc => ?_)
                                                · have hc312 : ¬ (2 : Int32) = (0 : Int32) := own_ne1 hc
                                                  clear hc
                                                  show own_R p e below s _ _ _ T69 (mkF m 331 #[.val (.int p0), .val (.int p1), .val (.int p2), .val (.int p3), .val (.int p4), .val (.int (3 : Int32)), .val (.ref b27), .val (.ref b61), .val (.ref br), .val (.int (1 : Int32)), .val (.int (2 : Int32))] [])
                                                  refine own_aload X69 hx (hb hby at_331) rfl rfl ?_
                                                  refine own_ifnullN X69 hx (hb hby at_333) ?_
                                                  show own_R p e below s _ _ _ T69 (mkF m 336 #[.val (.int p0), .val (.int p1), .val (.int p2), .val (.int p3), .val (.int p4), .val (.int (3 : Int32)), .val (.ref b27), .val (.ref b61), .val (.ref br), .val (.int (1 : Int32)), .val (.int (2 : Int32))] [])
                                                  refine own_aload X69 hx (hb hby at_336) rfl rfl ?_
                                                  refine own_len X69 hx hZ rfl Vr (hb hby at_338) ?_
                                                  show own_R p e below s _ _ _ T69 (mkF m 339 #[.val (.int p0), .val (.int p1), .val (.int p2), .val (.int p3), .val (.int p4), .val (.int (3 : Int32)), .val (.ref b27), .val (.ref b61), .val (.ref br), .val (.int (1 : Int32)), .val (.int (2 : Int32))] [(.int (2 : Int32))])
                                                  refine own_iload X69 hx (hb hby at_339) rfl ?_
                                                  refine own_icmp X69 hx (hb hby at_341) (pc' := 346) (by decide) (by decide) (fun hc => ?_) (fun hc => ?_)
                                                  · have hc341 : (2 : Int32) = (2 : Int32) := own_eq1 hc
                                                    clear hc
                                                    show own_R p e below s _ _ _ T69 (mkF m 346 #[.val (.int p0), .val (.int p1), .val (.int p2), .val (.int p3), .val (.int p4), .val (.int (3 : Int32)), .val (.ref b27), .val (.ref b61), .val (.ref br), .val (.int (1 : Int32)), .val (.int (2 : Int32))] [])
                                                    refine own_iload X69 hx (hb hby at_346) rfl ?_
                                                    refine own_iconst X69 hx (1 : Int32) (hb hby at_348) rfl ?_
                                                    refine own_icmp X69 hx (hb hby at_349) (pc' := 375) (by decide) (by decide) (fun hc => ?_) (fun hc => ?_)
                                                    · have hc349 : ¬ (1 : Int32) < (2 : Int32) := own_le1 hc
                                                      exact absurd (by decide) hc349
                                                    · have hc349 : (1 : Int32) < (2 : Int32) := own_le0 hc
                                                      clear hc
                                                      show own_R p e below s _ _ _ T69 (mkF m 352 #[.val (.int p0), .val (.int p1), .val (.int p2), .val (.int p3), .val (.int p4), .val (.int (3 : Int32)), .val (.ref b27), .val (.ref b61), .val (.ref br), .val (.int (1 : Int32)), .val (.int (2 : Int32))] [])
                                                      refine own_iload X69 hx (hb hby at_352) rfl ?_
                                                      refine own_if X69 hx (hb hby at_354) (pc' := 372) (by decide) (by decide) (fun hc => ?_) (fun hc => ?_)
                                                      · have hc354 : (1 : Int32) = (0 : Int32) := own_eq1 hc
                                                        exact absurd hc354 (by decide)
                                                      · have hc354 : ¬ (1 : Int32) = (0 : Int32) := own_eq0 hc
                                                        clear hc
                                                        show own_R p e below s _ _ _ T69 (mkF m 357 #[.val (.int p0), .val (.int p1), .val (.int p2), .val (.int p3), .val (.int p4), .val (.int (3 : Int32)), .val (.ref b27), .val (.ref b61), .val (.ref br), .val (.int (1 : Int32)), .val (.int (2 : Int32))] [])
                                                        refine own_aload X69 hx (hb hby at_357) rfl rfl ?_
                                                        refine own_iconst X69 hx (0 : Int32) (hb hby at_359) rfl ?_
                                                        refine own_baload X69 hx hZ rfl Vr (v := .int x0) ⟨by decide, by decide⟩ rfl (hb hby at_360) ?_
                                                        show own_R p e below s _ _ _ T69 (mkF m 361 #[.val (.int p0), .val (.int p1), .val (.int p2), .val (.int p3), .val (.int p4), .val (.int (3 : Int32)), .val (.ref b27), .val (.ref b61), .val (.ref br), .val (.int (1 : Int32)), .val (.int (2 : Int32))] [(.int x0)])
                                                        refine own_aload X69 hx (hb hby at_361) rfl rfl ?_
                                                        refine own_iconst X69 hx (0 : Int32) (hb hby at_363) rfl ?_
                                                        refine own_baload X69 hx hZ rfl f73 (v := .int x0) ⟨by decide, by decide⟩ rfl (hb hby at_364) ?_
                                                        show own_R p e below s _ _ _ T69 (mkF m 365 #[.val (.int p0), .val (.int p1), .val (.int p2), .val (.int p3), .val (.int p4), .val (.int (3 : Int32)), .val (.ref b27), .val (.ref b61), .val (.ref br), .val (.int (1 : Int32)), .val (.int (2 : Int32))] [(.int x0), (.int x0)])
                                                        refine own_icmp X69 hx (hb hby at_365) (pc' := 372) (by decide) (by decide) (fun hc => ?_) (fun hc => ?_)
                                                        · have hc365 : ¬ x0 = x0 := own_ne1 hc
                                                          exact absurd rfl hc365
                                                        · have hc365 : x0 = x0 := own_ne0 hc
                                                          clear hc
                                                          show own_R p e below s _ _ _ T69 (mkF m 368 #[.val (.int p0), .val (.int p1), .val (.int p2), .val (.int p3), .val (.int p4), .val (.int (3 : Int32)), .val (.ref b27), .val (.ref b61), .val (.ref br), .val (.int (1 : Int32)), .val (.int (2 : Int32))] [])
                                                          refine own_iconst X69 hx (1 : Int32) (hb hby at_368) rfl ?_
                                                          refine own_goto X69 hx (hb hby at_369) (pc' := 373) (by decide) (by decide) ?_
                                                          show own_R p e below s _ _ _ T69 (mkF m 373 #[.val (.int p0), .val (.int p1), .val (.int p2), .val (.int p3), .val (.int p4), .val (.int (3 : Int32)), .val (.ref b27), .val (.ref b61), .val (.ref br), .val (.int (1 : Int32)), .val (.int (2 : Int32))] [(.int (1 : Int32))])
                                                          refine own_istore X69 hx (hb hby at_373) (l' := #[.val (.int p0), .val (.int p1), .val (.int p2), .val (.int p3), .val (.int p4), .val (.int (3 : Int32)), .val (.ref b27), .val (.ref b61), .val (.ref br), .val (.int (1 : Int32)), .val (.int (2 : Int32))]) rfl ?_
                                                          refine own_iload X69 hx (hb hby at_375) rfl ?_
                                                          refine own_iconst X69 hx (2 : Int32) (hb hby at_377) rfl ?_
                                                          refine own_icmp X69 hx (hb hby at_378) (pc' := 404) (by decide) (by decide) (fun hc => ?_) (fun hc => ?_)
                                                          · have hc378 : ¬ (2 : Int32) < (2 : Int32) := own_le1 hc
                                                            clear hc
                                                            show own_R p e below s _ _ _ T69 (mkF m 404 #[.val (.int p0), .val (.int p1), .val (.int p2), .val (.int p3), .val (.int p4), .val (.int (3 : Int32)), .val (.ref b27), .val (.ref b61), .val (.ref br), .val (.int (1 : Int32)), .val (.int (2 : Int32))] [])
                                                            refine own_iload X69 hx (hb hby at_404) rfl ?_
                                                            refine own_iconst X69 hx (3 : Int32) (hb hby at_406) rfl ?_
                                                            refine own_icmp X69 hx (hb hby at_407) (pc' := 433) (by decide) (by decide) (fun hc => ?_) (fun hc => ?_)
                                                            · have hc407 : ¬ (3 : Int32) < (2 : Int32) := own_le1 hc
                                                              clear hc
                                                              show own_R p e below s _ _ _ T69 (mkF m 433 #[.val (.int p0), .val (.int p1), .val (.int p2), .val (.int p3), .val (.int p4), .val (.int (3 : Int32)), .val (.ref b27), .val (.ref b61), .val (.ref br), .val (.int (1 : Int32)), .val (.int (2 : Int32))] [])
                                                              refine own_iload X69 hx (hb hby at_433) rfl ?_
                                                              refine own_if X69 hx (hb hby at_435) (pc' := 462) (by decide) (by decide) (fun hc => ?_) (fun hc => ?_)
                                                              · have hc435 : (1 : Int32) = (0 : Int32) := own_eq1 hc
                                                                exact absurd hc435 (by decide)
                                                              · have hc435 : ¬ (1 : Int32) = (0 : Int32) := own_eq0 hc
                                                                clear hc
                                                                show own_R p e below s _ _ _ T69 (mkF m 438 #[.val (.int p0), .val (.int p1), .val (.int p2), .val (.int p3), .val (.int p4), .val (.int (3 : Int32)), .val (.ref b27), .val (.ref b61), .val (.ref br), .val (.int (1 : Int32)), .val (.int (2 : Int32))] [])
                                                                refine own_aload X69 hx (hb hby at_438) rfl rfl ?_
                                                                refine own_iload X69 hx (hb hby at_440) rfl ?_
                                                                refine own_iconst X69 hx (1 : Int32) (hb hby at_442) rfl ?_
                                                                refine own_isub X69 hx (hb hby at_443) ?_
                                                                refine own_baload X69 hx hZ rfl Vr (v := .int ((x1 + (1 : Int32)).toInt8.toInt32)) ⟨by decide, by decide⟩ rfl (hb hby at_444) ?_
                                                                show own_R p e below s _ _ _ T69 (mkF m 445 #[.val (.int p0), .val (.int p1), .val (.int p2), .val (.int p3), .val (.int p4), .val (.int (3 : Int32)), .val (.ref b27), .val (.ref b61), .val (.ref br), .val (.int (1 : Int32)), .val (.int (2 : Int32))] [(.int ((x1 + (1 : Int32)).toInt8.toInt32))])
                                                                refine own_aload X69 hx (hb hby at_445) rfl rfl ?_
                                                                refine own_iload X69 hx (hb hby at_447) rfl ?_
                                                                refine own_iconst X69 hx (1 : Int32) (hb hby at_449) rfl ?_
                                                                refine own_isub X69 hx (hb hby at_450) ?_
                                                                refine own_baload X69 hx hZ rfl f73 (v := .int x1) ⟨by decide, by decide⟩ rfl (hb hby at_451) ?_
                                                                show own_R p e below s _ _ _ T69 (mkF m 452 #[.val (.int p0), .val (.int p1), .val (.int p2), .val (.int p3), .val (.int p4), .val (.int (3 : Int32)), .val (.ref b27), .val (.ref b61), .val (.ref br), .val (.int (1 : Int32)), .val (.int (2 : Int32))] [(.int x1), (.int ((x1 + (1 : Int32)).toInt8.toInt32))])
                                                                refine own_iconst X69 hx (1 : Int32) (hb hby at_452) rfl ?_
                                                                refine own_iadd X69 hx (hb hby at_453) ?_
                                                                refine own_i2b X69 hx (hb hby at_454) ?_
                                                                refine own_icmp X69 hx (hb hby at_455) (pc' := 462) (by decide) (by decide) (fun hc => ?_) (fun hc => ?_)
                                                                · have hc455 : ¬ ((x1 + (1 : Int32)).toInt8.toInt32) = ((x1 + (1 : Int32)).toInt8.toInt32) := own_ne1 hc
                                                                  exact absurd rfl hc455
                                                                · have hc455 : ((x1 + (1 : Int32)).toInt8.toInt32) = ((x1 + (1 : Int32)).toInt8.toInt32) := own_ne0 hc
                                                                  clear hc
                                                                  show own_R p e below s _ _ _ T69 (mkF m 458 #[.val (.int p0), .val (.int p1), .val (.int p2), .val (.int p3), .val (.int p4), .val (.int (3 : Int32)), .val (.ref b27), .val (.ref b61), .val (.ref br), .val (.int (1 : Int32)), .val (.int (2 : Int32))] [])
                                                                  refine own_iconst X69 hx (1 : Int32) (hb hby at_458) rfl ?_
                                                                  refine own_goto X69 hx (hb hby at_459) (pc' := 463) (by decide) (by decide) ?_
                                                                  show own_R p e below s _ _ _ T69 (mkF m 463 #[.val (.int p0), .val (.int p1), .val (.int p2), .val (.int p3), .val (.int p4), .val (.int (3 : Int32)), .val (.ref b27), .val (.ref b61), .val (.ref br), .val (.int (1 : Int32)), .val (.int (2 : Int32))] [(.int (1 : Int32))])
                                                                  refine own_istore X69 hx (hb hby at_463) (l' := #[.val (.int p0), .val (.int p1), .val (.int p2), .val (.int p3), .val (.int p4), .val (.int (3 : Int32)), .val (.ref b27), .val (.ref b61), .val (.ref br), .val (.int (1 : Int32)), .val (.int (2 : Int32))]) rfl ?_
                                                                  refine own_iload X69 hx (hb hby at_465) rfl ?_
                                                                  refine own_retN X69 hx (t := .boolean) Bd.returns (by simp) hlk (hb hby at_467) ?_ (by decide) (by decide)
                                                                  exact ⟨rfl, N69⟩
                                                            · have hc407 : (3 : Int32) < (2 : Int32) := own_le0 hc
                                                              exact absurd hc407 (by decide)
                                                          · have hc378 : (2 : Int32) < (2 : Int32) := own_le0 hc
                                                            exact absurd hc378 (by decide)
                                                  · have hc341 : ¬ (2 : Int32) = (2 : Int32) := own_eq0 hc
                                                    exact absurd (by decide) hc341
                                                · have hc312 : (2 : Int32) = (0 : Int32) := own_ne0 hc
                                                  exact absurd hc312 (by decide)
                                              · have hc296 : (3 : Int32) < (3 : Int32) := own_le0 hc
                                                exact absurd hc296 (by decide)
                                            · have hc287 : ¬ x2 = (-1 : Int32) := own_eq0 hc
                                              exact absurd y2 hc287
                                    refine own_if X69 hx (hb hby at_245) (pc' := 259) (by decide) (by decide) (fun hc => ?_) (fun hc => ?_)
                                    · have hc245 : ¬ (0 : Int32) < (3 : Int32) := own_le1 hc
                                      exact absurd (by decide) hc245
                                    · have hc245 : (0 : Int32) < (3 : Int32) := own_le0 hc
                                      clear hc
                                      show own_R p e below s _ _ _ T69 (mkF m 248 #[.val (.int p0), .val (.int p1), .val (.int p2), .val (.int p3), .val (.int p4), .val (.int (3 : Int32)), .val (.ref b27), .val (.ref b61), .val (.ref br), .val (.int (1 : Int32)), .val (.int (0 : Int32))] [])
                                      refine own_aload X69 hx (hb hby at_248) rfl rfl ?_
                                      refine own_iconst X69 hx (0 : Int32) (hb hby at_250) rfl ?_
                                      refine own_baload X69 hx hZ rfl f73 (v := .int x0) ⟨by decide, by decide⟩ rfl (hb hby at_251) ?_
                                      show own_R p e below s _ _ _ T69 (mkF m 252 #[.val (.int p0), .val (.int p1), .val (.int p2), .val (.int p3), .val (.int p4), .val (.int (3 : Int32)), .val (.ref b27), .val (.ref b61), .val (.ref br), .val (.int (1 : Int32)), .val (.int (0 : Int32))] [(.int x0)])
                                      refine own_iconst X69 hx (-1 : Int32) (hb hby at_252) rfl ?_
                                      refine own_icmp X69 hx (hb hby at_253) (pc' := 259) (by decide) (by decide) (fun hc => ?_) (fun hc => ?_)
                                      · have hc253 : x0 = (-1 : Int32) := own_eq1 hc
                                        clear hc
                                        show own_R p e below s _ _ _ T69 (mkF m 259 #[.val (.int p0), .val (.int p1), .val (.int p2), .val (.int p3), .val (.int p4), .val (.int (3 : Int32)), .val (.ref b27), .val (.ref b61), .val (.ref br), .val (.int (1 : Int32)), .val (.int (0 : Int32))] [])
                                        exact Jk0 _
                                      · have hc253 : ¬ x0 = (-1 : Int32) := own_eq0 hc
                                        clear hc
                                        show own_R p e below s _ _ _ T69 (mkF m 256 #[.val (.int p0), .val (.int p1), .val (.int p2), .val (.int p3), .val (.int p4), .val (.int (3 : Int32)), .val (.ref b27), .val (.ref b61), .val (.ref br), .val (.int (1 : Int32)), .val (.int (0 : Int32))] [])
                                        refine own_iconst X69 hx (1 : Int32) (hb hby at_256) rfl ?_
                                        refine own_istore X69 hx (hb hby at_257) (l' := #[.val (.int p0), .val (.int p1), .val (.int p2), .val (.int p3), .val (.int p4), .val (.int (3 : Int32)), .val (.ref b27), .val (.ref b61), .val (.ref br), .val (.int (1 : Int32)), .val (.int (1 : Int32))]) rfl ?_
                                        exact Jk0 _
                                  · have hc214 : (3 : Int32) < (3 : Int32) := own_le0 hc
                                    exact absurd hc214 (by decide)
            ·
              show own_R p e below s _ _ _ T69 (mkF m 108 #[.val (.int p0), .val (.int p1), .val (.int p2), .val (.int p3), .val (.int p4), .val (.int (3 : Int32)), .val (.ref b27), .val (.ref b61), .unset, .unset, .unset] [(.ref br)])
              refine own_astore X69 hx (hb hby at_108) rfl (l' := #[.val (.int p0), .val (.int p1), .val (.int p2), .val (.int p3), .val (.int p4), .val (.int (3 : Int32)), .val (.ref b27), .val (.ref b61), .val (.ref br), .unset, .unset]) rfl ?_
              refine own_aload X69 hx (hb hby at_110) rfl rfl ?_
              have f74 := (V_b61_67.keep Kc69 nin0)
              refine own_len X69 hx hZ rfl f74 (hb hby at_112) ?_
              show own_R p e below s _ _ _ T69 (mkF m 113 #[.val (.int p0), .val (.int p1), .val (.int p2), .val (.int p3), .val (.int p4), .val (.int (3 : Int32)), .val (.ref b27), .val (.ref b61), .val (.ref br), .unset, .unset] [(.int (3 : Int32))])
              refine own_iload X69 hx (hb hby at_113) rfl ?_
              refine own_icmp X69 hx (hb hby at_115) (pc' := 122) (by decide) (by decide) (fun hc => ?_) (fun hc => ?_)
              · have hc115 : ¬ (3 : Int32) = (3 : Int32) := own_ne1 hc
                exact absurd (by decide) hc115
              · have hc115 : (3 : Int32) = (3 : Int32) := own_ne0 hc
                clear hc
                show own_R p e below s _ _ _ T69 (mkF m 118 #[.val (.int p0), .val (.int p1), .val (.int p2), .val (.int p3), .val (.int p4), .val (.int (3 : Int32)), .val (.ref b27), .val (.ref b61), .val (.ref br), .unset, .unset] [])
                refine own_iconst X69 hx (1 : Int32) (hb hby at_118) rfl ?_
                refine own_goto X69 hx (hb hby at_119) (pc' := 123) (by decide) (by decide) ?_
                show own_R p e below s _ _ _ T69 (mkF m 123 #[.val (.int p0), .val (.int p1), .val (.int p2), .val (.int p3), .val (.int p4), .val (.int (3 : Int32)), .val (.ref b27), .val (.ref b61), .val (.ref br), .unset, .unset] [(.int (1 : Int32))])
                refine own_istore X69 hx (hb hby at_123) (l' := #[.val (.int p0), .val (.int p1), .val (.int p2), .val (.int p3), .val (.int p4), .val (.int (3 : Int32)), .val (.ref b27), .val (.ref b61), .val (.ref br), .val (.int (1 : Int32)), .unset]) rfl ?_
                refine own_iload X69 hx (hb hby at_125) rfl ?_
                refine own_if X69 hx (hb hby at_127) (pc' := 153) (by decide) (by decide) (fun hc => ?_) (fun hc => ?_)
                · have hc127 : ¬ (0 : Int32) < (3 : Int32) := own_le1 hc
                  exact absurd (by decide) hc127
                · have hc127 : (0 : Int32) < (3 : Int32) := own_le0 hc
                  clear hc
                  show own_R p e below s _ _ _ T69 (mkF m 130 #[.val (.int p0), .val (.int p1), .val (.int p2), .val (.int p3), .val (.int p4), .val (.int (3 : Int32)), .val (.ref b27), .val (.ref b61), .val (.ref br), .val (.int (1 : Int32)), .unset] [])
                  refine own_iload X69 hx (hb hby at_130) rfl ?_
                  refine own_if X69 hx (hb hby at_132) (pc' := 150) (by decide) (by decide) (fun hc => ?_) (fun hc => ?_)
                  · have hc132 : (1 : Int32) = (0 : Int32) := own_eq1 hc
                    exact absurd hc132 (by decide)
                  · have hc132 : ¬ (1 : Int32) = (0 : Int32) := own_eq0 hc
                    clear hc
                    show own_R p e below s _ _ _ T69 (mkF m 135 #[.val (.int p0), .val (.int p1), .val (.int p2), .val (.int p3), .val (.int p4), .val (.int (3 : Int32)), .val (.ref b27), .val (.ref b61), .val (.ref br), .val (.int (1 : Int32)), .unset] [])
                    refine own_aload X69 hx (hb hby at_135) rfl rfl ?_
                    refine own_iconst X69 hx (0 : Int32) (hb hby at_137) rfl ?_
                    refine own_baload X69 hx hZ rfl f74 (v := .int x0) ⟨by decide, by decide⟩ rfl (hb hby at_138) ?_
                    show own_R p e below s _ _ _ T69 (mkF m 139 #[.val (.int p0), .val (.int p1), .val (.int p2), .val (.int p3), .val (.int p4), .val (.int (3 : Int32)), .val (.ref b27), .val (.ref b61), .val (.ref br), .val (.int (1 : Int32)), .unset] [(.int x0)])
                    refine own_aload X69 hx (hb hby at_139) rfl rfl ?_
                    refine own_iconst X69 hx (0 : Int32) (hb hby at_141) rfl ?_
                    have f75 := ((f66.other W67 ne_b27_b61).keep Kc69 nin0)
                    refine own_baload X69 hx hZ rfl f75 (v := .int x0) ⟨by decide, by decide⟩ rfl (hb hby at_142) ?_
                    show own_R p e below s _ _ _ T69 (mkF m 143 #[.val (.int p0), .val (.int p1), .val (.int p2), .val (.int p3), .val (.int p4), .val (.int (3 : Int32)), .val (.ref b27), .val (.ref b61), .val (.ref br), .val (.int (1 : Int32)), .unset] [(.int x0), (.int x0)])
                    refine own_icmp X69 hx (hb hby at_143) (pc' := 150) (by decide) (by decide) (fun hc => ?_) (fun hc => ?_)
                    · have hc143 : ¬ x0 = x0 := own_ne1 hc
                      exact absurd rfl hc143
                    · have hc143 : x0 = x0 := own_ne0 hc
                      clear hc
                      show own_R p e below s _ _ _ T69 (mkF m 146 #[.val (.int p0), .val (.int p1), .val (.int p2), .val (.int p3), .val (.int p4), .val (.int (3 : Int32)), .val (.ref b27), .val (.ref b61), .val (.ref br), .val (.int (1 : Int32)), .unset] [])
                      refine own_iconst X69 hx (1 : Int32) (hb hby at_146) rfl ?_
                      refine own_goto X69 hx (hb hby at_147) (pc' := 151) (by decide) (by decide) ?_
                      show own_R p e below s _ _ _ T69 (mkF m 151 #[.val (.int p0), .val (.int p1), .val (.int p2), .val (.int p3), .val (.int p4), .val (.int (3 : Int32)), .val (.ref b27), .val (.ref b61), .val (.ref br), .val (.int (1 : Int32)), .unset] [(.int (1 : Int32))])
                      refine own_istore X69 hx (hb hby at_151) (l' := #[.val (.int p0), .val (.int p1), .val (.int p2), .val (.int p3), .val (.int p4), .val (.int (3 : Int32)), .val (.ref b27), .val (.ref b61), .val (.ref br), .val (.int (1 : Int32)), .unset]) rfl ?_
                      refine own_iload X69 hx (hb hby at_153) rfl ?_
                      refine own_iconst X69 hx (1 : Int32) (hb hby at_155) rfl ?_
                      refine own_icmp X69 hx (hb hby at_156) (pc' := 182) (by decide) (by decide) (fun hc => ?_) (fun hc => ?_)
                      · have hc156 : ¬ (1 : Int32) < (3 : Int32) := own_le1 hc
                        exact absurd (by decide) hc156
                      · have hc156 : (1 : Int32) < (3 : Int32) := own_le0 hc
                        clear hc
                        show own_R p e below s _ _ _ T69 (mkF m 159 #[.val (.int p0), .val (.int p1), .val (.int p2), .val (.int p3), .val (.int p4), .val (.int (3 : Int32)), .val (.ref b27), .val (.ref b61), .val (.ref br), .val (.int (1 : Int32)), .unset] [])
                        refine own_iload X69 hx (hb hby at_159) rfl ?_
                        refine own_if X69 hx (hb hby at_161) (pc' := 179) (by decide) (by decide) (fun hc => ?_) (fun hc => ?_)
                        · have hc161 : (1 : Int32) = (0 : Int32) := own_eq1 hc
                          exact absurd hc161 (by decide)
                        · have hc161 : ¬ (1 : Int32) = (0 : Int32) := own_eq0 hc
                          clear hc
                          show own_R p e below s _ _ _ T69 (mkF m 164 #[.val (.int p0), .val (.int p1), .val (.int p2), .val (.int p3), .val (.int p4), .val (.int (3 : Int32)), .val (.ref b27), .val (.ref b61), .val (.ref br), .val (.int (1 : Int32)), .unset] [])
                          refine own_aload X69 hx (hb hby at_164) rfl rfl ?_
                          refine own_iconst X69 hx (1 : Int32) (hb hby at_166) rfl ?_
                          refine own_baload X69 hx hZ rfl f74 (v := .int x1) ⟨by decide, by decide⟩ rfl (hb hby at_167) ?_
                          show own_R p e below s _ _ _ T69 (mkF m 168 #[.val (.int p0), .val (.int p1), .val (.int p2), .val (.int p3), .val (.int p4), .val (.int (3 : Int32)), .val (.ref b27), .val (.ref b61), .val (.ref br), .val (.int (1 : Int32)), .unset] [(.int x1)])
                          refine own_aload X69 hx (hb hby at_168) rfl rfl ?_
                          refine own_iconst X69 hx (1 : Int32) (hb hby at_170) rfl ?_
                          refine own_baload X69 hx hZ rfl f75 (v := .int x1) ⟨by decide, by decide⟩ rfl (hb hby at_171) ?_
                          show own_R p e below s _ _ _ T69 (mkF m 172 #[.val (.int p0), .val (.int p1), .val (.int p2), .val (.int p3), .val (.int p4), .val (.int (3 : Int32)), .val (.ref b27), .val (.ref b61), .val (.ref br), .val (.int (1 : Int32)), .unset] [(.int x1), (.int x1)])
                          refine own_icmp X69 hx (hb hby at_172) (pc' := 179) (by decide) (by decide) (fun hc => ?_) (fun hc => ?_)
                          · have hc172 : ¬ x1 = x1 := own_ne1 hc
                            exact absurd rfl hc172
                          · have hc172 : x1 = x1 := own_ne0 hc
                            clear hc
                            show own_R p e below s _ _ _ T69 (mkF m 175 #[.val (.int p0), .val (.int p1), .val (.int p2), .val (.int p3), .val (.int p4), .val (.int (3 : Int32)), .val (.ref b27), .val (.ref b61), .val (.ref br), .val (.int (1 : Int32)), .unset] [])
                            refine own_iconst X69 hx (1 : Int32) (hb hby at_175) rfl ?_
                            refine own_goto X69 hx (hb hby at_176) (pc' := 180) (by decide) (by decide) ?_
                            show own_R p e below s _ _ _ T69 (mkF m 180 #[.val (.int p0), .val (.int p1), .val (.int p2), .val (.int p3), .val (.int p4), .val (.int (3 : Int32)), .val (.ref b27), .val (.ref b61), .val (.ref br), .val (.int (1 : Int32)), .unset] [(.int (1 : Int32))])
                            refine own_istore X69 hx (hb hby at_180) (l' := #[.val (.int p0), .val (.int p1), .val (.int p2), .val (.int p3), .val (.int p4), .val (.int (3 : Int32)), .val (.ref b27), .val (.ref b61), .val (.ref br), .val (.int (1 : Int32)), .unset]) rfl ?_
                            refine own_iload X69 hx (hb hby at_182) rfl ?_
                            refine own_iconst X69 hx (2 : Int32) (hb hby at_184) rfl ?_
                            refine own_icmp X69 hx (hb hby at_185) (pc' := 211) (by decide) (by decide) (fun hc => ?_) (fun hc => ?_)
                            · have hc185 : ¬ (2 : Int32) < (3 : Int32) := own_le1 hc
                              exact absurd (by decide) hc185
                            · have hc185 : (2 : Int32) < (3 : Int32) := own_le0 hc
                              clear hc
                              show own_R p e below s _ _ _ T69 (mkF m 188 #[.val (.int p0), .val (.int p1), .val (.int p2), .val (.int p3), .val (.int p4), .val (.int (3 : Int32)), .val (.ref b27), .val (.ref b61), .val (.ref br), .val (.int (1 : Int32)), .unset] [])
                              refine own_iload X69 hx (hb hby at_188) rfl ?_
                              refine own_if X69 hx (hb hby at_190) (pc' := 208) (by decide) (by decide) (fun hc => ?_) (fun hc => ?_)
                              · have hc190 : (1 : Int32) = (0 : Int32) := own_eq1 hc
                                exact absurd hc190 (by decide)
                              · have hc190 : ¬ (1 : Int32) = (0 : Int32) := own_eq0 hc
                                clear hc
                                show own_R p e below s _ _ _ T69 (mkF m 193 #[.val (.int p0), .val (.int p1), .val (.int p2), .val (.int p3), .val (.int p4), .val (.int (3 : Int32)), .val (.ref b27), .val (.ref b61), .val (.ref br), .val (.int (1 : Int32)), .unset] [])
                                refine own_aload X69 hx (hb hby at_193) rfl rfl ?_
                                refine own_iconst X69 hx (2 : Int32) (hb hby at_195) rfl ?_
                                refine own_baload X69 hx hZ rfl f74 (v := .int x2) ⟨by decide, by decide⟩ rfl (hb hby at_196) ?_
                                show own_R p e below s _ _ _ T69 (mkF m 197 #[.val (.int p0), .val (.int p1), .val (.int p2), .val (.int p3), .val (.int p4), .val (.int (3 : Int32)), .val (.ref b27), .val (.ref b61), .val (.ref br), .val (.int (1 : Int32)), .unset] [(.int x2)])
                                refine own_aload X69 hx (hb hby at_197) rfl rfl ?_
                                refine own_iconst X69 hx (2 : Int32) (hb hby at_199) rfl ?_
                                refine own_baload X69 hx hZ rfl f75 (v := .int x2) ⟨by decide, by decide⟩ rfl (hb hby at_200) ?_
                                show own_R p e below s _ _ _ T69 (mkF m 201 #[.val (.int p0), .val (.int p1), .val (.int p2), .val (.int p3), .val (.int p4), .val (.int (3 : Int32)), .val (.ref b27), .val (.ref b61), .val (.ref br), .val (.int (1 : Int32)), .unset] [(.int x2), (.int x2)])
                                refine own_icmp X69 hx (hb hby at_201) (pc' := 208) (by decide) (by decide) (fun hc => ?_) (fun hc => ?_)
                                · have hc201 : ¬ x2 = x2 := own_ne1 hc
                                  exact absurd rfl hc201
                                · have hc201 : x2 = x2 := own_ne0 hc
                                  clear hc
                                  show own_R p e below s _ _ _ T69 (mkF m 204 #[.val (.int p0), .val (.int p1), .val (.int p2), .val (.int p3), .val (.int p4), .val (.int (3 : Int32)), .val (.ref b27), .val (.ref b61), .val (.ref br), .val (.int (1 : Int32)), .unset] [])
                                  refine own_iconst X69 hx (1 : Int32) (hb hby at_204) rfl ?_
                                  refine own_goto X69 hx (hb hby at_205) (pc' := 209) (by decide) (by decide) ?_
                                  show own_R p e below s _ _ _ T69 (mkF m 209 #[.val (.int p0), .val (.int p1), .val (.int p2), .val (.int p3), .val (.int p4), .val (.int (3 : Int32)), .val (.ref b27), .val (.ref b61), .val (.ref br), .val (.int (1 : Int32)), .unset] [(.int (1 : Int32))])
                                  refine own_istore X69 hx (hb hby at_209) (l' := #[.val (.int p0), .val (.int p1), .val (.int p2), .val (.int p3), .val (.int p4), .val (.int (3 : Int32)), .val (.ref b27), .val (.ref b61), .val (.ref br), .val (.int (1 : Int32)), .unset]) rfl ?_
                                  refine own_iload X69 hx (hb hby at_211) rfl ?_
                                  refine own_iconst X69 hx (3 : Int32) (hb hby at_213) rfl ?_
                                  refine own_icmp X69 hx (hb hby at_214) (pc' := 240) (by decide) (by decide) (fun hc => ?_) (fun hc => ?_)
                                  · have hc214 : ¬ (3 : Int32) < (3 : Int32) := own_le1 hc
                                    clear hc
                                    show own_R p e below s _ _ _ T69 (mkF m 240 #[.val (.int p0), .val (.int p1), .val (.int p2), .val (.int p3), .val (.int p4), .val (.int (3 : Int32)), .val (.ref b27), .val (.ref b61), .val (.ref br), .val (.int (1 : Int32)), .unset] [])
                                    refine own_iconst X69 hx (0 : Int32) (hb hby at_240) rfl ?_
                                    refine own_istore X69 hx (hb hby at_241) (l' := #[.val (.int p0), .val (.int p1), .val (.int p2), .val (.int p3), .val (.int p4), .val (.int (3 : Int32)), .val (.ref b27), .val (.ref b61), .val (.ref br), .val (.int (1 : Int32)), .val (.int (0 : Int32))]) rfl ?_
                                    refine own_iload X69 hx (hb hby at_243) rfl ?_
                                    refine own_if X69 hx (hb hby at_245) (pc' := 259) (by decide) (by decide) (fun hc => ?_) (fun hc => ?_)
                                    · have hc245 : ¬ (0 : Int32) < (3 : Int32) := own_le1 hc
                                      exact absurd (by decide) hc245
                                    · have hc245 : (0 : Int32) < (3 : Int32) := own_le0 hc
                                      clear hc
                                      show own_R p e below s _ _ _ T69 (mkF m 248 #[.val (.int p0), .val (.int p1), .val (.int p2), .val (.int p3), .val (.int p4), .val (.int (3 : Int32)), .val (.ref b27), .val (.ref b61), .val (.ref br), .val (.int (1 : Int32)), .val (.int (0 : Int32))] [])
                                      refine own_aload X69 hx (hb hby at_248) rfl rfl ?_
                                      refine own_iconst X69 hx (0 : Int32) (hb hby at_250) rfl ?_
                                      refine own_baload X69 hx hZ rfl f75 (v := .int x0) ⟨by decide, by decide⟩ rfl (hb hby at_251) ?_
                                      show own_R p e below s _ _ _ T69 (mkF m 252 #[.val (.int p0), .val (.int p1), .val (.int p2), .val (.int p3), .val (.int p4), .val (.int (3 : Int32)), .val (.ref b27), .val (.ref b61), .val (.ref br), .val (.int (1 : Int32)), .val (.int (0 : Int32))] [(.int x0)])
                                      refine own_iconst X69 hx (-1 : Int32) (hb hby at_252) rfl ?_
                                      refine own_icmp X69 hx (hb hby at_253) (pc' := 259) (by decide) (by decide) (fun hc => ?_) (fun hc => ?_)
                                      · have hc253 : x0 = (-1 : Int32) := own_eq1 hc
                                        exact absurd hc253 y0
                                      · have hc253 : ¬ x0 = (-1 : Int32) := own_eq0 hc
                                        clear hc
                                        show own_R p e below s _ _ _ T69 (mkF m 256 #[.val (.int p0), .val (.int p1), .val (.int p2), .val (.int p3), .val (.int p4), .val (.int (3 : Int32)), .val (.ref b27), .val (.ref b61), .val (.ref br), .val (.int (1 : Int32)), .val (.int (0 : Int32))] [])
                                        refine own_iconst X69 hx (1 : Int32) (hb hby at_256) rfl ?_
                                        refine own_istore X69 hx (hb hby at_257) (l' := #[.val (.int p0), .val (.int p1), .val (.int p2), .val (.int p3), .val (.int p4), .val (.int (3 : Int32)), .val (.ref b27), .val (.ref b61), .val (.ref br), .val (.int (1 : Int32)), .val (.int (1 : Int32))]) rfl ?_
                                        refine own_iload X69 hx (hb hby at_259) rfl ?_
                                        refine own_iconst X69 hx (1 : Int32) (hb hby at_261) rfl ?_
                                        refine own_icmp X69 hx (hb hby at_262) (pc' := 276) (by decide) (by decide) (fun hc => ?_) (fun hc => ?_)
                                        · have hc262 : ¬ (1 : Int32) < (3 : Int32) := own_le1 hc
                                          exact absurd (by decide) hc262
                                        · have hc262 : (1 : Int32) < (3 : Int32) := own_le0 hc
                                          clear hc
                                          show own_R p e below s _ _ _ T69 (mkF m 265 #[.val (.int p0), .val (.int p1), .val (.int p2), .val (.int p3), .val (.int p4), .val (.int (3 : Int32)), .val (.ref b27), .val (.ref b61), .val (.ref br), .val (.int (1 : Int32)), .val (.int (1 : Int32))] [])
                                          refine own_aload X69 hx (hb hby at_265) rfl rfl ?_
                                          refine own_iconst X69 hx (1 : Int32) (hb hby at_267) rfl ?_
                                          refine own_baload X69 hx hZ rfl f75 (v := .int x1) ⟨by decide, by decide⟩ rfl (hb hby at_268) ?_
                                          show own_R p e below s _ _ _ T69 (mkF m 269 #[.val (.int p0), .val (.int p1), .val (.int p2), .val (.int p3), .val (.int p4), .val (.int (3 : Int32)), .val (.ref b27), .val (.ref b61), .val (.ref br), .val (.int (1 : Int32)), .val (.int (1 : Int32))] [(.int x1)])
                                          refine own_iconst X69 hx (-1 : Int32) (hb hby at_269) rfl ?_
                                          refine own_icmp X69 hx (hb hby at_270) (pc' := 276) (by decide) (by decide) (fun hc => ?_) (fun hc => ?_)
                                          · have hc270 : x1 = (-1 : Int32) := own_eq1 hc
                                            clear hc
                                            show own_R p e below s _ _ _ T69 (mkF m 276 #[.val (.int p0), .val (.int p1), .val (.int p2), .val (.int p3), .val (.int p4), .val (.int (3 : Int32)), .val (.ref b27), .val (.ref b61), .val (.ref br), .val (.int (1 : Int32)), .val (.int (1 : Int32))] [])
                                            refine own_iload X69 hx (hb hby at_276) rfl ?_
                                            refine own_iconst X69 hx (2 : Int32) (hb hby at_278) rfl ?_
                                            refine own_icmp X69 hx (hb hby at_279) (pc' := 293) (by decide) (by decide) (fun hc => ?_) (fun hc => ?_)
                                            · have hc279 : ¬ (2 : Int32) < (3 : Int32) := own_le1 hc
                                              exact absurd (by decide) hc279
                                            · have hc279 : (2 : Int32) < (3 : Int32) := own_le0 hc
                                              clear hc
                                              show own_R p e below s _ _ _ T69 (mkF m 282 #[.val (.int p0), .val (.int p1), .val (.int p2), .val (.int p3), .val (.int p4), .val (.int (3 : Int32)), .val (.ref b27), .val (.ref b61), .val (.ref br), .val (.int (1 : Int32)), .val (.int (1 : Int32))] [])
                                              refine own_aload X69 hx (hb hby at_282) rfl rfl ?_
                                              refine own_iconst X69 hx (2 : Int32) (hb hby at_284) rfl ?_
                                              refine own_baload X69 hx hZ rfl f75 (v := .int x2) ⟨by decide, by decide⟩ rfl (hb hby at_285) ?_
                                              show own_R p e below s _ _ _ T69 (mkF m 286 #[.val (.int p0), .val (.int p1), .val (.int p2), .val (.int p3), .val (.int p4), .val (.int (3 : Int32)), .val (.ref b27), .val (.ref b61), .val (.ref br), .val (.int (1 : Int32)), .val (.int (1 : Int32))] [(.int x2)])
                                              refine own_iconst X69 hx (-1 : Int32) (hb hby at_286) rfl ?_
                                              refine own_icmp X69 hx (hb hby at_287) (pc' := 293) (by decide) (by decide) (fun hc => ?_) (fun hc => ?_)
                                              · have hc287 : x2 = (-1 : Int32) := own_eq1 hc
                                                clear hc
                                                show own_R p e below s _ _ _ T69 (mkF m 293 #[.val (.int p0), .val (.int p1), .val (.int p2), .val (.int p3), .val (.int p4), .val (.int (3 : Int32)), .val (.ref b27), .val (.ref b61), .val (.ref br), .val (.int (1 : Int32)), .val (.int (1 : Int32))] [])
                                                refine own_iload X69 hx (hb hby at_293) rfl ?_
                                                refine own_iconst X69 hx (3 : Int32) (hb hby at_295) rfl ?_
                                                refine own_icmp X69 hx (hb hby at_296) (pc' := 310) (by decide) (by decide) (fun hc => ?_) (fun hc => ?_)
                                                · have hc296 : ¬ (3 : Int32) < (3 : Int32) := own_le1 hc
                                                  clear hc
                                                  show own_R p e below s _ _ _ T69 (mkF m 310 #[.val (.int p0), .val (.int p1), .val (.int p2), .val (.int p3), .val (.int p4), .val (.int (3 : Int32)), .val (.ref b27), .val (.ref b61), .val (.ref br), .val (.int (1 : Int32)), .val (.int (1 : Int32))] [])
                                                  refine own_iload X69 hx (hb hby at_310) rfl ?_
                                                  refine own_if X69 hx (hb hby at_312) (pc' := 331) (by decide) (by decide) (fun hc => ?_) (fun hc => ?_)
                                                  · have hc312 : ¬ (1 : Int32) = (0 : Int32) := own_ne1 hc
                                                    clear hc
                                                    show own_R p e below s _ _ _ T69 (mkF m 331 #[.val (.int p0), .val (.int p1), .val (.int p2), .val (.int p3), .val (.int p4), .val (.int (3 : Int32)), .val (.ref b27), .val (.ref b61), .val (.ref br), .val (.int (1 : Int32)), .val (.int (1 : Int32))] [])
                                                    refine own_aload X69 hx (hb hby at_331) rfl rfl ?_
                                                    refine own_ifnullN X69 hx (hb hby at_333) ?_
                                                    show own_R p e below s _ _ _ T69 (mkF m 336 #[.val (.int p0), .val (.int p1), .val (.int p2), .val (.int p3), .val (.int p4), .val (.int (3 : Int32)), .val (.ref b27), .val (.ref b61), .val (.ref br), .val (.int (1 : Int32)), .val (.int (1 : Int32))] [])
                                                    refine own_aload X69 hx (hb hby at_336) rfl rfl ?_
                                                    refine own_len X69 hx hZ rfl Vr (hb hby at_338) ?_
                                                    show own_R p e below s _ _ _ T69 (mkF m 339 #[.val (.int p0), .val (.int p1), .val (.int p2), .val (.int p3), .val (.int p4), .val (.int (3 : Int32)), .val (.ref b27), .val (.ref b61), .val (.ref br), .val (.int (1 : Int32)), .val (.int (1 : Int32))] [(.int (1 : Int32))])
                                                    refine own_iload X69 hx (hb hby at_339) rfl ?_
                                                    refine own_icmp X69 hx (hb hby at_341) (pc' := 346) (by decide) (by decide) (fun hc => ?_) (fun hc => ?_)
                                                    · have hc341 : (1 : Int32) = (1 : Int32) := own_eq1 hc
                                                      clear hc
                                                      show own_R p e below s _ _ _ T69 (mkF m 346 #[.val (.int p0), .val (.int p1), .val (.int p2), .val (.int p3), .val (.int p4), .val (.int (3 : Int32)), .val (.ref b27), .val (.ref b61), .val (.ref br), .val (.int (1 : Int32)), .val (.int (1 : Int32))] [])
                                                      refine own_iload X69 hx (hb hby at_346) rfl ?_
                                                      refine own_iconst X69 hx (1 : Int32) (hb hby at_348) rfl ?_
                                                      refine own_icmp X69 hx (hb hby at_349) (pc' := 375) (by decide) (by decide) (fun hc => ?_) (fun hc => ?_)
                                                      · have hc349 : ¬ (1 : Int32) < (1 : Int32) := own_le1 hc
                                                        clear hc
                                                        show own_R p e below s _ _ _ T69 (mkF m 375 #[.val (.int p0), .val (.int p1), .val (.int p2), .val (.int p3), .val (.int p4), .val (.int (3 : Int32)), .val (.ref b27), .val (.ref b61), .val (.ref br), .val (.int (1 : Int32)), .val (.int (1 : Int32))] [])
                                                        refine own_iload X69 hx (hb hby at_375) rfl ?_
                                                        refine own_iconst X69 hx (2 : Int32) (hb hby at_377) rfl ?_
                                                        refine own_icmp X69 hx (hb hby at_378) (pc' := 404) (by decide) (by decide) (fun hc => ?_) (fun hc => ?_)
                                                        · have hc378 : ¬ (2 : Int32) < (1 : Int32) := own_le1 hc
                                                          clear hc
                                                          show own_R p e below s _ _ _ T69 (mkF m 404 #[.val (.int p0), .val (.int p1), .val (.int p2), .val (.int p3), .val (.int p4), .val (.int (3 : Int32)), .val (.ref b27), .val (.ref b61), .val (.ref br), .val (.int (1 : Int32)), .val (.int (1 : Int32))] [])
                                                          refine own_iload X69 hx (hb hby at_404) rfl ?_
                                                          refine own_iconst X69 hx (3 : Int32) (hb hby at_406) rfl ?_
                                                          refine own_icmp X69 hx (hb hby at_407) (pc' := 433) (by decide) (by decide) (fun hc => ?_) (fun hc => ?_)
                                                          · have hc407 : ¬ (3 : Int32) < (1 : Int32) := own_le1 hc
                                                            clear hc
                                                            show own_R p e below s _ _ _ T69 (mkF m 433 #[.val (.int p0), .val (.int p1), .val (.int p2), .val (.int p3), .val (.int p4), .val (.int (3 : Int32)), .val (.ref b27), .val (.ref b61), .val (.ref br), .val (.int (1 : Int32)), .val (.int (1 : Int32))] [])
                                                            refine own_iload X69 hx (hb hby at_433) rfl ?_
                                                            refine own_if X69 hx (hb hby at_435) (pc' := 462) (by decide) (by decide) (fun hc => ?_) (fun hc => ?_)
                                                            · have hc435 : (1 : Int32) = (0 : Int32) := own_eq1 hc
                                                              exact absurd hc435 (by decide)
                                                            · have hc435 : ¬ (1 : Int32) = (0 : Int32) := own_eq0 hc
                                                              clear hc
                                                              show own_R p e below s _ _ _ T69 (mkF m 438 #[.val (.int p0), .val (.int p1), .val (.int p2), .val (.int p3), .val (.int p4), .val (.int (3 : Int32)), .val (.ref b27), .val (.ref b61), .val (.ref br), .val (.int (1 : Int32)), .val (.int (1 : Int32))] [])
                                                              refine own_aload X69 hx (hb hby at_438) rfl rfl ?_
                                                              refine own_iload X69 hx (hb hby at_440) rfl ?_
                                                              refine own_iconst X69 hx (1 : Int32) (hb hby at_442) rfl ?_
                                                              refine own_isub X69 hx (hb hby at_443) ?_
                                                              refine own_baload X69 hx hZ rfl Vr (v := .int ((x0 + (1 : Int32)).toInt8.toInt32)) ⟨by decide, by decide⟩ rfl (hb hby at_444) ?_
                                                              show own_R p e below s _ _ _ T69 (mkF m 445 #[.val (.int p0), .val (.int p1), .val (.int p2), .val (.int p3), .val (.int p4), .val (.int (3 : Int32)), .val (.ref b27), .val (.ref b61), .val (.ref br), .val (.int (1 : Int32)), .val (.int (1 : Int32))] [(.int ((x0 + (1 : Int32)).toInt8.toInt32))])
                                                              refine own_aload X69 hx (hb hby at_445) rfl rfl ?_
                                                              refine own_iload X69 hx (hb hby at_447) rfl ?_
                                                              refine own_iconst X69 hx (1 : Int32) (hb hby at_449) rfl ?_
                                                              refine own_isub X69 hx (hb hby at_450) ?_
                                                              refine own_baload X69 hx hZ rfl f75 (v := .int x0) ⟨by decide, by decide⟩ rfl (hb hby at_451) ?_
                                                              show own_R p e below s _ _ _ T69 (mkF m 452 #[.val (.int p0), .val (.int p1), .val (.int p2), .val (.int p3), .val (.int p4), .val (.int (3 : Int32)), .val (.ref b27), .val (.ref b61), .val (.ref br), .val (.int (1 : Int32)), .val (.int (1 : Int32))] [(.int x0), (.int ((x0 + (1 : Int32)).toInt8.toInt32))])
                                                              refine own_iconst X69 hx (1 : Int32) (hb hby at_452) rfl ?_
                                                              refine own_iadd X69 hx (hb hby at_453) ?_
                                                              refine own_i2b X69 hx (hb hby at_454) ?_
                                                              refine own_icmp X69 hx (hb hby at_455) (pc' := 462) (by decide) (by decide) (fun hc => ?_) (fun hc => ?_)
                                                              · have hc455 : ¬ ((x0 + (1 : Int32)).toInt8.toInt32) = ((x0 + (1 : Int32)).toInt8.toInt32) := own_ne1 hc
                                                                exact absurd rfl hc455
                                                              · have hc455 : ((x0 + (1 : Int32)).toInt8.toInt32) = ((x0 + (1 : Int32)).toInt8.toInt32) := own_ne0 hc
                                                                clear hc
                                                                show own_R p e below s _ _ _ T69 (mkF m 458 #[.val (.int p0), .val (.int p1), .val (.int p2), .val (.int p3), .val (.int p4), .val (.int (3 : Int32)), .val (.ref b27), .val (.ref b61), .val (.ref br), .val (.int (1 : Int32)), .val (.int (1 : Int32))] [])
                                                                refine own_iconst X69 hx (1 : Int32) (hb hby at_458) rfl ?_
                                                                refine own_goto X69 hx (hb hby at_459) (pc' := 463) (by decide) (by decide) ?_
                                                                show own_R p e below s _ _ _ T69 (mkF m 463 #[.val (.int p0), .val (.int p1), .val (.int p2), .val (.int p3), .val (.int p4), .val (.int (3 : Int32)), .val (.ref b27), .val (.ref b61), .val (.ref br), .val (.int (1 : Int32)), .val (.int (1 : Int32))] [(.int (1 : Int32))])
                                                                refine own_istore X69 hx (hb hby at_463) (l' := #[.val (.int p0), .val (.int p1), .val (.int p2), .val (.int p3), .val (.int p4), .val (.int (3 : Int32)), .val (.ref b27), .val (.ref b61), .val (.ref br), .val (.int (1 : Int32)), .val (.int (1 : Int32))]) rfl ?_
                                                                refine own_iload X69 hx (hb hby at_465) rfl ?_
                                                                refine own_retN X69 hx (t := .boolean) Bd.returns (by simp) hlk (hb hby at_467) ?_ (by decide) (by decide)
                                                                exact ⟨rfl, N69⟩
                                                          · have hc407 : (3 : Int32) < (1 : Int32) := own_le0 hc
                                                            exact absurd hc407 (by decide)
                                                        · have hc378 : (2 : Int32) < (1 : Int32) := own_le0 hc
                                                          exact absurd hc378 (by decide)
                                                      · have hc349 : (1 : Int32) < (1 : Int32) := own_le0 hc
                                                        exact absurd hc349 (by decide)
                                                    · have hc341 : ¬ (1 : Int32) = (1 : Int32) := own_eq0 hc
                                                      exact absurd (by decide) hc341
                                                  · have hc312 : (1 : Int32) = (0 : Int32) := own_ne0 hc
                                                    exact absurd hc312 (by decide)
                                                · have hc296 : (3 : Int32) < (3 : Int32) := own_le0 hc
                                                  exact absurd hc296 (by decide)
                                              · have hc287 : ¬ x2 = (-1 : Int32) := own_eq0 hc
                                                exact absurd y2 hc287
                                          · have hc270 : ¬ x1 = (-1 : Int32) := own_eq0 hc
                                            exact absurd y1 hc270
                                  · have hc214 : (3 : Int32) < (3 : Int32) := own_le0 hc
                                    exact absurd hc214 (by decide)
            ·
              show own_R p e below s _ _ _ T69 (mkF m 108 #[.val (.int p0), .val (.int p1), .val (.int p2), .val (.int p3), .val (.int p4), .val (.int (3 : Int32)), .val (.ref b27), .val (.ref b61), .unset, .unset, .unset] [.null])
              refine own_astore X69 hx (hb hby at_108) rfl (l' := #[.val (.int p0), .val (.int p1), .val (.int p2), .val (.int p3), .val (.int p4), .val (.int (3 : Int32)), .val (.ref b27), .val (.ref b61), .val .null, .unset, .unset]) rfl ?_
              refine own_aload X69 hx (hb hby at_110) rfl rfl ?_
              have f76 := (V_b61_67.keep Kc69 nin0)
              refine own_len X69 hx hZ rfl f76 (hb hby at_112) ?_
              show own_R p e below s _ _ _ T69 (mkF m 113 #[.val (.int p0), .val (.int p1), .val (.int p2), .val (.int p3), .val (.int p4), .val (.int (3 : Int32)), .val (.ref b27), .val (.ref b61), .val .null, .unset, .unset] [(.int (3 : Int32))])
              refine own_iload X69 hx (hb hby at_113) rfl ?_
              refine own_icmp X69 hx (hb hby at_115) (pc' := 122) (by decide) (by decide) (fun hc => ?_) (fun hc => ?_)
              · have hc115 : ¬ (3 : Int32) = (3 : Int32) := own_ne1 hc
                exact absurd (by decide) hc115
              · have hc115 : (3 : Int32) = (3 : Int32) := own_ne0 hc
                clear hc
                show own_R p e below s _ _ _ T69 (mkF m 118 #[.val (.int p0), .val (.int p1), .val (.int p2), .val (.int p3), .val (.int p4), .val (.int (3 : Int32)), .val (.ref b27), .val (.ref b61), .val .null, .unset, .unset] [])
                refine own_iconst X69 hx (1 : Int32) (hb hby at_118) rfl ?_
                refine own_goto X69 hx (hb hby at_119) (pc' := 123) (by decide) (by decide) ?_
                show own_R p e below s _ _ _ T69 (mkF m 123 #[.val (.int p0), .val (.int p1), .val (.int p2), .val (.int p3), .val (.int p4), .val (.int (3 : Int32)), .val (.ref b27), .val (.ref b61), .val .null, .unset, .unset] [(.int (1 : Int32))])
                refine own_istore X69 hx (hb hby at_123) (l' := #[.val (.int p0), .val (.int p1), .val (.int p2), .val (.int p3), .val (.int p4), .val (.int (3 : Int32)), .val (.ref b27), .val (.ref b61), .val .null, .val (.int (1 : Int32)), .unset]) rfl ?_
                refine own_iload X69 hx (hb hby at_125) rfl ?_
                refine own_if X69 hx (hb hby at_127) (pc' := 153) (by decide) (by decide) (fun hc => ?_) (fun hc => ?_)
                · have hc127 : ¬ (0 : Int32) < (3 : Int32) := own_le1 hc
                  exact absurd (by decide) hc127
                · have hc127 : (0 : Int32) < (3 : Int32) := own_le0 hc
                  clear hc
                  show own_R p e below s _ _ _ T69 (mkF m 130 #[.val (.int p0), .val (.int p1), .val (.int p2), .val (.int p3), .val (.int p4), .val (.int (3 : Int32)), .val (.ref b27), .val (.ref b61), .val .null, .val (.int (1 : Int32)), .unset] [])
                  refine own_iload X69 hx (hb hby at_130) rfl ?_
                  refine own_if X69 hx (hb hby at_132) (pc' := 150) (by decide) (by decide) (fun hc => ?_) (fun hc => ?_)
                  · have hc132 : (1 : Int32) = (0 : Int32) := own_eq1 hc
                    exact absurd hc132 (by decide)
                  · have hc132 : ¬ (1 : Int32) = (0 : Int32) := own_eq0 hc
                    clear hc
                    show own_R p e below s _ _ _ T69 (mkF m 135 #[.val (.int p0), .val (.int p1), .val (.int p2), .val (.int p3), .val (.int p4), .val (.int (3 : Int32)), .val (.ref b27), .val (.ref b61), .val .null, .val (.int (1 : Int32)), .unset] [])
                    refine own_aload X69 hx (hb hby at_135) rfl rfl ?_
                    refine own_iconst X69 hx (0 : Int32) (hb hby at_137) rfl ?_
                    refine own_baload X69 hx hZ rfl f76 (v := .int x0) ⟨by decide, by decide⟩ rfl (hb hby at_138) ?_
                    show own_R p e below s _ _ _ T69 (mkF m 139 #[.val (.int p0), .val (.int p1), .val (.int p2), .val (.int p3), .val (.int p4), .val (.int (3 : Int32)), .val (.ref b27), .val (.ref b61), .val .null, .val (.int (1 : Int32)), .unset] [(.int x0)])
                    refine own_aload X69 hx (hb hby at_139) rfl rfl ?_
                    refine own_iconst X69 hx (0 : Int32) (hb hby at_141) rfl ?_
                    have f77 := ((f66.other W67 ne_b27_b61).keep Kc69 nin0)
                    refine own_baload X69 hx hZ rfl f77 (v := .int x0) ⟨by decide, by decide⟩ rfl (hb hby at_142) ?_
                    show own_R p e below s _ _ _ T69 (mkF m 143 #[.val (.int p0), .val (.int p1), .val (.int p2), .val (.int p3), .val (.int p4), .val (.int (3 : Int32)), .val (.ref b27), .val (.ref b61), .val .null, .val (.int (1 : Int32)), .unset] [(.int x0), (.int x0)])
                    refine own_icmp X69 hx (hb hby at_143) (pc' := 150) (by decide) (by decide) (fun hc => ?_) (fun hc => ?_)
                    · have hc143 : ¬ x0 = x0 := own_ne1 hc
                      exact absurd rfl hc143
                    · have hc143 : x0 = x0 := own_ne0 hc
                      clear hc
                      show own_R p e below s _ _ _ T69 (mkF m 146 #[.val (.int p0), .val (.int p1), .val (.int p2), .val (.int p3), .val (.int p4), .val (.int (3 : Int32)), .val (.ref b27), .val (.ref b61), .val .null, .val (.int (1 : Int32)), .unset] [])
                      refine own_iconst X69 hx (1 : Int32) (hb hby at_146) rfl ?_
                      refine own_goto X69 hx (hb hby at_147) (pc' := 151) (by decide) (by decide) ?_
                      show own_R p e below s _ _ _ T69 (mkF m 151 #[.val (.int p0), .val (.int p1), .val (.int p2), .val (.int p3), .val (.int p4), .val (.int (3 : Int32)), .val (.ref b27), .val (.ref b61), .val .null, .val (.int (1 : Int32)), .unset] [(.int (1 : Int32))])
                      refine own_istore X69 hx (hb hby at_151) (l' := #[.val (.int p0), .val (.int p1), .val (.int p2), .val (.int p3), .val (.int p4), .val (.int (3 : Int32)), .val (.ref b27), .val (.ref b61), .val .null, .val (.int (1 : Int32)), .unset]) rfl ?_
                      refine own_iload X69 hx (hb hby at_153) rfl ?_
                      refine own_iconst X69 hx (1 : Int32) (hb hby at_155) rfl ?_
                      refine own_icmp X69 hx (hb hby at_156) (pc' := 182) (by decide) (by decide) (fun hc => ?_) (fun hc => ?_)
                      · have hc156 : ¬ (1 : Int32) < (3 : Int32) := own_le1 hc
                        exact absurd (by decide) hc156
                      · have hc156 : (1 : Int32) < (3 : Int32) := own_le0 hc
                        clear hc
                        show own_R p e below s _ _ _ T69 (mkF m 159 #[.val (.int p0), .val (.int p1), .val (.int p2), .val (.int p3), .val (.int p4), .val (.int (3 : Int32)), .val (.ref b27), .val (.ref b61), .val .null, .val (.int (1 : Int32)), .unset] [])
                        refine own_iload X69 hx (hb hby at_159) rfl ?_
                        refine own_if X69 hx (hb hby at_161) (pc' := 179) (by decide) (by decide) (fun hc => ?_) (fun hc => ?_)
                        · have hc161 : (1 : Int32) = (0 : Int32) := own_eq1 hc
                          exact absurd hc161 (by decide)
                        · have hc161 : ¬ (1 : Int32) = (0 : Int32) := own_eq0 hc
                          clear hc
                          show own_R p e below s _ _ _ T69 (mkF m 164 #[.val (.int p0), .val (.int p1), .val (.int p2), .val (.int p3), .val (.int p4), .val (.int (3 : Int32)), .val (.ref b27), .val (.ref b61), .val .null, .val (.int (1 : Int32)), .unset] [])
                          refine own_aload X69 hx (hb hby at_164) rfl rfl ?_
                          refine own_iconst X69 hx (1 : Int32) (hb hby at_166) rfl ?_
                          refine own_baload X69 hx hZ rfl f76 (v := .int x1) ⟨by decide, by decide⟩ rfl (hb hby at_167) ?_
                          show own_R p e below s _ _ _ T69 (mkF m 168 #[.val (.int p0), .val (.int p1), .val (.int p2), .val (.int p3), .val (.int p4), .val (.int (3 : Int32)), .val (.ref b27), .val (.ref b61), .val .null, .val (.int (1 : Int32)), .unset] [(.int x1)])
                          refine own_aload X69 hx (hb hby at_168) rfl rfl ?_
                          refine own_iconst X69 hx (1 : Int32) (hb hby at_170) rfl ?_
                          refine own_baload X69 hx hZ rfl f77 (v := .int x1) ⟨by decide, by decide⟩ rfl (hb hby at_171) ?_
                          show own_R p e below s _ _ _ T69 (mkF m 172 #[.val (.int p0), .val (.int p1), .val (.int p2), .val (.int p3), .val (.int p4), .val (.int (3 : Int32)), .val (.ref b27), .val (.ref b61), .val .null, .val (.int (1 : Int32)), .unset] [(.int x1), (.int x1)])
                          refine own_icmp X69 hx (hb hby at_172) (pc' := 179) (by decide) (by decide) (fun hc => ?_) (fun hc => ?_)
                          · have hc172 : ¬ x1 = x1 := own_ne1 hc
                            exact absurd rfl hc172
                          · have hc172 : x1 = x1 := own_ne0 hc
                            clear hc
                            show own_R p e below s _ _ _ T69 (mkF m 175 #[.val (.int p0), .val (.int p1), .val (.int p2), .val (.int p3), .val (.int p4), .val (.int (3 : Int32)), .val (.ref b27), .val (.ref b61), .val .null, .val (.int (1 : Int32)), .unset] [])
                            refine own_iconst X69 hx (1 : Int32) (hb hby at_175) rfl ?_
                            refine own_goto X69 hx (hb hby at_176) (pc' := 180) (by decide) (by decide) ?_
                            show own_R p e below s _ _ _ T69 (mkF m 180 #[.val (.int p0), .val (.int p1), .val (.int p2), .val (.int p3), .val (.int p4), .val (.int (3 : Int32)), .val (.ref b27), .val (.ref b61), .val .null, .val (.int (1 : Int32)), .unset] [(.int (1 : Int32))])
                            refine own_istore X69 hx (hb hby at_180) (l' := #[.val (.int p0), .val (.int p1), .val (.int p2), .val (.int p3), .val (.int p4), .val (.int (3 : Int32)), .val (.ref b27), .val (.ref b61), .val .null, .val (.int (1 : Int32)), .unset]) rfl ?_
                            refine own_iload X69 hx (hb hby at_182) rfl ?_
                            refine own_iconst X69 hx (2 : Int32) (hb hby at_184) rfl ?_
                            refine own_icmp X69 hx (hb hby at_185) (pc' := 211) (by decide) (by decide) (fun hc => ?_) (fun hc => ?_)
                            · have hc185 : ¬ (2 : Int32) < (3 : Int32) := own_le1 hc
                              exact absurd (by decide) hc185
                            · have hc185 : (2 : Int32) < (3 : Int32) := own_le0 hc
                              clear hc
                              show own_R p e below s _ _ _ T69 (mkF m 188 #[.val (.int p0), .val (.int p1), .val (.int p2), .val (.int p3), .val (.int p4), .val (.int (3 : Int32)), .val (.ref b27), .val (.ref b61), .val .null, .val (.int (1 : Int32)), .unset] [])
                              refine own_iload X69 hx (hb hby at_188) rfl ?_
                              refine own_if X69 hx (hb hby at_190) (pc' := 208) (by decide) (by decide) (fun hc => ?_) (fun hc => ?_)
                              · have hc190 : (1 : Int32) = (0 : Int32) := own_eq1 hc
                                exact absurd hc190 (by decide)
                              · have hc190 : ¬ (1 : Int32) = (0 : Int32) := own_eq0 hc
                                clear hc
                                show own_R p e below s _ _ _ T69 (mkF m 193 #[.val (.int p0), .val (.int p1), .val (.int p2), .val (.int p3), .val (.int p4), .val (.int (3 : Int32)), .val (.ref b27), .val (.ref b61), .val .null, .val (.int (1 : Int32)), .unset] [])
                                refine own_aload X69 hx (hb hby at_193) rfl rfl ?_
                                refine own_iconst X69 hx (2 : Int32) (hb hby at_195) rfl ?_
                                refine own_baload X69 hx hZ rfl f76 (v := .int x2) ⟨by decide, by decide⟩ rfl (hb hby at_196) ?_
                                show own_R p e below s _ _ _ T69 (mkF m 197 #[.val (.int p0), .val (.int p1), .val (.int p2), .val (.int p3), .val (.int p4), .val (.int (3 : Int32)), .val (.ref b27), .val (.ref b61), .val .null, .val (.int (1 : Int32)), .unset] [(.int x2)])
                                refine own_aload X69 hx (hb hby at_197) rfl rfl ?_
                                refine own_iconst X69 hx (2 : Int32) (hb hby at_199) rfl ?_
                                refine own_baload X69 hx hZ rfl f77 (v := .int x2) ⟨by decide, by decide⟩ rfl (hb hby at_200) ?_
                                show own_R p e below s _ _ _ T69 (mkF m 201 #[.val (.int p0), .val (.int p1), .val (.int p2), .val (.int p3), .val (.int p4), .val (.int (3 : Int32)), .val (.ref b27), .val (.ref b61), .val .null, .val (.int (1 : Int32)), .unset] [(.int x2), (.int x2)])
                                refine own_icmp X69 hx (hb hby at_201) (pc' := 208) (by decide) (by decide) (fun hc => ?_) (fun hc => ?_)
                                · have hc201 : ¬ x2 = x2 := own_ne1 hc
                                  exact absurd rfl hc201
                                · have hc201 : x2 = x2 := own_ne0 hc
                                  clear hc
                                  show own_R p e below s _ _ _ T69 (mkF m 204 #[.val (.int p0), .val (.int p1), .val (.int p2), .val (.int p3), .val (.int p4), .val (.int (3 : Int32)), .val (.ref b27), .val (.ref b61), .val .null, .val (.int (1 : Int32)), .unset] [])
                                  refine own_iconst X69 hx (1 : Int32) (hb hby at_204) rfl ?_
                                  refine own_goto X69 hx (hb hby at_205) (pc' := 209) (by decide) (by decide) ?_
                                  show own_R p e below s _ _ _ T69 (mkF m 209 #[.val (.int p0), .val (.int p1), .val (.int p2), .val (.int p3), .val (.int p4), .val (.int (3 : Int32)), .val (.ref b27), .val (.ref b61), .val .null, .val (.int (1 : Int32)), .unset] [(.int (1 : Int32))])
                                  refine own_istore X69 hx (hb hby at_209) (l' := #[.val (.int p0), .val (.int p1), .val (.int p2), .val (.int p3), .val (.int p4), .val (.int (3 : Int32)), .val (.ref b27), .val (.ref b61), .val .null, .val (.int (1 : Int32)), .unset]) rfl ?_
                                  refine own_iload X69 hx (hb hby at_211) rfl ?_
                                  refine own_iconst X69 hx (3 : Int32) (hb hby at_213) rfl ?_
                                  refine own_icmp X69 hx (hb hby at_214) (pc' := 240) (by decide) (by decide) (fun hc => ?_) (fun hc => ?_)
                                  · have hc214 : ¬ (3 : Int32) < (3 : Int32) := own_le1 hc
                                    clear hc
                                    show own_R p e below s _ _ _ T69 (mkF m 240 #[.val (.int p0), .val (.int p1), .val (.int p2), .val (.int p3), .val (.int p4), .val (.int (3 : Int32)), .val (.ref b27), .val (.ref b61), .val .null, .val (.int (1 : Int32)), .unset] [])
                                    refine own_iconst X69 hx (0 : Int32) (hb hby at_240) rfl ?_
                                    refine own_istore X69 hx (hb hby at_241) (l' := #[.val (.int p0), .val (.int p1), .val (.int p2), .val (.int p3), .val (.int p4), .val (.int (3 : Int32)), .val (.ref b27), .val (.ref b61), .val .null, .val (.int (1 : Int32)), .val (.int (0 : Int32))]) rfl ?_
                                    refine own_iload X69 hx (hb hby at_243) rfl ?_
                                    refine own_if X69 hx (hb hby at_245) (pc' := 259) (by decide) (by decide) (fun hc => ?_) (fun hc => ?_)
                                    · have hc245 : ¬ (0 : Int32) < (3 : Int32) := own_le1 hc
                                      exact absurd (by decide) hc245
                                    · have hc245 : (0 : Int32) < (3 : Int32) := own_le0 hc
                                      clear hc
                                      show own_R p e below s _ _ _ T69 (mkF m 248 #[.val (.int p0), .val (.int p1), .val (.int p2), .val (.int p3), .val (.int p4), .val (.int (3 : Int32)), .val (.ref b27), .val (.ref b61), .val .null, .val (.int (1 : Int32)), .val (.int (0 : Int32))] [])
                                      refine own_aload X69 hx (hb hby at_248) rfl rfl ?_
                                      refine own_iconst X69 hx (0 : Int32) (hb hby at_250) rfl ?_
                                      refine own_baload X69 hx hZ rfl f77 (v := .int x0) ⟨by decide, by decide⟩ rfl (hb hby at_251) ?_
                                      show own_R p e below s _ _ _ T69 (mkF m 252 #[.val (.int p0), .val (.int p1), .val (.int p2), .val (.int p3), .val (.int p4), .val (.int (3 : Int32)), .val (.ref b27), .val (.ref b61), .val .null, .val (.int (1 : Int32)), .val (.int (0 : Int32))] [(.int x0)])
                                      refine own_iconst X69 hx (-1 : Int32) (hb hby at_252) rfl ?_
                                      refine own_icmp X69 hx (hb hby at_253) (pc' := 259) (by decide) (by decide) (fun hc => ?_) (fun hc => ?_)
                                      · have hc253 : x0 = (-1 : Int32) := own_eq1 hc
                                        clear hc
                                        show own_R p e below s _ _ _ T69 (mkF m 259 #[.val (.int p0), .val (.int p1), .val (.int p2), .val (.int p3), .val (.int p4), .val (.int (3 : Int32)), .val (.ref b27), .val (.ref b61), .val .null, .val (.int (1 : Int32)), .val (.int (0 : Int32))] [])
                                        refine own_iload X69 hx (hb hby at_259) rfl ?_
                                        refine own_iconst X69 hx (1 : Int32) (hb hby at_261) rfl ?_
                                        refine own_icmp X69 hx (hb hby at_262) (pc' := 276) (by decide) (by decide) (fun hc => ?_) (fun hc => ?_)
                                        · have hc262 : ¬ (1 : Int32) < (3 : Int32) := own_le1 hc
                                          exact absurd (by decide) hc262
                                        · have hc262 : (1 : Int32) < (3 : Int32) := own_le0 hc
                                          clear hc
                                          show own_R p e below s _ _ _ T69 (mkF m 265 #[.val (.int p0), .val (.int p1), .val (.int p2), .val (.int p3), .val (.int p4), .val (.int (3 : Int32)), .val (.ref b27), .val (.ref b61), .val .null, .val (.int (1 : Int32)), .val (.int (0 : Int32))] [])
                                          refine own_aload X69 hx (hb hby at_265) rfl rfl ?_
                                          refine own_iconst X69 hx (1 : Int32) (hb hby at_267) rfl ?_
                                          refine own_baload X69 hx hZ rfl f77 (v := .int x1) ⟨by decide, by decide⟩ rfl (hb hby at_268) ?_
                                          show own_R p e below s _ _ _ T69 (mkF m 269 #[.val (.int p0), .val (.int p1), .val (.int p2), .val (.int p3), .val (.int p4), .val (.int (3 : Int32)), .val (.ref b27), .val (.ref b61), .val .null, .val (.int (1 : Int32)), .val (.int (0 : Int32))] [(.int x1)])
                                          refine own_iconst X69 hx (-1 : Int32) (hb hby at_269) rfl ?_
                                          refine own_icmp X69 hx (hb hby at_270) (pc' := 276) (by decide) (by decide) (fun hc => ?_) (fun hc => ?_)
                                          · have hc270 : x1 = (-1 : Int32) := own_eq1 hc
                                            clear hc
                                            show own_R p e below s _ _ _ T69 (mkF m 276 #[.val (.int p0), .val (.int p1), .val (.int p2), .val (.int p3), .val (.int p4), .val (.int (3 : Int32)), .val (.ref b27), .val (.ref b61), .val .null, .val (.int (1 : Int32)), .val (.int (0 : Int32))] [])
                                            refine own_iload X69 hx (hb hby at_276) rfl ?_
                                            refine own_iconst X69 hx (2 : Int32) (hb hby at_278) rfl ?_
                                            refine own_icmp X69 hx (hb hby at_279) (pc' := 293) (by decide) (by decide) (fun hc => ?_) (fun hc => ?_)
                                            · have hc279 : ¬ (2 : Int32) < (3 : Int32) := own_le1 hc
                                              exact absurd (by decide) hc279
                                            · have hc279 : (2 : Int32) < (3 : Int32) := own_le0 hc
                                              clear hc
                                              show own_R p e below s _ _ _ T69 (mkF m 282 #[.val (.int p0), .val (.int p1), .val (.int p2), .val (.int p3), .val (.int p4), .val (.int (3 : Int32)), .val (.ref b27), .val (.ref b61), .val .null, .val (.int (1 : Int32)), .val (.int (0 : Int32))] [])
                                              refine own_aload X69 hx (hb hby at_282) rfl rfl ?_
                                              refine own_iconst X69 hx (2 : Int32) (hb hby at_284) rfl ?_
                                              refine own_baload X69 hx hZ rfl f77 (v := .int x2) ⟨by decide, by decide⟩ rfl (hb hby at_285) ?_
                                              show own_R p e below s _ _ _ T69 (mkF m 286 #[.val (.int p0), .val (.int p1), .val (.int p2), .val (.int p3), .val (.int p4), .val (.int (3 : Int32)), .val (.ref b27), .val (.ref b61), .val .null, .val (.int (1 : Int32)), .val (.int (0 : Int32))] [(.int x2)])
                                              refine own_iconst X69 hx (-1 : Int32) (hb hby at_286) rfl ?_
                                              refine own_icmp X69 hx (hb hby at_287) (pc' := 293) (by decide) (by decide) (fun hc => ?_) (fun hc => ?_)
                                              · have hc287 : x2 = (-1 : Int32) := own_eq1 hc
                                                clear hc
                                                show own_R p e below s _ _ _ T69 (mkF m 293 #[.val (.int p0), .val (.int p1), .val (.int p2), .val (.int p3), .val (.int p4), .val (.int (3 : Int32)), .val (.ref b27), .val (.ref b61), .val .null, .val (.int (1 : Int32)), .val (.int (0 : Int32))] [])
                                                refine own_iload X69 hx (hb hby at_293) rfl ?_
                                                refine own_iconst X69 hx (3 : Int32) (hb hby at_295) rfl ?_
                                                refine own_icmp X69 hx (hb hby at_296) (pc' := 310) (by decide) (by decide) (fun hc => ?_) (fun hc => ?_)
                                                · have hc296 : ¬ (3 : Int32) < (3 : Int32) := own_le1 hc
                                                  clear hc
                                                  show own_R p e below s _ _ _ T69 (mkF m 310 #[.val (.int p0), .val (.int p1), .val (.int p2), .val (.int p3), .val (.int p4), .val (.int (3 : Int32)), .val (.ref b27), .val (.ref b61), .val .null, .val (.int (1 : Int32)), .val (.int (0 : Int32))] [])
                                                  refine own_iload X69 hx (hb hby at_310) rfl ?_
                                                  refine own_if X69 hx (hb hby at_312) (pc' := 331) (by decide) (by decide) (fun hc => ?_) (fun hc => ?_)
                                                  · have hc312 : ¬ (0 : Int32) = (0 : Int32) := own_ne1 hc
                                                    exact absurd (by decide) hc312
                                                  · have hc312 : (0 : Int32) = (0 : Int32) := own_ne0 hc
                                                    clear hc
                                                    show own_R p e below s _ _ _ T69 (mkF m 315 #[.val (.int p0), .val (.int p1), .val (.int p2), .val (.int p3), .val (.int p4), .val (.int (3 : Int32)), .val (.ref b27), .val (.ref b61), .val .null, .val (.int (1 : Int32)), .val (.int (0 : Int32))] [])
                                                    refine own_iload X69 hx (hb hby at_315) rfl ?_
                                                    refine own_if X69 hx (hb hby at_317) (pc' := 329) (by decide) (by decide) (fun hc => ?_) (fun hc => ?_)
                                                    · have hc317 : (1 : Int32) = (0 : Int32) := own_eq1 hc
                                                      exact absurd hc317 (by decide)
                                                    · have hc317 : ¬ (1 : Int32) = (0 : Int32) := own_eq0 hc
                                                      clear hc
                                                      show own_R p e below s _ _ _ T69 (mkF m 320 #[.val (.int p0), .val (.int p1), .val (.int p2), .val (.int p3), .val (.int p4), .val (.int (3 : Int32)), .val (.ref b27), .val (.ref b61), .val .null, .val (.int (1 : Int32)), .val (.int (0 : Int32))] [])
                                                      refine own_aload X69 hx (hb hby at_320) rfl rfl ?_
                                                      refine own_ifnonnullN X69 hx (hb hby at_322) ?_
                                                      show own_R p e below s _ _ _ T69 (mkF m 325 #[.val (.int p0), .val (.int p1), .val (.int p2), .val (.int p3), .val (.int p4), .val (.int (3 : Int32)), .val (.ref b27), .val (.ref b61), .val .null, .val (.int (1 : Int32)), .val (.int (0 : Int32))] [])
                                                      refine own_iconst X69 hx (1 : Int32) (hb hby at_325) rfl ?_
                                                      refine own_goto X69 hx (hb hby at_326) (pc' := 330) (by decide) (by decide) ?_
                                                      show own_R p e below s _ _ _ T69 (mkF m 330 #[.val (.int p0), .val (.int p1), .val (.int p2), .val (.int p3), .val (.int p4), .val (.int (3 : Int32)), .val (.ref b27), .val (.ref b61), .val .null, .val (.int (1 : Int32)), .val (.int (0 : Int32))] [(.int (1 : Int32))])
                                                      refine own_retN X69 hx (t := .boolean) Bd.returns (by simp) hlk (hb hby at_330) ?_ (by decide) (by decide)
                                                      exact ⟨rfl, N69⟩
                                                · have hc296 : (3 : Int32) < (3 : Int32) := own_le0 hc
                                                  exact absurd hc296 (by decide)
                                              · have hc287 : ¬ x2 = (-1 : Int32) := own_eq0 hc
                                                exact absurd y2 hc287
                                          · have hc270 : ¬ x1 = (-1 : Int32) := own_eq0 hc
                                            exact absurd y1 hc270
                                      · have hc253 : ¬ x0 = (-1 : Int32) := own_eq0 hc
                                        exact absurd y0 hc253
                                  · have hc214 : (3 : Int32) < (3 : Int32) := own_le0 hc
                                    exact absurd hc214 (by decide)
          · have hc92 : (3 : Int32) < (3 : Int32) := own_le0 hc
            exact absurd hc92 (by decide)
  ·
    show own_R p e below s _ _ _ T35 (mkF m 42 #[.val (.int p0), .val (.int p1), .val (.int p2), .val (.int p3), .val (.int p4), .val (.int (4 : Int32)), .val (.ref b27), .unset, .unset, .unset, .unset] [])
    refine own_iload X35 hx (hb hby at_42) rfl ?_
    refine own_newA X35 hx hZ (hw _ (List.mem_of_getElem? (i := 1) rfl)) e35 (hb hby at_44) (by decide) 4 (by decide) (by decide) (by decide) (by decide) (ad := "[B") (by decide) 4 ?_
    intro T78 h78 b78 k78 g78 X78 e78 E78 V78 A78
    have ne_b27_b78 : b27 ≠ b78 := Nat.ne_of_lt (Nat.lt_of_lt_of_le V_b27_35.lt (Nat.le_of_eq g78.symm))
    have sz_b78 : h0.size ≤ b78 := Nat.le_trans K35.1 (Nat.le_of_eq g78.symm)
    have n0_b78 : n0 ≤ b78 := Nat.le_trans Z0 sz_b78
    have K78 := K35.ext E78
    have V_b78 : Arv Z h78 b78 k78 .byte (4 : Int32) [(.int (0 : Int32)), (.int (0 : Int32)), (.int (0 : Int32)), (.int (0 : Int32))] (.int (0 : Int32)) := V78
    show own_R p e below s _ _ _ T78 (mkF m 46 #[.val (.int p0), .val (.int p1), .val (.int p2), .val (.int p3), .val (.int p4), .val (.int (4 : Int32)), .val (.ref b27), .unset, .unset, .unset, .unset] [(.ref b78)])
    refine own_astore X78 hx (hb hby at_46) rfl (l' := #[.val (.int p0), .val (.int p1), .val (.int p2), .val (.int p3), .val (.int p4), .val (.int (4 : Int32)), .val (.ref b27), .val (.ref b78), .unset, .unset, .unset]) rfl ?_
    refine own_iload X78 hx (hb hby at_48) rfl ?_
    refine own_if X78 hx (hb hby at_50) (pc' := 61) (by decide) (by decide) (fun hc => ?_) (fun hc => ?_)
    · have hc50 : ¬ (0 : Int32) < (4 : Int32) := own_le1 hc
      exact absurd (by decide) hc50
    · have hc50 : (0 : Int32) < (4 : Int32) := own_le0 hc
      clear hc
      show own_R p e below s _ _ _ T78 (mkF m 53 #[.val (.int p0), .val (.int p1), .val (.int p2), .val (.int p3), .val (.int p4), .val (.int (4 : Int32)), .val (.ref b27), .val (.ref b78), .unset, .unset, .unset] [])
      refine own_aload X78 hx (hb hby at_53) rfl rfl ?_
      refine own_iconst X78 hx (0 : Int32) (hb hby at_55) rfl ?_
      refine own_aload X78 hx (hb hby at_56) rfl rfl ?_
      refine own_iconst X78 hx (0 : Int32) (hb hby at_58) rfl ?_
      have f79 := (V_b27_35.ext E78)
      refine own_baload X78 hx hZ e78 f79 (v := .int x0) ⟨by decide, by decide⟩ rfl (hb hby at_59) ?_
      show own_R p e below s _ _ _ T78 (mkF m 60 #[.val (.int p0), .val (.int p1), .val (.int p2), .val (.int p3), .val (.int p4), .val (.int (4 : Int32)), .val (.ref b27), .val (.ref b78), .unset, .unset, .unset] [(.int x0), (.int (0 : Int32)), (.ref b78)])
      refine own_bastore X78 hx hZ e78 V_b78 (x' := x0) (pl_nn hx0) ⟨by decide, by decide⟩ 0 rfl (Nat.le_of_ble_eq_true rfl) (hb hby at_60) ?_
      intro T80 h80 X80 e80 W80 V80
      have K80 := K78.wr W80 (Or.inr sz_b78)
      have N80 := Fr.snoc X80 N35 n0_b78
      have V_b78_80 : Arv Z h80 b78 k78 .byte (4 : Int32) [(.int x0), (.int (0 : Int32)), (.int (0 : Int32)), (.int (0 : Int32))] (.int (0 : Int32)) := V80
      show own_R p e below s _ _ _ T80 (mkF m 61 #[.val (.int p0), .val (.int p1), .val (.int p2), .val (.int p3), .val (.int p4), .val (.int (4 : Int32)), .val (.ref b27), .val (.ref b78), .unset, .unset, .unset] [])
      refine own_iload X80 hx (hb hby at_61) rfl ?_
      refine own_iconst X80 hx (1 : Int32) (hb hby at_63) rfl ?_
      refine own_icmp X80 hx (hb hby at_64) (pc' := 75) (by decide) (by decide) (fun hc => ?_) (fun hc => ?_)
      · have hc64 : ¬ (1 : Int32) < (4 : Int32) := own_le1 hc
        exact absurd (by decide) hc64
      · have hc64 : (1 : Int32) < (4 : Int32) := own_le0 hc
        clear hc
        show own_R p e below s _ _ _ T80 (mkF m 67 #[.val (.int p0), .val (.int p1), .val (.int p2), .val (.int p3), .val (.int p4), .val (.int (4 : Int32)), .val (.ref b27), .val (.ref b78), .unset, .unset, .unset] [])
        refine own_aload X80 hx (hb hby at_67) rfl rfl ?_
        refine own_iconst X80 hx (1 : Int32) (hb hby at_69) rfl ?_
        refine own_aload X80 hx (hb hby at_70) rfl rfl ?_
        refine own_iconst X80 hx (1 : Int32) (hb hby at_72) rfl ?_
        have f81 := (f79.other W80 ne_b27_b78)
        refine own_baload X80 hx hZ e80 f81 (v := .int x1) ⟨by decide, by decide⟩ rfl (hb hby at_73) ?_
        show own_R p e below s _ _ _ T80 (mkF m 74 #[.val (.int p0), .val (.int p1), .val (.int p2), .val (.int p3), .val (.int p4), .val (.int (4 : Int32)), .val (.ref b27), .val (.ref b78), .unset, .unset, .unset] [(.int x1), (.int (1 : Int32)), (.ref b78)])
        refine own_bastore X80 hx hZ e80 V_b78_80 (x' := x1) (pl_nn hx1) ⟨by decide, by decide⟩ 1 rfl (Nat.le_of_ble_eq_true rfl) (hb hby at_74) ?_
        intro T82 h82 X82 e82 W82 V82
        have K82 := K80.wr W82 (Or.inr sz_b78)
        have N82 := Fr.snoc X82 N80 n0_b78
        have V_b78_82 : Arv Z h82 b78 k78 .byte (4 : Int32) [(.int x0), (.int x1), (.int (0 : Int32)), (.int (0 : Int32))] (.int (0 : Int32)) := V82
        show own_R p e below s _ _ _ T82 (mkF m 75 #[.val (.int p0), .val (.int p1), .val (.int p2), .val (.int p3), .val (.int p4), .val (.int (4 : Int32)), .val (.ref b27), .val (.ref b78), .unset, .unset, .unset] [])
        refine own_iload X82 hx (hb hby at_75) rfl ?_
        refine own_iconst X82 hx (2 : Int32) (hb hby at_77) rfl ?_
        refine own_icmp X82 hx (hb hby at_78) (pc' := 89) (by decide) (by decide) (fun hc => ?_) (fun hc => ?_)
        · have hc78 : ¬ (2 : Int32) < (4 : Int32) := own_le1 hc
          exact absurd (by decide) hc78
        · have hc78 : (2 : Int32) < (4 : Int32) := own_le0 hc
          clear hc
          show own_R p e below s _ _ _ T82 (mkF m 81 #[.val (.int p0), .val (.int p1), .val (.int p2), .val (.int p3), .val (.int p4), .val (.int (4 : Int32)), .val (.ref b27), .val (.ref b78), .unset, .unset, .unset] [])
          refine own_aload X82 hx (hb hby at_81) rfl rfl ?_
          refine own_iconst X82 hx (2 : Int32) (hb hby at_83) rfl ?_
          refine own_aload X82 hx (hb hby at_84) rfl rfl ?_
          refine own_iconst X82 hx (2 : Int32) (hb hby at_86) rfl ?_
          have f83 := (f81.other W82 ne_b27_b78)
          refine own_baload X82 hx hZ e82 f83 (v := .int x2) ⟨by decide, by decide⟩ rfl (hb hby at_87) ?_
          show own_R p e below s _ _ _ T82 (mkF m 88 #[.val (.int p0), .val (.int p1), .val (.int p2), .val (.int p3), .val (.int p4), .val (.int (4 : Int32)), .val (.ref b27), .val (.ref b78), .unset, .unset, .unset] [(.int x2), (.int (2 : Int32)), (.ref b78)])
          refine own_bastore X82 hx hZ e82 V_b78_82 (x' := x2) (pl_nn hx2) ⟨by decide, by decide⟩ 2 rfl (Nat.le_of_ble_eq_true rfl) (hb hby at_88) ?_
          intro T84 h84 X84 e84 W84 V84
          have K84 := K82.wr W84 (Or.inr sz_b78)
          have N84 := Fr.snoc X84 N82 n0_b78
          have V_b78_84 : Arv Z h84 b78 k78 .byte (4 : Int32) [(.int x0), (.int x1), (.int x2), (.int (0 : Int32))] (.int (0 : Int32)) := V84
          show own_R p e below s _ _ _ T84 (mkF m 89 #[.val (.int p0), .val (.int p1), .val (.int p2), .val (.int p3), .val (.int p4), .val (.int (4 : Int32)), .val (.ref b27), .val (.ref b78), .unset, .unset, .unset] [])
          refine own_iload X84 hx (hb hby at_89) rfl ?_
          refine own_iconst X84 hx (3 : Int32) (hb hby at_91) rfl ?_
          refine own_icmp X84 hx (hb hby at_92) (pc' := 103) (by decide) (by decide) (fun hc => ?_) (fun hc => ?_)
          · have hc92 : ¬ (3 : Int32) < (4 : Int32) := own_le1 hc
            exact absurd (by decide) hc92
          · have hc92 : (3 : Int32) < (4 : Int32) := own_le0 hc
            clear hc
            show own_R p e below s _ _ _ T84 (mkF m 95 #[.val (.int p0), .val (.int p1), .val (.int p2), .val (.int p3), .val (.int p4), .val (.int (4 : Int32)), .val (.ref b27), .val (.ref b78), .unset, .unset, .unset] [])
            refine own_aload X84 hx (hb hby at_95) rfl rfl ?_
            refine own_iconst X84 hx (3 : Int32) (hb hby at_97) rfl ?_
            refine own_aload X84 hx (hb hby at_98) rfl rfl ?_
            refine own_iconst X84 hx (3 : Int32) (hb hby at_100) rfl ?_
            have f85 := (f83.other W84 ne_b27_b78)
            refine own_baload X84 hx hZ e84 f85 (v := .int x3) ⟨by decide, by decide⟩ rfl (hb hby at_101) ?_
            show own_R p e below s _ _ _ T84 (mkF m 102 #[.val (.int p0), .val (.int p1), .val (.int p2), .val (.int p3), .val (.int p4), .val (.int (4 : Int32)), .val (.ref b27), .val (.ref b78), .unset, .unset, .unset] [(.int x3), (.int (3 : Int32)), (.ref b78)])
            refine own_bastore X84 hx hZ e84 V_b78_84 (x' := x3) (pl_nn hx3) ⟨by decide, by decide⟩ 3 rfl (Nat.le_of_ble_eq_true rfl) (hb hby at_102) ?_
            intro T86 h86 X86 e86 W86 V86
            have K86 := K84.wr W86 (Or.inr sz_b78)
            have N86 := Fr.snoc X86 N84 n0_b78
            have V_b78_86 : Arv Z h86 b78 k78 .byte (4 : Int32) [(.int x0), (.int x1), (.int x2), (.int x3)] (.int (0 : Int32)) := V86
            show own_R p e below s _ _ _ T86 (mkF m 103 #[.val (.int p0), .val (.int p1), .val (.int p2), .val (.int p3), .val (.int p4), .val (.int (4 : Int32)), .val (.ref b27), .val (.ref b78), .unset, .unset, .unset] [])
            refine own_aload X86 hx (hb hby at_103) rfl rfl ?_
            have f87 := (Exa.wr W86 (Exa.wr W84 (Exa.wr W82 (Exa.wr W80 A78))))
            refine own_callS X86 hx hZ (y := (⟨"com/example/fach/fach/io/KeyBytes", "afterAllWith", "([B)[B"⟩ : MethodName)) hown (hw _ (List.mem_of_getElem? (i := 6) rfl)) (hw _ (List.mem_of_getElem? (i := 7) rfl)) (hw _ (List.mem_of_getElem? (i := 8) rfl)) (hw _ (List.mem_of_getElem? (i := 9) rfl)) (by decide) (rm2_4 l Z a0 hw [] b78 k78 x0 x1 x2 x3 h86 n0 (Nat.le_trans Z0 K86.1) V_b78_86 f87) 0 (by decide) (by decide) e86 (by rw [hml]; rfl) [(.ref b78)] [] rfl (lenOf pd_3 rfl) rfl (Nat.le_of_eq rfl) (hb hby at_105) (by decide) (by decide) ?_
            rintro T88 _ L88 X88 ⟨r88, rfl, N88q, Kc88, hr88⟩
            have N88 := Fr.app N86 N88q
            have K88 := K86.trans Kc88 all0
            rcases hr88 with ⟨y3, br, kr, rfl, Vr⟩ | ⟨y3, y2, br, kr, rfl, Vr⟩ | ⟨y3, y2, y1, br, kr, rfl, Vr⟩ | ⟨y3, y2, y1, y0, br, kr, rfl, Vr⟩ | ⟨y3, y2, y1, y0, rfl⟩
            ·
              show own_R p e below s _ _ _ T88 (mkF m 108 #[.val (.int p0), .val (.int p1), .val (.int p2), .val (.int p3), .val (.int p4), .val (.int (4 : Int32)), .val (.ref b27), .val (.ref b78), .unset, .unset, .unset] [(.ref br)])
              refine own_astore X88 hx (hb hby at_108) rfl (l' := #[.val (.int p0), .val (.int p1), .val (.int p2), .val (.int p3), .val (.int p4), .val (.int (4 : Int32)), .val (.ref b27), .val (.ref b78), .val (.ref br), .unset, .unset]) rfl ?_
              refine own_aload X88 hx (hb hby at_110) rfl rfl ?_
              have f89 := (V_b78_86.keep Kc88 nin0)
              refine own_len X88 hx hZ rfl f89 (hb hby at_112) ?_
              show own_R p e below s _ _ _ T88 (mkF m 113 #[.val (.int p0), .val (.int p1), .val (.int p2), .val (.int p3), .val (.int p4), .val (.int (4 : Int32)), .val (.ref b27), .val (.ref b78), .val (.ref br), .unset, .unset] [(.int (4 : Int32))])
              refine own_iload X88 hx (hb hby at_113) rfl ?_
              refine own_icmp X88 hx (hb hby at_115) (pc' := 122) (by decide) (by decide) (fun hc => ?_) (fun hc => ?_)
              · have hc115 : ¬ (4 : Int32) = (4 : Int32) := own_ne1 hc
                exact absurd (by decide) hc115
              · have hc115 : (4 : Int32) = (4 : Int32) := own_ne0 hc
                clear hc
                show own_R p e below s _ _ _ T88 (mkF m 118 #[.val (.int p0), .val (.int p1), .val (.int p2), .val (.int p3), .val (.int p4), .val (.int (4 : Int32)), .val (.ref b27), .val (.ref b78), .val (.ref br), .unset, .unset] [])
                refine own_iconst X88 hx (1 : Int32) (hb hby at_118) rfl ?_
                refine own_goto X88 hx (hb hby at_119) (pc' := 123) (by decide) (by decide) ?_
                show own_R p e below s _ _ _ T88 (mkF m 123 #[.val (.int p0), .val (.int p1), .val (.int p2), .val (.int p3), .val (.int p4), .val (.int (4 : Int32)), .val (.ref b27), .val (.ref b78), .val (.ref br), .unset, .unset] [(.int (1 : Int32))])
                refine own_istore X88 hx (hb hby at_123) (l' := #[.val (.int p0), .val (.int p1), .val (.int p2), .val (.int p3), .val (.int p4), .val (.int (4 : Int32)), .val (.ref b27), .val (.ref b78), .val (.ref br), .val (.int (1 : Int32)), .unset]) rfl ?_
                refine own_iload X88 hx (hb hby at_125) rfl ?_
                refine own_if X88 hx (hb hby at_127) (pc' := 153) (by decide) (by decide) (fun hc => ?_) (fun hc => ?_)
                · have hc127 : ¬ (0 : Int32) < (4 : Int32) := own_le1 hc
                  exact absurd (by decide) hc127
                · have hc127 : (0 : Int32) < (4 : Int32) := own_le0 hc
                  clear hc
                  show own_R p e below s _ _ _ T88 (mkF m 130 #[.val (.int p0), .val (.int p1), .val (.int p2), .val (.int p3), .val (.int p4), .val (.int (4 : Int32)), .val (.ref b27), .val (.ref b78), .val (.ref br), .val (.int (1 : Int32)), .unset] [])
                  refine own_iload X88 hx (hb hby at_130) rfl ?_
                  refine own_if X88 hx (hb hby at_132) (pc' := 150) (by decide) (by decide) (fun hc => ?_) (fun hc => ?_)
                  · have hc132 : (1 : Int32) = (0 : Int32) := own_eq1 hc
                    exact absurd hc132 (by decide)
                  · have hc132 : ¬ (1 : Int32) = (0 : Int32) := own_eq0 hc
                    clear hc
                    show own_R p e below s _ _ _ T88 (mkF m 135 #[.val (.int p0), .val (.int p1), .val (.int p2), .val (.int p3), .val (.int p4), .val (.int (4 : Int32)), .val (.ref b27), .val (.ref b78), .val (.ref br), .val (.int (1 : Int32)), .unset] [])
                    refine own_aload X88 hx (hb hby at_135) rfl rfl ?_
                    refine own_iconst X88 hx (0 : Int32) (hb hby at_137) rfl ?_
                    refine own_baload X88 hx hZ rfl f89 (v := .int x0) ⟨by decide, by decide⟩ rfl (hb hby at_138) ?_
                    show own_R p e below s _ _ _ T88 (mkF m 139 #[.val (.int p0), .val (.int p1), .val (.int p2), .val (.int p3), .val (.int p4), .val (.int (4 : Int32)), .val (.ref b27), .val (.ref b78), .val (.ref br), .val (.int (1 : Int32)), .unset] [(.int x0)])
                    refine own_aload X88 hx (hb hby at_139) rfl rfl ?_
                    refine own_iconst X88 hx (0 : Int32) (hb hby at_141) rfl ?_
                    have f90 := ((f85.other W86 ne_b27_b78).keep Kc88 nin0)
                    refine own_baload X88 hx hZ rfl f90 (v := .int x0) ⟨by decide, by decide⟩ rfl (hb hby at_142) ?_
                    show own_R p e below s _ _ _ T88 (mkF m 143 #[.val (.int p0), .val (.int p1), .val (.int p2), .val (.int p3), .val (.int p4), .val (.int (4 : Int32)), .val (.ref b27), .val (.ref b78), .val (.ref br), .val (.int (1 : Int32)), .unset] [(.int x0), (.int x0)])
                    refine own_icmp X88 hx (hb hby at_143) (pc' := 150) (by decide) (by decide) (fun hc => ?_) (fun hc => ?_)
                    · have hc143 : ¬ x0 = x0 := own_ne1 hc
                      exact absurd rfl hc143
                    · have hc143 : x0 = x0 := own_ne0 hc
                      clear hc
                      show own_R p e below s _ _ _ T88 (mkF m 146 #[.val (.int p0), .val (.int p1), .val (.int p2), .val (.int p3), .val (.int p4), .val (.int (4 : Int32)), .val (.ref b27), .val (.ref b78), .val (.ref br), .val (.int (1 : Int32)), .unset] [])
                      refine own_iconst X88 hx (1 : Int32) (hb hby at_146) rfl ?_
                      refine own_goto X88 hx (hb hby at_147) (pc' := 151) (by decide) (by decide) ?_
                      show own_R p e below s _ _ _ T88 (mkF m 151 #[.val (.int p0), .val (.int p1), .val (.int p2), .val (.int p3), .val (.int p4), .val (.int (4 : Int32)), .val (.ref b27), .val (.ref b78), .val (.ref br), .val (.int (1 : Int32)), .unset] [(.int (1 : Int32))])
                      refine own_istore X88 hx (hb hby at_151) (l' := #[.val (.int p0), .val (.int p1), .val (.int p2), .val (.int p3), .val (.int p4), .val (.int (4 : Int32)), .val (.ref b27), .val (.ref b78), .val (.ref br), .val (.int (1 : Int32)), .unset]) rfl ?_
                      refine own_iload X88 hx (hb hby at_153) rfl ?_
                      refine own_iconst X88 hx (1 : Int32) (hb hby at_155) rfl ?_
                      refine own_icmp X88 hx (hb hby at_156) (pc' := 182) (by decide) (by decide) (fun hc => ?_) (fun hc => ?_)
                      · have hc156 : ¬ (1 : Int32) < (4 : Int32) := own_le1 hc
                        exact absurd (by decide) hc156
                      · have hc156 : (1 : Int32) < (4 : Int32) := own_le0 hc
                        clear hc
                        show own_R p e below s _ _ _ T88 (mkF m 159 #[.val (.int p0), .val (.int p1), .val (.int p2), .val (.int p3), .val (.int p4), .val (.int (4 : Int32)), .val (.ref b27), .val (.ref b78), .val (.ref br), .val (.int (1 : Int32)), .unset] [])
                        refine own_iload X88 hx (hb hby at_159) rfl ?_
                        refine own_if X88 hx (hb hby at_161) (pc' := 179) (by decide) (by decide) (fun hc => ?_) (fun hc => ?_)
                        · have hc161 : (1 : Int32) = (0 : Int32) := own_eq1 hc
                          exact absurd hc161 (by decide)
                        · have hc161 : ¬ (1 : Int32) = (0 : Int32) := own_eq0 hc
                          clear hc
                          show own_R p e below s _ _ _ T88 (mkF m 164 #[.val (.int p0), .val (.int p1), .val (.int p2), .val (.int p3), .val (.int p4), .val (.int (4 : Int32)), .val (.ref b27), .val (.ref b78), .val (.ref br), .val (.int (1 : Int32)), .unset] [])
                          refine own_aload X88 hx (hb hby at_164) rfl rfl ?_
                          refine own_iconst X88 hx (1 : Int32) (hb hby at_166) rfl ?_
                          refine own_baload X88 hx hZ rfl f89 (v := .int x1) ⟨by decide, by decide⟩ rfl (hb hby at_167) ?_
                          show own_R p e below s _ _ _ T88 (mkF m 168 #[.val (.int p0), .val (.int p1), .val (.int p2), .val (.int p3), .val (.int p4), .val (.int (4 : Int32)), .val (.ref b27), .val (.ref b78), .val (.ref br), .val (.int (1 : Int32)), .unset] [(.int x1)])
                          refine own_aload X88 hx (hb hby at_168) rfl rfl ?_
                          refine own_iconst X88 hx (1 : Int32) (hb hby at_170) rfl ?_
                          refine own_baload X88 hx hZ rfl f90 (v := .int x1) ⟨by decide, by decide⟩ rfl (hb hby at_171) ?_
                          show own_R p e below s _ _ _ T88 (mkF m 172 #[.val (.int p0), .val (.int p1), .val (.int p2), .val (.int p3), .val (.int p4), .val (.int (4 : Int32)), .val (.ref b27), .val (.ref b78), .val (.ref br), .val (.int (1 : Int32)), .unset] [(.int x1), (.int x1)])
                          refine own_icmp X88 hx (hb hby at_172) (pc' := 179) (by decide) (by decide) (fun hc => ?_) (fun hc => ?_)
                          · have hc172 : ¬ x1 = x1 := own_ne1 hc
                            exact absurd rfl hc172
                          · have hc172 : x1 = x1 := own_ne0 hc
                            clear hc
                            show own_R p e below s _ _ _ T88 (mkF m 175 #[.val (.int p0), .val (.int p1), .val (.int p2), .val (.int p3), .val (.int p4), .val (.int (4 : Int32)), .val (.ref b27), .val (.ref b78), .val (.ref br), .val (.int (1 : Int32)), .unset] [])
                            refine own_iconst X88 hx (1 : Int32) (hb hby at_175) rfl ?_
                            refine own_goto X88 hx (hb hby at_176) (pc' := 180) (by decide) (by decide) ?_
                            show own_R p e below s _ _ _ T88 (mkF m 180 #[.val (.int p0), .val (.int p1), .val (.int p2), .val (.int p3), .val (.int p4), .val (.int (4 : Int32)), .val (.ref b27), .val (.ref b78), .val (.ref br), .val (.int (1 : Int32)), .unset] [(.int (1 : Int32))])
                            refine own_istore X88 hx (hb hby at_180) (l' := #[.val (.int p0), .val (.int p1), .val (.int p2), .val (.int p3), .val (.int p4), .val (.int (4 : Int32)), .val (.ref b27), .val (.ref b78), .val (.ref br), .val (.int (1 : Int32)), .unset]) rfl ?_
                            refine own_iload X88 hx (hb hby at_182) rfl ?_
                            refine own_iconst X88 hx (2 : Int32) (hb hby at_184) rfl ?_
                            refine own_icmp X88 hx (hb hby at_185) (pc' := 211) (by decide) (by decide) (fun hc => ?_) (fun hc => ?_)
                            · have hc185 : ¬ (2 : Int32) < (4 : Int32) := own_le1 hc
                              exact absurd (by decide) hc185
                            · have hc185 : (2 : Int32) < (4 : Int32) := own_le0 hc
                              clear hc
                              show own_R p e below s _ _ _ T88 (mkF m 188 #[.val (.int p0), .val (.int p1), .val (.int p2), .val (.int p3), .val (.int p4), .val (.int (4 : Int32)), .val (.ref b27), .val (.ref b78), .val (.ref br), .val (.int (1 : Int32)), .unset] [])
                              refine own_iload X88 hx (hb hby at_188) rfl ?_
                              refine own_if X88 hx (hb hby at_190) (pc' := 208) (by decide) (by decide) (fun hc => ?_) (fun hc => ?_)
                              · have hc190 : (1 : Int32) = (0 : Int32) := own_eq1 hc
                                exact absurd hc190 (by decide)
                              · have hc190 : ¬ (1 : Int32) = (0 : Int32) := own_eq0 hc
                                clear hc
                                show own_R p e below s _ _ _ T88 (mkF m 193 #[.val (.int p0), .val (.int p1), .val (.int p2), .val (.int p3), .val (.int p4), .val (.int (4 : Int32)), .val (.ref b27), .val (.ref b78), .val (.ref br), .val (.int (1 : Int32)), .unset] [])
                                refine own_aload X88 hx (hb hby at_193) rfl rfl ?_
                                refine own_iconst X88 hx (2 : Int32) (hb hby at_195) rfl ?_
                                refine own_baload X88 hx hZ rfl f89 (v := .int x2) ⟨by decide, by decide⟩ rfl (hb hby at_196) ?_
                                show own_R p e below s _ _ _ T88 (mkF m 197 #[.val (.int p0), .val (.int p1), .val (.int p2), .val (.int p3), .val (.int p4), .val (.int (4 : Int32)), .val (.ref b27), .val (.ref b78), .val (.ref br), .val (.int (1 : Int32)), .unset] [(.int x2)])
                                refine own_aload X88 hx (hb hby at_197) rfl rfl ?_
                                refine own_iconst X88 hx (2 : Int32) (hb hby at_199) rfl ?_
                                refine own_baload X88 hx hZ rfl f90 (v := .int x2) ⟨by decide, by decide⟩ rfl (hb hby at_200) ?_
                                show own_R p e below s _ _ _ T88 (mkF m 201 #[.val (.int p0), .val (.int p1), .val (.int p2), .val (.int p3), .val (.int p4), .val (.int (4 : Int32)), .val (.ref b27), .val (.ref b78), .val (.ref br), .val (.int (1 : Int32)), .unset] [(.int x2), (.int x2)])
                                refine own_icmp X88 hx (hb hby at_201) (pc' := 208) (by decide) (by decide) (fun hc => ?_) (fun hc => ?_)
                                · have hc201 : ¬ x2 = x2 := own_ne1 hc
                                  exact absurd rfl hc201
                                · have hc201 : x2 = x2 := own_ne0 hc
                                  clear hc
                                  show own_R p e below s _ _ _ T88 (mkF m 204 #[.val (.int p0), .val (.int p1), .val (.int p2), .val (.int p3), .val (.int p4), .val (.int (4 : Int32)), .val (.ref b27), .val (.ref b78), .val (.ref br), .val (.int (1 : Int32)), .unset] [])
                                  refine own_iconst X88 hx (1 : Int32) (hb hby at_204) rfl ?_
                                  refine own_goto X88 hx (hb hby at_205) (pc' := 209) (by decide) (by decide) ?_
                                  show own_R p e below s _ _ _ T88 (mkF m 209 #[.val (.int p0), .val (.int p1), .val (.int p2), .val (.int p3), .val (.int p4), .val (.int (4 : Int32)), .val (.ref b27), .val (.ref b78), .val (.ref br), .val (.int (1 : Int32)), .unset] [(.int (1 : Int32))])
                                  refine own_istore X88 hx (hb hby at_209) (l' := #[.val (.int p0), .val (.int p1), .val (.int p2), .val (.int p3), .val (.int p4), .val (.int (4 : Int32)), .val (.ref b27), .val (.ref b78), .val (.ref br), .val (.int (1 : Int32)), .unset]) rfl ?_
                                  refine own_iload X88 hx (hb hby at_211) rfl ?_
                                  refine own_iconst X88 hx (3 : Int32) (hb hby at_213) rfl ?_
                                  refine own_icmp X88 hx (hb hby at_214) (pc' := 240) (by decide) (by decide) (fun hc => ?_) (fun hc => ?_)
                                  · have hc214 : ¬ (3 : Int32) < (4 : Int32) := own_le1 hc
                                    exact absurd (by decide) hc214
                                  · have hc214 : (3 : Int32) < (4 : Int32) := own_le0 hc
                                    clear hc
                                    show own_R p e below s _ _ _ T88 (mkF m 217 #[.val (.int p0), .val (.int p1), .val (.int p2), .val (.int p3), .val (.int p4), .val (.int (4 : Int32)), .val (.ref b27), .val (.ref b78), .val (.ref br), .val (.int (1 : Int32)), .unset] [])
                                    refine own_iload X88 hx (hb hby at_217) rfl ?_
                                    refine own_if X88 hx (hb hby at_219) (pc' := 237) (by decide) (by decide) (fun hc => ?_) (fun hc => ?_)
                                    · have hc219 : (1 : Int32) = (0 : Int32) := own_eq1 hc
                                      exact absurd hc219 (by decide)
                                    · have hc219 : ¬ (1 : Int32) = (0 : Int32) := own_eq0 hc
                                      clear hc
                                      show own_R p e below s _ _ _ T88 (mkF m 222 #[.val (.int p0), .val (.int p1), .val (.int p2), .val (.int p3), .val (.int p4), .val (.int (4 : Int32)), .val (.ref b27), .val (.ref b78), .val (.ref br), .val (.int (1 : Int32)), .unset] [])
                                      refine own_aload X88 hx (hb hby at_222) rfl rfl ?_
                                      refine own_iconst X88 hx (3 : Int32) (hb hby at_224) rfl ?_
                                      refine own_baload X88 hx hZ rfl f89 (v := .int x3) ⟨by decide, by decide⟩ rfl (hb hby at_225) ?_
                                      show own_R p e below s _ _ _ T88 (mkF m 226 #[.val (.int p0), .val (.int p1), .val (.int p2), .val (.int p3), .val (.int p4), .val (.int (4 : Int32)), .val (.ref b27), .val (.ref b78), .val (.ref br), .val (.int (1 : Int32)), .unset] [(.int x3)])
                                      refine own_aload X88 hx (hb hby at_226) rfl rfl ?_
                                      refine own_iconst X88 hx (3 : Int32) (hb hby at_228) rfl ?_
                                      refine own_baload X88 hx hZ rfl f90 (v := .int x3) ⟨by decide, by decide⟩ rfl (hb hby at_229) ?_
                                      show own_R p e below s _ _ _ T88 (mkF m 230 #[.val (.int p0), .val (.int p1), .val (.int p2), .val (.int p3), .val (.int p4), .val (.int (4 : Int32)), .val (.ref b27), .val (.ref b78), .val (.ref br), .val (.int (1 : Int32)), .unset] [(.int x3), (.int x3)])
                                      refine own_icmp X88 hx (hb hby at_230) (pc' := 237) (by decide) (by decide) (fun hc => ?_) (fun hc => ?_)
                                      · have hc230 : ¬ x3 = x3 := own_ne1 hc
                                        exact absurd rfl hc230
                                      · have hc230 : x3 = x3 := own_ne0 hc
                                        clear hc
                                        show own_R p e below s _ _ _ T88 (mkF m 233 #[.val (.int p0), .val (.int p1), .val (.int p2), .val (.int p3), .val (.int p4), .val (.int (4 : Int32)), .val (.ref b27), .val (.ref b78), .val (.ref br), .val (.int (1 : Int32)), .unset] [])
                                        refine own_iconst X88 hx (1 : Int32) (hb hby at_233) rfl ?_
                                        refine own_goto X88 hx (hb hby at_234) (pc' := 238) (by decide) (by decide) ?_
                                        show own_R p e below s _ _ _ T88 (mkF m 238 #[.val (.int p0), .val (.int p1), .val (.int p2), .val (.int p3), .val (.int p4), .val (.int (4 : Int32)), .val (.ref b27), .val (.ref b78), .val (.ref br), .val (.int (1 : Int32)), .unset] [(.int (1 : Int32))])
                                        refine own_istore X88 hx (hb hby at_238) (l' := #[.val (.int p0), .val (.int p1), .val (.int p2), .val (.int p3), .val (.int p4), .val (.int (4 : Int32)), .val (.ref b27), .val (.ref b78), .val (.ref br), .val (.int (1 : Int32)), .unset]) rfl ?_
                                        refine own_iconst X88 hx (0 : Int32) (hb hby at_240) rfl ?_
                                        refine own_istore X88 hx (hb hby at_241) (l' := #[.val (.int p0), .val (.int p1), .val (.int p2), .val (.int p3), .val (.int p4), .val (.int (4 : Int32)), .val (.ref b27), .val (.ref b78), .val (.ref br), .val (.int (1 : Int32)), .val (.int (0 : Int32))]) rfl ?_
                                        refine own_iload X88 hx (hb hby at_243) rfl ?_
                                        have Jk0 : ∀ (kk : Int32), own_R p e below s (Q0 Z p0 p1 p2 p3 p4 h0 n0) room_1.cells room_1.slots T88 (mkF m 259 #[.val (.int p0), .val (.int p1), .val (.int p2), .val (.int p3), .val (.int p4), .val (.int (4 : Int32)), .val (.ref b27), .val (.ref b78), .val (.ref br), .val (.int (1 : Int32)), .val (.int kk)] []) := by
                                          intro kk
                                          refine own_iload X88 hx (hb hby at_259) rfl ?_
                                          refine own_iconst X88 hx (1 : Int32) (hb hby at_261) rfl ?_
                                          have Jk1 : ∀ (kk : Int32), own_R p e below s (Q0 Z p0 p1 p2 p3 p4 h0 n0) room_1.cells room_1.slots T88 (mkF m 276 #[.val (.int p0), .val (.int p1), .val (.int p2), .val (.int p3), .val (.int p4), .val (.int (4 : Int32)), .val (.ref b27), .val (.ref b78), .val (.ref br), .val (.int (1 : Int32)), .val (.int kk)] []) := by
                                            intro kk
                                            refine own_iload X88 hx (hb hby at_276) rfl ?_
                                            refine own_iconst X88 hx (2 : Int32) (hb hby at_278) rfl ?_
                                            have Jk2 : ∀ (kk : Int32), own_R p e below s (Q0 Z p0 p1 p2 p3 p4 h0 n0) room_1.cells room_1.slots T88 (mkF m 293 #[.val (.int p0), .val (.int p1), .val (.int p2), .val (.int p3), .val (.int p4), .val (.int (4 : Int32)), .val (.ref b27), .val (.ref b78), .val (.ref br), .val (.int (1 : Int32)), .val (.int kk)] []) := by
                                              intro kk
                                              refine own_iload X88 hx (hb hby at_293) rfl ?_
                                              refine own_iconst X88 hx (3 : Int32) (hb hby at_295) rfl ?_
                                              refine own_icmp X88 hx (hb hby at_296) (pc' := 310) (by decide) (by decide) (fun hc => ?_) (fun hc => ?_)
                                              · have hc296 : ¬ (3 : Int32) < (4 : Int32) := own_le1 hc
                                                exact absurd (by decide) hc296
                                              · have hc296 : (3 : Int32) < (4 : Int32) := own_le0 hc
                                                clear hc
                                                show own_R p e below s _ _ _ T88 (mkF m 299 #[.val (.int p0), .val (.int p1), .val (.int p2), .val (.int p3), .val (.int p4), .val (.int (4 : Int32)), .val (.ref b27), .val (.ref b78), .val (.ref br), .val (.int (1 : Int32)), .val (.int kk)] [])
                                                refine own_aload X88 hx (hb hby at_299) rfl rfl ?_
                                                refine own_iconst X88 hx (3 : Int32) (hb hby at_301) rfl ?_
                                                refine own_baload X88 hx hZ rfl f90 (v := .int x3) ⟨by decide, by decide⟩ rfl (hb hby at_302) ?_
                                                show own_R p e below s _ _ _ T88 (mkF m 303 #[.val (.int p0), .val (.int p1), .val (.int p2), .val (.int p3), .val (.int p4), .val (.int (4 : Int32)), .val (.ref b27), .val (.ref b78), .val (.ref br), .val (.int (1 : Int32)), .val (.int kk)] [(.int x3)])
                                                refine own_iconst X88 hx (-1 : Int32) (hb hby at_303) rfl ?_
                                                refine own_icmp X88 hx (hb hby at_304) (pc' := 310) (by decide) (by decide) (fun hc => ?_) (fun hc => ?_)
                                                · have hc304 : x3 = (-1 : Int32) := own_eq1 hc
                                                  exact absurd hc304 y3
                                                · have hc304 : ¬ x3 = (-1 : Int32) := own_eq0 hc
                                                  clear hc
                                                  show own_R p e below s _ _ _ T88 (mkF m 307 #[.val (.int p0), .val (.int p1), .val (.int p2), .val (.int p3), .val (.int p4), .val (.int (4 : Int32)), .val (.ref b27), .val (.ref b78), .val (.ref br), .val (.int (1 : Int32)), .val (.int kk)] [])
                                                  refine own_iconst X88 hx (4 : Int32) (hb hby at_307) rfl ?_
                                                  refine own_istore X88 hx (hb hby at_308) (l' := #[.val (.int p0), .val (.int p1), .val (.int p2), .val (.int p3), .val (.int p4), .val (.int (4 : Int32)), .val (.ref b27), .val (.ref b78), .val (.ref br), .val (.int (1 : Int32)), .val (.int (4 : Int32))]) rfl ?_
                                                  refine own_iload X88 hx (hb hby at_310) rfl ?_
                                                  refine own_if X88 hx (hb hby at_312) (pc' := 331) (by decide) (by decide) (fun hc => ?_) (fun hc => ?_)
                                                  · have hc312 : ¬ (4 : Int32) = (0 : Int32) := own_ne1 hc
                                                    clear hc
                                                    show own_R p e below s _ _ _ T88 (mkF m 331 #[.val (.int p0), .val (.int p1), .val (.int p2), .val (.int p3), .val (.int p4), .val (.int (4 : Int32)), .val (.ref b27), .val (.ref b78), .val (.ref br), .val (.int (1 : Int32)), .val (.int (4 : Int32))] [])
                                                    refine own_aload X88 hx (hb hby at_331) rfl rfl ?_
                                                    refine own_ifnullN X88 hx (hb hby at_333) ?_
                                                    show own_R p e below s _ _ _ T88 (mkF m 336 #[.val (.int p0), .val (.int p1), .val (.int p2), .val (.int p3), .val (.int p4), .val (.int (4 : Int32)), .val (.ref b27), .val (.ref b78), .val (.ref br), .val (.int (1 : Int32)), .val (.int (4 : Int32))] [])
                                                    refine own_aload X88 hx (hb hby at_336) rfl rfl ?_
                                                    refine own_len X88 hx hZ rfl Vr (hb hby at_338) ?_
                                                    show own_R p e below s _ _ _ T88 (mkF m 339 #[.val (.int p0), .val (.int p1), .val (.int p2), .val (.int p3), .val (.int p4), .val (.int (4 : Int32)), .val (.ref b27), .val (.ref b78), .val (.ref br), .val (.int (1 : Int32)), .val (.int (4 : Int32))] [(.int (4 : Int32))])
                                                    refine own_iload X88 hx (hb hby at_339) rfl ?_
                                                    refine own_icmp X88 hx (hb hby at_341) (pc' := 346) (by decide) (by decide) (fun hc => ?_) (fun hc => ?_)
                                                    · have hc341 : (4 : Int32) = (4 : Int32) := own_eq1 hc
                                                      clear hc
                                                      show own_R p e below s _ _ _ T88 (mkF m 346 #[.val (.int p0), .val (.int p1), .val (.int p2), .val (.int p3), .val (.int p4), .val (.int (4 : Int32)), .val (.ref b27), .val (.ref b78), .val (.ref br), .val (.int (1 : Int32)), .val (.int (4 : Int32))] [])
                                                      refine own_iload X88 hx (hb hby at_346) rfl ?_
                                                      refine own_iconst X88 hx (1 : Int32) (hb hby at_348) rfl ?_
                                                      refine own_icmp X88 hx (hb hby at_349) (pc' := 375) (by decide) (by decide) (fun hc => ?_) (fun hc => ?_)
                                                      · have hc349 : ¬ (1 : Int32) < (4 : Int32) := own_le1 hc
                                                        exact absurd (by decide) hc349
                                                      · have hc349 : (1 : Int32) < (4 : Int32) := own_le0 hc
                                                        clear hc
                                                        show own_R p e below s _ _ _ T88 (mkF m 352 #[.val (.int p0), .val (.int p1), .val (.int p2), .val (.int p3), .val (.int p4), .val (.int (4 : Int32)), .val (.ref b27), .val (.ref b78), .val (.ref br), .val (.int (1 : Int32)), .val (.int (4 : Int32))] [])
                                                        refine own_iload X88 hx (hb hby at_352) rfl ?_
                                                        refine own_if X88 hx (hb hby at_354) (pc' := 372) (by decide) (by decide) (fun hc => ?_) (fun hc => ?_)
                                                        · have hc354 : (1 : Int32) = (0 : Int32) := own_eq1 hc
                                                          exact absurd hc354 (by decide)
                                                        · have hc354 : ¬ (1 : Int32) = (0 : Int32) := own_eq0 hc
                                                          clear hc
                                                          show own_R p e below s _ _ _ T88 (mkF m 357 #[.val (.int p0), .val (.int p1), .val (.int p2), .val (.int p3), .val (.int p4), .val (.int (4 : Int32)), .val (.ref b27), .val (.ref b78), .val (.ref br), .val (.int (1 : Int32)), .val (.int (4 : Int32))] [])
                                                          refine own_aload X88 hx (hb hby at_357) rfl rfl ?_
                                                          refine own_iconst X88 hx (0 : Int32) (hb hby at_359) rfl ?_
                                                          refine own_baload X88 hx hZ rfl Vr (v := .int x0) ⟨by decide, by decide⟩ rfl (hb hby at_360) ?_
                                                          show own_R p e below s _ _ _ T88 (mkF m 361 #[.val (.int p0), .val (.int p1), .val (.int p2), .val (.int p3), .val (.int p4), .val (.int (4 : Int32)), .val (.ref b27), .val (.ref b78), .val (.ref br), .val (.int (1 : Int32)), .val (.int (4 : Int32))] [(.int x0)])
                                                          refine own_aload X88 hx (hb hby at_361) rfl rfl ?_
                                                          refine own_iconst X88 hx (0 : Int32) (hb hby at_363) rfl ?_
                                                          refine own_baload X88 hx hZ rfl f90 (v := .int x0) ⟨by decide, by decide⟩ rfl (hb hby at_364) ?_
                                                          show own_R p e below s _ _ _ T88 (mkF m 365 #[.val (.int p0), .val (.int p1), .val (.int p2), .val (.int p3), .val (.int p4), .val (.int (4 : Int32)), .val (.ref b27), .val (.ref b78), .val (.ref br), .val (.int (1 : Int32)), .val (.int (4 : Int32))] [(.int x0), (.int x0)])
                                                          refine own_icmp X88 hx (hb hby at_365) (pc' := 372) (by decide) (by decide) (fun hc => ?_) (fun hc => ?_)
                                                          · have hc365 : ¬ x0 = x0 := own_ne1 hc
                                                            exact absurd rfl hc365
                                                          · have hc365 : x0 = x0 := own_ne0 hc
                                                            clear hc
                                                            show own_R p e below s _ _ _ T88 (mkF m 368 #[.val (.int p0), .val (.int p1), .val (.int p2), .val (.int p3), .val (.int p4), .val (.int (4 : Int32)), .val (.ref b27), .val (.ref b78), .val (.ref br), .val (.int (1 : Int32)), .val (.int (4 : Int32))] [])
                                                            refine own_iconst X88 hx (1 : Int32) (hb hby at_368) rfl ?_
                                                            refine own_goto X88 hx (hb hby at_369) (pc' := 373) (by decide) (by decide) ?_
                                                            show own_R p e below s _ _ _ T88 (mkF m 373 #[.val (.int p0), .val (.int p1), .val (.int p2), .val (.int p3), .val (.int p4), .val (.int (4 : Int32)), .val (.ref b27), .val (.ref b78), .val (.ref br), .val (.int (1 : Int32)), .val (.int (4 : Int32))] [(.int (1 : Int32))])
                                                            refine own_istore X88 hx (hb hby at_373) (l' := #[.val (.int p0), .val (.int p1), .val (.int p2), .val (.int p3), .val (.int p4), .val (.int (4 : Int32)), .val (.ref b27), .val (.ref b78), .val (.ref br), .val (.int (1 : Int32)), .val (.int (4 : Int32))]) rfl ?_
                                                            refine own_iload X88 hx (hb hby at_375) rfl ?_
                                                            refine own_iconst X88 hx (2 : Int32) (hb hby at_377) rfl ?_
                                                            refine own_icmp X88 hx (hb hby at_378) (pc' := 404) (by decide) (by decide) (fun hc => ?_) (fun hc => ?_)
                                                            · have hc378 : ¬ (2 : Int32) < (4 : Int32) := own_le1 hc
                                                              exact absurd (by decide) hc378
                                                            · have hc378 : (2 : Int32) < (4 : Int32) := own_le0 hc
                                                              clear hc
                                                              show own_R p e below s _ _ _ T88 (mkF m 381 #[.val (.int p0), .val (.int p1), .val (.int p2), .val (.int p3), .val (.int p4), .val (.int (4 : Int32)), .val (.ref b27), .val (.ref b78), .val (.ref br), .val (.int (1 : Int32)), .val (.int (4 : Int32))] [])
                                                              refine own_iload X88 hx (hb hby at_381) rfl ?_
                                                              refine own_if X88 hx (hb hby at_383) (pc' := 401) (by decide) (by decide) (fun hc => ?_) (fun hc => ?_)
                                                              · have hc383 : (1 : Int32) = (0 : Int32) := own_eq1 hc
                                                                exact absurd hc383 (by decide)
                                                              · have hc383 : ¬ (1 : Int32) = (0 : Int32) := own_eq0 hc
                                                                clear hc
                                                                show own_R p e below s _ _ _ T88 (mkF m 386 #[.val (.int p0), .val (.int p1), .val (.int p2), .val (.int p3), .val (.int p4), .val (.int (4 : Int32)), .val (.ref b27), .val (.ref b78), .val (.ref br), .val (.int (1 : Int32)), .val (.int (4 : Int32))] [])
                                                                refine own_aload X88 hx (hb hby at_386) rfl rfl ?_
                                                                refine own_iconst X88 hx (1 : Int32) (hb hby at_388) rfl ?_
                                                                refine own_baload X88 hx hZ rfl Vr (v := .int x1) ⟨by decide, by decide⟩ rfl (hb hby at_389) ?_
                                                                show own_R p e below s _ _ _ T88 (mkF m 390 #[.val (.int p0), .val (.int p1), .val (.int p2), .val (.int p3), .val (.int p4), .val (.int (4 : Int32)), .val (.ref b27), .val (.ref b78), .val (.ref br), .val (.int (1 : Int32)), .val (.int (4 : Int32))] [(.int x1)])
                                                                refine own_aload X88 hx (hb hby at_390) rfl rfl ?_
                                                                refine own_iconst X88 hx (1 : Int32) (hb hby at_392) rfl ?_
                                                                refine own_baload X88 hx hZ rfl f90 (v := .int x1) ⟨by decide, by decide⟩ rfl (hb hby at_393) ?_
                                                                show own_R p e below s _ _ _ T88 (mkF m 394 #[.val (.int p0), .val (.int p1), .val (.int p2), .val (.int p3), .val (.int p4), .val (.int (4 : Int32)), .val (.ref b27), .val (.ref b78), .val (.ref br), .val (.int (1 : Int32)), .val (.int (4 : Int32))] [(.int x1), (.int x1)])
                                                                refine own_icmp X88 hx (hb hby at_394) (pc' := 401) (by decide) (by decide) (fun hc => ?_) (fun hc => ?_)
                                                                · have hc394 : ¬ x1 = x1 := own_ne1 hc
                                                                  exact absurd rfl hc394
                                                                · have hc394 : x1 = x1 := own_ne0 hc
                                                                  clear hc
                                                                  show own_R p e below s _ _ _ T88 (mkF m 397 #[.val (.int p0), .val (.int p1), .val (.int p2), .val (.int p3), .val (.int p4), .val (.int (4 : Int32)), .val (.ref b27), .val (.ref b78), .val (.ref br), .val (.int (1 : Int32)), .val (.int (4 : Int32))] [])
                                                                  refine own_iconst X88 hx (1 : Int32) (hb hby at_397) rfl ?_
                                                                  refine own_goto X88 hx (hb hby at_398) (pc' := 402) (by decide) (by decide) ?_
                                                                  show own_R p e below s _ _ _ T88 (mkF m 402 #[.val (.int p0), .val (.int p1), .val (.int p2), .val (.int p3), .val (.int p4), .val (.int (4 : Int32)), .val (.ref b27), .val (.ref b78), .val (.ref br), .val (.int (1 : Int32)), .val (.int (4 : Int32))] [(.int (1 : Int32))])
                                                                  refine own_istore X88 hx (hb hby at_402) (l' := #[.val (.int p0), .val (.int p1), .val (.int p2), .val (.int p3), .val (.int p4), .val (.int (4 : Int32)), .val (.ref b27), .val (.ref b78), .val (.ref br), .val (.int (1 : Int32)), .val (.int (4 : Int32))]) rfl ?_
                                                                  refine own_iload X88 hx (hb hby at_404) rfl ?_
                                                                  refine own_iconst X88 hx (3 : Int32) (hb hby at_406) rfl ?_
                                                                  refine own_icmp X88 hx (hb hby at_407) (pc' := 433) (by decide) (by decide) (fun hc => ?_) (fun hc => ?_)
                                                                  · have hc407 : ¬ (3 : Int32) < (4 : Int32) := own_le1 hc
                                                                    exact absurd (by decide) hc407
                                                                  · have hc407 : (3 : Int32) < (4 : Int32) := own_le0 hc
                                                                    clear hc
                                                                    show own_R p e below s _ _ _ T88 (mkF m 410 #[.val (.int p0), .val (.int p1), .val (.int p2), .val (.int p3), .val (.int p4), .val (.int (4 : Int32)), .val (.ref b27), .val (.ref b78), .val (.ref br), .val (.int (1 : Int32)), .val (.int (4 : Int32))] [])
                                                                    refine own_iload X88 hx (hb hby at_410) rfl ?_
                                                                    refine own_if X88 hx (hb hby at_412) (pc' := 430) (by decide) (by decide) (fun hc => ?_) (fun hc => ?_)
                                                                    · have hc412 : (1 : Int32) = (0 : Int32) := own_eq1 hc
                                                                      exact absurd hc412 (by decide)
                                                                    · have hc412 : ¬ (1 : Int32) = (0 : Int32) := own_eq0 hc
                                                                      clear hc
                                                                      show own_R p e below s _ _ _ T88 (mkF m 415 #[.val (.int p0), .val (.int p1), .val (.int p2), .val (.int p3), .val (.int p4), .val (.int (4 : Int32)), .val (.ref b27), .val (.ref b78), .val (.ref br), .val (.int (1 : Int32)), .val (.int (4 : Int32))] [])
                                                                      refine own_aload X88 hx (hb hby at_415) rfl rfl ?_
                                                                      refine own_iconst X88 hx (2 : Int32) (hb hby at_417) rfl ?_
                                                                      refine own_baload X88 hx hZ rfl Vr (v := .int x2) ⟨by decide, by decide⟩ rfl (hb hby at_418) ?_
                                                                      show own_R p e below s _ _ _ T88 (mkF m 419 #[.val (.int p0), .val (.int p1), .val (.int p2), .val (.int p3), .val (.int p4), .val (.int (4 : Int32)), .val (.ref b27), .val (.ref b78), .val (.ref br), .val (.int (1 : Int32)), .val (.int (4 : Int32))] [(.int x2)])
                                                                      refine own_aload X88 hx (hb hby at_419) rfl rfl ?_
                                                                      refine own_iconst X88 hx (2 : Int32) (hb hby at_421) rfl ?_
                                                                      refine own_baload X88 hx hZ rfl f90 (v := .int x2) ⟨by decide, by decide⟩ rfl (hb hby at_422) ?_
                                                                      show own_R p e below s _ _ _ T88 (mkF m 423 #[.val (.int p0), .val (.int p1), .val (.int p2), .val (.int p3), .val (.int p4), .val (.int (4 : Int32)), .val (.ref b27), .val (.ref b78), .val (.ref br), .val (.int (1 : Int32)), .val (.int (4 : Int32))] [(.int x2), (.int x2)])
                                                                      refine own_icmp X88 hx (hb hby at_423) (pc' := 430) (by decide) (by decide) (fun hc => ?_) (fun hc => ?_)
                                                                      · have hc423 : ¬ x2 = x2 := own_ne1 hc
                                                                        exact absurd rfl hc423
                                                                      · have hc423 : x2 = x2 := own_ne0 hc
                                                                        clear hc
                                                                        show own_R p e below s _ _ _ T88 (mkF m 426 #[.val (.int p0), .val (.int p1), .val (.int p2), .val (.int p3), .val (.int p4), .val (.int (4 : Int32)), .val (.ref b27), .val (.ref b78), .val (.ref br), .val (.int (1 : Int32)), .val (.int (4 : Int32))] [])
                                                                        refine own_iconst X88 hx (1 : Int32) (hb hby at_426) rfl ?_
                                                                        refine own_goto X88 hx (hb hby at_427) (pc' := 431) (by decide) (by decide) ?_
                                                                        show own_R p e below s _ _ _ T88 (mkF m 431 #[.val (.int p0), .val (.int p1), .val (.int p2), .val (.int p3), .val (.int p4), .val (.int (4 : Int32)), .val (.ref b27), .val (.ref b78), .val (.ref br), .val (.int (1 : Int32)), .val (.int (4 : Int32))] [(.int (1 : Int32))])
                                                                        refine own_istore X88 hx (hb hby at_431) (l' := #[.val (.int p0), .val (.int p1), .val (.int p2), .val (.int p3), .val (.int p4), .val (.int (4 : Int32)), .val (.ref b27), .val (.ref b78), .val (.ref br), .val (.int (1 : Int32)), .val (.int (4 : Int32))]) rfl ?_
                                                                        refine own_iload X88 hx (hb hby at_433) rfl ?_
                                                                        refine own_if X88 hx (hb hby at_435) (pc' := 462) (by decide) (by decide) (fun hc => ?_) (fun hc => ?_)
                                                                        · have hc435 : (1 : Int32) = (0 : Int32) := own_eq1 hc
                                                                          exact absurd hc435 (by decide)
                                                                        · have hc435 : ¬ (1 : Int32) = (0 : Int32) := own_eq0 hc
                                                                          clear hc
                                                                          show own_R p e below s _ _ _ T88 (mkF m 438 #[.val (.int p0), .val (.int p1), .val (.int p2), .val (.int p3), .val (.int p4), .val (.int (4 : Int32)), .val (.ref b27), .val (.ref b78), .val (.ref br), .val (.int (1 : Int32)), .val (.int (4 : Int32))] [])
                                                                          refine own_aload X88 hx (hb hby at_438) rfl rfl ?_
                                                                          refine own_iload X88 hx (hb hby at_440) rfl ?_
                                                                          refine own_iconst X88 hx (1 : Int32) (hb hby at_442) rfl ?_
                                                                          refine own_isub X88 hx (hb hby at_443) ?_
                                                                          refine own_baload X88 hx hZ rfl Vr (v := .int ((x3 + (1 : Int32)).toInt8.toInt32)) ⟨by decide, by decide⟩ rfl (hb hby at_444) ?_
                                                                          show own_R p e below s _ _ _ T88 (mkF m 445 #[.val (.int p0), .val (.int p1), .val (.int p2), .val (.int p3), .val (.int p4), .val (.int (4 : Int32)), .val (.ref b27), .val (.ref b78), .val (.ref br), .val (.int (1 : Int32)), .val (.int (4 : Int32))] [(.int ((x3 + (1 : Int32)).toInt8.toInt32))])
                                                                          refine own_aload X88 hx (hb hby at_445) rfl rfl ?_
                                                                          refine own_iload X88 hx (hb hby at_447) rfl ?_
                                                                          refine own_iconst X88 hx (1 : Int32) (hb hby at_449) rfl ?_
                                                                          refine own_isub X88 hx (hb hby at_450) ?_
                                                                          refine own_baload X88 hx hZ rfl f90 (v := .int x3) ⟨by decide, by decide⟩ rfl (hb hby at_451) ?_
                                                                          show own_R p e below s _ _ _ T88 (mkF m 452 #[.val (.int p0), .val (.int p1), .val (.int p2), .val (.int p3), .val (.int p4), .val (.int (4 : Int32)), .val (.ref b27), .val (.ref b78), .val (.ref br), .val (.int (1 : Int32)), .val (.int (4 : Int32))] [(.int x3), (.int ((x3 + (1 : Int32)).toInt8.toInt32))])
                                                                          refine own_iconst X88 hx (1 : Int32) (hb hby at_452) rfl ?_
                                                                          refine own_iadd X88 hx (hb hby at_453) ?_
                                                                          refine own_i2b X88 hx (hb hby at_454) ?_
                                                                          refine own_icmp X88 hx (hb hby at_455) (pc' := 462) (by decide) (by decide) (fun hc => ?_) (fun hc => ?_)
                                                                          · have hc455 : ¬ ((x3 + (1 : Int32)).toInt8.toInt32) = ((x3 + (1 : Int32)).toInt8.toInt32) := own_ne1 hc
                                                                            exact absurd rfl hc455
                                                                          · have hc455 : ((x3 + (1 : Int32)).toInt8.toInt32) = ((x3 + (1 : Int32)).toInt8.toInt32) := own_ne0 hc
                                                                            clear hc
                                                                            show own_R p e below s _ _ _ T88 (mkF m 458 #[.val (.int p0), .val (.int p1), .val (.int p2), .val (.int p3), .val (.int p4), .val (.int (4 : Int32)), .val (.ref b27), .val (.ref b78), .val (.ref br), .val (.int (1 : Int32)), .val (.int (4 : Int32))] [])
                                                                            refine own_iconst X88 hx (1 : Int32) (hb hby at_458) rfl ?_
                                                                            refine own_goto X88 hx (hb hby at_459) (pc' := 463) (by decide) (by decide) ?_
                                                                            show own_R p e below s _ _ _ T88 (mkF m 463 #[.val (.int p0), .val (.int p1), .val (.int p2), .val (.int p3), .val (.int p4), .val (.int (4 : Int32)), .val (.ref b27), .val (.ref b78), .val (.ref br), .val (.int (1 : Int32)), .val (.int (4 : Int32))] [(.int (1 : Int32))])
                                                                            refine own_istore X88 hx (hb hby at_463) (l' := #[.val (.int p0), .val (.int p1), .val (.int p2), .val (.int p3), .val (.int p4), .val (.int (4 : Int32)), .val (.ref b27), .val (.ref b78), .val (.ref br), .val (.int (1 : Int32)), .val (.int (4 : Int32))]) rfl ?_
                                                                            refine own_iload X88 hx (hb hby at_465) rfl ?_
                                                                            refine own_retN X88 hx (t := .boolean) Bd.returns (by simp) hlk (hb hby at_467) ?_ (by decide) (by decide)
                                                                            exact ⟨rfl, N88⟩
                                                    · have hc341 : ¬ (4 : Int32) = (4 : Int32) := own_eq0 hc
                                                      exact absurd (by decide) hc341
                                                  · have hc312 : (4 : Int32) = (0 : Int32) := own_ne0 hc
                                                    exact absurd hc312 (by decide)
                                            refine own_icmp X88 hx (hb hby at_279) (pc' := 293) (by decide) (by decide) (fun hc => ?_) (fun hc => ?_)
                                            · have hc279 : ¬ (2 : Int32) < (4 : Int32) := own_le1 hc
                                              exact absurd (by decide) hc279
                                            · have hc279 : (2 : Int32) < (4 : Int32) := own_le0 hc
                                              clear hc
                                              show own_R p e below s _ _ _ T88 (mkF m 282 #[.val (.int p0), .val (.int p1), .val (.int p2), .val (.int p3), .val (.int p4), .val (.int (4 : Int32)), .val (.ref b27), .val (.ref b78), .val (.ref br), .val (.int (1 : Int32)), .val (.int kk)] [])
                                              refine own_aload X88 hx (hb hby at_282) rfl rfl ?_
                                              refine own_iconst X88 hx (2 : Int32) (hb hby at_284) rfl ?_
                                              refine own_baload X88 hx hZ rfl f90 (v := .int x2) ⟨by decide, by decide⟩ rfl (hb hby at_285) ?_
                                              show own_R p e below s _ _ _ T88 (mkF m 286 #[.val (.int p0), .val (.int p1), .val (.int p2), .val (.int p3), .val (.int p4), .val (.int (4 : Int32)), .val (.ref b27), .val (.ref b78), .val (.ref br), .val (.int (1 : Int32)), .val (.int kk)] [(.int x2)])
                                              refine own_iconst X88 hx (-1 : Int32) (hb hby at_286) rfl ?_
                                              refine own_icmp X88 hx (hb hby at_287) (pc' := 293) (by decide) (by decide) (fun hc => ?_) (fun hc => ?_)
                                              · have hc287 : x2 = (-1 : Int32) := own_eq1 hc
                                                clear hc
                                                show own_R p e below s _ _ _ T88 (mkF m 293 #[.val (.int p0), .val (.int p1), .val (.int p2), .val (.int p3), .val (.int p4), .val (.int (4 : Int32)), .val (.ref b27), .val (.ref b78), .val (.ref br), .val (.int (1 : Int32)), .val (.int kk)] [])
                                                exact Jk2 _
                                              · have hc287 : ¬ x2 = (-1 : Int32) := own_eq0 hc
                                                clear hc
                                                show own_R p e below s _ _ _ T88 (mkF m 290 #[.val (.int p0), .val (.int p1), .val (.int p2), .val (.int p3), .val (.int p4), .val (.int (4 : Int32)), .val (.ref b27), .val (.ref b78), .val (.ref br), .val (.int (1 : Int32)), .val (.int kk)] [])
                                                refine own_iconst X88 hx (3 : Int32) (hb hby at_290) rfl ?_
                                                refine own_istore X88 hx (hb hby at_291) (l' := #[.val (.int p0), .val (.int p1), .val (.int p2), .val (.int p3), .val (.int p4), .val (.int (4 : Int32)), .val (.ref b27), .val (.ref b78), .val (.ref br), .val (.int (1 : Int32)), .val (.int (3 : Int32))]) rfl ?_
                                                exact Jk2 _
                                          refine own_icmp X88 hx (hb hby at_262) (pc' := 276) (by decide) (by decide) (fun hc => ?_) (fun hc => ?_)
                                          · have hc262 : ¬ (1 : Int32) < (4 : Int32) := own_le1 hc
                                            exact absurd (by decide) hc262
                                          · have hc262 : (1 : Int32) < (4 : Int32) := own_le0 hc
                                            clear hc
                                            show own_R p e below s _ _ _ T88 (mkF m 265 #[.val (.int p0), .val (.int p1), .val (.int p2), .val (.int p3), .val (.int p4), .val (.int (4 : Int32)), .val (.ref b27), .val (.ref b78), .val (.ref br), .val (.int (1 : Int32)), .val (.int kk)] [])
                                            refine own_aload X88 hx (hb hby at_265) rfl rfl ?_
                                            refine own_iconst X88 hx (1 : Int32) (hb hby at_267) rfl ?_
                                            refine own_baload X88 hx hZ rfl f90 (v := .int x1) ⟨by decide, by decide⟩ rfl (hb hby at_268) ?_
                                            show own_R p e below s _ _ _ T88 (mkF m 269 #[.val (.int p0), .val (.int p1), .val (.int p2), .val (.int p3), .val (.int p4), .val (.int (4 : Int32)), .val (.ref b27), .val (.ref b78), .val (.ref br), .val (.int (1 : Int32)), .val (.int kk)] [(.int x1)])
                                            refine own_iconst X88 hx (-1 : Int32) (hb hby at_269) rfl ?_
                                            refine own_icmp X88 hx (hb hby at_270) (pc' := 276) (by decide) (by decide) (fun hc => ?_) (fun hc => ?_)
                                            · have hc270 : x1 = (-1 : Int32) := own_eq1 hc
                                              clear hc
                                              show own_R p e below s _ _ _ T88 (mkF m 276 #[.val (.int p0), .val (.int p1), .val (.int p2), .val (.int p3), .val (.int p4), .val (.int (4 : Int32)), .val (.ref b27), .val (.ref b78), .val (.ref br), .val (.int (1 : Int32)), .val (.int kk)] [])
                                              exact Jk1 _
                                            · have hc270 : ¬ x1 = (-1 : Int32) := own_eq0 hc
                                              clear hc
                                              show own_R p e below s _ _ _ T88 (mkF m 273 #[.val (.int p0), .val (.int p1), .val (.int p2), .val (.int p3), .val (.int p4), .val (.int (4 : Int32)), .val (.ref b27), .val (.ref b78), .val (.ref br), .val (.int (1 : Int32)), .val (.int kk)] [])
                                              refine own_iconst X88 hx (2 : Int32) (hb hby at_273) rfl ?_
                                              refine own_istore X88 hx (hb hby at_274) (l' := #[.val (.int p0), .val (.int p1), .val (.int p2), .val (.int p3), .val (.int p4), .val (.int (4 : Int32)), .val (.ref b27), .val (.ref b78), .val (.ref br), .val (.int (1 : Int32)), .val (.int (2 : Int32))]) rfl ?_
                                              exact Jk1 _
                                        refine own_if X88 hx (hb hby at_245) (pc' := 259) (by decide) (by decide) (fun hc => ?_) (fun hc => ?_)
                                        · have hc245 : ¬ (0 : Int32) < (4 : Int32) := own_le1 hc
                                          exact absurd (by decide) hc245
                                        · have hc245 : (0 : Int32) < (4 : Int32) := own_le0 hc
                                          clear hc
                                          show own_R p e below s _ _ _ T88 (mkF m 248 #[.val (.int p0), .val (.int p1), .val (.int p2), .val (.int p3), .val (.int p4), .val (.int (4 : Int32)), .val (.ref b27), .val (.ref b78), .val (.ref br), .val (.int (1 : Int32)), .val (.int (0 : Int32))] [])
                                          refine own_aload X88 hx (hb hby at_248) rfl rfl ?_
                                          refine own_iconst X88 hx (0 : Int32) (hb hby at_250) rfl ?_
                                          refine own_baload X88 hx hZ rfl f90 (v := .int x0) ⟨by decide, by decide⟩ rfl (hb hby at_251) ?_
                                          show own_R p e below s _ _ _ T88 (mkF m 252 #[.val (.int p0), .val (.int p1), .val (.int p2), .val (.int p3), .val (.int p4), .val (.int (4 : Int32)), .val (.ref b27), .val (.ref b78), .val (.ref br), .val (.int (1 : Int32)), .val (.int (0 : Int32))] [(.int x0)])
                                          refine own_iconst X88 hx (-1 : Int32) (hb hby at_252) rfl ?_
                                          refine own_icmp X88 hx (hb hby at_253) (pc' := 259) (by decide) (by decide) (fun hc => ?_) (fun hc => ?_)
                                          · have hc253 : x0 = (-1 : Int32) := own_eq1 hc
                                            clear hc
                                            show own_R p e below s _ _ _ T88 (mkF m 259 #[.val (.int p0), .val (.int p1), .val (.int p2), .val (.int p3), .val (.int p4), .val (.int (4 : Int32)), .val (.ref b27), .val (.ref b78), .val (.ref br), .val (.int (1 : Int32)), .val (.int (0 : Int32))] [])
                                            exact Jk0 _
                                          · have hc253 : ¬ x0 = (-1 : Int32) := own_eq0 hc
                                            clear hc
                                            show own_R p e below s _ _ _ T88 (mkF m 256 #[.val (.int p0), .val (.int p1), .val (.int p2), .val (.int p3), .val (.int p4), .val (.int (4 : Int32)), .val (.ref b27), .val (.ref b78), .val (.ref br), .val (.int (1 : Int32)), .val (.int (0 : Int32))] [])
                                            refine own_iconst X88 hx (1 : Int32) (hb hby at_256) rfl ?_
                                            refine own_istore X88 hx (hb hby at_257) (l' := #[.val (.int p0), .val (.int p1), .val (.int p2), .val (.int p3), .val (.int p4), .val (.int (4 : Int32)), .val (.ref b27), .val (.ref b78), .val (.ref br), .val (.int (1 : Int32)), .val (.int (1 : Int32))]) rfl ?_
                                            exact Jk0 _
            ·
              show own_R p e below s _ _ _ T88 (mkF m 108 #[.val (.int p0), .val (.int p1), .val (.int p2), .val (.int p3), .val (.int p4), .val (.int (4 : Int32)), .val (.ref b27), .val (.ref b78), .unset, .unset, .unset] [(.ref br)])
              refine own_astore X88 hx (hb hby at_108) rfl (l' := #[.val (.int p0), .val (.int p1), .val (.int p2), .val (.int p3), .val (.int p4), .val (.int (4 : Int32)), .val (.ref b27), .val (.ref b78), .val (.ref br), .unset, .unset]) rfl ?_
              refine own_aload X88 hx (hb hby at_110) rfl rfl ?_
              have f91 := (V_b78_86.keep Kc88 nin0)
              refine own_len X88 hx hZ rfl f91 (hb hby at_112) ?_
              show own_R p e below s _ _ _ T88 (mkF m 113 #[.val (.int p0), .val (.int p1), .val (.int p2), .val (.int p3), .val (.int p4), .val (.int (4 : Int32)), .val (.ref b27), .val (.ref b78), .val (.ref br), .unset, .unset] [(.int (4 : Int32))])
              refine own_iload X88 hx (hb hby at_113) rfl ?_
              refine own_icmp X88 hx (hb hby at_115) (pc' := 122) (by decide) (by decide) (fun hc => ?_) (fun hc => ?_)
              · have hc115 : ¬ (4 : Int32) = (4 : Int32) := own_ne1 hc
                exact absurd (by decide) hc115
              · have hc115 : (4 : Int32) = (4 : Int32) := own_ne0 hc
                clear hc
                show own_R p e below s _ _ _ T88 (mkF m 118 #[.val (.int p0), .val (.int p1), .val (.int p2), .val (.int p3), .val (.int p4), .val (.int (4 : Int32)), .val (.ref b27), .val (.ref b78), .val (.ref br), .unset, .unset] [])
                refine own_iconst X88 hx (1 : Int32) (hb hby at_118) rfl ?_
                refine own_goto X88 hx (hb hby at_119) (pc' := 123) (by decide) (by decide) ?_
                show own_R p e below s _ _ _ T88 (mkF m 123 #[.val (.int p0), .val (.int p1), .val (.int p2), .val (.int p3), .val (.int p4), .val (.int (4 : Int32)), .val (.ref b27), .val (.ref b78), .val (.ref br), .unset, .unset] [(.int (1 : Int32))])
                refine own_istore X88 hx (hb hby at_123) (l' := #[.val (.int p0), .val (.int p1), .val (.int p2), .val (.int p3), .val (.int p4), .val (.int (4 : Int32)), .val (.ref b27), .val (.ref b78), .val (.ref br), .val (.int (1 : Int32)), .unset]) rfl ?_
                refine own_iload X88 hx (hb hby at_125) rfl ?_
                refine own_if X88 hx (hb hby at_127) (pc' := 153) (by decide) (by decide) (fun hc => ?_) (fun hc => ?_)
                · have hc127 : ¬ (0 : Int32) < (4 : Int32) := own_le1 hc
                  exact absurd (by decide) hc127
                · have hc127 : (0 : Int32) < (4 : Int32) := own_le0 hc
                  clear hc
                  show own_R p e below s _ _ _ T88 (mkF m 130 #[.val (.int p0), .val (.int p1), .val (.int p2), .val (.int p3), .val (.int p4), .val (.int (4 : Int32)), .val (.ref b27), .val (.ref b78), .val (.ref br), .val (.int (1 : Int32)), .unset] [])
                  refine own_iload X88 hx (hb hby at_130) rfl ?_
                  refine own_if X88 hx (hb hby at_132) (pc' := 150) (by decide) (by decide) (fun hc => ?_) (fun hc => ?_)
                  · have hc132 : (1 : Int32) = (0 : Int32) := own_eq1 hc
                    exact absurd hc132 (by decide)
                  · have hc132 : ¬ (1 : Int32) = (0 : Int32) := own_eq0 hc
                    clear hc
                    show own_R p e below s _ _ _ T88 (mkF m 135 #[.val (.int p0), .val (.int p1), .val (.int p2), .val (.int p3), .val (.int p4), .val (.int (4 : Int32)), .val (.ref b27), .val (.ref b78), .val (.ref br), .val (.int (1 : Int32)), .unset] [])
                    refine own_aload X88 hx (hb hby at_135) rfl rfl ?_
                    refine own_iconst X88 hx (0 : Int32) (hb hby at_137) rfl ?_
                    refine own_baload X88 hx hZ rfl f91 (v := .int x0) ⟨by decide, by decide⟩ rfl (hb hby at_138) ?_
                    show own_R p e below s _ _ _ T88 (mkF m 139 #[.val (.int p0), .val (.int p1), .val (.int p2), .val (.int p3), .val (.int p4), .val (.int (4 : Int32)), .val (.ref b27), .val (.ref b78), .val (.ref br), .val (.int (1 : Int32)), .unset] [(.int x0)])
                    refine own_aload X88 hx (hb hby at_139) rfl rfl ?_
                    refine own_iconst X88 hx (0 : Int32) (hb hby at_141) rfl ?_
                    have f92 := ((f85.other W86 ne_b27_b78).keep Kc88 nin0)
                    refine own_baload X88 hx hZ rfl f92 (v := .int x0) ⟨by decide, by decide⟩ rfl (hb hby at_142) ?_
                    show own_R p e below s _ _ _ T88 (mkF m 143 #[.val (.int p0), .val (.int p1), .val (.int p2), .val (.int p3), .val (.int p4), .val (.int (4 : Int32)), .val (.ref b27), .val (.ref b78), .val (.ref br), .val (.int (1 : Int32)), .unset] [(.int x0), (.int x0)])
                    refine own_icmp X88 hx (hb hby at_143) (pc' := 150) (by decide) (by decide) (fun hc => ?_) (fun hc => ?_)
                    · have hc143 : ¬ x0 = x0 := own_ne1 hc
                      exact absurd rfl hc143
                    · have hc143 : x0 = x0 := own_ne0 hc
                      clear hc
                      show own_R p e below s _ _ _ T88 (mkF m 146 #[.val (.int p0), .val (.int p1), .val (.int p2), .val (.int p3), .val (.int p4), .val (.int (4 : Int32)), .val (.ref b27), .val (.ref b78), .val (.ref br), .val (.int (1 : Int32)), .unset] [])
                      refine own_iconst X88 hx (1 : Int32) (hb hby at_146) rfl ?_
                      refine own_goto X88 hx (hb hby at_147) (pc' := 151) (by decide) (by decide) ?_
                      show own_R p e below s _ _ _ T88 (mkF m 151 #[.val (.int p0), .val (.int p1), .val (.int p2), .val (.int p3), .val (.int p4), .val (.int (4 : Int32)), .val (.ref b27), .val (.ref b78), .val (.ref br), .val (.int (1 : Int32)), .unset] [(.int (1 : Int32))])
                      refine own_istore X88 hx (hb hby at_151) (l' := #[.val (.int p0), .val (.int p1), .val (.int p2), .val (.int p3), .val (.int p4), .val (.int (4 : Int32)), .val (.ref b27), .val (.ref b78), .val (.ref br), .val (.int (1 : Int32)), .unset]) rfl ?_
                      refine own_iload X88 hx (hb hby at_153) rfl ?_
                      refine own_iconst X88 hx (1 : Int32) (hb hby at_155) rfl ?_
                      refine own_icmp X88 hx (hb hby at_156) (pc' := 182) (by decide) (by decide) (fun hc => ?_) (fun hc => ?_)
                      · have hc156 : ¬ (1 : Int32) < (4 : Int32) := own_le1 hc
                        exact absurd (by decide) hc156
                      · have hc156 : (1 : Int32) < (4 : Int32) := own_le0 hc
                        clear hc
                        show own_R p e below s _ _ _ T88 (mkF m 159 #[.val (.int p0), .val (.int p1), .val (.int p2), .val (.int p3), .val (.int p4), .val (.int (4 : Int32)), .val (.ref b27), .val (.ref b78), .val (.ref br), .val (.int (1 : Int32)), .unset] [])
                        refine own_iload X88 hx (hb hby at_159) rfl ?_
                        refine own_if X88 hx (hb hby at_161) (pc' := 179) (by decide) (by decide) (fun hc => ?_) (fun hc => ?_)
                        · have hc161 : (1 : Int32) = (0 : Int32) := own_eq1 hc
                          exact absurd hc161 (by decide)
                        · have hc161 : ¬ (1 : Int32) = (0 : Int32) := own_eq0 hc
                          clear hc
                          show own_R p e below s _ _ _ T88 (mkF m 164 #[.val (.int p0), .val (.int p1), .val (.int p2), .val (.int p3), .val (.int p4), .val (.int (4 : Int32)), .val (.ref b27), .val (.ref b78), .val (.ref br), .val (.int (1 : Int32)), .unset] [])
                          refine own_aload X88 hx (hb hby at_164) rfl rfl ?_
                          refine own_iconst X88 hx (1 : Int32) (hb hby at_166) rfl ?_
                          refine own_baload X88 hx hZ rfl f91 (v := .int x1) ⟨by decide, by decide⟩ rfl (hb hby at_167) ?_
                          show own_R p e below s _ _ _ T88 (mkF m 168 #[.val (.int p0), .val (.int p1), .val (.int p2), .val (.int p3), .val (.int p4), .val (.int (4 : Int32)), .val (.ref b27), .val (.ref b78), .val (.ref br), .val (.int (1 : Int32)), .unset] [(.int x1)])
                          refine own_aload X88 hx (hb hby at_168) rfl rfl ?_
                          refine own_iconst X88 hx (1 : Int32) (hb hby at_170) rfl ?_
                          refine own_baload X88 hx hZ rfl f92 (v := .int x1) ⟨by decide, by decide⟩ rfl (hb hby at_171) ?_
                          show own_R p e below s _ _ _ T88 (mkF m 172 #[.val (.int p0), .val (.int p1), .val (.int p2), .val (.int p3), .val (.int p4), .val (.int (4 : Int32)), .val (.ref b27), .val (.ref b78), .val (.ref br), .val (.int (1 : Int32)), .unset] [(.int x1), (.int x1)])
                          refine own_icmp X88 hx (hb hby at_172) (pc' := 179) (by decide) (by decide) (fun hc => ?_) (fun hc => ?_)
                          · have hc172 : ¬ x1 = x1 := own_ne1 hc
                            exact absurd rfl hc172
                          · have hc172 : x1 = x1 := own_ne0 hc
                            clear hc
                            show own_R p e below s _ _ _ T88 (mkF m 175 #[.val (.int p0), .val (.int p1), .val (.int p2), .val (.int p3), .val (.int p4), .val (.int (4 : Int32)), .val (.ref b27), .val (.ref b78), .val (.ref br), .val (.int (1 : Int32)), .unset] [])
                            refine own_iconst X88 hx (1 : Int32) (hb hby at_175) rfl ?_
                            refine own_goto X88 hx (hb hby at_176) (pc' := 180) (by decide) (by decide) ?_
                            show own_R p e below s _ _ _ T88 (mkF m 180 #[.val (.int p0), .val (.int p1), .val (.int p2), .val (.int p3), .val (.int p4), .val (.int (4 : Int32)), .val (.ref b27), .val (.ref b78), .val (.ref br), .val (.int (1 : Int32)), .unset] [(.int (1 : Int32))])
                            refine own_istore X88 hx (hb hby at_180) (l' := #[.val (.int p0), .val (.int p1), .val (.int p2), .val (.int p3), .val (.int p4), .val (.int (4 : Int32)), .val (.ref b27), .val (.ref b78), .val (.ref br), .val (.int (1 : Int32)), .unset]) rfl ?_
                            refine own_iload X88 hx (hb hby at_182) rfl ?_
                            refine own_iconst X88 hx (2 : Int32) (hb hby at_184) rfl ?_
                            refine own_icmp X88 hx (hb hby at_185) (pc' := 211) (by decide) (by decide) (fun hc => ?_) (fun hc => ?_)
                            · have hc185 : ¬ (2 : Int32) < (4 : Int32) := own_le1 hc
                              exact absurd (by decide) hc185
                            · have hc185 : (2 : Int32) < (4 : Int32) := own_le0 hc
                              clear hc
                              show own_R p e below s _ _ _ T88 (mkF m 188 #[.val (.int p0), .val (.int p1), .val (.int p2), .val (.int p3), .val (.int p4), .val (.int (4 : Int32)), .val (.ref b27), .val (.ref b78), .val (.ref br), .val (.int (1 : Int32)), .unset] [])
                              refine own_iload X88 hx (hb hby at_188) rfl ?_
                              refine own_if X88 hx (hb hby at_190) (pc' := 208) (by decide) (by decide) (fun hc => ?_) (fun hc => ?_)
                              · have hc190 : (1 : Int32) = (0 : Int32) := own_eq1 hc
                                exact absurd hc190 (by decide)
                              · have hc190 : ¬ (1 : Int32) = (0 : Int32) := own_eq0 hc
                                clear hc
                                show own_R p e below s _ _ _ T88 (mkF m 193 #[.val (.int p0), .val (.int p1), .val (.int p2), .val (.int p3), .val (.int p4), .val (.int (4 : Int32)), .val (.ref b27), .val (.ref b78), .val (.ref br), .val (.int (1 : Int32)), .unset] [])
                                refine own_aload X88 hx (hb hby at_193) rfl rfl ?_
                                refine own_iconst X88 hx (2 : Int32) (hb hby at_195) rfl ?_
                                refine own_baload X88 hx hZ rfl f91 (v := .int x2) ⟨by decide, by decide⟩ rfl (hb hby at_196) ?_
                                show own_R p e below s _ _ _ T88 (mkF m 197 #[.val (.int p0), .val (.int p1), .val (.int p2), .val (.int p3), .val (.int p4), .val (.int (4 : Int32)), .val (.ref b27), .val (.ref b78), .val (.ref br), .val (.int (1 : Int32)), .unset] [(.int x2)])
                                refine own_aload X88 hx (hb hby at_197) rfl rfl ?_
                                refine own_iconst X88 hx (2 : Int32) (hb hby at_199) rfl ?_
                                refine own_baload X88 hx hZ rfl f92 (v := .int x2) ⟨by decide, by decide⟩ rfl (hb hby at_200) ?_
                                show own_R p e below s _ _ _ T88 (mkF m 201 #[.val (.int p0), .val (.int p1), .val (.int p2), .val (.int p3), .val (.int p4), .val (.int (4 : Int32)), .val (.ref b27), .val (.ref b78), .val (.ref br), .val (.int (1 : Int32)), .unset] [(.int x2), (.int x2)])
                                refine own_icmp X88 hx (hb hby at_201) (pc' := 208) (by decide) (by decide) (fun hc => ?_) (fun hc => ?_)
                                · have hc201 : ¬ x2 = x2 := own_ne1 hc
                                  exact absurd rfl hc201
                                · have hc201 : x2 = x2 := own_ne0 hc
                                  clear hc
                                  show own_R p e below s _ _ _ T88 (mkF m 204 #[.val (.int p0), .val (.int p1), .val (.int p2), .val (.int p3), .val (.int p4), .val (.int (4 : Int32)), .val (.ref b27), .val (.ref b78), .val (.ref br), .val (.int (1 : Int32)), .unset] [])
                                  refine own_iconst X88 hx (1 : Int32) (hb hby at_204) rfl ?_
                                  refine own_goto X88 hx (hb hby at_205) (pc' := 209) (by decide) (by decide) ?_
                                  show own_R p e below s _ _ _ T88 (mkF m 209 #[.val (.int p0), .val (.int p1), .val (.int p2), .val (.int p3), .val (.int p4), .val (.int (4 : Int32)), .val (.ref b27), .val (.ref b78), .val (.ref br), .val (.int (1 : Int32)), .unset] [(.int (1 : Int32))])
                                  refine own_istore X88 hx (hb hby at_209) (l' := #[.val (.int p0), .val (.int p1), .val (.int p2), .val (.int p3), .val (.int p4), .val (.int (4 : Int32)), .val (.ref b27), .val (.ref b78), .val (.ref br), .val (.int (1 : Int32)), .unset]) rfl ?_
                                  refine own_iload X88 hx (hb hby at_211) rfl ?_
                                  refine own_iconst X88 hx (3 : Int32) (hb hby at_213) rfl ?_
                                  refine own_icmp X88 hx (hb hby at_214) (pc' := 240) (by decide) (by decide) (fun hc => ?_) (fun hc => ?_)
                                  · have hc214 : ¬ (3 : Int32) < (4 : Int32) := own_le1 hc
                                    exact absurd (by decide) hc214
                                  · have hc214 : (3 : Int32) < (4 : Int32) := own_le0 hc
                                    clear hc
                                    show own_R p e below s _ _ _ T88 (mkF m 217 #[.val (.int p0), .val (.int p1), .val (.int p2), .val (.int p3), .val (.int p4), .val (.int (4 : Int32)), .val (.ref b27), .val (.ref b78), .val (.ref br), .val (.int (1 : Int32)), .unset] [])
                                    refine own_iload X88 hx (hb hby at_217) rfl ?_
                                    refine own_if X88 hx (hb hby at_219) (pc' := 237) (by decide) (by decide) (fun hc => ?_) (fun hc => ?_)
                                    · have hc219 : (1 : Int32) = (0 : Int32) := own_eq1 hc
                                      exact absurd hc219 (by decide)
                                    · have hc219 : ¬ (1 : Int32) = (0 : Int32) := own_eq0 hc
                                      clear hc
                                      show own_R p e below s _ _ _ T88 (mkF m 222 #[.val (.int p0), .val (.int p1), .val (.int p2), .val (.int p3), .val (.int p4), .val (.int (4 : Int32)), .val (.ref b27), .val (.ref b78), .val (.ref br), .val (.int (1 : Int32)), .unset] [])
                                      refine own_aload X88 hx (hb hby at_222) rfl rfl ?_
                                      refine own_iconst X88 hx (3 : Int32) (hb hby at_224) rfl ?_
                                      refine own_baload X88 hx hZ rfl f91 (v := .int x3) ⟨by decide, by decide⟩ rfl (hb hby at_225) ?_
                                      show own_R p e below s _ _ _ T88 (mkF m 226 #[.val (.int p0), .val (.int p1), .val (.int p2), .val (.int p3), .val (.int p4), .val (.int (4 : Int32)), .val (.ref b27), .val (.ref b78), .val (.ref br), .val (.int (1 : Int32)), .unset] [(.int x3)])
                                      refine own_aload X88 hx (hb hby at_226) rfl rfl ?_
                                      refine own_iconst X88 hx (3 : Int32) (hb hby at_228) rfl ?_
                                      refine own_baload X88 hx hZ rfl f92 (v := .int x3) ⟨by decide, by decide⟩ rfl (hb hby at_229) ?_
                                      show own_R p e below s _ _ _ T88 (mkF m 230 #[.val (.int p0), .val (.int p1), .val (.int p2), .val (.int p3), .val (.int p4), .val (.int (4 : Int32)), .val (.ref b27), .val (.ref b78), .val (.ref br), .val (.int (1 : Int32)), .unset] [(.int x3), (.int x3)])
                                      refine own_icmp X88 hx (hb hby at_230) (pc' := 237) (by decide) (by decide) (fun hc => ?_) (fun hc => ?_)
                                      · have hc230 : ¬ x3 = x3 := own_ne1 hc
                                        exact absurd rfl hc230
                                      · have hc230 : x3 = x3 := own_ne0 hc
                                        clear hc
                                        show own_R p e below s _ _ _ T88 (mkF m 233 #[.val (.int p0), .val (.int p1), .val (.int p2), .val (.int p3), .val (.int p4), .val (.int (4 : Int32)), .val (.ref b27), .val (.ref b78), .val (.ref br), .val (.int (1 : Int32)), .unset] [])
                                        refine own_iconst X88 hx (1 : Int32) (hb hby at_233) rfl ?_
                                        refine own_goto X88 hx (hb hby at_234) (pc' := 238) (by decide) (by decide) ?_
                                        show own_R p e below s _ _ _ T88 (mkF m 238 #[.val (.int p0), .val (.int p1), .val (.int p2), .val (.int p3), .val (.int p4), .val (.int (4 : Int32)), .val (.ref b27), .val (.ref b78), .val (.ref br), .val (.int (1 : Int32)), .unset] [(.int (1 : Int32))])
                                        refine own_istore X88 hx (hb hby at_238) (l' := #[.val (.int p0), .val (.int p1), .val (.int p2), .val (.int p3), .val (.int p4), .val (.int (4 : Int32)), .val (.ref b27), .val (.ref b78), .val (.ref br), .val (.int (1 : Int32)), .unset]) rfl ?_
                                        refine own_iconst X88 hx (0 : Int32) (hb hby at_240) rfl ?_
                                        refine own_istore X88 hx (hb hby at_241) (l' := #[.val (.int p0), .val (.int p1), .val (.int p2), .val (.int p3), .val (.int p4), .val (.int (4 : Int32)), .val (.ref b27), .val (.ref b78), .val (.ref br), .val (.int (1 : Int32)), .val (.int (0 : Int32))]) rfl ?_
                                        refine own_iload X88 hx (hb hby at_243) rfl ?_
                                        have Jk0 : ∀ (kk : Int32), own_R p e below s (Q0 Z p0 p1 p2 p3 p4 h0 n0) room_1.cells room_1.slots T88 (mkF m 259 #[.val (.int p0), .val (.int p1), .val (.int p2), .val (.int p3), .val (.int p4), .val (.int (4 : Int32)), .val (.ref b27), .val (.ref b78), .val (.ref br), .val (.int (1 : Int32)), .val (.int kk)] []) := by
                                          intro kk
                                          refine own_iload X88 hx (hb hby at_259) rfl ?_
                                          refine own_iconst X88 hx (1 : Int32) (hb hby at_261) rfl ?_
                                          have Jk1 : ∀ (kk : Int32), own_R p e below s (Q0 Z p0 p1 p2 p3 p4 h0 n0) room_1.cells room_1.slots T88 (mkF m 276 #[.val (.int p0), .val (.int p1), .val (.int p2), .val (.int p3), .val (.int p4), .val (.int (4 : Int32)), .val (.ref b27), .val (.ref b78), .val (.ref br), .val (.int (1 : Int32)), .val (.int kk)] []) := by
                                            intro kk
                                            refine own_iload X88 hx (hb hby at_276) rfl ?_
                                            refine own_iconst X88 hx (2 : Int32) (hb hby at_278) rfl ?_
                                            refine own_icmp X88 hx (hb hby at_279) (pc' := 293) (by decide) (by decide) (fun hc => ?_) (fun hc => ?_)
                                            · have hc279 : ¬ (2 : Int32) < (4 : Int32) := own_le1 hc
                                              exact absurd (by decide) hc279
                                            · have hc279 : (2 : Int32) < (4 : Int32) := own_le0 hc
                                              clear hc
                                              show own_R p e below s _ _ _ T88 (mkF m 282 #[.val (.int p0), .val (.int p1), .val (.int p2), .val (.int p3), .val (.int p4), .val (.int (4 : Int32)), .val (.ref b27), .val (.ref b78), .val (.ref br), .val (.int (1 : Int32)), .val (.int kk)] [])
                                              refine own_aload X88 hx (hb hby at_282) rfl rfl ?_
                                              refine own_iconst X88 hx (2 : Int32) (hb hby at_284) rfl ?_
                                              refine own_baload X88 hx hZ rfl f92 (v := .int x2) ⟨by decide, by decide⟩ rfl (hb hby at_285) ?_
                                              show own_R p e below s _ _ _ T88 (mkF m 286 #[.val (.int p0), .val (.int p1), .val (.int p2), .val (.int p3), .val (.int p4), .val (.int (4 : Int32)), .val (.ref b27), .val (.ref b78), .val (.ref br), .val (.int (1 : Int32)), .val (.int kk)] [(.int x2)])
                                              refine own_iconst X88 hx (-1 : Int32) (hb hby at_286) rfl ?_
                                              refine own_icmp X88 hx (hb hby at_287) (pc' := 293) (by decide) (by decide) (fun hc => ?_) (fun hc => ?_)
                                              · have hc287 : x2 = (-1 : Int32) := own_eq1 hc
                                                exact absurd hc287 y2
                                              · have hc287 : ¬ x2 = (-1 : Int32) := own_eq0 hc
                                                clear hc
                                                show own_R p e below s _ _ _ T88 (mkF m 290 #[.val (.int p0), .val (.int p1), .val (.int p2), .val (.int p3), .val (.int p4), .val (.int (4 : Int32)), .val (.ref b27), .val (.ref b78), .val (.ref br), .val (.int (1 : Int32)), .val (.int kk)] [])
                                                refine own_iconst X88 hx (3 : Int32) (hb hby at_290) rfl ?_
                                                refine own_istore X88 hx (hb hby at_291) (l' := #[.val (.int p0), .val (.int p1), .val (.int p2), .val (.int p3), .val (.int p4), .val (.int (4 : Int32)), .val (.ref b27), .val (.ref b78), .val (.ref br), .val (.int (1 : Int32)), .val (.int (3 : Int32))]) rfl ?_
                                                refine own_iload X88 hx (hb hby at_293) rfl ?_
                                                refine own_iconst X88 hx (3 : Int32) (hb hby at_295) rfl ?_
                                                refine own_icmp X88 hx (hb hby at_296) (pc' := 310) (by decide) (by decide) (fun hc => ?_) (fun hc => ?_)
                                                · have hc296 : ¬ (3 : Int32) < (4 : Int32) := own_le1 hc
                                                  exact absurd (by decide) hc296
                                                · have hc296 : (3 : Int32) < (4 : Int32) := own_le0 hc
                                                  clear hc
                                                  show own_R p e below s _ _ _ T88 (mkF m 299 #[.val (.int p0), .val (.int p1), .val (.int p2), .val (.int p3), .val (.int p4), .val (.int (4 : Int32)), .val (.ref b27), .val (.ref b78), .val (.ref br), .val (.int (1 : Int32)), .val (.int (3 : Int32))] [])
                                                  refine own_aload X88 hx (hb hby at_299) rfl rfl ?_
                                                  refine own_iconst X88 hx (3 : Int32) (hb hby at_301) rfl ?_
                                                  refine own_baload X88 hx hZ rfl f92 (v := .int x3) ⟨by decide, by decide⟩ rfl (hb hby at_302) ?_
                                                  show own_R p e below s _ _ _ T88 (mkF m 303 #[.val (.int p0), .val (.int p1), .val (.int p2), .val (.int p3), .val (.int p4), .val (.int (4 : Int32)), .val (.ref b27), .val (.ref b78), .val (.ref br), .val (.int (1 : Int32)), .val (.int (3 : Int32))] [(.int x3)])
                                                  refine own_iconst X88 hx (-1 : Int32) (hb hby at_303) rfl ?_
                                                  refine own_icmp X88 hx (hb hby at_304) (pc' := 310) (by decide) (by decide) (fun hc => ?_) (fun hc => ?_)
                                                  · have hc304 : x3 = (-1 : Int32) := own_eq1 hc
                                                    clear hc
                                                    show own_R p e below s _ _ _ T88 (mkF m 310 #[.val (.int p0), .val (.int p1), .val (.int p2), .val (.int p3), .val (.int p4), .val (.int (4 : Int32)), .val (.ref b27), .val (.ref b78), .val (.ref br), .val (.int (1 : Int32)), .val (.int (3 : Int32))] [])
                                                    refine own_iload X88 hx (hb hby at_310) rfl ?_
                                                    refine own_if X88 hx (hb hby at_312) (pc' := 331) (by decide) (by decide) (fun hc => ?_) (fun hc => ?_)
                                                    · have hc312 : ¬ (3 : Int32) = (0 : Int32) := own_ne1 hc
                                                      clear hc
                                                      show own_R p e below s _ _ _ T88 (mkF m 331 #[.val (.int p0), .val (.int p1), .val (.int p2), .val (.int p3), .val (.int p4), .val (.int (4 : Int32)), .val (.ref b27), .val (.ref b78), .val (.ref br), .val (.int (1 : Int32)), .val (.int (3 : Int32))] [])
                                                      refine own_aload X88 hx (hb hby at_331) rfl rfl ?_
                                                      refine own_ifnullN X88 hx (hb hby at_333) ?_
                                                      show own_R p e below s _ _ _ T88 (mkF m 336 #[.val (.int p0), .val (.int p1), .val (.int p2), .val (.int p3), .val (.int p4), .val (.int (4 : Int32)), .val (.ref b27), .val (.ref b78), .val (.ref br), .val (.int (1 : Int32)), .val (.int (3 : Int32))] [])
                                                      refine own_aload X88 hx (hb hby at_336) rfl rfl ?_
                                                      refine own_len X88 hx hZ rfl Vr (hb hby at_338) ?_
                                                      show own_R p e below s _ _ _ T88 (mkF m 339 #[.val (.int p0), .val (.int p1), .val (.int p2), .val (.int p3), .val (.int p4), .val (.int (4 : Int32)), .val (.ref b27), .val (.ref b78), .val (.ref br), .val (.int (1 : Int32)), .val (.int (3 : Int32))] [(.int (3 : Int32))])
                                                      refine own_iload X88 hx (hb hby at_339) rfl ?_
                                                      refine own_icmp X88 hx (hb hby at_341) (pc' := 346) (by decide) (by decide) (fun hc => ?_) (fun hc => ?_)
                                                      · have hc341 : (3 : Int32) = (3 : Int32) := own_eq1 hc
                                                        clear hc
                                                        show own_R p e below s _ _ _ T88 (mkF m 346 #[.val (.int p0), .val (.int p1), .val (.int p2), .val (.int p3), .val (.int p4), .val (.int (4 : Int32)), .val (.ref b27), .val (.ref b78), .val (.ref br), .val (.int (1 : Int32)), .val (.int (3 : Int32))] [])
                                                        refine own_iload X88 hx (hb hby at_346) rfl ?_
                                                        refine own_iconst X88 hx (1 : Int32) (hb hby at_348) rfl ?_
                                                        refine own_icmp X88 hx (hb hby at_349) (pc' := 375) (by decide) (by decide) (fun hc => ?_) (fun hc => ?_)
                                                        · have hc349 : ¬ (1 : Int32) < (3 : Int32) := own_le1 hc
                                                          exact absurd (by decide) hc349
                                                        · have hc349 : (1 : Int32) < (3 : Int32) := own_le0 hc
                                                          clear hc
                                                          show own_R p e below s _ _ _ T88 (mkF m 352 #[.val (.int p0), .val (.int p1), .val (.int p2), .val (.int p3), .val (.int p4), .val (.int (4 : Int32)), .val (.ref b27), .val (.ref b78), .val (.ref br), .val (.int (1 : Int32)), .val (.int (3 : Int32))] [])
                                                          refine own_iload X88 hx (hb hby at_352) rfl ?_
                                                          refine own_if X88 hx (hb hby at_354) (pc' := 372) (by decide) (by decide) (fun hc => ?_) (fun hc => ?_)
                                                          · have hc354 : (1 : Int32) = (0 : Int32) := own_eq1 hc
                                                            exact absurd hc354 (by decide)
                                                          · have hc354 : ¬ (1 : Int32) = (0 : Int32) := own_eq0 hc
                                                            clear hc
                                                            show own_R p e below s _ _ _ T88 (mkF m 357 #[.val (.int p0), .val (.int p1), .val (.int p2), .val (.int p3), .val (.int p4), .val (.int (4 : Int32)), .val (.ref b27), .val (.ref b78), .val (.ref br), .val (.int (1 : Int32)), .val (.int (3 : Int32))] [])
                                                            refine own_aload X88 hx (hb hby at_357) rfl rfl ?_
                                                            refine own_iconst X88 hx (0 : Int32) (hb hby at_359) rfl ?_
                                                            refine own_baload X88 hx hZ rfl Vr (v := .int x0) ⟨by decide, by decide⟩ rfl (hb hby at_360) ?_
                                                            show own_R p e below s _ _ _ T88 (mkF m 361 #[.val (.int p0), .val (.int p1), .val (.int p2), .val (.int p3), .val (.int p4), .val (.int (4 : Int32)), .val (.ref b27), .val (.ref b78), .val (.ref br), .val (.int (1 : Int32)), .val (.int (3 : Int32))] [(.int x0)])
                                                            refine own_aload X88 hx (hb hby at_361) rfl rfl ?_
                                                            refine own_iconst X88 hx (0 : Int32) (hb hby at_363) rfl ?_
                                                            refine own_baload X88 hx hZ rfl f92 (v := .int x0) ⟨by decide, by decide⟩ rfl (hb hby at_364) ?_
                                                            show own_R p e below s _ _ _ T88 (mkF m 365 #[.val (.int p0), .val (.int p1), .val (.int p2), .val (.int p3), .val (.int p4), .val (.int (4 : Int32)), .val (.ref b27), .val (.ref b78), .val (.ref br), .val (.int (1 : Int32)), .val (.int (3 : Int32))] [(.int x0), (.int x0)])
                                                            refine own_icmp X88 hx (hb hby at_365) (pc' := 372) (by decide) (by decide) (fun hc => ?_) (fun hc => ?_)
                                                            · have hc365 : ¬ x0 = x0 := own_ne1 hc
                                                              exact absurd rfl hc365
                                                            · have hc365 : x0 = x0 := own_ne0 hc
                                                              clear hc
                                                              show own_R p e below s _ _ _ T88 (mkF m 368 #[.val (.int p0), .val (.int p1), .val (.int p2), .val (.int p3), .val (.int p4), .val (.int (4 : Int32)), .val (.ref b27), .val (.ref b78), .val (.ref br), .val (.int (1 : Int32)), .val (.int (3 : Int32))] [])
                                                              refine own_iconst X88 hx (1 : Int32) (hb hby at_368) rfl ?_
                                                              refine own_goto X88 hx (hb hby at_369) (pc' := 373) (by decide) (by decide) ?_
                                                              show own_R p e below s _ _ _ T88 (mkF m 373 #[.val (.int p0), .val (.int p1), .val (.int p2), .val (.int p3), .val (.int p4), .val (.int (4 : Int32)), .val (.ref b27), .val (.ref b78), .val (.ref br), .val (.int (1 : Int32)), .val (.int (3 : Int32))] [(.int (1 : Int32))])
                                                              refine own_istore X88 hx (hb hby at_373) (l' := #[.val (.int p0), .val (.int p1), .val (.int p2), .val (.int p3), .val (.int p4), .val (.int (4 : Int32)), .val (.ref b27), .val (.ref b78), .val (.ref br), .val (.int (1 : Int32)), .val (.int (3 : Int32))]) rfl ?_
                                                              refine own_iload X88 hx (hb hby at_375) rfl ?_
                                                              refine own_iconst X88 hx (2 : Int32) (hb hby at_377) rfl ?_
                                                              refine own_icmp X88 hx (hb hby at_378) (pc' := 404) (by decide) (by decide) (fun hc => ?_) (fun hc => ?_)
                                                              · have hc378 : ¬ (2 : Int32) < (3 : Int32) := own_le1 hc
                                                                exact absurd (by decide) hc378
                                                              · have hc378 : (2 : Int32) < (3 : Int32) := own_le0 hc
                                                                clear hc
                                                                show own_R p e below s _ _ _ T88 (mkF m 381 #[.val (.int p0), .val (.int p1), .val (.int p2), .val (.int p3), .val (.int p4), .val (.int (4 : Int32)), .val (.ref b27), .val (.ref b78), .val (.ref br), .val (.int (1 : Int32)), .val (.int (3 : Int32))] [])
                                                                refine own_iload X88 hx (hb hby at_381) rfl ?_
                                                                refine own_if X88 hx (hb hby at_383) (pc' := 401) (by decide) (by decide) (fun hc => ?_) (fun hc => ?_)
                                                                · have hc383 : (1 : Int32) = (0 : Int32) := own_eq1 hc
                                                                  exact absurd hc383 (by decide)
                                                                · have hc383 : ¬ (1 : Int32) = (0 : Int32) := own_eq0 hc
                                                                  clear hc
                                                                  show own_R p e below s _ _ _ T88 (mkF m 386 #[.val (.int p0), .val (.int p1), .val (.int p2), .val (.int p3), .val (.int p4), .val (.int (4 : Int32)), .val (.ref b27), .val (.ref b78), .val (.ref br), .val (.int (1 : Int32)), .val (.int (3 : Int32))] [])
                                                                  refine own_aload X88 hx (hb hby at_386) rfl rfl ?_
                                                                  refine own_iconst X88 hx (1 : Int32) (hb hby at_388) rfl ?_
                                                                  refine own_baload X88 hx hZ rfl Vr (v := .int x1) ⟨by decide, by decide⟩ rfl (hb hby at_389) ?_
                                                                  show own_R p e below s _ _ _ T88 (mkF m 390 #[.val (.int p0), .val (.int p1), .val (.int p2), .val (.int p3), .val (.int p4), .val (.int (4 : Int32)), .val (.ref b27), .val (.ref b78), .val (.ref br), .val (.int (1 : Int32)), .val (.int (3 : Int32))] [(.int x1)])
                                                                  refine own_aload X88 hx (hb hby at_390) rfl rfl ?_
                                                                  refine own_iconst X88 hx (1 : Int32) (hb hby at_392) rfl ?_
                                                                  refine own_baload X88 hx hZ rfl f92 (v := .int x1) ⟨by decide, by decide⟩ rfl (hb hby at_393) ?_
                                                                  show own_R p e below s _ _ _ T88 (mkF m 394 #[.val (.int p0), .val (.int p1), .val (.int p2), .val (.int p3), .val (.int p4), .val (.int (4 : Int32)), .val (.ref b27), .val (.ref b78), .val (.ref br), .val (.int (1 : Int32)), .val (.int (3 : Int32))] [(.int x1), (.int x1)])
                                                                  refine own_icmp X88 hx (hb hby at_394) (pc' := 401) (by decide) (by decide) (fun hc => ?_) (fun hc => ?_)
                                                                  · have hc394 : ¬ x1 = x1 := own_ne1 hc
                                                                    exact absurd rfl hc394
                                                                  · have hc394 : x1 = x1 := own_ne0 hc
                                                                    clear hc
                                                                    show own_R p e below s _ _ _ T88 (mkF m 397 #[.val (.int p0), .val (.int p1), .val (.int p2), .val (.int p3), .val (.int p4), .val (.int (4 : Int32)), .val (.ref b27), .val (.ref b78), .val (.ref br), .val (.int (1 : Int32)), .val (.int (3 : Int32))] [])
                                                                    refine own_iconst X88 hx (1 : Int32) (hb hby at_397) rfl ?_
                                                                    refine own_goto X88 hx (hb hby at_398) (pc' := 402) (by decide) (by decide) ?_
                                                                    show own_R p e below s _ _ _ T88 (mkF m 402 #[.val (.int p0), .val (.int p1), .val (.int p2), .val (.int p3), .val (.int p4), .val (.int (4 : Int32)), .val (.ref b27), .val (.ref b78), .val (.ref br), .val (.int (1 : Int32)), .val (.int (3 : Int32))] [(.int (1 : Int32))])
                                                                    refine own_istore X88 hx (hb hby at_402) (l' := #[.val (.int p0), .val (.int p1), .val (.int p2), .val (.int p3), .val (.int p4), .val (.int (4 : Int32)), .val (.ref b27), .val (.ref b78), .val (.ref br), .val (.int (1 : Int32)), .val (.int (3 : Int32))]) rfl ?_
                                                                    refine own_iload X88 hx (hb hby at_404) rfl ?_
                                                                    refine own_iconst X88 hx (3 : Int32) (hb hby at_406) rfl ?_
                                                                    refine own_icmp X88 hx (hb hby at_407) (pc' := 433) (by decide) (by decide) (fun hc => ?_) (fun hc => ?_)
                                                                    · have hc407 : ¬ (3 : Int32) < (3 : Int32) := own_le1 hc
                                                                      clear hc
                                                                      show own_R p e below s _ _ _ T88 (mkF m 433 #[.val (.int p0), .val (.int p1), .val (.int p2), .val (.int p3), .val (.int p4), .val (.int (4 : Int32)), .val (.ref b27), .val (.ref b78), .val (.ref br), .val (.int (1 : Int32)), .val (.int (3 : Int32))] [])
                                                                      refine own_iload X88 hx (hb hby at_433) rfl ?_
                                                                      refine own_if X88 hx (hb hby at_435) (pc' := 462) (by decide) (by decide) (fun hc => ?_) (fun hc => ?_)
                                                                      · have hc435 : (1 : Int32) = (0 : Int32) := own_eq1 hc
                                                                        exact absurd hc435 (by decide)
                                                                      · have hc435 : ¬ (1 : Int32) = (0 : Int32) := own_eq0 hc
                                                                        clear hc
                                                                        show own_R p e below s _ _ _ T88 (mkF m 438 #[.val (.int p0), .val (.int p1), .val (.int p2), .val (.int p3), .val (.int p4), .val (.int (4 : Int32)), .val (.ref b27), .val (.ref b78), .val (.ref br), .val (.int (1 : Int32)), .val (.int (3 : Int32))] [])
                                                                        refine own_aload X88 hx (hb hby at_438) rfl rfl ?_
                                                                        refine own_iload X88 hx (hb hby at_440) rfl ?_
                                                                        refine own_iconst X88 hx (1 : Int32) (hb hby at_442) rfl ?_
                                                                        refine own_isub X88 hx (hb hby at_443) ?_
                                                                        refine own_baload X88 hx hZ rfl Vr (v := .int ((x2 + (1 : Int32)).toInt8.toInt32)) ⟨by decide, by decide⟩ rfl (hb hby at_444) ?_
                                                                        show own_R p e below s _ _ _ T88 (mkF m 445 #[.val (.int p0), .val (.int p1), .val (.int p2), .val (.int p3), .val (.int p4), .val (.int (4 : Int32)), .val (.ref b27), .val (.ref b78), .val (.ref br), .val (.int (1 : Int32)), .val (.int (3 : Int32))] [(.int ((x2 + (1 : Int32)).toInt8.toInt32))])
                                                                        refine own_aload X88 hx (hb hby at_445) rfl rfl ?_
                                                                        refine own_iload X88 hx (hb hby at_447) rfl ?_
                                                                        refine own_iconst X88 hx (1 : Int32) (hb hby at_449) rfl ?_
                                                                        refine own_isub X88 hx (hb hby at_450) ?_
                                                                        refine own_baload X88 hx hZ rfl f92 (v := .int x2) ⟨by decide, by decide⟩ rfl (hb hby at_451) ?_
                                                                        show own_R p e below s _ _ _ T88 (mkF m 452 #[.val (.int p0), .val (.int p1), .val (.int p2), .val (.int p3), .val (.int p4), .val (.int (4 : Int32)), .val (.ref b27), .val (.ref b78), .val (.ref br), .val (.int (1 : Int32)), .val (.int (3 : Int32))] [(.int x2), (.int ((x2 + (1 : Int32)).toInt8.toInt32))])
                                                                        refine own_iconst X88 hx (1 : Int32) (hb hby at_452) rfl ?_
                                                                        refine own_iadd X88 hx (hb hby at_453) ?_
                                                                        refine own_i2b X88 hx (hb hby at_454) ?_
                                                                        refine own_icmp X88 hx (hb hby at_455) (pc' := 462) (by decide) (by decide) (fun hc => ?_) (fun hc => ?_)
                                                                        · have hc455 : ¬ ((x2 + (1 : Int32)).toInt8.toInt32) = ((x2 + (1 : Int32)).toInt8.toInt32) := own_ne1 hc
                                                                          exact absurd rfl hc455
                                                                        · have hc455 : ((x2 + (1 : Int32)).toInt8.toInt32) = ((x2 + (1 : Int32)).toInt8.toInt32) := own_ne0 hc
                                                                          clear hc
                                                                          show own_R p e below s _ _ _ T88 (mkF m 458 #[.val (.int p0), .val (.int p1), .val (.int p2), .val (.int p3), .val (.int p4), .val (.int (4 : Int32)), .val (.ref b27), .val (.ref b78), .val (.ref br), .val (.int (1 : Int32)), .val (.int (3 : Int32))] [])
                                                                          refine own_iconst X88 hx (1 : Int32) (hb hby at_458) rfl ?_
                                                                          refine own_goto X88 hx (hb hby at_459) (pc' := 463) (by decide) (by decide) ?_
                                                                          show own_R p e below s _ _ _ T88 (mkF m 463 #[.val (.int p0), .val (.int p1), .val (.int p2), .val (.int p3), .val (.int p4), .val (.int (4 : Int32)), .val (.ref b27), .val (.ref b78), .val (.ref br), .val (.int (1 : Int32)), .val (.int (3 : Int32))] [(.int (1 : Int32))])
                                                                          refine own_istore X88 hx (hb hby at_463) (l' := #[.val (.int p0), .val (.int p1), .val (.int p2), .val (.int p3), .val (.int p4), .val (.int (4 : Int32)), .val (.ref b27), .val (.ref b78), .val (.ref br), .val (.int (1 : Int32)), .val (.int (3 : Int32))]) rfl ?_
                                                                          refine own_iload X88 hx (hb hby at_465) rfl ?_
                                                                          refine own_retN X88 hx (t := .boolean) Bd.returns (by simp) hlk (hb hby at_467) ?_ (by decide) (by decide)
                                                                          exact ⟨rfl, N88⟩
                                                                    · have hc407 : (3 : Int32) < (3 : Int32) := own_le0 hc
                                                                      exact absurd hc407 (by decide)
                                                      · have hc341 : ¬ (3 : Int32) = (3 : Int32) := own_eq0 hc
                                                        exact absurd (by decide) hc341
                                                    · have hc312 : (3 : Int32) = (0 : Int32) := own_ne0 hc
                                                      exact absurd hc312 (by decide)
                                                  · have hc304 : ¬ x3 = (-1 : Int32) := own_eq0 hc
                                                    exact absurd y3 hc304
                                          refine own_icmp X88 hx (hb hby at_262) (pc' := 276) (by decide) (by decide) (fun hc => ?_) (fun hc => ?_)
                                          · have hc262 : ¬ (1 : Int32) < (4 : Int32) := own_le1 hc
                                            exact absurd (by decide) hc262
                                          · have hc262 : (1 : Int32) < (4 : Int32) := own_le0 hc
                                            clear hc
                                            show own_R p e below s _ _ _ T88 (mkF m 265 #[.val (.int p0), .val (.int p1), .val (.int p2), .val (.int p3), .val (.int p4), .val (.int (4 : Int32)), .val (.ref b27), .val (.ref b78), .val (.ref br), .val (.int (1 : Int32)), .val (.int kk)] [])
                                            refine own_aload X88 hx (hb hby at_265) rfl rfl ?_
                                            refine own_iconst X88 hx (1 : Int32) (hb hby at_267) rfl ?_
                                            refine own_baload X88 hx hZ rfl f92 (v := .int x1) ⟨by decide, by decide⟩ rfl (hb hby at_268) ?_
                                            show own_R p e below s _ _ _ T88 (mkF m 269 #[.val (.int p0), .val (.int p1), .val (.int p2), .val (.int p3), .val (.int p4), .val (.int (4 : Int32)), .val (.ref b27), .val (.ref b78), .val (.ref br), .val (.int (1 : Int32)), .val (.int kk)] [(.int x1)])
                                            refine own_iconst X88 hx (-1 : Int32) (hb hby at_269) rfl ?_
                                            refine own_icmp X88 hx (hb hby at_270) (pc' := 276) (by decide) (by decide) (fun hc => ?_) (fun hc => ?_)
                                            · have hc270 : x1 = (-1 : Int32) := own_eq1 hc
                                              clear hc
                                              show own_R p e below s _ _ _ T88 (mkF m 276 #[.val (.int p0), .val (.int p1), .val (.int p2), .val (.int p3), .val (.int p4), .val (.int (4 : Int32)), .val (.ref b27), .val (.ref b78), .val (.ref br), .val (.int (1 : Int32)), .val (.int kk)] [])
                                              exact Jk1 _
                                            · have hc270 : ¬ x1 = (-1 : Int32) := own_eq0 hc
                                              clear hc
                                              show own_R p e below s _ _ _ T88 (mkF m 273 #[.val (.int p0), .val (.int p1), .val (.int p2), .val (.int p3), .val (.int p4), .val (.int (4 : Int32)), .val (.ref b27), .val (.ref b78), .val (.ref br), .val (.int (1 : Int32)), .val (.int kk)] [])
                                              refine own_iconst X88 hx (2 : Int32) (hb hby at_273) rfl ?_
                                              refine own_istore X88 hx (hb hby at_274) (l' := #[.val (.int p0), .val (.int p1), .val (.int p2), .val (.int p3), .val (.int p4), .val (.int (4 : Int32)), .val (.ref b27), .val (.ref b78), .val (.ref br), .val (.int (1 : Int32)), .val (.int (2 : Int32))]) rfl ?_
                                              exact Jk1 _
                                        refine own_if X88 hx (hb hby at_245) (pc' := 259) (by decide) (by decide) (fun hc => ?_) (fun hc => ?_)
                                        · have hc245 : ¬ (0 : Int32) < (4 : Int32) := own_le1 hc
                                          exact absurd (by decide) hc245
                                        · have hc245 : (0 : Int32) < (4 : Int32) := own_le0 hc
                                          clear hc
                                          show own_R p e below s _ _ _ T88 (mkF m 248 #[.val (.int p0), .val (.int p1), .val (.int p2), .val (.int p3), .val (.int p4), .val (.int (4 : Int32)), .val (.ref b27), .val (.ref b78), .val (.ref br), .val (.int (1 : Int32)), .val (.int (0 : Int32))] [])
                                          refine own_aload X88 hx (hb hby at_248) rfl rfl ?_
                                          refine own_iconst X88 hx (0 : Int32) (hb hby at_250) rfl ?_
                                          refine own_baload X88 hx hZ rfl f92 (v := .int x0) ⟨by decide, by decide⟩ rfl (hb hby at_251) ?_
                                          show own_R p e below s _ _ _ T88 (mkF m 252 #[.val (.int p0), .val (.int p1), .val (.int p2), .val (.int p3), .val (.int p4), .val (.int (4 : Int32)), .val (.ref b27), .val (.ref b78), .val (.ref br), .val (.int (1 : Int32)), .val (.int (0 : Int32))] [(.int x0)])
                                          refine own_iconst X88 hx (-1 : Int32) (hb hby at_252) rfl ?_
                                          refine own_icmp X88 hx (hb hby at_253) (pc' := 259) (by decide) (by decide) (fun hc => ?_) (fun hc => ?_)
                                          · have hc253 : x0 = (-1 : Int32) := own_eq1 hc
                                            clear hc
                                            show own_R p e below s _ _ _ T88 (mkF m 259 #[.val (.int p0), .val (.int p1), .val (.int p2), .val (.int p3), .val (.int p4), .val (.int (4 : Int32)), .val (.ref b27), .val (.ref b78), .val (.ref br), .val (.int (1 : Int32)), .val (.int (0 : Int32))] [])
                                            exact Jk0 _
                                          · have hc253 : ¬ x0 = (-1 : Int32) := own_eq0 hc
                                            clear hc
                                            show own_R p e below s _ _ _ T88 (mkF m 256 #[.val (.int p0), .val (.int p1), .val (.int p2), .val (.int p3), .val (.int p4), .val (.int (4 : Int32)), .val (.ref b27), .val (.ref b78), .val (.ref br), .val (.int (1 : Int32)), .val (.int (0 : Int32))] [])
                                            refine own_iconst X88 hx (1 : Int32) (hb hby at_256) rfl ?_
                                            refine own_istore X88 hx (hb hby at_257) (l' := #[.val (.int p0), .val (.int p1), .val (.int p2), .val (.int p3), .val (.int p4), .val (.int (4 : Int32)), .val (.ref b27), .val (.ref b78), .val (.ref br), .val (.int (1 : Int32)), .val (.int (1 : Int32))]) rfl ?_
                                            exact Jk0 _
            ·
              show own_R p e below s _ _ _ T88 (mkF m 108 #[.val (.int p0), .val (.int p1), .val (.int p2), .val (.int p3), .val (.int p4), .val (.int (4 : Int32)), .val (.ref b27), .val (.ref b78), .unset, .unset, .unset] [(.ref br)])
              refine own_astore X88 hx (hb hby at_108) rfl (l' := #[.val (.int p0), .val (.int p1), .val (.int p2), .val (.int p3), .val (.int p4), .val (.int (4 : Int32)), .val (.ref b27), .val (.ref b78), .val (.ref br), .unset, .unset]) rfl ?_
              refine own_aload X88 hx (hb hby at_110) rfl rfl ?_
              have f93 := (V_b78_86.keep Kc88 nin0)
              refine own_len X88 hx hZ rfl f93 (hb hby at_112) ?_
              show own_R p e below s _ _ _ T88 (mkF m 113 #[.val (.int p0), .val (.int p1), .val (.int p2), .val (.int p3), .val (.int p4), .val (.int (4 : Int32)), .val (.ref b27), .val (.ref b78), .val (.ref br), .unset, .unset] [(.int (4 : Int32))])
              refine own_iload X88 hx (hb hby at_113) rfl ?_
              refine own_icmp X88 hx (hb hby at_115) (pc' := 122) (by decide) (by decide) (fun hc => ?_) (fun hc => ?_)
              · have hc115 : ¬ (4 : Int32) = (4 : Int32) := own_ne1 hc
                exact absurd (by decide) hc115
              · have hc115 : (4 : Int32) = (4 : Int32) := own_ne0 hc
                clear hc
                show own_R p e below s _ _ _ T88 (mkF m 118 #[.val (.int p0), .val (.int p1), .val (.int p2), .val (.int p3), .val (.int p4), .val (.int (4 : Int32)), .val (.ref b27), .val (.ref b78), .val (.ref br), .unset, .unset] [])
                refine own_iconst X88 hx (1 : Int32) (hb hby at_118) rfl ?_
                refine own_goto X88 hx (hb hby at_119) (pc' := 123) (by decide) (by decide) ?_
                show own_R p e below s _ _ _ T88 (mkF m 123 #[.val (.int p0), .val (.int p1), .val (.int p2), .val (.int p3), .val (.int p4), .val (.int (4 : Int32)), .val (.ref b27), .val (.ref b78), .val (.ref br), .unset, .unset] [(.int (1 : Int32))])
                refine own_istore X88 hx (hb hby at_123) (l' := #[.val (.int p0), .val (.int p1), .val (.int p2), .val (.int p3), .val (.int p4), .val (.int (4 : Int32)), .val (.ref b27), .val (.ref b78), .val (.ref br), .val (.int (1 : Int32)), .unset]) rfl ?_
                refine own_iload X88 hx (hb hby at_125) rfl ?_
                refine own_if X88 hx (hb hby at_127) (pc' := 153) (by decide) (by decide) (fun hc => ?_) (fun hc => ?_)
                · have hc127 : ¬ (0 : Int32) < (4 : Int32) := own_le1 hc
                  exact absurd (by decide) hc127
                · have hc127 : (0 : Int32) < (4 : Int32) := own_le0 hc
                  clear hc
                  show own_R p e below s _ _ _ T88 (mkF m 130 #[.val (.int p0), .val (.int p1), .val (.int p2), .val (.int p3), .val (.int p4), .val (.int (4 : Int32)), .val (.ref b27), .val (.ref b78), .val (.ref br), .val (.int (1 : Int32)), .unset] [])
                  refine own_iload X88 hx (hb hby at_130) rfl ?_
                  refine own_if X88 hx (hb hby at_132) (pc' := 150) (by decide) (by decide) (fun hc => ?_) (fun hc => ?_)
                  · have hc132 : (1 : Int32) = (0 : Int32) := own_eq1 hc
                    exact absurd hc132 (by decide)
                  · have hc132 : ¬ (1 : Int32) = (0 : Int32) := own_eq0 hc
                    clear hc
                    show own_R p e below s _ _ _ T88 (mkF m 135 #[.val (.int p0), .val (.int p1), .val (.int p2), .val (.int p3), .val (.int p4), .val (.int (4 : Int32)), .val (.ref b27), .val (.ref b78), .val (.ref br), .val (.int (1 : Int32)), .unset] [])
                    refine own_aload X88 hx (hb hby at_135) rfl rfl ?_
                    refine own_iconst X88 hx (0 : Int32) (hb hby at_137) rfl ?_
                    refine own_baload X88 hx hZ rfl f93 (v := .int x0) ⟨by decide, by decide⟩ rfl (hb hby at_138) ?_
                    show own_R p e below s _ _ _ T88 (mkF m 139 #[.val (.int p0), .val (.int p1), .val (.int p2), .val (.int p3), .val (.int p4), .val (.int (4 : Int32)), .val (.ref b27), .val (.ref b78), .val (.ref br), .val (.int (1 : Int32)), .unset] [(.int x0)])
                    refine own_aload X88 hx (hb hby at_139) rfl rfl ?_
                    refine own_iconst X88 hx (0 : Int32) (hb hby at_141) rfl ?_
                    have f94 := ((f85.other W86 ne_b27_b78).keep Kc88 nin0)
                    refine own_baload X88 hx hZ rfl f94 (v := .int x0) ⟨by decide, by decide⟩ rfl (hb hby at_142) ?_
                    show own_R p e below s _ _ _ T88 (mkF m 143 #[.val (.int p0), .val (.int p1), .val (.int p2), .val (.int p3), .val (.int p4), .val (.int (4 : Int32)), .val (.ref b27), .val (.ref b78), .val (.ref br), .val (.int (1 : Int32)), .unset] [(.int x0), (.int x0)])
                    refine own_icmp X88 hx (hb hby at_143) (pc' := 150) (by decide) (by decide) (fun hc => ?_) (fun hc => ?_)
                    · have hc143 : ¬ x0 = x0 := own_ne1 hc
                      exact absurd rfl hc143
                    · have hc143 : x0 = x0 := own_ne0 hc
                      clear hc
                      show own_R p e below s _ _ _ T88 (mkF m 146 #[.val (.int p0), .val (.int p1), .val (.int p2), .val (.int p3), .val (.int p4), .val (.int (4 : Int32)), .val (.ref b27), .val (.ref b78), .val (.ref br), .val (.int (1 : Int32)), .unset] [])
                      refine own_iconst X88 hx (1 : Int32) (hb hby at_146) rfl ?_
                      refine own_goto X88 hx (hb hby at_147) (pc' := 151) (by decide) (by decide) ?_
                      show own_R p e below s _ _ _ T88 (mkF m 151 #[.val (.int p0), .val (.int p1), .val (.int p2), .val (.int p3), .val (.int p4), .val (.int (4 : Int32)), .val (.ref b27), .val (.ref b78), .val (.ref br), .val (.int (1 : Int32)), .unset] [(.int (1 : Int32))])
                      refine own_istore X88 hx (hb hby at_151) (l' := #[.val (.int p0), .val (.int p1), .val (.int p2), .val (.int p3), .val (.int p4), .val (.int (4 : Int32)), .val (.ref b27), .val (.ref b78), .val (.ref br), .val (.int (1 : Int32)), .unset]) rfl ?_
                      refine own_iload X88 hx (hb hby at_153) rfl ?_
                      refine own_iconst X88 hx (1 : Int32) (hb hby at_155) rfl ?_
                      refine own_icmp X88 hx (hb hby at_156) (pc' := 182) (by decide) (by decide) (fun hc => ?_) (fun hc => ?_)
                      · have hc156 : ¬ (1 : Int32) < (4 : Int32) := own_le1 hc
                        exact absurd (by decide) hc156
                      · have hc156 : (1 : Int32) < (4 : Int32) := own_le0 hc
                        clear hc
                        show own_R p e below s _ _ _ T88 (mkF m 159 #[.val (.int p0), .val (.int p1), .val (.int p2), .val (.int p3), .val (.int p4), .val (.int (4 : Int32)), .val (.ref b27), .val (.ref b78), .val (.ref br), .val (.int (1 : Int32)), .unset] [])
                        refine own_iload X88 hx (hb hby at_159) rfl ?_
                        refine own_if X88 hx (hb hby at_161) (pc' := 179) (by decide) (by decide) (fun hc => ?_) (fun hc => ?_)
                        · have hc161 : (1 : Int32) = (0 : Int32) := own_eq1 hc
                          exact absurd hc161 (by decide)
                        · have hc161 : ¬ (1 : Int32) = (0 : Int32) := own_eq0 hc
                          clear hc
                          show own_R p e below s _ _ _ T88 (mkF m 164 #[.val (.int p0), .val (.int p1), .val (.int p2), .val (.int p3), .val (.int p4), .val (.int (4 : Int32)), .val (.ref b27), .val (.ref b78), .val (.ref br), .val (.int (1 : Int32)), .unset] [])
                          refine own_aload X88 hx (hb hby at_164) rfl rfl ?_
                          refine own_iconst X88 hx (1 : Int32) (hb hby at_166) rfl ?_
                          refine own_baload X88 hx hZ rfl f93 (v := .int x1) ⟨by decide, by decide⟩ rfl (hb hby at_167) ?_
                          show own_R p e below s _ _ _ T88 (mkF m 168 #[.val (.int p0), .val (.int p1), .val (.int p2), .val (.int p3), .val (.int p4), .val (.int (4 : Int32)), .val (.ref b27), .val (.ref b78), .val (.ref br), .val (.int (1 : Int32)), .unset] [(.int x1)])
                          refine own_aload X88 hx (hb hby at_168) rfl rfl ?_
                          refine own_iconst X88 hx (1 : Int32) (hb hby at_170) rfl ?_
                          refine own_baload X88 hx hZ rfl f94 (v := .int x1) ⟨by decide, by decide⟩ rfl (hb hby at_171) ?_
                          show own_R p e below s _ _ _ T88 (mkF m 172 #[.val (.int p0), .val (.int p1), .val (.int p2), .val (.int p3), .val (.int p4), .val (.int (4 : Int32)), .val (.ref b27), .val (.ref b78), .val (.ref br), .val (.int (1 : Int32)), .unset] [(.int x1), (.int x1)])
                          refine own_icmp X88 hx (hb hby at_172) (pc' := 179) (by decide) (by decide) (fun hc => ?_) (fun hc => ?_)
                          · have hc172 : ¬ x1 = x1 := own_ne1 hc
                            exact absurd rfl hc172
                          · have hc172 : x1 = x1 := own_ne0 hc
                            clear hc
                            show own_R p e below s _ _ _ T88 (mkF m 175 #[.val (.int p0), .val (.int p1), .val (.int p2), .val (.int p3), .val (.int p4), .val (.int (4 : Int32)), .val (.ref b27), .val (.ref b78), .val (.ref br), .val (.int (1 : Int32)), .unset] [])
                            refine own_iconst X88 hx (1 : Int32) (hb hby at_175) rfl ?_
                            refine own_goto X88 hx (hb hby at_176) (pc' := 180) (by decide) (by decide) ?_
                            show own_R p e below s _ _ _ T88 (mkF m 180 #[.val (.int p0), .val (.int p1), .val (.int p2), .val (.int p3), .val (.int p4), .val (.int (4 : Int32)), .val (.ref b27), .val (.ref b78), .val (.ref br), .val (.int (1 : Int32)), .unset] [(.int (1 : Int32))])
                            refine own_istore X88 hx (hb hby at_180) (l' := #[.val (.int p0), .val (.int p1), .val (.int p2), .val (.int p3), .val (.int p4), .val (.int (4 : Int32)), .val (.ref b27), .val (.ref b78), .val (.ref br), .val (.int (1 : Int32)), .unset]) rfl ?_
                            refine own_iload X88 hx (hb hby at_182) rfl ?_
                            refine own_iconst X88 hx (2 : Int32) (hb hby at_184) rfl ?_
                            refine own_icmp X88 hx (hb hby at_185) (pc' := 211) (by decide) (by decide) (fun hc => ?_) (fun hc => ?_)
                            · have hc185 : ¬ (2 : Int32) < (4 : Int32) := own_le1 hc
                              exact absurd (by decide) hc185
                            · have hc185 : (2 : Int32) < (4 : Int32) := own_le0 hc
                              clear hc
                              show own_R p e below s _ _ _ T88 (mkF m 188 #[.val (.int p0), .val (.int p1), .val (.int p2), .val (.int p3), .val (.int p4), .val (.int (4 : Int32)), .val (.ref b27), .val (.ref b78), .val (.ref br), .val (.int (1 : Int32)), .unset] [])
                              refine own_iload X88 hx (hb hby at_188) rfl ?_
                              refine own_if X88 hx (hb hby at_190) (pc' := 208) (by decide) (by decide) (fun hc => ?_) (fun hc => ?_)
                              · have hc190 : (1 : Int32) = (0 : Int32) := own_eq1 hc
                                exact absurd hc190 (by decide)
                              · have hc190 : ¬ (1 : Int32) = (0 : Int32) := own_eq0 hc
                                clear hc
                                show own_R p e below s _ _ _ T88 (mkF m 193 #[.val (.int p0), .val (.int p1), .val (.int p2), .val (.int p3), .val (.int p4), .val (.int (4 : Int32)), .val (.ref b27), .val (.ref b78), .val (.ref br), .val (.int (1 : Int32)), .unset] [])
                                refine own_aload X88 hx (hb hby at_193) rfl rfl ?_
                                refine own_iconst X88 hx (2 : Int32) (hb hby at_195) rfl ?_
                                refine own_baload X88 hx hZ rfl f93 (v := .int x2) ⟨by decide, by decide⟩ rfl (hb hby at_196) ?_
                                show own_R p e below s _ _ _ T88 (mkF m 197 #[.val (.int p0), .val (.int p1), .val (.int p2), .val (.int p3), .val (.int p4), .val (.int (4 : Int32)), .val (.ref b27), .val (.ref b78), .val (.ref br), .val (.int (1 : Int32)), .unset] [(.int x2)])
                                refine own_aload X88 hx (hb hby at_197) rfl rfl ?_
                                refine own_iconst X88 hx (2 : Int32) (hb hby at_199) rfl ?_
                                refine own_baload X88 hx hZ rfl f94 (v := .int x2) ⟨by decide, by decide⟩ rfl (hb hby at_200) ?_
                                show own_R p e below s _ _ _ T88 (mkF m 201 #[.val (.int p0), .val (.int p1), .val (.int p2), .val (.int p3), .val (.int p4), .val (.int (4 : Int32)), .val (.ref b27), .val (.ref b78), .val (.ref br), .val (.int (1 : Int32)), .unset] [(.int x2), (.int x2)])
                                refine own_icmp X88 hx (hb hby at_201) (pc' := 208) (by decide) (by decide) (fun hc => ?_) (fun hc => ?_)
                                · have hc201 : ¬ x2 = x2 := own_ne1 hc
                                  exact absurd rfl hc201
                                · have hc201 : x2 = x2 := own_ne0 hc
                                  clear hc
                                  show own_R p e below s _ _ _ T88 (mkF m 204 #[.val (.int p0), .val (.int p1), .val (.int p2), .val (.int p3), .val (.int p4), .val (.int (4 : Int32)), .val (.ref b27), .val (.ref b78), .val (.ref br), .val (.int (1 : Int32)), .unset] [])
                                  refine own_iconst X88 hx (1 : Int32) (hb hby at_204) rfl ?_
                                  refine own_goto X88 hx (hb hby at_205) (pc' := 209) (by decide) (by decide) ?_
                                  show own_R p e below s _ _ _ T88 (mkF m 209 #[.val (.int p0), .val (.int p1), .val (.int p2), .val (.int p3), .val (.int p4), .val (.int (4 : Int32)), .val (.ref b27), .val (.ref b78), .val (.ref br), .val (.int (1 : Int32)), .unset] [(.int (1 : Int32))])
                                  refine own_istore X88 hx (hb hby at_209) (l' := #[.val (.int p0), .val (.int p1), .val (.int p2), .val (.int p3), .val (.int p4), .val (.int (4 : Int32)), .val (.ref b27), .val (.ref b78), .val (.ref br), .val (.int (1 : Int32)), .unset]) rfl ?_
                                  refine own_iload X88 hx (hb hby at_211) rfl ?_
                                  refine own_iconst X88 hx (3 : Int32) (hb hby at_213) rfl ?_
                                  refine own_icmp X88 hx (hb hby at_214) (pc' := 240) (by decide) (by decide) (fun hc => ?_) (fun hc => ?_)
                                  · have hc214 : ¬ (3 : Int32) < (4 : Int32) := own_le1 hc
                                    exact absurd (by decide) hc214
                                  · have hc214 : (3 : Int32) < (4 : Int32) := own_le0 hc
                                    clear hc
                                    show own_R p e below s _ _ _ T88 (mkF m 217 #[.val (.int p0), .val (.int p1), .val (.int p2), .val (.int p3), .val (.int p4), .val (.int (4 : Int32)), .val (.ref b27), .val (.ref b78), .val (.ref br), .val (.int (1 : Int32)), .unset] [])
                                    refine own_iload X88 hx (hb hby at_217) rfl ?_
                                    refine own_if X88 hx (hb hby at_219) (pc' := 237) (by decide) (by decide) (fun hc => ?_) (fun hc => ?_)
                                    · have hc219 : (1 : Int32) = (0 : Int32) := own_eq1 hc
                                      exact absurd hc219 (by decide)
                                    · have hc219 : ¬ (1 : Int32) = (0 : Int32) := own_eq0 hc
                                      clear hc
                                      show own_R p e below s _ _ _ T88 (mkF m 222 #[.val (.int p0), .val (.int p1), .val (.int p2), .val (.int p3), .val (.int p4), .val (.int (4 : Int32)), .val (.ref b27), .val (.ref b78), .val (.ref br), .val (.int (1 : Int32)), .unset] [])
                                      refine own_aload X88 hx (hb hby at_222) rfl rfl ?_
                                      refine own_iconst X88 hx (3 : Int32) (hb hby at_224) rfl ?_
                                      refine own_baload X88 hx hZ rfl f93 (v := .int x3) ⟨by decide, by decide⟩ rfl (hb hby at_225) ?_
                                      show own_R p e below s _ _ _ T88 (mkF m 226 #[.val (.int p0), .val (.int p1), .val (.int p2), .val (.int p3), .val (.int p4), .val (.int (4 : Int32)), .val (.ref b27), .val (.ref b78), .val (.ref br), .val (.int (1 : Int32)), .unset] [(.int x3)])
                                      refine own_aload X88 hx (hb hby at_226) rfl rfl ?_
                                      refine own_iconst X88 hx (3 : Int32) (hb hby at_228) rfl ?_
                                      refine own_baload X88 hx hZ rfl f94 (v := .int x3) ⟨by decide, by decide⟩ rfl (hb hby at_229) ?_
                                      show own_R p e below s _ _ _ T88 (mkF m 230 #[.val (.int p0), .val (.int p1), .val (.int p2), .val (.int p3), .val (.int p4), .val (.int (4 : Int32)), .val (.ref b27), .val (.ref b78), .val (.ref br), .val (.int (1 : Int32)), .unset] [(.int x3), (.int x3)])
                                      refine own_icmp X88 hx (hb hby at_230) (pc' := 237) (by decide) (by decide) (fun hc => ?_) (fun hc => ?_)
                                      · have hc230 : ¬ x3 = x3 := own_ne1 hc
                                        exact absurd rfl hc230
                                      · have hc230 : x3 = x3 := own_ne0 hc
                                        clear hc
                                        show own_R p e below s _ _ _ T88 (mkF m 233 #[.val (.int p0), .val (.int p1), .val (.int p2), .val (.int p3), .val (.int p4), .val (.int (4 : Int32)), .val (.ref b27), .val (.ref b78), .val (.ref br), .val (.int (1 : Int32)), .unset] [])
                                        refine own_iconst X88 hx (1 : Int32) (hb hby at_233) rfl ?_
                                        refine own_goto X88 hx (hb hby at_234) (pc' := 238) (by decide) (by decide) ?_
                                        show own_R p e below s _ _ _ T88 (mkF m 238 #[.val (.int p0), .val (.int p1), .val (.int p2), .val (.int p3), .val (.int p4), .val (.int (4 : Int32)), .val (.ref b27), .val (.ref b78), .val (.ref br), .val (.int (1 : Int32)), .unset] [(.int (1 : Int32))])
                                        refine own_istore X88 hx (hb hby at_238) (l' := #[.val (.int p0), .val (.int p1), .val (.int p2), .val (.int p3), .val (.int p4), .val (.int (4 : Int32)), .val (.ref b27), .val (.ref b78), .val (.ref br), .val (.int (1 : Int32)), .unset]) rfl ?_
                                        refine own_iconst X88 hx (0 : Int32) (hb hby at_240) rfl ?_
                                        refine own_istore X88 hx (hb hby at_241) (l' := #[.val (.int p0), .val (.int p1), .val (.int p2), .val (.int p3), .val (.int p4), .val (.int (4 : Int32)), .val (.ref b27), .val (.ref b78), .val (.ref br), .val (.int (1 : Int32)), .val (.int (0 : Int32))]) rfl ?_
                                        refine own_iload X88 hx (hb hby at_243) rfl ?_
                                        have Jk0 : ∀ (kk : Int32), own_R p e below s (Q0 Z p0 p1 p2 p3 p4 h0 n0) room_1.cells room_1.slots T88 (mkF m 259 #[.val (.int p0), .val (.int p1), .val (.int p2), .val (.int p3), .val (.int p4), .val (.int (4 : Int32)), .val (.ref b27), .val (.ref b78), .val (.ref br), .val (.int (1 : Int32)), .val (.int kk)] []) := by
                                          intro kk
                                          refine own_iload X88 hx (hb hby at_259) rfl ?_
                                          refine own_iconst X88 hx (1 : Int32) (hb hby at_261) rfl ?_
                                          refine own_icmp X88 hx (hb hby at_262) (pc' := 276) (by decide) (by decide) (fun hc => ?_) (fun hc => ?_)
                                          · have hc262 : ¬ (1 : Int32) < (4 : Int32) := own_le1 hc
                                            exact absurd (by decide) hc262
                                          · have hc262 : (1 : Int32) < (4 : Int32) := own_le0 hc
                                            clear hc
                                            show own_R p e below s _ _ _ T88 (mkF m 265 #[.val (.int p0), .val (.int p1), .val (.int p2), .val (.int p3), .val (.int p4), .val (.int (4 : Int32)), .val (.ref b27), .val (.ref b78), .val (.ref br), .val (.int (1 : Int32)), .val (.int kk)] [])
                                            refine own_aload X88 hx (hb hby at_265) rfl rfl ?_
                                            refine own_iconst X88 hx (1 : Int32) (hb hby at_267) rfl ?_
                                            refine own_baload X88 hx hZ rfl f94 (v := .int x1) ⟨by decide, by decide⟩ rfl (hb hby at_268) ?_
                                            show own_R p e below s _ _ _ T88 (mkF m 269 #[.val (.int p0), .val (.int p1), .val (.int p2), .val (.int p3), .val (.int p4), .val (.int (4 : Int32)), .val (.ref b27), .val (.ref b78), .val (.ref br), .val (.int (1 : Int32)), .val (.int kk)] [(.int x1)])
                                            refine own_iconst X88 hx (-1 : Int32) (hb hby at_269) rfl ?_
                                            refine own_icmp X88 hx (hb hby at_270) (pc' := 276) (by decide) (by decide) (fun hc => ?_) (fun hc => ?_)
                                            · have hc270 : x1 = (-1 : Int32) := own_eq1 hc
                                              exact absurd hc270 y1
                                            · have hc270 : ¬ x1 = (-1 : Int32) := own_eq0 hc
                                              clear hc
                                              show own_R p e below s _ _ _ T88 (mkF m 273 #[.val (.int p0), .val (.int p1), .val (.int p2), .val (.int p3), .val (.int p4), .val (.int (4 : Int32)), .val (.ref b27), .val (.ref b78), .val (.ref br), .val (.int (1 : Int32)), .val (.int kk)] [])
                                              refine own_iconst X88 hx (2 : Int32) (hb hby at_273) rfl ?_
                                              refine own_istore X88 hx (hb hby at_274) (l' := #[.val (.int p0), .val (.int p1), .val (.int p2), .val (.int p3), .val (.int p4), .val (.int (4 : Int32)), .val (.ref b27), .val (.ref b78), .val (.ref br), .val (.int (1 : Int32)), .val (.int (2 : Int32))]) rfl ?_
                                              refine own_iload X88 hx (hb hby at_276) rfl ?_
                                              refine own_iconst X88 hx (2 : Int32) (hb hby at_278) rfl ?_
                                              refine own_icmp X88 hx (hb hby at_279) (pc' := 293) (by decide) (by decide) (fun hc => ?_) (fun hc => ?_)
                                              · have hc279 : ¬ (2 : Int32) < (4 : Int32) := own_le1 hc
                                                exact absurd (by decide) hc279
                                              · have hc279 : (2 : Int32) < (4 : Int32) := own_le0 hc
                                                clear hc
                                                show own_R p e below s _ _ _ T88 (mkF m 282 #[.val (.int p0), .val (.int p1), .val (.int p2), .val (.int p3), .val (.int p4), .val (.int (4 : Int32)), .val (.ref b27), .val (.ref b78), .val (.ref br), .val (.int (1 : Int32)), .val (.int (2 : Int32))] [])
                                                refine own_aload X88 hx (hb hby at_282) rfl rfl ?_
                                                refine own_iconst X88 hx (2 : Int32) (hb hby at_284) rfl ?_
                                                refine own_baload X88 hx hZ rfl f94 (v := .int x2) ⟨by decide, by decide⟩ rfl (hb hby at_285) ?_
                                                show own_R p e below s _ _ _ T88 (mkF m 286 #[.val (.int p0), .val (.int p1), .val (.int p2), .val (.int p3), .val (.int p4), .val (.int (4 : Int32)), .val (.ref b27), .val (.ref b78), .val (.ref br), .val (.int (1 : Int32)), .val (.int (2 : Int32))] [(.int x2)])
                                                refine own_iconst X88 hx (-1 : Int32) (hb hby at_286) rfl ?_
                                                refine own_icmp X88 hx (hb hby at_287) (pc' := 293) (by decide) (by decide) (fun hc => ?_) (fun hc => ?_)
                                                · have hc287 : x2 = (-1 : Int32) := own_eq1 hc
                                                  clear hc
                                                  show own_R p e below s _ _ _ T88 (mkF m 293 #[.val (.int p0), .val (.int p1), .val (.int p2), .val (.int p3), .val (.int p4), .val (.int (4 : Int32)), .val (.ref b27), .val (.ref b78), .val (.ref br), .val (.int (1 : Int32)), .val (.int (2 : Int32))] [])
                                                  refine own_iload X88 hx (hb hby at_293) rfl ?_
                                                  refine own_iconst X88 hx (3 : Int32) (hb hby at_295) rfl ?_
                                                  refine own_icmp X88 hx (hb hby at_296) (pc' := 310) (by decide) (by decide) (fun hc => ?_) (fun hc => ?_)
                                                  · have hc296 : ¬ (3 : Int32) < (4 : Int32) := own_le1 hc
                                                    exact absurd (by decide) hc296
                                                  · have hc296 : (3 : Int32) < (4 : Int32) := own_le0 hc
                                                    clear hc
                                                    show own_R p e below s _ _ _ T88 (mkF m 299 #[.val (.int p0), .val (.int p1), .val (.int p2), .val (.int p3), .val (.int p4), .val (.int (4 : Int32)), .val (.ref b27), .val (.ref b78), .val (.ref br), .val (.int (1 : Int32)), .val (.int (2 : Int32))] [])
                                                    refine own_aload X88 hx (hb hby at_299) rfl rfl ?_
                                                    refine own_iconst X88 hx (3 : Int32) (hb hby at_301) rfl ?_
                                                    refine own_baload X88 hx hZ rfl f94 (v := .int x3) ⟨by decide, by decide⟩ rfl (hb hby at_302) ?_
                                                    show own_R p e below s _ _ _ T88 (mkF m 303 #[.val (.int p0), .val (.int p1), .val (.int p2), .val (.int p3), .val (.int p4), .val (.int (4 : Int32)), .val (.ref b27), .val (.ref b78), .val (.ref br), .val (.int (1 : Int32)), .val (.int (2 : Int32))] [(.int x3)])
                                                    refine own_iconst X88 hx (-1 : Int32) (hb hby at_303) rfl ?_
                                                    refine own_icmp X88 hx (hb hby at_304) (pc' := 310) (by decide) (by decide) (fun hc => ?_) (fun hc => ?_)
                                                    · have hc304 : x3 = (-1 : Int32) := own_eq1 hc
                                                      clear hc
                                                      show own_R p e below s _ _ _ T88 (mkF m 310 #[.val (.int p0), .val (.int p1), .val (.int p2), .val (.int p3), .val (.int p4), .val (.int (4 : Int32)), .val (.ref b27), .val (.ref b78), .val (.ref br), .val (.int (1 : Int32)), .val (.int (2 : Int32))] [])
                                                      refine own_iload X88 hx (hb hby at_310) rfl ?_
                                                      refine own_if X88 hx (hb hby at_312) (pc' := 331) (by decide) (by decide) (fun hc => ?_) (fun hc => ?_)
                                                      · have hc312 : ¬ (2 : Int32) = (0 : Int32) := own_ne1 hc
                                                        clear hc
                                                        show own_R p e below s _ _ _ T88 (mkF m 331 #[.val (.int p0), .val (.int p1), .val (.int p2), .val (.int p3), .val (.int p4), .val (.int (4 : Int32)), .val (.ref b27), .val (.ref b78), .val (.ref br), .val (.int (1 : Int32)), .val (.int (2 : Int32))] [])
                                                        refine own_aload X88 hx (hb hby at_331) rfl rfl ?_
                                                        refine own_ifnullN X88 hx (hb hby at_333) ?_
                                                        show own_R p e below s _ _ _ T88 (mkF m 336 #[.val (.int p0), .val (.int p1), .val (.int p2), .val (.int p3), .val (.int p4), .val (.int (4 : Int32)), .val (.ref b27), .val (.ref b78), .val (.ref br), .val (.int (1 : Int32)), .val (.int (2 : Int32))] [])
                                                        refine own_aload X88 hx (hb hby at_336) rfl rfl ?_
                                                        refine own_len X88 hx hZ rfl Vr (hb hby at_338) ?_
                                                        show own_R p e below s _ _ _ T88 (mkF m 339 #[.val (.int p0), .val (.int p1), .val (.int p2), .val (.int p3), .val (.int p4), .val (.int (4 : Int32)), .val (.ref b27), .val (.ref b78), .val (.ref br), .val (.int (1 : Int32)), .val (.int (2 : Int32))] [(.int (2 : Int32))])
                                                        refine own_iload X88 hx (hb hby at_339) rfl ?_
                                                        refine own_icmp X88 hx (hb hby at_341) (pc' := 346) (by decide) (by decide) (fun hc => ?_) (fun hc => ?_)
                                                        · have hc341 : (2 : Int32) = (2 : Int32) := own_eq1 hc
                                                          clear hc
                                                          show own_R p e below s _ _ _ T88 (mkF m 346 #[.val (.int p0), .val (.int p1), .val (.int p2), .val (.int p3), .val (.int p4), .val (.int (4 : Int32)), .val (.ref b27), .val (.ref b78), .val (.ref br), .val (.int (1 : Int32)), .val (.int (2 : Int32))] [])
                                                          refine own_iload X88 hx (hb hby at_346) rfl ?_
                                                          refine own_iconst X88 hx (1 : Int32) (hb hby at_348) rfl ?_
                                                          refine own_icmp X88 hx (hb hby at_349) (pc' := 375) (by decide) (by decide) (fun hc => ?_) (fun hc => ?_)
                                                          · have hc349 : ¬ (1 : Int32) < (2 : Int32) := own_le1 hc
                                                            exact absurd (by decide) hc349
                                                          · have hc349 : (1 : Int32) < (2 : Int32) := own_le0 hc
                                                            clear hc
                                                            show own_R p e below s _ _ _ T88 (mkF m 352 #[.val (.int p0), .val (.int p1), .val (.int p2), .val (.int p3), .val (.int p4), .val (.int (4 : Int32)), .val (.ref b27), .val (.ref b78), .val (.ref br), .val (.int (1 : Int32)), .val (.int (2 : Int32))] [])
                                                            refine own_iload X88 hx (hb hby at_352) rfl ?_
                                                            refine own_if X88 hx (hb hby at_354) (pc' := 372) (by decide) (by decide) (fun hc => ?_) (fun hc => ?_)
                                                            · have hc354 : (1 : Int32) = (0 : Int32) := own_eq1 hc
                                                              exact absurd hc354 (by decide)
                                                            · have hc354 : ¬ (1 : Int32) = (0 : Int32) := own_eq0 hc
                                                              clear hc
                                                              show own_R p e below s _ _ _ T88 (mkF m 357 #[.val (.int p0), .val (.int p1), .val (.int p2), .val (.int p3), .val (.int p4), .val (.int (4 : Int32)), .val (.ref b27), .val (.ref b78), .val (.ref br), .val (.int (1 : Int32)), .val (.int (2 : Int32))] [])
                                                              refine own_aload X88 hx (hb hby at_357) rfl rfl ?_
                                                              refine own_iconst X88 hx (0 : Int32) (hb hby at_359) rfl ?_
                                                              refine own_baload X88 hx hZ rfl Vr (v := .int x0) ⟨by decide, by decide⟩ rfl (hb hby at_360) ?_
                                                              show own_R p e below s _ _ _ T88 (mkF m 361 #[.val (.int p0), .val (.int p1), .val (.int p2), .val (.int p3), .val (.int p4), .val (.int (4 : Int32)), .val (.ref b27), .val (.ref b78), .val (.ref br), .val (.int (1 : Int32)), .val (.int (2 : Int32))] [(.int x0)])
                                                              refine own_aload X88 hx (hb hby at_361) rfl rfl ?_
                                                              refine own_iconst X88 hx (0 : Int32) (hb hby at_363) rfl ?_
                                                              refine own_baload X88 hx hZ rfl f94 (v := .int x0) ⟨by decide, by decide⟩ rfl (hb hby at_364) ?_
                                                              show own_R p e below s _ _ _ T88 (mkF m 365 #[.val (.int p0), .val (.int p1), .val (.int p2), .val (.int p3), .val (.int p4), .val (.int (4 : Int32)), .val (.ref b27), .val (.ref b78), .val (.ref br), .val (.int (1 : Int32)), .val (.int (2 : Int32))] [(.int x0), (.int x0)])
                                                              refine own_icmp X88 hx (hb hby at_365) (pc' := 372) (by decide) (by decide) (fun hc => ?_) (fun hc => ?_)
                                                              · have hc365 : ¬ x0 = x0 := own_ne1 hc
                                                                exact absurd rfl hc365
                                                              · have hc365 : x0 = x0 := own_ne0 hc
                                                                clear hc
                                                                show own_R p e below s _ _ _ T88 (mkF m 368 #[.val (.int p0), .val (.int p1), .val (.int p2), .val (.int p3), .val (.int p4), .val (.int (4 : Int32)), .val (.ref b27), .val (.ref b78), .val (.ref br), .val (.int (1 : Int32)), .val (.int (2 : Int32))] [])
                                                                refine own_iconst X88 hx (1 : Int32) (hb hby at_368) rfl ?_
                                                                refine own_goto X88 hx (hb hby at_369) (pc' := 373) (by decide) (by decide) ?_
                                                                show own_R p e below s _ _ _ T88 (mkF m 373 #[.val (.int p0), .val (.int p1), .val (.int p2), .val (.int p3), .val (.int p4), .val (.int (4 : Int32)), .val (.ref b27), .val (.ref b78), .val (.ref br), .val (.int (1 : Int32)), .val (.int (2 : Int32))] [(.int (1 : Int32))])
                                                                refine own_istore X88 hx (hb hby at_373) (l' := #[.val (.int p0), .val (.int p1), .val (.int p2), .val (.int p3), .val (.int p4), .val (.int (4 : Int32)), .val (.ref b27), .val (.ref b78), .val (.ref br), .val (.int (1 : Int32)), .val (.int (2 : Int32))]) rfl ?_
                                                                refine own_iload X88 hx (hb hby at_375) rfl ?_
                                                                refine own_iconst X88 hx (2 : Int32) (hb hby at_377) rfl ?_
                                                                refine own_icmp X88 hx (hb hby at_378) (pc' := 404) (by decide) (by decide) (fun hc => ?_) (fun hc => ?_)
                                                                · have hc378 : ¬ (2 : Int32) < (2 : Int32) := own_le1 hc
                                                                  clear hc
                                                                  show own_R p e below s _ _ _ T88 (mkF m 404 #[.val (.int p0), .val (.int p1), .val (.int p2), .val (.int p3), .val (.int p4), .val (.int (4 : Int32)), .val (.ref b27), .val (.ref b78), .val (.ref br), .val (.int (1 : Int32)), .val (.int (2 : Int32))] [])
                                                                  refine own_iload X88 hx (hb hby at_404) rfl ?_
                                                                  refine own_iconst X88 hx (3 : Int32) (hb hby at_406) rfl ?_
                                                                  refine own_icmp X88 hx (hb hby at_407) (pc' := 433) (by decide) (by decide) (fun hc => ?_) (fun hc => ?_)
                                                                  · have hc407 : ¬ (3 : Int32) < (2 : Int32) := own_le1 hc
                                                                    clear hc
                                                                    show own_R p e below s _ _ _ T88 (mkF m 433 #[.val (.int p0), .val (.int p1), .val (.int p2), .val (.int p3), .val (.int p4), .val (.int (4 : Int32)), .val (.ref b27), .val (.ref b78), .val (.ref br), .val (.int (1 : Int32)), .val (.int (2 : Int32))] [])
                                                                    refine own_iload X88 hx (hb hby at_433) rfl ?_
                                                                    refine own_if X88 hx (hb hby at_435) (pc' := 462) (by decide) (by decide) (fun hc => ?_) (fun hc => ?_)
                                                                    · have hc435 : (1 : Int32) = (0 : Int32) := own_eq1 hc
                                                                      exact absurd hc435 (by decide)
                                                                    · have hc435 : ¬ (1 : Int32) = (0 : Int32) := own_eq0 hc
                                                                      clear hc
                                                                      show own_R p e below s _ _ _ T88 (mkF m 438 #[.val (.int p0), .val (.int p1), .val (.int p2), .val (.int p3), .val (.int p4), .val (.int (4 : Int32)), .val (.ref b27), .val (.ref b78), .val (.ref br), .val (.int (1 : Int32)), .val (.int (2 : Int32))] [])
                                                                      refine own_aload X88 hx (hb hby at_438) rfl rfl ?_
                                                                      refine own_iload X88 hx (hb hby at_440) rfl ?_
                                                                      refine own_iconst X88 hx (1 : Int32) (hb hby at_442) rfl ?_
                                                                      refine own_isub X88 hx (hb hby at_443) ?_
                                                                      refine own_baload X88 hx hZ rfl Vr (v := .int ((x1 + (1 : Int32)).toInt8.toInt32)) ⟨by decide, by decide⟩ rfl (hb hby at_444) ?_
                                                                      show own_R p e below s _ _ _ T88 (mkF m 445 #[.val (.int p0), .val (.int p1), .val (.int p2), .val (.int p3), .val (.int p4), .val (.int (4 : Int32)), .val (.ref b27), .val (.ref b78), .val (.ref br), .val (.int (1 : Int32)), .val (.int (2 : Int32))] [(.int ((x1 + (1 : Int32)).toInt8.toInt32))])
                                                                      refine own_aload X88 hx (hb hby at_445) rfl rfl ?_
                                                                      refine own_iload X88 hx (hb hby at_447) rfl ?_
                                                                      refine own_iconst X88 hx (1 : Int32) (hb hby at_449) rfl ?_
                                                                      refine own_isub X88 hx (hb hby at_450) ?_
                                                                      refine own_baload X88 hx hZ rfl f94 (v := .int x1) ⟨by decide, by decide⟩ rfl (hb hby at_451) ?_
                                                                      show own_R p e below s _ _ _ T88 (mkF m 452 #[.val (.int p0), .val (.int p1), .val (.int p2), .val (.int p3), .val (.int p4), .val (.int (4 : Int32)), .val (.ref b27), .val (.ref b78), .val (.ref br), .val (.int (1 : Int32)), .val (.int (2 : Int32))] [(.int x1), (.int ((x1 + (1 : Int32)).toInt8.toInt32))])
                                                                      refine own_iconst X88 hx (1 : Int32) (hb hby at_452) rfl ?_
                                                                      refine own_iadd X88 hx (hb hby at_453) ?_
                                                                      refine own_i2b X88 hx (hb hby at_454) ?_
                                                                      refine own_icmp X88 hx (hb hby at_455) (pc' := 462) (by decide) (by decide) (fun hc => ?_) (fun hc => ?_)
                                                                      · have hc455 : ¬ ((x1 + (1 : Int32)).toInt8.toInt32) = ((x1 + (1 : Int32)).toInt8.toInt32) := own_ne1 hc
                                                                        exact absurd rfl hc455
                                                                      · have hc455 : ((x1 + (1 : Int32)).toInt8.toInt32) = ((x1 + (1 : Int32)).toInt8.toInt32) := own_ne0 hc
                                                                        clear hc
                                                                        show own_R p e below s _ _ _ T88 (mkF m 458 #[.val (.int p0), .val (.int p1), .val (.int p2), .val (.int p3), .val (.int p4), .val (.int (4 : Int32)), .val (.ref b27), .val (.ref b78), .val (.ref br), .val (.int (1 : Int32)), .val (.int (2 : Int32))] [])
                                                                        refine own_iconst X88 hx (1 : Int32) (hb hby at_458) rfl ?_
                                                                        refine own_goto X88 hx (hb hby at_459) (pc' := 463) (by decide) (by decide) ?_
                                                                        show own_R p e below s _ _ _ T88 (mkF m 463 #[.val (.int p0), .val (.int p1), .val (.int p2), .val (.int p3), .val (.int p4), .val (.int (4 : Int32)), .val (.ref b27), .val (.ref b78), .val (.ref br), .val (.int (1 : Int32)), .val (.int (2 : Int32))] [(.int (1 : Int32))])
                                                                        refine own_istore X88 hx (hb hby at_463) (l' := #[.val (.int p0), .val (.int p1), .val (.int p2), .val (.int p3), .val (.int p4), .val (.int (4 : Int32)), .val (.ref b27), .val (.ref b78), .val (.ref br), .val (.int (1 : Int32)), .val (.int (2 : Int32))]) rfl ?_
                                                                        refine own_iload X88 hx (hb hby at_465) rfl ?_
                                                                        refine own_retN X88 hx (t := .boolean) Bd.returns (by simp) hlk (hb hby at_467) ?_ (by decide) (by decide)
                                                                        exact ⟨rfl, N88⟩
                                                                  · have hc407 : (3 : Int32) < (2 : Int32) := own_le0 hc
                                                                    exact absurd hc407 (by decide)
                                                                · have hc378 : (2 : Int32) < (2 : Int32) := own_le0 hc
                                                                  exact absurd hc378 (by decide)
                                                        · have hc341 : ¬ (2 : Int32) = (2 : Int32) := own_eq0 hc
                                                          exact absurd (by decide) hc341
                                                      · have hc312 : (2 : Int32) = (0 : Int32) := own_ne0 hc
                                                        exact absurd hc312 (by decide)
                                                    · have hc304 : ¬ x3 = (-1 : Int32) := own_eq0 hc
                                                      exact absurd y3 hc304
                                                · have hc287 : ¬ x2 = (-1 : Int32) := own_eq0 hc
                                                  exact absurd y2 hc287
                                        refine own_if X88 hx (hb hby at_245) (pc' := 259) (by decide) (by decide) (fun hc => ?_) (fun hc => ?_)
                                        · have hc245 : ¬ (0 : Int32) < (4 : Int32) := own_le1 hc
                                          exact absurd (by decide) hc245
                                        · have hc245 : (0 : Int32) < (4 : Int32) := own_le0 hc
                                          clear hc
                                          show own_R p e below s _ _ _ T88 (mkF m 248 #[.val (.int p0), .val (.int p1), .val (.int p2), .val (.int p3), .val (.int p4), .val (.int (4 : Int32)), .val (.ref b27), .val (.ref b78), .val (.ref br), .val (.int (1 : Int32)), .val (.int (0 : Int32))] [])
                                          refine own_aload X88 hx (hb hby at_248) rfl rfl ?_
                                          refine own_iconst X88 hx (0 : Int32) (hb hby at_250) rfl ?_
                                          refine own_baload X88 hx hZ rfl f94 (v := .int x0) ⟨by decide, by decide⟩ rfl (hb hby at_251) ?_
                                          show own_R p e below s _ _ _ T88 (mkF m 252 #[.val (.int p0), .val (.int p1), .val (.int p2), .val (.int p3), .val (.int p4), .val (.int (4 : Int32)), .val (.ref b27), .val (.ref b78), .val (.ref br), .val (.int (1 : Int32)), .val (.int (0 : Int32))] [(.int x0)])
                                          refine own_iconst X88 hx (-1 : Int32) (hb hby at_252) rfl ?_
                                          refine own_icmp X88 hx (hb hby at_253) (pc' := 259) (by decide) (by decide) (fun hc => ?_) (fun hc => ?_)
                                          · have hc253 : x0 = (-1 : Int32) := own_eq1 hc
                                            clear hc
                                            show own_R p e below s _ _ _ T88 (mkF m 259 #[.val (.int p0), .val (.int p1), .val (.int p2), .val (.int p3), .val (.int p4), .val (.int (4 : Int32)), .val (.ref b27), .val (.ref b78), .val (.ref br), .val (.int (1 : Int32)), .val (.int (0 : Int32))] [])
                                            exact Jk0 _
                                          · have hc253 : ¬ x0 = (-1 : Int32) := own_eq0 hc
                                            clear hc
                                            show own_R p e below s _ _ _ T88 (mkF m 256 #[.val (.int p0), .val (.int p1), .val (.int p2), .val (.int p3), .val (.int p4), .val (.int (4 : Int32)), .val (.ref b27), .val (.ref b78), .val (.ref br), .val (.int (1 : Int32)), .val (.int (0 : Int32))] [])
                                            refine own_iconst X88 hx (1 : Int32) (hb hby at_256) rfl ?_
                                            refine own_istore X88 hx (hb hby at_257) (l' := #[.val (.int p0), .val (.int p1), .val (.int p2), .val (.int p3), .val (.int p4), .val (.int (4 : Int32)), .val (.ref b27), .val (.ref b78), .val (.ref br), .val (.int (1 : Int32)), .val (.int (1 : Int32))]) rfl ?_
                                            exact Jk0 _
            ·
              show own_R p e below s _ _ _ T88 (mkF m 108 #[.val (.int p0), .val (.int p1), .val (.int p2), .val (.int p3), .val (.int p4), .val (.int (4 : Int32)), .val (.ref b27), .val (.ref b78), .unset, .unset, .unset] [(.ref br)])
              refine own_astore X88 hx (hb hby at_108) rfl (l' := #[.val (.int p0), .val (.int p1), .val (.int p2), .val (.int p3), .val (.int p4), .val (.int (4 : Int32)), .val (.ref b27), .val (.ref b78), .val (.ref br), .unset, .unset]) rfl ?_
              refine own_aload X88 hx (hb hby at_110) rfl rfl ?_
              have f95 := (V_b78_86.keep Kc88 nin0)
              refine own_len X88 hx hZ rfl f95 (hb hby at_112) ?_
              show own_R p e below s _ _ _ T88 (mkF m 113 #[.val (.int p0), .val (.int p1), .val (.int p2), .val (.int p3), .val (.int p4), .val (.int (4 : Int32)), .val (.ref b27), .val (.ref b78), .val (.ref br), .unset, .unset] [(.int (4 : Int32))])
              refine own_iload X88 hx (hb hby at_113) rfl ?_
              refine own_icmp X88 hx (hb hby at_115) (pc' := 122) (by decide) (by decide) (fun hc => ?_) (fun hc => ?_)
              · have hc115 : ¬ (4 : Int32) = (4 : Int32) := own_ne1 hc
                exact absurd (by decide) hc115
              · have hc115 : (4 : Int32) = (4 : Int32) := own_ne0 hc
                clear hc
                show own_R p e below s _ _ _ T88 (mkF m 118 #[.val (.int p0), .val (.int p1), .val (.int p2), .val (.int p3), .val (.int p4), .val (.int (4 : Int32)), .val (.ref b27), .val (.ref b78), .val (.ref br), .unset, .unset] [])
                refine own_iconst X88 hx (1 : Int32) (hb hby at_118) rfl ?_
                refine own_goto X88 hx (hb hby at_119) (pc' := 123) (by decide) (by decide) ?_
                show own_R p e below s _ _ _ T88 (mkF m 123 #[.val (.int p0), .val (.int p1), .val (.int p2), .val (.int p3), .val (.int p4), .val (.int (4 : Int32)), .val (.ref b27), .val (.ref b78), .val (.ref br), .unset, .unset] [(.int (1 : Int32))])
                refine own_istore X88 hx (hb hby at_123) (l' := #[.val (.int p0), .val (.int p1), .val (.int p2), .val (.int p3), .val (.int p4), .val (.int (4 : Int32)), .val (.ref b27), .val (.ref b78), .val (.ref br), .val (.int (1 : Int32)), .unset]) rfl ?_
                refine own_iload X88 hx (hb hby at_125) rfl ?_
                refine own_if X88 hx (hb hby at_127) (pc' := 153) (by decide) (by decide) (fun hc => ?_) (fun hc => ?_)
                · have hc127 : ¬ (0 : Int32) < (4 : Int32) := own_le1 hc
                  exact absurd (by decide) hc127
                · have hc127 : (0 : Int32) < (4 : Int32) := own_le0 hc
                  clear hc
                  show own_R p e below s _ _ _ T88 (mkF m 130 #[.val (.int p0), .val (.int p1), .val (.int p2), .val (.int p3), .val (.int p4), .val (.int (4 : Int32)), .val (.ref b27), .val (.ref b78), .val (.ref br), .val (.int (1 : Int32)), .unset] [])
                  refine own_iload X88 hx (hb hby at_130) rfl ?_
                  refine own_if X88 hx (hb hby at_132) (pc' := 150) (by decide) (by decide) (fun hc => ?_) (fun hc => ?_)
                  · have hc132 : (1 : Int32) = (0 : Int32) := own_eq1 hc
                    exact absurd hc132 (by decide)
                  · have hc132 : ¬ (1 : Int32) = (0 : Int32) := own_eq0 hc
                    clear hc
                    show own_R p e below s _ _ _ T88 (mkF m 135 #[.val (.int p0), .val (.int p1), .val (.int p2), .val (.int p3), .val (.int p4), .val (.int (4 : Int32)), .val (.ref b27), .val (.ref b78), .val (.ref br), .val (.int (1 : Int32)), .unset] [])
                    refine own_aload X88 hx (hb hby at_135) rfl rfl ?_
                    refine own_iconst X88 hx (0 : Int32) (hb hby at_137) rfl ?_
                    refine own_baload X88 hx hZ rfl f95 (v := .int x0) ⟨by decide, by decide⟩ rfl (hb hby at_138) ?_
                    show own_R p e below s _ _ _ T88 (mkF m 139 #[.val (.int p0), .val (.int p1), .val (.int p2), .val (.int p3), .val (.int p4), .val (.int (4 : Int32)), .val (.ref b27), .val (.ref b78), .val (.ref br), .val (.int (1 : Int32)), .unset] [(.int x0)])
                    refine own_aload X88 hx (hb hby at_139) rfl rfl ?_
                    refine own_iconst X88 hx (0 : Int32) (hb hby at_141) rfl ?_
                    have f96 := ((f85.other W86 ne_b27_b78).keep Kc88 nin0)
                    refine own_baload X88 hx hZ rfl f96 (v := .int x0) ⟨by decide, by decide⟩ rfl (hb hby at_142) ?_
                    show own_R p e below s _ _ _ T88 (mkF m 143 #[.val (.int p0), .val (.int p1), .val (.int p2), .val (.int p3), .val (.int p4), .val (.int (4 : Int32)), .val (.ref b27), .val (.ref b78), .val (.ref br), .val (.int (1 : Int32)), .unset] [(.int x0), (.int x0)])
                    refine own_icmp X88 hx (hb hby at_143) (pc' := 150) (by decide) (by decide) (fun hc => ?_) (fun hc => ?_)
                    · have hc143 : ¬ x0 = x0 := own_ne1 hc
                      exact absurd rfl hc143
                    · have hc143 : x0 = x0 := own_ne0 hc
                      clear hc
                      show own_R p e below s _ _ _ T88 (mkF m 146 #[.val (.int p0), .val (.int p1), .val (.int p2), .val (.int p3), .val (.int p4), .val (.int (4 : Int32)), .val (.ref b27), .val (.ref b78), .val (.ref br), .val (.int (1 : Int32)), .unset] [])
                      refine own_iconst X88 hx (1 : Int32) (hb hby at_146) rfl ?_
                      refine own_goto X88 hx (hb hby at_147) (pc' := 151) (by decide) (by decide) ?_
                      show own_R p e below s _ _ _ T88 (mkF m 151 #[.val (.int p0), .val (.int p1), .val (.int p2), .val (.int p3), .val (.int p4), .val (.int (4 : Int32)), .val (.ref b27), .val (.ref b78), .val (.ref br), .val (.int (1 : Int32)), .unset] [(.int (1 : Int32))])
                      refine own_istore X88 hx (hb hby at_151) (l' := #[.val (.int p0), .val (.int p1), .val (.int p2), .val (.int p3), .val (.int p4), .val (.int (4 : Int32)), .val (.ref b27), .val (.ref b78), .val (.ref br), .val (.int (1 : Int32)), .unset]) rfl ?_
                      refine own_iload X88 hx (hb hby at_153) rfl ?_
                      refine own_iconst X88 hx (1 : Int32) (hb hby at_155) rfl ?_
                      refine own_icmp X88 hx (hb hby at_156) (pc' := 182) (by decide) (by decide) (fun hc => ?_) (fun hc => ?_)
                      · have hc156 : ¬ (1 : Int32) < (4 : Int32) := own_le1 hc
                        exact absurd (by decide) hc156
                      · have hc156 : (1 : Int32) < (4 : Int32) := own_le0 hc
                        clear hc
                        show own_R p e below s _ _ _ T88 (mkF m 159 #[.val (.int p0), .val (.int p1), .val (.int p2), .val (.int p3), .val (.int p4), .val (.int (4 : Int32)), .val (.ref b27), .val (.ref b78), .val (.ref br), .val (.int (1 : Int32)), .unset] [])
                        refine own_iload X88 hx (hb hby at_159) rfl ?_
                        refine own_if X88 hx (hb hby at_161) (pc' := 179) (by decide) (by decide) (fun hc => ?_) (fun hc => ?_)
                        · have hc161 : (1 : Int32) = (0 : Int32) := own_eq1 hc
                          exact absurd hc161 (by decide)
                        · have hc161 : ¬ (1 : Int32) = (0 : Int32) := own_eq0 hc
                          clear hc
                          show own_R p e below s _ _ _ T88 (mkF m 164 #[.val (.int p0), .val (.int p1), .val (.int p2), .val (.int p3), .val (.int p4), .val (.int (4 : Int32)), .val (.ref b27), .val (.ref b78), .val (.ref br), .val (.int (1 : Int32)), .unset] [])
                          refine own_aload X88 hx (hb hby at_164) rfl rfl ?_
                          refine own_iconst X88 hx (1 : Int32) (hb hby at_166) rfl ?_
                          refine own_baload X88 hx hZ rfl f95 (v := .int x1) ⟨by decide, by decide⟩ rfl (hb hby at_167) ?_
                          show own_R p e below s _ _ _ T88 (mkF m 168 #[.val (.int p0), .val (.int p1), .val (.int p2), .val (.int p3), .val (.int p4), .val (.int (4 : Int32)), .val (.ref b27), .val (.ref b78), .val (.ref br), .val (.int (1 : Int32)), .unset] [(.int x1)])
                          refine own_aload X88 hx (hb hby at_168) rfl rfl ?_
                          refine own_iconst X88 hx (1 : Int32) (hb hby at_170) rfl ?_
                          refine own_baload X88 hx hZ rfl f96 (v := .int x1) ⟨by decide, by decide⟩ rfl (hb hby at_171) ?_
                          show own_R p e below s _ _ _ T88 (mkF m 172 #[.val (.int p0), .val (.int p1), .val (.int p2), .val (.int p3), .val (.int p4), .val (.int (4 : Int32)), .val (.ref b27), .val (.ref b78), .val (.ref br), .val (.int (1 : Int32)), .unset] [(.int x1), (.int x1)])
                          refine own_icmp X88 hx (hb hby at_172) (pc' := 179) (by decide) (by decide) (fun hc => ?_) (fun hc => ?_)
                          · have hc172 : ¬ x1 = x1 := own_ne1 hc
                            exact absurd rfl hc172
                          · have hc172 : x1 = x1 := own_ne0 hc
                            clear hc
                            show own_R p e below s _ _ _ T88 (mkF m 175 #[.val (.int p0), .val (.int p1), .val (.int p2), .val (.int p3), .val (.int p4), .val (.int (4 : Int32)), .val (.ref b27), .val (.ref b78), .val (.ref br), .val (.int (1 : Int32)), .unset] [])
                            refine own_iconst X88 hx (1 : Int32) (hb hby at_175) rfl ?_
                            refine own_goto X88 hx (hb hby at_176) (pc' := 180) (by decide) (by decide) ?_
                            show own_R p e below s _ _ _ T88 (mkF m 180 #[.val (.int p0), .val (.int p1), .val (.int p2), .val (.int p3), .val (.int p4), .val (.int (4 : Int32)), .val (.ref b27), .val (.ref b78), .val (.ref br), .val (.int (1 : Int32)), .unset] [(.int (1 : Int32))])
                            refine own_istore X88 hx (hb hby at_180) (l' := #[.val (.int p0), .val (.int p1), .val (.int p2), .val (.int p3), .val (.int p4), .val (.int (4 : Int32)), .val (.ref b27), .val (.ref b78), .val (.ref br), .val (.int (1 : Int32)), .unset]) rfl ?_
                            refine own_iload X88 hx (hb hby at_182) rfl ?_
                            refine own_iconst X88 hx (2 : Int32) (hb hby at_184) rfl ?_
                            refine own_icmp X88 hx (hb hby at_185) (pc' := 211) (by decide) (by decide) (fun hc => ?_) (fun hc => ?_)
                            · have hc185 : ¬ (2 : Int32) < (4 : Int32) := own_le1 hc
                              exact absurd (by decide) hc185
                            · have hc185 : (2 : Int32) < (4 : Int32) := own_le0 hc
                              clear hc
                              show own_R p e below s _ _ _ T88 (mkF m 188 #[.val (.int p0), .val (.int p1), .val (.int p2), .val (.int p3), .val (.int p4), .val (.int (4 : Int32)), .val (.ref b27), .val (.ref b78), .val (.ref br), .val (.int (1 : Int32)), .unset] [])
                              refine own_iload X88 hx (hb hby at_188) rfl ?_
                              refine own_if X88 hx (hb hby at_190) (pc' := 208) (by decide) (by decide) (fun hc => ?_) (fun hc => ?_)
                              · have hc190 : (1 : Int32) = (0 : Int32) := own_eq1 hc
                                exact absurd hc190 (by decide)
                              · have hc190 : ¬ (1 : Int32) = (0 : Int32) := own_eq0 hc
                                clear hc
                                show own_R p e below s _ _ _ T88 (mkF m 193 #[.val (.int p0), .val (.int p1), .val (.int p2), .val (.int p3), .val (.int p4), .val (.int (4 : Int32)), .val (.ref b27), .val (.ref b78), .val (.ref br), .val (.int (1 : Int32)), .unset] [])
                                refine own_aload X88 hx (hb hby at_193) rfl rfl ?_
                                refine own_iconst X88 hx (2 : Int32) (hb hby at_195) rfl ?_
                                refine own_baload X88 hx hZ rfl f95 (v := .int x2) ⟨by decide, by decide⟩ rfl (hb hby at_196) ?_
                                show own_R p e below s _ _ _ T88 (mkF m 197 #[.val (.int p0), .val (.int p1), .val (.int p2), .val (.int p3), .val (.int p4), .val (.int (4 : Int32)), .val (.ref b27), .val (.ref b78), .val (.ref br), .val (.int (1 : Int32)), .unset] [(.int x2)])
                                refine own_aload X88 hx (hb hby at_197) rfl rfl ?_
                                refine own_iconst X88 hx (2 : Int32) (hb hby at_199) rfl ?_
                                refine own_baload X88 hx hZ rfl f96 (v := .int x2) ⟨by decide, by decide⟩ rfl (hb hby at_200) ?_
                                show own_R p e below s _ _ _ T88 (mkF m 201 #[.val (.int p0), .val (.int p1), .val (.int p2), .val (.int p3), .val (.int p4), .val (.int (4 : Int32)), .val (.ref b27), .val (.ref b78), .val (.ref br), .val (.int (1 : Int32)), .unset] [(.int x2), (.int x2)])
                                refine own_icmp X88 hx (hb hby at_201) (pc' := 208) (by decide) (by decide) (fun hc => ?_) (fun hc => ?_)
                                · have hc201 : ¬ x2 = x2 := own_ne1 hc
                                  exact absurd rfl hc201
                                · have hc201 : x2 = x2 := own_ne0 hc
                                  clear hc
                                  show own_R p e below s _ _ _ T88 (mkF m 204 #[.val (.int p0), .val (.int p1), .val (.int p2), .val (.int p3), .val (.int p4), .val (.int (4 : Int32)), .val (.ref b27), .val (.ref b78), .val (.ref br), .val (.int (1 : Int32)), .unset] [])
                                  refine own_iconst X88 hx (1 : Int32) (hb hby at_204) rfl ?_
                                  refine own_goto X88 hx (hb hby at_205) (pc' := 209) (by decide) (by decide) ?_
                                  show own_R p e below s _ _ _ T88 (mkF m 209 #[.val (.int p0), .val (.int p1), .val (.int p2), .val (.int p3), .val (.int p4), .val (.int (4 : Int32)), .val (.ref b27), .val (.ref b78), .val (.ref br), .val (.int (1 : Int32)), .unset] [(.int (1 : Int32))])
                                  refine own_istore X88 hx (hb hby at_209) (l' := #[.val (.int p0), .val (.int p1), .val (.int p2), .val (.int p3), .val (.int p4), .val (.int (4 : Int32)), .val (.ref b27), .val (.ref b78), .val (.ref br), .val (.int (1 : Int32)), .unset]) rfl ?_
                                  refine own_iload X88 hx (hb hby at_211) rfl ?_
                                  refine own_iconst X88 hx (3 : Int32) (hb hby at_213) rfl ?_
                                  refine own_icmp X88 hx (hb hby at_214) (pc' := 240) (by decide) (by decide) (fun hc => ?_) (fun hc => ?_)
                                  · have hc214 : ¬ (3 : Int32) < (4 : Int32) := own_le1 hc
                                    exact absurd (by decide) hc214
                                  · have hc214 : (3 : Int32) < (4 : Int32) := own_le0 hc
                                    clear hc
                                    show own_R p e below s _ _ _ T88 (mkF m 217 #[.val (.int p0), .val (.int p1), .val (.int p2), .val (.int p3), .val (.int p4), .val (.int (4 : Int32)), .val (.ref b27), .val (.ref b78), .val (.ref br), .val (.int (1 : Int32)), .unset] [])
                                    refine own_iload X88 hx (hb hby at_217) rfl ?_
                                    refine own_if X88 hx (hb hby at_219) (pc' := 237) (by decide) (by decide) (fun hc => ?_) (fun hc => ?_)
                                    · have hc219 : (1 : Int32) = (0 : Int32) := own_eq1 hc
                                      exact absurd hc219 (by decide)
                                    · have hc219 : ¬ (1 : Int32) = (0 : Int32) := own_eq0 hc
                                      clear hc
                                      show own_R p e below s _ _ _ T88 (mkF m 222 #[.val (.int p0), .val (.int p1), .val (.int p2), .val (.int p3), .val (.int p4), .val (.int (4 : Int32)), .val (.ref b27), .val (.ref b78), .val (.ref br), .val (.int (1 : Int32)), .unset] [])
                                      refine own_aload X88 hx (hb hby at_222) rfl rfl ?_
                                      refine own_iconst X88 hx (3 : Int32) (hb hby at_224) rfl ?_
                                      refine own_baload X88 hx hZ rfl f95 (v := .int x3) ⟨by decide, by decide⟩ rfl (hb hby at_225) ?_
                                      show own_R p e below s _ _ _ T88 (mkF m 226 #[.val (.int p0), .val (.int p1), .val (.int p2), .val (.int p3), .val (.int p4), .val (.int (4 : Int32)), .val (.ref b27), .val (.ref b78), .val (.ref br), .val (.int (1 : Int32)), .unset] [(.int x3)])
                                      refine own_aload X88 hx (hb hby at_226) rfl rfl ?_
                                      refine own_iconst X88 hx (3 : Int32) (hb hby at_228) rfl ?_
                                      refine own_baload X88 hx hZ rfl f96 (v := .int x3) ⟨by decide, by decide⟩ rfl (hb hby at_229) ?_
                                      show own_R p e below s _ _ _ T88 (mkF m 230 #[.val (.int p0), .val (.int p1), .val (.int p2), .val (.int p3), .val (.int p4), .val (.int (4 : Int32)), .val (.ref b27), .val (.ref b78), .val (.ref br), .val (.int (1 : Int32)), .unset] [(.int x3), (.int x3)])
                                      refine own_icmp X88 hx (hb hby at_230) (pc' := 237) (by decide) (by decide) (fun hc => ?_) (fun hc => ?_)
                                      · have hc230 : ¬ x3 = x3 := own_ne1 hc
                                        exact absurd rfl hc230
                                      · have hc230 : x3 = x3 := own_ne0 hc
                                        clear hc
                                        show own_R p e below s _ _ _ T88 (mkF m 233 #[.val (.int p0), .val (.int p1), .val (.int p2), .val (.int p3), .val (.int p4), .val (.int (4 : Int32)), .val (.ref b27), .val (.ref b78), .val (.ref br), .val (.int (1 : Int32)), .unset] [])
                                        refine own_iconst X88 hx (1 : Int32) (hb hby at_233) rfl ?_
                                        refine own_goto X88 hx (hb hby at_234) (pc' := 238) (by decide) (by decide) ?_
                                        show own_R p e below s _ _ _ T88 (mkF m 238 #[.val (.int p0), .val (.int p1), .val (.int p2), .val (.int p3), .val (.int p4), .val (.int (4 : Int32)), .val (.ref b27), .val (.ref b78), .val (.ref br), .val (.int (1 : Int32)), .unset] [(.int (1 : Int32))])
                                        refine own_istore X88 hx (hb hby at_238) (l' := #[.val (.int p0), .val (.int p1), .val (.int p2), .val (.int p3), .val (.int p4), .val (.int (4 : Int32)), .val (.ref b27), .val (.ref b78), .val (.ref br), .val (.int (1 : Int32)), .unset]) rfl ?_
                                        refine own_iconst X88 hx (0 : Int32) (hb hby at_240) rfl ?_
                                        refine own_istore X88 hx (hb hby at_241) (l' := #[.val (.int p0), .val (.int p1), .val (.int p2), .val (.int p3), .val (.int p4), .val (.int (4 : Int32)), .val (.ref b27), .val (.ref b78), .val (.ref br), .val (.int (1 : Int32)), .val (.int (0 : Int32))]) rfl ?_
                                        refine own_iload X88 hx (hb hby at_243) rfl ?_
                                        refine own_if X88 hx (hb hby at_245) (pc' := 259) (by decide) (by decide) (fun hc => ?_) (fun hc => ?_)
                                        · have hc245 : ¬ (0 : Int32) < (4 : Int32) := own_le1 hc
                                          exact absurd (by decide) hc245
                                        · have hc245 : (0 : Int32) < (4 : Int32) := own_le0 hc
                                          clear hc
                                          show own_R p e below s _ _ _ T88 (mkF m 248 #[.val (.int p0), .val (.int p1), .val (.int p2), .val (.int p3), .val (.int p4), .val (.int (4 : Int32)), .val (.ref b27), .val (.ref b78), .val (.ref br), .val (.int (1 : Int32)), .val (.int (0 : Int32))] [])
                                          refine own_aload X88 hx (hb hby at_248) rfl rfl ?_
                                          refine own_iconst X88 hx (0 : Int32) (hb hby at_250) rfl ?_
                                          refine own_baload X88 hx hZ rfl f96 (v := .int x0) ⟨by decide, by decide⟩ rfl (hb hby at_251) ?_
                                          show own_R p e below s _ _ _ T88 (mkF m 252 #[.val (.int p0), .val (.int p1), .val (.int p2), .val (.int p3), .val (.int p4), .val (.int (4 : Int32)), .val (.ref b27), .val (.ref b78), .val (.ref br), .val (.int (1 : Int32)), .val (.int (0 : Int32))] [(.int x0)])
                                          refine own_iconst X88 hx (-1 : Int32) (hb hby at_252) rfl ?_
                                          refine own_icmp X88 hx (hb hby at_253) (pc' := 259) (by decide) (by decide) (fun hc => ?_) (fun hc => ?_)
                                          · have hc253 : x0 = (-1 : Int32) := own_eq1 hc
                                            exact absurd hc253 y0
                                          · have hc253 : ¬ x0 = (-1 : Int32) := own_eq0 hc
                                            clear hc
                                            show own_R p e below s _ _ _ T88 (mkF m 256 #[.val (.int p0), .val (.int p1), .val (.int p2), .val (.int p3), .val (.int p4), .val (.int (4 : Int32)), .val (.ref b27), .val (.ref b78), .val (.ref br), .val (.int (1 : Int32)), .val (.int (0 : Int32))] [])
                                            refine own_iconst X88 hx (1 : Int32) (hb hby at_256) rfl ?_
                                            refine own_istore X88 hx (hb hby at_257) (l' := #[.val (.int p0), .val (.int p1), .val (.int p2), .val (.int p3), .val (.int p4), .val (.int (4 : Int32)), .val (.ref b27), .val (.ref b78), .val (.ref br), .val (.int (1 : Int32)), .val (.int (1 : Int32))]) rfl ?_
                                            refine own_iload X88 hx (hb hby at_259) rfl ?_
                                            refine own_iconst X88 hx (1 : Int32) (hb hby at_261) rfl ?_
                                            refine own_icmp X88 hx (hb hby at_262) (pc' := 276) (by decide) (by decide) (fun hc => ?_) (fun hc => ?_)
                                            · have hc262 : ¬ (1 : Int32) < (4 : Int32) := own_le1 hc
                                              exact absurd (by decide) hc262
                                            · have hc262 : (1 : Int32) < (4 : Int32) := own_le0 hc
                                              clear hc
                                              show own_R p e below s _ _ _ T88 (mkF m 265 #[.val (.int p0), .val (.int p1), .val (.int p2), .val (.int p3), .val (.int p4), .val (.int (4 : Int32)), .val (.ref b27), .val (.ref b78), .val (.ref br), .val (.int (1 : Int32)), .val (.int (1 : Int32))] [])
                                              refine own_aload X88 hx (hb hby at_265) rfl rfl ?_
                                              refine own_iconst X88 hx (1 : Int32) (hb hby at_267) rfl ?_
                                              refine own_baload X88 hx hZ rfl f96 (v := .int x1) ⟨by decide, by decide⟩ rfl (hb hby at_268) ?_
                                              show own_R p e below s _ _ _ T88 (mkF m 269 #[.val (.int p0), .val (.int p1), .val (.int p2), .val (.int p3), .val (.int p4), .val (.int (4 : Int32)), .val (.ref b27), .val (.ref b78), .val (.ref br), .val (.int (1 : Int32)), .val (.int (1 : Int32))] [(.int x1)])
                                              refine own_iconst X88 hx (-1 : Int32) (hb hby at_269) rfl ?_
                                              refine own_icmp X88 hx (hb hby at_270) (pc' := 276) (by decide) (by decide) (fun hc => ?_) (fun hc => ?_)
                                              · have hc270 : x1 = (-1 : Int32) := own_eq1 hc
                                                clear hc
                                                show own_R p e below s _ _ _ T88 (mkF m 276 #[.val (.int p0), .val (.int p1), .val (.int p2), .val (.int p3), .val (.int p4), .val (.int (4 : Int32)), .val (.ref b27), .val (.ref b78), .val (.ref br), .val (.int (1 : Int32)), .val (.int (1 : Int32))] [])
                                                refine own_iload X88 hx (hb hby at_276) rfl ?_
                                                refine own_iconst X88 hx (2 : Int32) (hb hby at_278) rfl ?_
                                                refine own_icmp X88 hx (hb hby at_279) (pc' := 293) (by decide) (by decide) (fun hc => ?_) (fun hc => ?_)
                                                · have hc279 : ¬ (2 : Int32) < (4 : Int32) := own_le1 hc
                                                  exact absurd (by decide) hc279
                                                · have hc279 : (2 : Int32) < (4 : Int32) := own_le0 hc
                                                  clear hc
                                                  show own_R p e below s _ _ _ T88 (mkF m 282 #[.val (.int p0), .val (.int p1), .val (.int p2), .val (.int p3), .val (.int p4), .val (.int (4 : Int32)), .val (.ref b27), .val (.ref b78), .val (.ref br), .val (.int (1 : Int32)), .val (.int (1 : Int32))] [])
                                                  refine own_aload X88 hx (hb hby at_282) rfl rfl ?_
                                                  refine own_iconst X88 hx (2 : Int32) (hb hby at_284) rfl ?_
                                                  refine own_baload X88 hx hZ rfl f96 (v := .int x2) ⟨by decide, by decide⟩ rfl (hb hby at_285) ?_
                                                  show own_R p e below s _ _ _ T88 (mkF m 286 #[.val (.int p0), .val (.int p1), .val (.int p2), .val (.int p3), .val (.int p4), .val (.int (4 : Int32)), .val (.ref b27), .val (.ref b78), .val (.ref br), .val (.int (1 : Int32)), .val (.int (1 : Int32))] [(.int x2)])
                                                  refine own_iconst X88 hx (-1 : Int32) (hb hby at_286) rfl ?_
                                                  refine own_icmp X88 hx (hb hby at_287) (pc' := 293) (by decide) (by decide) (fun hc => ?_) (fun hc => ?_)
                                                  · have hc287 : x2 = (-1 : Int32) := own_eq1 hc
                                                    clear hc
                                                    show own_R p e below s _ _ _ T88 (mkF m 293 #[.val (.int p0), .val (.int p1), .val (.int p2), .val (.int p3), .val (.int p4), .val (.int (4 : Int32)), .val (.ref b27), .val (.ref b78), .val (.ref br), .val (.int (1 : Int32)), .val (.int (1 : Int32))] [])
                                                    refine own_iload X88 hx (hb hby at_293) rfl ?_
                                                    refine own_iconst X88 hx (3 : Int32) (hb hby at_295) rfl ?_
                                                    refine own_icmp X88 hx (hb hby at_296) (pc' := 310) (by decide) (by decide) (fun hc => ?_) (fun hc => ?_)
                                                    · have hc296 : ¬ (3 : Int32) < (4 : Int32) := own_le1 hc
                                                      exact absurd (by decide) hc296
                                                    · have hc296 : (3 : Int32) < (4 : Int32) := own_le0 hc
                                                      clear hc
                                                      show own_R p e below s _ _ _ T88 (mkF m 299 #[.val (.int p0), .val (.int p1), .val (.int p2), .val (.int p3), .val (.int p4), .val (.int (4 : Int32)), .val (.ref b27), .val (.ref b78), .val (.ref br), .val (.int (1 : Int32)), .val (.int (1 : Int32))] [])
                                                      refine own_aload X88 hx (hb hby at_299) rfl rfl ?_
                                                      refine own_iconst X88 hx (3 : Int32) (hb hby at_301) rfl ?_
                                                      refine own_baload X88 hx hZ rfl f96 (v := .int x3) ⟨by decide, by decide⟩ rfl (hb hby at_302) ?_
                                                      show own_R p e below s _ _ _ T88 (mkF m 303 #[.val (.int p0), .val (.int p1), .val (.int p2), .val (.int p3), .val (.int p4), .val (.int (4 : Int32)), .val (.ref b27), .val (.ref b78), .val (.ref br), .val (.int (1 : Int32)), .val (.int (1 : Int32))] [(.int x3)])
                                                      refine own_iconst X88 hx (-1 : Int32) (hb hby at_303) rfl ?_
                                                      refine own_icmp X88 hx (hb hby at_304) (pc' := 310) (by decide) (by decide) (fun hc => ?_) (fun hc => ?_)
                                                      · have hc304 : x3 = (-1 : Int32) := own_eq1 hc
                                                        clear hc
                                                        show own_R p e below s _ _ _ T88 (mkF m 310 #[.val (.int p0), .val (.int p1), .val (.int p2), .val (.int p3), .val (.int p4), .val (.int (4 : Int32)), .val (.ref b27), .val (.ref b78), .val (.ref br), .val (.int (1 : Int32)), .val (.int (1 : Int32))] [])
                                                        refine own_iload X88 hx (hb hby at_310) rfl ?_
                                                        refine own_if X88 hx (hb hby at_312) (pc' := 331) (by decide) (by decide) (fun hc => ?_) (fun hc => ?_)
                                                        · have hc312 : ¬ (1 : Int32) = (0 : Int32) := own_ne1 hc
                                                          clear hc
                                                          show own_R p e below s _ _ _ T88 (mkF m 331 #[.val (.int p0), .val (.int p1), .val (.int p2), .val (.int p3), .val (.int p4), .val (.int (4 : Int32)), .val (.ref b27), .val (.ref b78), .val (.ref br), .val (.int (1 : Int32)), .val (.int (1 : Int32))] [])
                                                          refine own_aload X88 hx (hb hby at_331) rfl rfl ?_
                                                          refine own_ifnullN X88 hx (hb hby at_333) ?_
                                                          show own_R p e below s _ _ _ T88 (mkF m 336 #[.val (.int p0), .val (.int p1), .val (.int p2), .val (.int p3), .val (.int p4), .val (.int (4 : Int32)), .val (.ref b27), .val (.ref b78), .val (.ref br), .val (.int (1 : Int32)), .val (.int (1 : Int32))] [])
                                                          refine own_aload X88 hx (hb hby at_336) rfl rfl ?_
                                                          refine own_len X88 hx hZ rfl Vr (hb hby at_338) ?_
                                                          show own_R p e below s _ _ _ T88 (mkF m 339 #[.val (.int p0), .val (.int p1), .val (.int p2), .val (.int p3), .val (.int p4), .val (.int (4 : Int32)), .val (.ref b27), .val (.ref b78), .val (.ref br), .val (.int (1 : Int32)), .val (.int (1 : Int32))] [(.int (1 : Int32))])
                                                          refine own_iload X88 hx (hb hby at_339) rfl ?_
                                                          refine own_icmp X88 hx (hb hby at_341) (pc' := 346) (by decide) (by decide) (fun hc => ?_) (fun hc => ?_)
                                                          · have hc341 : (1 : Int32) = (1 : Int32) := own_eq1 hc
                                                            clear hc
                                                            show own_R p e below s _ _ _ T88 (mkF m 346 #[.val (.int p0), .val (.int p1), .val (.int p2), .val (.int p3), .val (.int p4), .val (.int (4 : Int32)), .val (.ref b27), .val (.ref b78), .val (.ref br), .val (.int (1 : Int32)), .val (.int (1 : Int32))] [])
                                                            refine own_iload X88 hx (hb hby at_346) rfl ?_
                                                            refine own_iconst X88 hx (1 : Int32) (hb hby at_348) rfl ?_
                                                            refine own_icmp X88 hx (hb hby at_349) (pc' := 375) (by decide) (by decide) (fun hc => ?_) (fun hc => ?_)
                                                            · have hc349 : ¬ (1 : Int32) < (1 : Int32) := own_le1 hc
                                                              clear hc
                                                              show own_R p e below s _ _ _ T88 (mkF m 375 #[.val (.int p0), .val (.int p1), .val (.int p2), .val (.int p3), .val (.int p4), .val (.int (4 : Int32)), .val (.ref b27), .val (.ref b78), .val (.ref br), .val (.int (1 : Int32)), .val (.int (1 : Int32))] [])
                                                              refine own_iload X88 hx (hb hby at_375) rfl ?_
                                                              refine own_iconst X88 hx (2 : Int32) (hb hby at_377) rfl ?_
                                                              refine own_icmp X88 hx (hb hby at_378) (pc' := 404) (by decide) (by decide) (fun hc => ?_) (fun hc => ?_)
                                                              · have hc378 : ¬ (2 : Int32) < (1 : Int32) := own_le1 hc
                                                                clear hc
                                                                show own_R p e below s _ _ _ T88 (mkF m 404 #[.val (.int p0), .val (.int p1), .val (.int p2), .val (.int p3), .val (.int p4), .val (.int (4 : Int32)), .val (.ref b27), .val (.ref b78), .val (.ref br), .val (.int (1 : Int32)), .val (.int (1 : Int32))] [])
                                                                refine own_iload X88 hx (hb hby at_404) rfl ?_
                                                                refine own_iconst X88 hx (3 : Int32) (hb hby at_406) rfl ?_
                                                                refine own_icmp X88 hx (hb hby at_407) (pc' := 433) (by decide) (by decide) (fun hc => ?_) (fun hc => ?_)
                                                                · have hc407 : ¬ (3 : Int32) < (1 : Int32) := own_le1 hc
                                                                  clear hc
                                                                  show own_R p e below s _ _ _ T88 (mkF m 433 #[.val (.int p0), .val (.int p1), .val (.int p2), .val (.int p3), .val (.int p4), .val (.int (4 : Int32)), .val (.ref b27), .val (.ref b78), .val (.ref br), .val (.int (1 : Int32)), .val (.int (1 : Int32))] [])
                                                                  refine own_iload X88 hx (hb hby at_433) rfl ?_
                                                                  refine own_if X88 hx (hb hby at_435) (pc' := 462) (by decide) (by decide) (fun hc => ?_) (fun hc => ?_)
                                                                  · have hc435 : (1 : Int32) = (0 : Int32) := own_eq1 hc
                                                                    exact absurd hc435 (by decide)
                                                                  · have hc435 : ¬ (1 : Int32) = (0 : Int32) := own_eq0 hc
                                                                    clear hc
                                                                    show own_R p e below s _ _ _ T88 (mkF m 438 #[.val (.int p0), .val (.int p1), .val (.int p2), .val (.int p3), .val (.int p4), .val (.int (4 : Int32)), .val (.ref b27), .val (.ref b78), .val (.ref br), .val (.int (1 : Int32)), .val (.int (1 : Int32))] [])
                                                                    refine own_aload X88 hx (hb hby at_438) rfl rfl ?_
                                                                    refine own_iload X88 hx (hb hby at_440) rfl ?_
                                                                    refine own_iconst X88 hx (1 : Int32) (hb hby at_442) rfl ?_
                                                                    refine own_isub X88 hx (hb hby at_443) ?_
                                                                    refine own_baload X88 hx hZ rfl Vr (v := .int ((x0 + (1 : Int32)).toInt8.toInt32)) ⟨by decide, by decide⟩ rfl (hb hby at_444) ?_
                                                                    show own_R p e below s _ _ _ T88 (mkF m 445 #[.val (.int p0), .val (.int p1), .val (.int p2), .val (.int p3), .val (.int p4), .val (.int (4 : Int32)), .val (.ref b27), .val (.ref b78), .val (.ref br), .val (.int (1 : Int32)), .val (.int (1 : Int32))] [(.int ((x0 + (1 : Int32)).toInt8.toInt32))])
                                                                    refine own_aload X88 hx (hb hby at_445) rfl rfl ?_
                                                                    refine own_iload X88 hx (hb hby at_447) rfl ?_
                                                                    refine own_iconst X88 hx (1 : Int32) (hb hby at_449) rfl ?_
                                                                    refine own_isub X88 hx (hb hby at_450) ?_
                                                                    refine own_baload X88 hx hZ rfl f96 (v := .int x0) ⟨by decide, by decide⟩ rfl (hb hby at_451) ?_
                                                                    show own_R p e below s _ _ _ T88 (mkF m 452 #[.val (.int p0), .val (.int p1), .val (.int p2), .val (.int p3), .val (.int p4), .val (.int (4 : Int32)), .val (.ref b27), .val (.ref b78), .val (.ref br), .val (.int (1 : Int32)), .val (.int (1 : Int32))] [(.int x0), (.int ((x0 + (1 : Int32)).toInt8.toInt32))])
                                                                    refine own_iconst X88 hx (1 : Int32) (hb hby at_452) rfl ?_
                                                                    refine own_iadd X88 hx (hb hby at_453) ?_
                                                                    refine own_i2b X88 hx (hb hby at_454) ?_
                                                                    refine own_icmp X88 hx (hb hby at_455) (pc' := 462) (by decide) (by decide) (fun hc => ?_) (fun hc => ?_)
                                                                    · have hc455 : ¬ ((x0 + (1 : Int32)).toInt8.toInt32) = ((x0 + (1 : Int32)).toInt8.toInt32) := own_ne1 hc
                                                                      exact absurd rfl hc455
                                                                    · have hc455 : ((x0 + (1 : Int32)).toInt8.toInt32) = ((x0 + (1 : Int32)).toInt8.toInt32) := own_ne0 hc
                                                                      clear hc
                                                                      show own_R p e below s _ _ _ T88 (mkF m 458 #[.val (.int p0), .val (.int p1), .val (.int p2), .val (.int p3), .val (.int p4), .val (.int (4 : Int32)), .val (.ref b27), .val (.ref b78), .val (.ref br), .val (.int (1 : Int32)), .val (.int (1 : Int32))] [])
                                                                      refine own_iconst X88 hx (1 : Int32) (hb hby at_458) rfl ?_
                                                                      refine own_goto X88 hx (hb hby at_459) (pc' := 463) (by decide) (by decide) ?_
                                                                      show own_R p e below s _ _ _ T88 (mkF m 463 #[.val (.int p0), .val (.int p1), .val (.int p2), .val (.int p3), .val (.int p4), .val (.int (4 : Int32)), .val (.ref b27), .val (.ref b78), .val (.ref br), .val (.int (1 : Int32)), .val (.int (1 : Int32))] [(.int (1 : Int32))])
                                                                      refine own_istore X88 hx (hb hby at_463) (l' := #[.val (.int p0), .val (.int p1), .val (.int p2), .val (.int p3), .val (.int p4), .val (.int (4 : Int32)), .val (.ref b27), .val (.ref b78), .val (.ref br), .val (.int (1 : Int32)), .val (.int (1 : Int32))]) rfl ?_
                                                                      refine own_iload X88 hx (hb hby at_465) rfl ?_
                                                                      refine own_retN X88 hx (t := .boolean) Bd.returns (by simp) hlk (hb hby at_467) ?_ (by decide) (by decide)
                                                                      exact ⟨rfl, N88⟩
                                                                · have hc407 : (3 : Int32) < (1 : Int32) := own_le0 hc
                                                                  exact absurd hc407 (by decide)
                                                              · have hc378 : (2 : Int32) < (1 : Int32) := own_le0 hc
                                                                exact absurd hc378 (by decide)
                                                            · have hc349 : (1 : Int32) < (1 : Int32) := own_le0 hc
                                                              exact absurd hc349 (by decide)
                                                          · have hc341 : ¬ (1 : Int32) = (1 : Int32) := own_eq0 hc
                                                            exact absurd (by decide) hc341
                                                        · have hc312 : (1 : Int32) = (0 : Int32) := own_ne0 hc
                                                          exact absurd hc312 (by decide)
                                                      · have hc304 : ¬ x3 = (-1 : Int32) := own_eq0 hc
                                                        exact absurd y3 hc304
                                                  · have hc287 : ¬ x2 = (-1 : Int32) := own_eq0 hc
                                                    exact absurd y2 hc287
                                              · have hc270 : ¬ x1 = (-1 : Int32) := own_eq0 hc
                                                exact absurd y1 hc270
            ·
              show own_R p e below s _ _ _ T88 (mkF m 108 #[.val (.int p0), .val (.int p1), .val (.int p2), .val (.int p3), .val (.int p4), .val (.int (4 : Int32)), .val (.ref b27), .val (.ref b78), .unset, .unset, .unset] [.null])
              refine own_astore X88 hx (hb hby at_108) rfl (l' := #[.val (.int p0), .val (.int p1), .val (.int p2), .val (.int p3), .val (.int p4), .val (.int (4 : Int32)), .val (.ref b27), .val (.ref b78), .val .null, .unset, .unset]) rfl ?_
              refine own_aload X88 hx (hb hby at_110) rfl rfl ?_
              have f97 := (V_b78_86.keep Kc88 nin0)
              refine own_len X88 hx hZ rfl f97 (hb hby at_112) ?_
              show own_R p e below s _ _ _ T88 (mkF m 113 #[.val (.int p0), .val (.int p1), .val (.int p2), .val (.int p3), .val (.int p4), .val (.int (4 : Int32)), .val (.ref b27), .val (.ref b78), .val .null, .unset, .unset] [(.int (4 : Int32))])
              refine own_iload X88 hx (hb hby at_113) rfl ?_
              refine own_icmp X88 hx (hb hby at_115) (pc' := 122) (by decide) (by decide) (fun hc => ?_) (fun hc => ?_)
              · have hc115 : ¬ (4 : Int32) = (4 : Int32) := own_ne1 hc
                exact absurd (by decide) hc115
              · have hc115 : (4 : Int32) = (4 : Int32) := own_ne0 hc
                clear hc
                show own_R p e below s _ _ _ T88 (mkF m 118 #[.val (.int p0), .val (.int p1), .val (.int p2), .val (.int p3), .val (.int p4), .val (.int (4 : Int32)), .val (.ref b27), .val (.ref b78), .val .null, .unset, .unset] [])
                refine own_iconst X88 hx (1 : Int32) (hb hby at_118) rfl ?_
                refine own_goto X88 hx (hb hby at_119) (pc' := 123) (by decide) (by decide) ?_
                show own_R p e below s _ _ _ T88 (mkF m 123 #[.val (.int p0), .val (.int p1), .val (.int p2), .val (.int p3), .val (.int p4), .val (.int (4 : Int32)), .val (.ref b27), .val (.ref b78), .val .null, .unset, .unset] [(.int (1 : Int32))])
                refine own_istore X88 hx (hb hby at_123) (l' := #[.val (.int p0), .val (.int p1), .val (.int p2), .val (.int p3), .val (.int p4), .val (.int (4 : Int32)), .val (.ref b27), .val (.ref b78), .val .null, .val (.int (1 : Int32)), .unset]) rfl ?_
                refine own_iload X88 hx (hb hby at_125) rfl ?_
                refine own_if X88 hx (hb hby at_127) (pc' := 153) (by decide) (by decide) (fun hc => ?_) (fun hc => ?_)
                · have hc127 : ¬ (0 : Int32) < (4 : Int32) := own_le1 hc
                  exact absurd (by decide) hc127
                · have hc127 : (0 : Int32) < (4 : Int32) := own_le0 hc
                  clear hc
                  show own_R p e below s _ _ _ T88 (mkF m 130 #[.val (.int p0), .val (.int p1), .val (.int p2), .val (.int p3), .val (.int p4), .val (.int (4 : Int32)), .val (.ref b27), .val (.ref b78), .val .null, .val (.int (1 : Int32)), .unset] [])
                  refine own_iload X88 hx (hb hby at_130) rfl ?_
                  refine own_if X88 hx (hb hby at_132) (pc' := 150) (by decide) (by decide) (fun hc => ?_) (fun hc => ?_)
                  · have hc132 : (1 : Int32) = (0 : Int32) := own_eq1 hc
                    exact absurd hc132 (by decide)
                  · have hc132 : ¬ (1 : Int32) = (0 : Int32) := own_eq0 hc
                    clear hc
                    show own_R p e below s _ _ _ T88 (mkF m 135 #[.val (.int p0), .val (.int p1), .val (.int p2), .val (.int p3), .val (.int p4), .val (.int (4 : Int32)), .val (.ref b27), .val (.ref b78), .val .null, .val (.int (1 : Int32)), .unset] [])
                    refine own_aload X88 hx (hb hby at_135) rfl rfl ?_
                    refine own_iconst X88 hx (0 : Int32) (hb hby at_137) rfl ?_
                    refine own_baload X88 hx hZ rfl f97 (v := .int x0) ⟨by decide, by decide⟩ rfl (hb hby at_138) ?_
                    show own_R p e below s _ _ _ T88 (mkF m 139 #[.val (.int p0), .val (.int p1), .val (.int p2), .val (.int p3), .val (.int p4), .val (.int (4 : Int32)), .val (.ref b27), .val (.ref b78), .val .null, .val (.int (1 : Int32)), .unset] [(.int x0)])
                    refine own_aload X88 hx (hb hby at_139) rfl rfl ?_
                    refine own_iconst X88 hx (0 : Int32) (hb hby at_141) rfl ?_
                    have f98 := ((f85.other W86 ne_b27_b78).keep Kc88 nin0)
                    refine own_baload X88 hx hZ rfl f98 (v := .int x0) ⟨by decide, by decide⟩ rfl (hb hby at_142) ?_
                    show own_R p e below s _ _ _ T88 (mkF m 143 #[.val (.int p0), .val (.int p1), .val (.int p2), .val (.int p3), .val (.int p4), .val (.int (4 : Int32)), .val (.ref b27), .val (.ref b78), .val .null, .val (.int (1 : Int32)), .unset] [(.int x0), (.int x0)])
                    refine own_icmp X88 hx (hb hby at_143) (pc' := 150) (by decide) (by decide) (fun hc => ?_) (fun hc => ?_)
                    · have hc143 : ¬ x0 = x0 := own_ne1 hc
                      exact absurd rfl hc143
                    · have hc143 : x0 = x0 := own_ne0 hc
                      clear hc
                      show own_R p e below s _ _ _ T88 (mkF m 146 #[.val (.int p0), .val (.int p1), .val (.int p2), .val (.int p3), .val (.int p4), .val (.int (4 : Int32)), .val (.ref b27), .val (.ref b78), .val .null, .val (.int (1 : Int32)), .unset] [])
                      refine own_iconst X88 hx (1 : Int32) (hb hby at_146) rfl ?_
                      refine own_goto X88 hx (hb hby at_147) (pc' := 151) (by decide) (by decide) ?_
                      show own_R p e below s _ _ _ T88 (mkF m 151 #[.val (.int p0), .val (.int p1), .val (.int p2), .val (.int p3), .val (.int p4), .val (.int (4 : Int32)), .val (.ref b27), .val (.ref b78), .val .null, .val (.int (1 : Int32)), .unset] [(.int (1 : Int32))])
                      refine own_istore X88 hx (hb hby at_151) (l' := #[.val (.int p0), .val (.int p1), .val (.int p2), .val (.int p3), .val (.int p4), .val (.int (4 : Int32)), .val (.ref b27), .val (.ref b78), .val .null, .val (.int (1 : Int32)), .unset]) rfl ?_
                      refine own_iload X88 hx (hb hby at_153) rfl ?_
                      refine own_iconst X88 hx (1 : Int32) (hb hby at_155) rfl ?_
                      refine own_icmp X88 hx (hb hby at_156) (pc' := 182) (by decide) (by decide) (fun hc => ?_) (fun hc => ?_)
                      · have hc156 : ¬ (1 : Int32) < (4 : Int32) := own_le1 hc
                        exact absurd (by decide) hc156
                      · have hc156 : (1 : Int32) < (4 : Int32) := own_le0 hc
                        clear hc
                        show own_R p e below s _ _ _ T88 (mkF m 159 #[.val (.int p0), .val (.int p1), .val (.int p2), .val (.int p3), .val (.int p4), .val (.int (4 : Int32)), .val (.ref b27), .val (.ref b78), .val .null, .val (.int (1 : Int32)), .unset] [])
                        refine own_iload X88 hx (hb hby at_159) rfl ?_
                        refine own_if X88 hx (hb hby at_161) (pc' := 179) (by decide) (by decide) (fun hc => ?_) (fun hc => ?_)
                        · have hc161 : (1 : Int32) = (0 : Int32) := own_eq1 hc
                          exact absurd hc161 (by decide)
                        · have hc161 : ¬ (1 : Int32) = (0 : Int32) := own_eq0 hc
                          clear hc
                          show own_R p e below s _ _ _ T88 (mkF m 164 #[.val (.int p0), .val (.int p1), .val (.int p2), .val (.int p3), .val (.int p4), .val (.int (4 : Int32)), .val (.ref b27), .val (.ref b78), .val .null, .val (.int (1 : Int32)), .unset] [])
                          refine own_aload X88 hx (hb hby at_164) rfl rfl ?_
                          refine own_iconst X88 hx (1 : Int32) (hb hby at_166) rfl ?_
                          refine own_baload X88 hx hZ rfl f97 (v := .int x1) ⟨by decide, by decide⟩ rfl (hb hby at_167) ?_
                          show own_R p e below s _ _ _ T88 (mkF m 168 #[.val (.int p0), .val (.int p1), .val (.int p2), .val (.int p3), .val (.int p4), .val (.int (4 : Int32)), .val (.ref b27), .val (.ref b78), .val .null, .val (.int (1 : Int32)), .unset] [(.int x1)])
                          refine own_aload X88 hx (hb hby at_168) rfl rfl ?_
                          refine own_iconst X88 hx (1 : Int32) (hb hby at_170) rfl ?_
                          refine own_baload X88 hx hZ rfl f98 (v := .int x1) ⟨by decide, by decide⟩ rfl (hb hby at_171) ?_
                          show own_R p e below s _ _ _ T88 (mkF m 172 #[.val (.int p0), .val (.int p1), .val (.int p2), .val (.int p3), .val (.int p4), .val (.int (4 : Int32)), .val (.ref b27), .val (.ref b78), .val .null, .val (.int (1 : Int32)), .unset] [(.int x1), (.int x1)])
                          refine own_icmp X88 hx (hb hby at_172) (pc' := 179) (by decide) (by decide) (fun hc => ?_) (fun hc => ?_)
                          · have hc172 : ¬ x1 = x1 := own_ne1 hc
                            exact absurd rfl hc172
                          · have hc172 : x1 = x1 := own_ne0 hc
                            clear hc
                            show own_R p e below s _ _ _ T88 (mkF m 175 #[.val (.int p0), .val (.int p1), .val (.int p2), .val (.int p3), .val (.int p4), .val (.int (4 : Int32)), .val (.ref b27), .val (.ref b78), .val .null, .val (.int (1 : Int32)), .unset] [])
                            refine own_iconst X88 hx (1 : Int32) (hb hby at_175) rfl ?_
                            refine own_goto X88 hx (hb hby at_176) (pc' := 180) (by decide) (by decide) ?_
                            show own_R p e below s _ _ _ T88 (mkF m 180 #[.val (.int p0), .val (.int p1), .val (.int p2), .val (.int p3), .val (.int p4), .val (.int (4 : Int32)), .val (.ref b27), .val (.ref b78), .val .null, .val (.int (1 : Int32)), .unset] [(.int (1 : Int32))])
                            refine own_istore X88 hx (hb hby at_180) (l' := #[.val (.int p0), .val (.int p1), .val (.int p2), .val (.int p3), .val (.int p4), .val (.int (4 : Int32)), .val (.ref b27), .val (.ref b78), .val .null, .val (.int (1 : Int32)), .unset]) rfl ?_
                            refine own_iload X88 hx (hb hby at_182) rfl ?_
                            refine own_iconst X88 hx (2 : Int32) (hb hby at_184) rfl ?_
                            refine own_icmp X88 hx (hb hby at_185) (pc' := 211) (by decide) (by decide) (fun hc => ?_) (fun hc => ?_)
                            · have hc185 : ¬ (2 : Int32) < (4 : Int32) := own_le1 hc
                              exact absurd (by decide) hc185
                            · have hc185 : (2 : Int32) < (4 : Int32) := own_le0 hc
                              clear hc
                              show own_R p e below s _ _ _ T88 (mkF m 188 #[.val (.int p0), .val (.int p1), .val (.int p2), .val (.int p3), .val (.int p4), .val (.int (4 : Int32)), .val (.ref b27), .val (.ref b78), .val .null, .val (.int (1 : Int32)), .unset] [])
                              refine own_iload X88 hx (hb hby at_188) rfl ?_
                              refine own_if X88 hx (hb hby at_190) (pc' := 208) (by decide) (by decide) (fun hc => ?_) (fun hc => ?_)
                              · have hc190 : (1 : Int32) = (0 : Int32) := own_eq1 hc
                                exact absurd hc190 (by decide)
                              · have hc190 : ¬ (1 : Int32) = (0 : Int32) := own_eq0 hc
                                clear hc
                                show own_R p e below s _ _ _ T88 (mkF m 193 #[.val (.int p0), .val (.int p1), .val (.int p2), .val (.int p3), .val (.int p4), .val (.int (4 : Int32)), .val (.ref b27), .val (.ref b78), .val .null, .val (.int (1 : Int32)), .unset] [])
                                refine own_aload X88 hx (hb hby at_193) rfl rfl ?_
                                refine own_iconst X88 hx (2 : Int32) (hb hby at_195) rfl ?_
                                refine own_baload X88 hx hZ rfl f97 (v := .int x2) ⟨by decide, by decide⟩ rfl (hb hby at_196) ?_
                                show own_R p e below s _ _ _ T88 (mkF m 197 #[.val (.int p0), .val (.int p1), .val (.int p2), .val (.int p3), .val (.int p4), .val (.int (4 : Int32)), .val (.ref b27), .val (.ref b78), .val .null, .val (.int (1 : Int32)), .unset] [(.int x2)])
                                refine own_aload X88 hx (hb hby at_197) rfl rfl ?_
                                refine own_iconst X88 hx (2 : Int32) (hb hby at_199) rfl ?_
                                refine own_baload X88 hx hZ rfl f98 (v := .int x2) ⟨by decide, by decide⟩ rfl (hb hby at_200) ?_
                                show own_R p e below s _ _ _ T88 (mkF m 201 #[.val (.int p0), .val (.int p1), .val (.int p2), .val (.int p3), .val (.int p4), .val (.int (4 : Int32)), .val (.ref b27), .val (.ref b78), .val .null, .val (.int (1 : Int32)), .unset] [(.int x2), (.int x2)])
                                refine own_icmp X88 hx (hb hby at_201) (pc' := 208) (by decide) (by decide) (fun hc => ?_) (fun hc => ?_)
                                · have hc201 : ¬ x2 = x2 := own_ne1 hc
                                  exact absurd rfl hc201
                                · have hc201 : x2 = x2 := own_ne0 hc
                                  clear hc
                                  show own_R p e below s _ _ _ T88 (mkF m 204 #[.val (.int p0), .val (.int p1), .val (.int p2), .val (.int p3), .val (.int p4), .val (.int (4 : Int32)), .val (.ref b27), .val (.ref b78), .val .null, .val (.int (1 : Int32)), .unset] [])
                                  refine own_iconst X88 hx (1 : Int32) (hb hby at_204) rfl ?_
                                  refine own_goto X88 hx (hb hby at_205) (pc' := 209) (by decide) (by decide) ?_
                                  show own_R p e below s _ _ _ T88 (mkF m 209 #[.val (.int p0), .val (.int p1), .val (.int p2), .val (.int p3), .val (.int p4), .val (.int (4 : Int32)), .val (.ref b27), .val (.ref b78), .val .null, .val (.int (1 : Int32)), .unset] [(.int (1 : Int32))])
                                  refine own_istore X88 hx (hb hby at_209) (l' := #[.val (.int p0), .val (.int p1), .val (.int p2), .val (.int p3), .val (.int p4), .val (.int (4 : Int32)), .val (.ref b27), .val (.ref b78), .val .null, .val (.int (1 : Int32)), .unset]) rfl ?_
                                  refine own_iload X88 hx (hb hby at_211) rfl ?_
                                  refine own_iconst X88 hx (3 : Int32) (hb hby at_213) rfl ?_
                                  refine own_icmp X88 hx (hb hby at_214) (pc' := 240) (by decide) (by decide) (fun hc => ?_) (fun hc => ?_)
                                  · have hc214 : ¬ (3 : Int32) < (4 : Int32) := own_le1 hc
                                    exact absurd (by decide) hc214
                                  · have hc214 : (3 : Int32) < (4 : Int32) := own_le0 hc
                                    clear hc
                                    show own_R p e below s _ _ _ T88 (mkF m 217 #[.val (.int p0), .val (.int p1), .val (.int p2), .val (.int p3), .val (.int p4), .val (.int (4 : Int32)), .val (.ref b27), .val (.ref b78), .val .null, .val (.int (1 : Int32)), .unset] [])
                                    refine own_iload X88 hx (hb hby at_217) rfl ?_
                                    refine own_if X88 hx (hb hby at_219) (pc' := 237) (by decide) (by decide) (fun hc => ?_) (fun hc => ?_)
                                    · have hc219 : (1 : Int32) = (0 : Int32) := own_eq1 hc
                                      exact absurd hc219 (by decide)
                                    · have hc219 : ¬ (1 : Int32) = (0 : Int32) := own_eq0 hc
                                      clear hc
                                      show own_R p e below s _ _ _ T88 (mkF m 222 #[.val (.int p0), .val (.int p1), .val (.int p2), .val (.int p3), .val (.int p4), .val (.int (4 : Int32)), .val (.ref b27), .val (.ref b78), .val .null, .val (.int (1 : Int32)), .unset] [])
                                      refine own_aload X88 hx (hb hby at_222) rfl rfl ?_
                                      refine own_iconst X88 hx (3 : Int32) (hb hby at_224) rfl ?_
                                      refine own_baload X88 hx hZ rfl f97 (v := .int x3) ⟨by decide, by decide⟩ rfl (hb hby at_225) ?_
                                      show own_R p e below s _ _ _ T88 (mkF m 226 #[.val (.int p0), .val (.int p1), .val (.int p2), .val (.int p3), .val (.int p4), .val (.int (4 : Int32)), .val (.ref b27), .val (.ref b78), .val .null, .val (.int (1 : Int32)), .unset] [(.int x3)])
                                      refine own_aload X88 hx (hb hby at_226) rfl rfl ?_
                                      refine own_iconst X88 hx (3 : Int32) (hb hby at_228) rfl ?_
                                      refine own_baload X88 hx hZ rfl f98 (v := .int x3) ⟨by decide, by decide⟩ rfl (hb hby at_229) ?_
                                      show own_R p e below s _ _ _ T88 (mkF m 230 #[.val (.int p0), .val (.int p1), .val (.int p2), .val (.int p3), .val (.int p4), .val (.int (4 : Int32)), .val (.ref b27), .val (.ref b78), .val .null, .val (.int (1 : Int32)), .unset] [(.int x3), (.int x3)])
                                      refine own_icmp X88 hx (hb hby at_230) (pc' := 237) (by decide) (by decide) (fun hc => ?_) (fun hc => ?_)
                                      · have hc230 : ¬ x3 = x3 := own_ne1 hc
                                        exact absurd rfl hc230
                                      · have hc230 : x3 = x3 := own_ne0 hc
                                        clear hc
                                        show own_R p e below s _ _ _ T88 (mkF m 233 #[.val (.int p0), .val (.int p1), .val (.int p2), .val (.int p3), .val (.int p4), .val (.int (4 : Int32)), .val (.ref b27), .val (.ref b78), .val .null, .val (.int (1 : Int32)), .unset] [])
                                        refine own_iconst X88 hx (1 : Int32) (hb hby at_233) rfl ?_
                                        refine own_goto X88 hx (hb hby at_234) (pc' := 238) (by decide) (by decide) ?_
                                        show own_R p e below s _ _ _ T88 (mkF m 238 #[.val (.int p0), .val (.int p1), .val (.int p2), .val (.int p3), .val (.int p4), .val (.int (4 : Int32)), .val (.ref b27), .val (.ref b78), .val .null, .val (.int (1 : Int32)), .unset] [(.int (1 : Int32))])
                                        refine own_istore X88 hx (hb hby at_238) (l' := #[.val (.int p0), .val (.int p1), .val (.int p2), .val (.int p3), .val (.int p4), .val (.int (4 : Int32)), .val (.ref b27), .val (.ref b78), .val .null, .val (.int (1 : Int32)), .unset]) rfl ?_
                                        refine own_iconst X88 hx (0 : Int32) (hb hby at_240) rfl ?_
                                        refine own_istore X88 hx (hb hby at_241) (l' := #[.val (.int p0), .val (.int p1), .val (.int p2), .val (.int p3), .val (.int p4), .val (.int (4 : Int32)), .val (.ref b27), .val (.ref b78), .val .null, .val (.int (1 : Int32)), .val (.int (0 : Int32))]) rfl ?_
                                        refine own_iload X88 hx (hb hby at_243) rfl ?_
                                        refine own_if X88 hx (hb hby at_245) (pc' := 259) (by decide) (by decide) (fun hc => ?_) (fun hc => ?_)
                                        · have hc245 : ¬ (0 : Int32) < (4 : Int32) := own_le1 hc
                                          exact absurd (by decide) hc245
                                        · have hc245 : (0 : Int32) < (4 : Int32) := own_le0 hc
                                          clear hc
                                          show own_R p e below s _ _ _ T88 (mkF m 248 #[.val (.int p0), .val (.int p1), .val (.int p2), .val (.int p3), .val (.int p4), .val (.int (4 : Int32)), .val (.ref b27), .val (.ref b78), .val .null, .val (.int (1 : Int32)), .val (.int (0 : Int32))] [])
                                          refine own_aload X88 hx (hb hby at_248) rfl rfl ?_
                                          refine own_iconst X88 hx (0 : Int32) (hb hby at_250) rfl ?_
                                          refine own_baload X88 hx hZ rfl f98 (v := .int x0) ⟨by decide, by decide⟩ rfl (hb hby at_251) ?_
                                          show own_R p e below s _ _ _ T88 (mkF m 252 #[.val (.int p0), .val (.int p1), .val (.int p2), .val (.int p3), .val (.int p4), .val (.int (4 : Int32)), .val (.ref b27), .val (.ref b78), .val .null, .val (.int (1 : Int32)), .val (.int (0 : Int32))] [(.int x0)])
                                          refine own_iconst X88 hx (-1 : Int32) (hb hby at_252) rfl ?_
                                          refine own_icmp X88 hx (hb hby at_253) (pc' := 259) (by decide) (by decide) (fun hc => ?_) (fun hc => ?_)
                                          · have hc253 : x0 = (-1 : Int32) := own_eq1 hc
                                            clear hc
                                            show own_R p e below s _ _ _ T88 (mkF m 259 #[.val (.int p0), .val (.int p1), .val (.int p2), .val (.int p3), .val (.int p4), .val (.int (4 : Int32)), .val (.ref b27), .val (.ref b78), .val .null, .val (.int (1 : Int32)), .val (.int (0 : Int32))] [])
                                            refine own_iload X88 hx (hb hby at_259) rfl ?_
                                            refine own_iconst X88 hx (1 : Int32) (hb hby at_261) rfl ?_
                                            refine own_icmp X88 hx (hb hby at_262) (pc' := 276) (by decide) (by decide) (fun hc => ?_) (fun hc => ?_)
                                            · have hc262 : ¬ (1 : Int32) < (4 : Int32) := own_le1 hc
                                              exact absurd (by decide) hc262
                                            · have hc262 : (1 : Int32) < (4 : Int32) := own_le0 hc
                                              clear hc
                                              show own_R p e below s _ _ _ T88 (mkF m 265 #[.val (.int p0), .val (.int p1), .val (.int p2), .val (.int p3), .val (.int p4), .val (.int (4 : Int32)), .val (.ref b27), .val (.ref b78), .val .null, .val (.int (1 : Int32)), .val (.int (0 : Int32))] [])
                                              refine own_aload X88 hx (hb hby at_265) rfl rfl ?_
                                              refine own_iconst X88 hx (1 : Int32) (hb hby at_267) rfl ?_
                                              refine own_baload X88 hx hZ rfl f98 (v := .int x1) ⟨by decide, by decide⟩ rfl (hb hby at_268) ?_
                                              show own_R p e below s _ _ _ T88 (mkF m 269 #[.val (.int p0), .val (.int p1), .val (.int p2), .val (.int p3), .val (.int p4), .val (.int (4 : Int32)), .val (.ref b27), .val (.ref b78), .val .null, .val (.int (1 : Int32)), .val (.int (0 : Int32))] [(.int x1)])
                                              refine own_iconst X88 hx (-1 : Int32) (hb hby at_269) rfl ?_
                                              refine own_icmp X88 hx (hb hby at_270) (pc' := 276) (by decide) (by decide) (fun hc => ?_) (fun hc => ?_)
                                              · have hc270 : x1 = (-1 : Int32) := own_eq1 hc
                                                clear hc
                                                show own_R p e below s _ _ _ T88 (mkF m 276 #[.val (.int p0), .val (.int p1), .val (.int p2), .val (.int p3), .val (.int p4), .val (.int (4 : Int32)), .val (.ref b27), .val (.ref b78), .val .null, .val (.int (1 : Int32)), .val (.int (0 : Int32))] [])
                                                refine own_iload X88 hx (hb hby at_276) rfl ?_
                                                refine own_iconst X88 hx (2 : Int32) (hb hby at_278) rfl ?_
                                                refine own_icmp X88 hx (hb hby at_279) (pc' := 293) (by decide) (by decide) (fun hc => ?_) (fun hc => ?_)
                                                · have hc279 : ¬ (2 : Int32) < (4 : Int32) := own_le1 hc
                                                  exact absurd (by decide) hc279
                                                · have hc279 : (2 : Int32) < (4 : Int32) := own_le0 hc
                                                  clear hc
                                                  show own_R p e below s _ _ _ T88 (mkF m 282 #[.val (.int p0), .val (.int p1), .val (.int p2), .val (.int p3), .val (.int p4), .val (.int (4 : Int32)), .val (.ref b27), .val (.ref b78), .val .null, .val (.int (1 : Int32)), .val (.int (0 : Int32))] [])
                                                  refine own_aload X88 hx (hb hby at_282) rfl rfl ?_
                                                  refine own_iconst X88 hx (2 : Int32) (hb hby at_284) rfl ?_
                                                  refine own_baload X88 hx hZ rfl f98 (v := .int x2) ⟨by decide, by decide⟩ rfl (hb hby at_285) ?_
                                                  show own_R p e below s _ _ _ T88 (mkF m 286 #[.val (.int p0), .val (.int p1), .val (.int p2), .val (.int p3), .val (.int p4), .val (.int (4 : Int32)), .val (.ref b27), .val (.ref b78), .val .null, .val (.int (1 : Int32)), .val (.int (0 : Int32))] [(.int x2)])
                                                  refine own_iconst X88 hx (-1 : Int32) (hb hby at_286) rfl ?_
                                                  refine own_icmp X88 hx (hb hby at_287) (pc' := 293) (by decide) (by decide) (fun hc => ?_) (fun hc => ?_)
                                                  · have hc287 : x2 = (-1 : Int32) := own_eq1 hc
                                                    clear hc
                                                    show own_R p e below s _ _ _ T88 (mkF m 293 #[.val (.int p0), .val (.int p1), .val (.int p2), .val (.int p3), .val (.int p4), .val (.int (4 : Int32)), .val (.ref b27), .val (.ref b78), .val .null, .val (.int (1 : Int32)), .val (.int (0 : Int32))] [])
                                                    refine own_iload X88 hx (hb hby at_293) rfl ?_
                                                    refine own_iconst X88 hx (3 : Int32) (hb hby at_295) rfl ?_
                                                    refine own_icmp X88 hx (hb hby at_296) (pc' := 310) (by decide) (by decide) (fun hc => ?_) (fun hc => ?_)
                                                    · have hc296 : ¬ (3 : Int32) < (4 : Int32) := own_le1 hc
                                                      exact absurd (by decide) hc296
                                                    · have hc296 : (3 : Int32) < (4 : Int32) := own_le0 hc
                                                      clear hc
                                                      show own_R p e below s _ _ _ T88 (mkF m 299 #[.val (.int p0), .val (.int p1), .val (.int p2), .val (.int p3), .val (.int p4), .val (.int (4 : Int32)), .val (.ref b27), .val (.ref b78), .val .null, .val (.int (1 : Int32)), .val (.int (0 : Int32))] [])
                                                      refine own_aload X88 hx (hb hby at_299) rfl rfl ?_
                                                      refine own_iconst X88 hx (3 : Int32) (hb hby at_301) rfl ?_
                                                      refine own_baload X88 hx hZ rfl f98 (v := .int x3) ⟨by decide, by decide⟩ rfl (hb hby at_302) ?_
                                                      show own_R p e below s _ _ _ T88 (mkF m 303 #[.val (.int p0), .val (.int p1), .val (.int p2), .val (.int p3), .val (.int p4), .val (.int (4 : Int32)), .val (.ref b27), .val (.ref b78), .val .null, .val (.int (1 : Int32)), .val (.int (0 : Int32))] [(.int x3)])
                                                      refine own_iconst X88 hx (-1 : Int32) (hb hby at_303) rfl ?_
                                                      refine own_icmp X88 hx (hb hby at_304) (pc' := 310) (by decide) (by decide) (fun hc => ?_) (fun hc => ?_)
                                                      · have hc304 : x3 = (-1 : Int32) := own_eq1 hc
                                                        clear hc
                                                        show own_R p e below s _ _ _ T88 (mkF m 310 #[.val (.int p0), .val (.int p1), .val (.int p2), .val (.int p3), .val (.int p4), .val (.int (4 : Int32)), .val (.ref b27), .val (.ref b78), .val .null, .val (.int (1 : Int32)), .val (.int (0 : Int32))] [])
                                                        refine own_iload X88 hx (hb hby at_310) rfl ?_
                                                        refine own_if X88 hx (hb hby at_312) (pc' := 331) (by decide) (by decide) (fun hc => ?_) (fun hc => ?_)
                                                        · have hc312 : ¬ (0 : Int32) = (0 : Int32) := own_ne1 hc
                                                          exact absurd (by decide) hc312
                                                        · have hc312 : (0 : Int32) = (0 : Int32) := own_ne0 hc
                                                          clear hc
                                                          show own_R p e below s _ _ _ T88 (mkF m 315 #[.val (.int p0), .val (.int p1), .val (.int p2), .val (.int p3), .val (.int p4), .val (.int (4 : Int32)), .val (.ref b27), .val (.ref b78), .val .null, .val (.int (1 : Int32)), .val (.int (0 : Int32))] [])
                                                          refine own_iload X88 hx (hb hby at_315) rfl ?_
                                                          refine own_if X88 hx (hb hby at_317) (pc' := 329) (by decide) (by decide) (fun hc => ?_) (fun hc => ?_)
                                                          · have hc317 : (1 : Int32) = (0 : Int32) := own_eq1 hc
                                                            exact absurd hc317 (by decide)
                                                          · have hc317 : ¬ (1 : Int32) = (0 : Int32) := own_eq0 hc
                                                            clear hc
                                                            show own_R p e below s _ _ _ T88 (mkF m 320 #[.val (.int p0), .val (.int p1), .val (.int p2), .val (.int p3), .val (.int p4), .val (.int (4 : Int32)), .val (.ref b27), .val (.ref b78), .val .null, .val (.int (1 : Int32)), .val (.int (0 : Int32))] [])
                                                            refine own_aload X88 hx (hb hby at_320) rfl rfl ?_
                                                            refine own_ifnonnullN X88 hx (hb hby at_322) ?_
                                                            show own_R p e below s _ _ _ T88 (mkF m 325 #[.val (.int p0), .val (.int p1), .val (.int p2), .val (.int p3), .val (.int p4), .val (.int (4 : Int32)), .val (.ref b27), .val (.ref b78), .val .null, .val (.int (1 : Int32)), .val (.int (0 : Int32))] [])
                                                            refine own_iconst X88 hx (1 : Int32) (hb hby at_325) rfl ?_
                                                            refine own_goto X88 hx (hb hby at_326) (pc' := 330) (by decide) (by decide) ?_
                                                            show own_R p e below s _ _ _ T88 (mkF m 330 #[.val (.int p0), .val (.int p1), .val (.int p2), .val (.int p3), .val (.int p4), .val (.int (4 : Int32)), .val (.ref b27), .val (.ref b78), .val .null, .val (.int (1 : Int32)), .val (.int (0 : Int32))] [(.int (1 : Int32))])
                                                            refine own_retN X88 hx (t := .boolean) Bd.returns (by simp) hlk (hb hby at_330) ?_ (by decide) (by decide)
                                                            exact ⟨rfl, N88⟩
                                                      · have hc304 : ¬ x3 = (-1 : Int32) := own_eq0 hc
                                                        exact absurd y3 hc304
                                                  · have hc287 : ¬ x2 = (-1 : Int32) := own_eq0 hc
                                                    exact absurd y2 hc287
                                              · have hc270 : ¬ x1 = (-1 : Int32) := own_eq0 hc
                                                exact absurd y1 hc270
                                          · have hc253 : ¬ x0 = (-1 : Int32) := own_eq0 hc
                                            exact absurd y0 hc253
set_option maxRecDepth 65536 in
set_option maxHeartbeats 40000000 in
theorem comes_1 {Post : Tables → Env → Array Value → State → Outcome → State → Prop} (hpost : ∀ tb e args s v u, (limb_1_1.after args s (.returned v) u = true ∧ limb_1_2.after args s (.returned v) u = true) → FrameEnd s (.returned v) u (Jvm.fieldLocs frame_1_writes args s ++ Jvm.arrayLocs frame_1_arrays args s ++ Jvm.staticLocs frame_1_statics s) 16 128 → Post tb e args s (.returned v) u) :
    ArmFor flags0 classFile x code maxLocals ret World_1 tables_1 room_1 Calls_1 rest_1 Pre_1 Post := by
  intro l hfl _ _ p e ha hc hk s m args below hf hA hF happ hP
  obtain ⟨hcalls, hrest, hpre⟩ := hP
  obtain ⟨-, -, -, hnamed, -, -, -, hat⟩ := (Spec.applies_iff hf).mp happ
  obtain ⟨hg, hn⟩ := and_e (Cond.before_iff.mp (show (Jvm.Cond.and given_1 narrow_1).before args s = true from hpre))
  obtain ⟨g1, g2⟩ := and_e hg
  obtain ⟨g3, g4⟩ := and_e g2
  obtain ⟨g5, g6⟩ := and_e g4
  obtain ⟨g7, g8⟩ := and_e g6
  obtain ⟨g9, g10⟩ := and_e g8
  obtain ⟨w0, w1, w2, w3, w4, rfl⟩ : ∃ w0 w1 w2 w3 w4 : Value, args = #[w0, w1, w2, w3, w4] := by
    have hs : args.size = 5 := by simpa [Cond.value, given_1] using g1
    obtain ⟨L⟩ := args
    match L, hs with
    | [w0, w1, w2, w3, w4], _ => exact ⟨w0, w1, w2, w3, w4, rfl⟩
  have hw := fun d (hd : d ∈ tables_1) => atoms_spec (ws := Jvm.Cond.code x code maxLocals ret :: tables_1) hat d (List.mem_cons_of_mem _ hd)
  obtain ⟨i0, ei0⟩ := is_v g3
  obtain rfl : w0 = (.int i0) := Option.some.inj ei0
  obtain ⟨i1, ei1⟩ := is_v g5
  obtain rfl : w1 = (.int i1) := Option.some.inj ei1
  obtain ⟨i2, ei2⟩ := is_v g7
  obtain rfl : w2 = (.int i2) := Option.some.inj ei2
  obtain ⟨i3, ei3⟩ := is_v g9
  obtain rfl : w3 = (.int i3) := Option.some.inj ei3
  obtain ⟨i4, ei4⟩ := is_v g10
  obtain rfl : w4 = (.int i4) := Option.some.inj ei4
  obtain ⟨n, o, h1, h2, h3, _, L, rfl, ⟨rfl, N⟩, hq⟩ := rm0 l s _ hw tables_1 i0 i1 i2 i3 i4 s.heap s.heap.size (Nat.le_refl _) p e ha hc hk s m _ below hf ((Spec.applies_iff_loose hf).mp happ).1 ⟨rfl, State.Warmed39.refl s, rfl⟩ trivial
  refine ⟨n, _, h1, h2, h3, hpost _ _ _ _ _ _ ⟨Cond.after_iff.mpr rfl, Cond.after_iff.mpr (eq_i res_at (Term.int_eval (1)) rfl)⟩ ⟨hq.1, hq.2.1, (hq.2.2.sift fun y hy => Or.inr (N y hy)).mono (by decide) (by decide)⟩⟩
theorem main_1_1 : Claimed_1_1 := comes_1 fun _ _ _ _ _ _ h hF => ⟨h.1, hF⟩
theorem main_1_2 : Claimed_1_2 := comes_1 fun _ _ _ _ _ _ h hF => ⟨h.2, hF⟩
end Jvm.Pilot.@@N@@
namespace Jvm.Pilot.@@N@@
open Jvm Jvm.ClassFile Sem Op Lib Jvm.Free Jvm.Stand Jvm.Pilot.@@N@@.Jvm.D
/-! MADE BY PROGRAM (witnessworld.py) out of the Statement's table words and the real class files: 12 classes; the members and pool entries that the words name. The judged class is class 1, her method 2. -/
namespace start1
open Jvm.ClassFile
def u (s : String) : CpInfo := .utf8 (stringToUtf16 s)
/-- a pool by its gaps: so many unusable entries, then the entry; so many at the end -/
def gap : Nat → List CpInfo → List CpInfo
  | 0, r => r
  | n + 1, r => .unusable :: gap n r
def poolList (es : List (Nat × CpInfo)) (last : Nat) : List CpInfo := es.foldr (fun e r => gap e.1 (e.2 :: r)) (gap last [])
def pool (es : List (Nat × CpInfo)) (last : Nat) : Array CpInfo := ⟨poolList es last⟩
def fileOf (pool : Array CpInfo) (this : Nat) (attrs : Array Attribute := #[]) (ms : Array MethodInfo := #[]) (fl : Nat := 33) (sup : Nat := 0) (ifs : Array Nat := #[]) (fds : Array FieldInfo := #[]) : ClassFile where
  minorVersion := 0
  majorVersion := 65
  constantPool := pool
  accessFlags := fl
  thisClass := this
  superClass := sup
  interfaces := ifs
  fields := fds
  methods := ms
  attributes := attrs
def plain (name : String) (sup : Option ClassId) : Class where
  name := name
  kind := .ordinary
  loader := none
  accessFlags := 33
  super := sup
  interfaces := #[]
  cf := none
  fields := #[]
  methods := #[]
  instanceTypes := #[]
  staticTypes := #[]
  resolved := #[]
  callSites := []
  init := .initialized
  statics := none
  mirror := none

def pool0 : Array CpInfo := pool [(5, u "<init>"), (0, u "()V"), (1, .class_ 10), (1, u "java/lang/Object"), (85, u "clone"), (0, u "()Ljava/lang/Object;")] 26

def k0m0 : Method := { name := "<init>", desc := "()V", sig := { parameters := [], returnType := none }, accessFlags := 1, code := none }
def k0m1 : Method := { name := "clone", desc := "()Ljava/lang/Object;", sig := { parameters := [], returnType := some (.object "java/lang/Object") }, accessFlags := 260, code := none }
/-- java/lang/Object -/
def k0 : Class := { plain "java/lang/Object" none with
  accessFlags := 33
  interfaces := #[]
  cf := some (fileOf pool0 8 #[] #[{ accessFlags := 1, nameIndex := 5, descriptorIndex := 6, attributes := #[] }, { accessFlags := 260, nameIndex := 96, descriptorIndex := 97, attributes := #[] }] 33 0 #[] #[])
  fields := #[]
  methods := #[k0m0, k0m1]
  instanceTypes := #[]
  staticTypes := #[]
  resolved := Array.replicate 124 none
  statics := none }

def pool1 : Array CpInfo := pool [(2, .class_ 4), (1, u "java/lang/Object"), (0, u "<init>"), (0, u "()V"), (0, .integer 2147483647), (0, .methodref 9 10), (0, .class_ 11), (0, .nameAndType 12 13), (0, u "com/example/fach/fach/io/KeyBytesAfterAllWithPinLaw"), (0, u "draw"), (0, u "(I)B"), (0, .methodref 15 16), (0, .class_ 17), (0, .nameAndType 18 19), (0, u "com/example/fach/fach/io/KeyBytes"), (0, u "afterAllWith"), (0, u "([B)[B"), (3, u "law"), (0, u "(IIIII)Z")] 4

def k1m0 : Method := { name := "<init>", desc := "()V", sig := { parameters := [], returnType := none }, accessFlags := 1, code := none }
def k1c1 : Code := { maxStack := 2, maxLocals := 1, code := method_2_code, exceptionTable := #[], attributes := #[] }
def k1m1 : Method := { name := "draw", desc := "(I)B", sig := { parameters := [.int], returnType := some .byte }, accessFlags := 10, code := some k1c1 }
def k1c2 : Code := { maxStack := 4, maxLocals := 11, code := code, exceptionTable := #[], attributes := #[] }
def k1m2 : Method := { name := "law", desc := "(IIIII)Z", sig := { parameters := [.int, .int, .int, .int, .int], returnType := some .boolean }, accessFlags := 9, code := some k1c2 }
/-- com/example/fach/fach/io/KeyBytesAfterAllWithPinLaw -/
def k1 : Class := { plain "com/example/fach/fach/io/KeyBytesAfterAllWithPinLaw" (some 0) with
  accessFlags := 49
  interfaces := #[]
  cf := some (fileOf pool1 9 #[] #[{ accessFlags := 1, nameIndex := 5, descriptorIndex := 6, attributes := #[] }, { accessFlags := 10, nameIndex := 12, descriptorIndex := 13, attributes := #[] }, { accessFlags := 9, nameIndex := 23, descriptorIndex := 24, attributes := #[] }] 49 2 #[] #[])
  fields := #[]
  methods := #[k1m0, k1m1, k1m2]
  instanceTypes := #[]
  staticTypes := #[]
  resolved := Array.replicate 29 none
  statics := none }

def pool2 : Array CpInfo := pool [(2, .class_ 4), (1, u "java/lang/Object"), (0, u "<init>"), (0, u "()V"), (7, .class_ 16), (1, u "com/example/fach/fach/io/KeyBytes"), (5, .methodref 23 24), (0, .class_ 25), (0, .nameAndType 26 27), (0, u "java/util/Arrays"), (0, u "copyOf"), (0, u "([BI)[B"), (71, u "ESCAPE"), (0, u "I"), (2, u "ESCAPED"), (1, u "END"), (1, u "NEGATIVE"), (0, u "ZERO"), (1, u "POSITIVE"), (1, u "EXPONENT_OFFSET"), (5, u "afterAllWith"), (0, u "([B)[B")] 13

def k2m0 : Method := { name := "<init>", desc := "()V", sig := { parameters := [], returnType := none }, accessFlags := 2, code := none }
def k2c1 : Code := { maxStack := 4, maxLocals := 3, code := prog_1_method_3_code, exceptionTable := #[], attributes := #[] }
def k2m1 : Method := { name := "afterAllWith", desc := "([B)[B", sig := { parameters := [(.array .byte)], returnType := some (.array .byte) }, accessFlags := 8, code := some k2c1 }
/-- com/example/fach/fach/io/KeyBytes -/
def k2 : Class := { plain "com/example/fach/fach/io/KeyBytes" (some 0) with
  accessFlags := 32
  interfaces := #[]
  cf := some (fileOf pool2 14 #[] #[{ accessFlags := 2, nameIndex := 5, descriptorIndex := 6, attributes := #[] }, { accessFlags := 8, nameIndex := 118, descriptorIndex := 119, attributes := #[] }] 32 2 #[] #[{ accessFlags := 26, nameIndex := 99, descriptorIndex := 100, attributes := #[] }, { accessFlags := 26, nameIndex := 103, descriptorIndex := 100, attributes := #[] }, { accessFlags := 26, nameIndex := 105, descriptorIndex := 100, attributes := #[] }, { accessFlags := 26, nameIndex := 107, descriptorIndex := 100, attributes := #[] }, { accessFlags := 26, nameIndex := 108, descriptorIndex := 100, attributes := #[] }, { accessFlags := 26, nameIndex := 110, descriptorIndex := 100, attributes := #[] }, { accessFlags := 26, nameIndex := 112, descriptorIndex := 100, attributes := #[] }])
  fields := #[{ name := "ESCAPE", type := .int, accessFlags := 26, slot := 0, constantValue := 0 }, { name := "ESCAPED", type := .int, accessFlags := 26, slot := 1, constantValue := 0 }, { name := "END", type := .int, accessFlags := 26, slot := 2, constantValue := 0 }, { name := "NEGATIVE", type := .int, accessFlags := 26, slot := 3, constantValue := 0 }, { name := "ZERO", type := .int, accessFlags := 26, slot := 4, constantValue := 0 }, { name := "POSITIVE", type := .int, accessFlags := 26, slot := 5, constantValue := 0 }, { name := "EXPONENT_OFFSET", type := .int, accessFlags := 26, slot := 6, constantValue := 0 }]
  methods := #[k2m0, k2m1]
  instanceTypes := #[]
  staticTypes := #[.int, .int, .int, .int, .int, .int, .int]
  resolved := Array.replicate 133 none
  statics := none }

def pool3 : Array CpInfo := pool [(2, .class_ 4), (1, u "java/lang/Object"), (0, u "<init>"), (0, u "()V"), (7, .class_ 16), (1, u "java/util/Arrays"), (57, .class_ 76), (1, u "java/util/Arrays$NaturalOrder"), (32, u "()Ljava/lang/Object;"), (3, .class_ 115), (1, u "java/util/Arrays$LegacyMergeSort"), (1, u "Z"), (10, .nameAndType 129 109), (0, u "clone"), (20, .methodref 151 152), (0, .class_ 153), (0, .nameAndType 154 155), (0, u "java/lang/System"), (0, u "arraycopy"), (0, u "(Ljava/lang/Object;ILjava/lang/Object;II)V"), (146, u "copyOf"), (1, .methodref 305 306), (0, .class_ 307), (0, .nameAndType 308 309), (0, u "java/lang/Math"), (0, u "min"), (0, u "(II)I"), (0, .methodref 311 128), (0, .class_ 312), (0, u "[B"), (62, .class_ 376), (0, u "java/util/Arrays$ArrayList"), (68, u "$assertionsDisabled"), (269, u "MIN_ARRAY_SORT_GRAN"), (0, u "I"), (2, u "INSERTIONSORT_THRESHOLD"), (149, u "([BI)[B"), (105, .class_ 976), (0, u "java/util/Arrays$ArrayItr")] 52

def k3m0 : Method := { name := "<init>", desc := "()V", sig := { parameters := [], returnType := none }, accessFlags := 2, code := none }
def k3c1 : Code := { maxStack := 6, maxLocals := 3, code := jdk_65_method_121_code, exceptionTable := #[], attributes := #[] }
def k3m1 : Method := { name := "copyOf", desc := "([BI)[B", sig := { parameters := [(.array .byte), .int], returnType := some (.array .byte) }, accessFlags := 9, code := some k3c1 }
/-- java/util/Arrays -/
def k3 : Class := { plain "java/util/Arrays" (some 0) with
  accessFlags := 49
  interfaces := #[]
  cf := some (fileOf pool3 14 #[.nestMembers #[975, 375, 113, 74]] #[{ accessFlags := 2, nameIndex := 5, descriptorIndex := 6, attributes := #[] }, { accessFlags := 9, nameIndex := 302, descriptorIndex := 869, attributes := #[] }] 49 2 #[] #[{ accessFlags := 26, nameIndex := 715, descriptorIndex := 716, attributes := #[] }, { accessFlags := 26, nameIndex := 719, descriptorIndex := 716, attributes := #[] }, { accessFlags := 4120, nameIndex := 445, descriptorIndex := 117, attributes := #[] }])
  fields := #[{ name := "MIN_ARRAY_SORT_GRAN", type := .int, accessFlags := 26, slot := 0, constantValue := 0 }, { name := "INSERTIONSORT_THRESHOLD", type := .int, accessFlags := 26, slot := 1, constantValue := 0 }, { name := "$assertionsDisabled", type := .boolean, accessFlags := 4120, slot := 2, constantValue := 0 }]
  methods := #[k3m0, k3m1]
  instanceTypes := #[]
  staticTypes := #[.int, .int, .boolean]
  resolved := Array.replicate 1029 none
  statics := none }

def pool4 : Array CpInfo := pool [(1, .class_ 2), (0, u "java/lang/Cloneable"), (0, .class_ 4), (0, u "java/lang/Object")] 2

/-- java/lang/Cloneable -/
def k4 : Class := { plain "java/lang/Cloneable" (some 0) with
  accessFlags := 1537
  interfaces := #[]
  cf := some (fileOf pool4 1 #[] #[] 1537 3 #[] #[])
  fields := #[]
  methods := #[]
  instanceTypes := #[]
  staticTypes := #[]
  resolved := Array.replicate 7 none
  statics := none }

def pool5 : Array CpInfo := pool [(1, .class_ 2), (0, u "java/lang/Math"), (1, .class_ 6), (1, u "java/lang/Object"), (0, u "<init>"), (0, u "()V"), (89, .class_ 100), (1, u "java/lang/Math$RandomNumberGeneratorHolder"), (71, u "negativeZeroFloatBits"), (0, u "J"), (2, u "negativeZeroDoubleBits"), (24, u "min"), (43, u "$assertionsDisabled"), (0, u "Z"), (88, u "(II)I"), (2, u "twoToTheDoubleScaleDown"), (0, u "D"), (4, u "twoToTheDoubleScaleUp"), (9, u "E"), (3, u "PI"), (2, u "TAU"), (2, u "DEGREES_TO_RADIANS"), (0, u "RADIANS_TO_DEGREES")] 94

def k5m0 : Method := { name := "<init>", desc := "()V", sig := { parameters := [], returnType := none }, accessFlags := 2, code := none }
def k5c1 : Code := { maxStack := 2, maxLocals := 2, code := jdk_29_method_69_code, exceptionTable := #[], attributes := #[] }
def k5m1 : Method := { name := "min", desc := "(II)I", sig := { parameters := [.int, .int], returnType := some .int }, accessFlags := 9, code := some k5c1 }
/-- java/lang/Math -/
def k5 : Class := { plain "java/lang/Math" (some 0) with
  accessFlags := 49
  interfaces := #[]
  cf := some (fileOf pool5 1 #[.nestMembers #[98]] #[{ accessFlags := 2, nameIndex := 7, descriptorIndex := 8, attributes := #[] }, { accessFlags := 9, nameIndex := 201, descriptorIndex := 335, attributes := #[] }] 49 4 #[] #[{ accessFlags := 25, nameIndex := 354, descriptorIndex := 339, attributes := #[] }, { accessFlags := 25, nameIndex := 358, descriptorIndex := 339, attributes := #[] }, { accessFlags := 25, nameIndex := 361, descriptorIndex := 339, attributes := #[] }, { accessFlags := 26, nameIndex := 364, descriptorIndex := 339, attributes := #[] }, { accessFlags := 26, nameIndex := 365, descriptorIndex := 339, attributes := #[] }, { accessFlags := 26, nameIndex := 172, descriptorIndex := 173, attributes := #[] }, { accessFlags := 26, nameIndex := 176, descriptorIndex := 173, attributes := #[] }, { accessFlags := 8, nameIndex := 344, descriptorIndex := 339, attributes := #[] }, { accessFlags := 8, nameIndex := 338, descriptorIndex := 339, attributes := #[] }, { accessFlags := 4120, nameIndex := 245, descriptorIndex := 246, attributes := #[] }])
  fields := #[{ name := "E", type := .double, accessFlags := 25, slot := 0, constantValue := 0 }, { name := "PI", type := .double, accessFlags := 25, slot := 1, constantValue := 0 }, { name := "TAU", type := .double, accessFlags := 25, slot := 2, constantValue := 0 }, { name := "DEGREES_TO_RADIANS", type := .double, accessFlags := 26, slot := 3, constantValue := 0 }, { name := "RADIANS_TO_DEGREES", type := .double, accessFlags := 26, slot := 4, constantValue := 0 }, { name := "negativeZeroFloatBits", type := .long, accessFlags := 26, slot := 5, constantValue := 0 }, { name := "negativeZeroDoubleBits", type := .long, accessFlags := 26, slot := 6, constantValue := 0 }, { name := "twoToTheDoubleScaleUp", type := .double, accessFlags := 8, slot := 7, constantValue := 0 }, { name := "twoToTheDoubleScaleDown", type := .double, accessFlags := 8, slot := 8, constantValue := 0 }, { name := "$assertionsDisabled", type := .boolean, accessFlags := 4120, slot := 9, constantValue := 0 }]
  methods := #[k5m0, k5m1]
  instanceTypes := #[]
  staticTypes := #[.double, .double, .double, .double, .double, .long, .long, .double, .double, .boolean]
  resolved := Array.replicate 460 none
  statics := none }

def pool6 : Array CpInfo := pool [(2, .class_ 4), (1, u "java/lang/Object"), (0, u "<init>"), (0, u "()V"), (1, .class_ 10), (1, u "java/lang/System"), (0, u "allowSecurityManager"), (0, u "I"), (16, u "cons"), (0, u "Ljava/io/Console;"), (77, .class_ 110), (1, u "java/lang/System$CallersHolder"), (43, u "initialErrStream"), (0, u "Ljava/io/PrintStream;"), (19, u "security"), (0, u "Ljava/lang/SecurityManager;"), (31, .class_ 209), (0, u "java/lang/System$1"), (7, u "props"), (0, u "Ljava/util/Properties;"), (2, u "lineSeparator"), (0, u "Ljava/lang/String;"), (96, .class_ 321), (1, u "java/lang/System$LoggerFinder"), (5, .class_ 328), (0, u "java/lang/System$Logger"), (67, u "err"), (2, u "out"), (91, u "notSupportedJnuEncoding"), (15, u "in"), (17, u "initialIn"), (0, u "Ljava/io/InputStream;"), (35, u "bootLayer"), (0, u "Ljava/lang/ModuleLayer;"), (99, .class_ 664), (0, u "java/lang/System$2"), (9, u "NEVER"), (2, u "MAYBE"), (49, u "arraycopy"), (0, u "(Ljava/lang/Object;ILjava/lang/Object;II)V"), (72, .class_ 802), (0, u "java/lang/System$Logger$Level")] 31

def k6m0 : Method := { name := "<init>", desc := "()V", sig := { parameters := [], returnType := none }, accessFlags := 2, code := none }
def k6m1 : Method := { name := "arraycopy", desc := "(Ljava/lang/Object;ILjava/lang/Object;II)V", sig := { parameters := [(.object "java/lang/Object"), .int, (.object "java/lang/Object"), .int, .int], returnType := none }, accessFlags := 265, code := none }
/-- java/lang/System -/
def k6 : Class := { plain "java/lang/System" (some 0) with
  accessFlags := 49
  interfaces := #[]
  cf := some (fileOf pool6 8 #[.nestMembers #[319, 327, 801, 108, 663, 208]] #[{ accessFlags := 2, nameIndex := 5, descriptorIndex := 6, attributes := #[] }, { accessFlags := 265, nameIndex := 727, descriptorIndex := 728, attributes := #[] }] 49 2 #[] #[{ accessFlags := 25, nameIndex := 507, descriptorIndex := 526, attributes := #[] }, { accessFlags := 25, nameIndex := 399, descriptorIndex := 155, attributes := #[] }, { accessFlags := 25, nameIndex := 396, descriptorIndex := 155, attributes := #[] }, { accessFlags := 10, nameIndex := 525, descriptorIndex := 526, attributes := #[] }, { accessFlags := 26, nameIndex := 674, descriptorIndex := 12, attributes := #[] }, { accessFlags := 26, nameIndex := 677, descriptorIndex := 12, attributes := #[] }, { accessFlags := 10, nameIndex := 11, descriptorIndex := 12, attributes := #[] }, { accessFlags := 74, nameIndex := 175, descriptorIndex := 176, attributes := #[] }, { accessFlags := 10, nameIndex := 491, descriptorIndex := 222, attributes := #[] }, { accessFlags := 74, nameIndex := 29, descriptorIndex := 30, attributes := #[] }, { accessFlags := 74, nameIndex := 154, descriptorIndex := 155, attributes := #[] }, { accessFlags := 10, nameIndex := 217, descriptorIndex := 218, attributes := #[] }, { accessFlags := 10, nameIndex := 221, descriptorIndex := 222, attributes := #[] }, { accessFlags := 8, nameIndex := 562, descriptorIndex := 563, attributes := #[] }])
  fields := #[{ name := "in", type := (.object "java/io/InputStream"), accessFlags := 25, slot := 0, constantValue := 0 }, { name := "out", type := (.object "java/io/PrintStream"), accessFlags := 25, slot := 1, constantValue := 0 }, { name := "err", type := (.object "java/io/PrintStream"), accessFlags := 25, slot := 2, constantValue := 0 }, { name := "initialIn", type := (.object "java/io/InputStream"), accessFlags := 10, slot := 3, constantValue := 0 }, { name := "NEVER", type := .int, accessFlags := 26, slot := 4, constantValue := 0 }, { name := "MAYBE", type := .int, accessFlags := 26, slot := 5, constantValue := 0 }, { name := "allowSecurityManager", type := .int, accessFlags := 10, slot := 6, constantValue := 0 }, { name := "security", type := (.object "java/lang/SecurityManager"), accessFlags := 74, slot := 7, constantValue := 0 }, { name := "notSupportedJnuEncoding", type := (.object "java/lang/String"), accessFlags := 10, slot := 8, constantValue := 0 }, { name := "cons", type := (.object "java/io/Console"), accessFlags := 74, slot := 9, constantValue := 0 }, { name := "initialErrStream", type := (.object "java/io/PrintStream"), accessFlags := 74, slot := 10, constantValue := 0 }, { name := "props", type := (.object "java/util/Properties"), accessFlags := 10, slot := 11, constantValue := 0 }, { name := "lineSeparator", type := (.object "java/lang/String"), accessFlags := 10, slot := 12, constantValue := 0 }, { name := "bootLayer", type := (.object "java/lang/ModuleLayer"), accessFlags := 8, slot := 13, constantValue := 0 }]
  methods := #[k6m0, k6m1]
  instanceTypes := #[]
  staticTypes := #[(.object "java/io/InputStream"), (.object "java/io/PrintStream"), (.object "java/io/PrintStream"), (.object "java/io/InputStream"), .int, .int, .int, (.object "java/lang/SecurityManager"), (.object "java/lang/String"), (.object "java/io/Console"), (.object "java/io/PrintStream"), (.object "java/util/Properties"), (.object "java/lang/String"), (.object "java/lang/ModuleLayer")]
  resolved := Array.replicate 834 none
  statics := none }

def pool7 : Array CpInfo := pool [(1, u "java/io/Serializable"), (0, .class_ 1), (0, u "java/lang/Object"), (0, .class_ 3)] 3

/-- java/io/Serializable -/
def k7 : Class := { plain "java/io/Serializable" (some 0) with
  accessFlags := 1537
  interfaces := #[]
  cf := some (fileOf pool7 2 #[] #[] 1537 4 #[] #[])
  fields := #[]
  methods := #[]
  instanceTypes := #[]
  staticTypes := #[]
  resolved := Array.replicate 8 none
  statics := none }

/-- the primitive byte -/
def k8 : Class := { plain "byte" none with kind := .primitive 'B', accessFlags := 0x411 }
/-- [B -/
def k9 : Class := { plain "[B" (some 0) with kind := .array 8 .byte, interfaces := #[4, 7], accessFlags := 1041 }

/-- the primitive int -/
def k10 : Class := { plain "int" none with kind := .primitive 'I', accessFlags := 0x411 }
/-- [I -/
def k11 : Class := { plain "[I" (some 0) with kind := .array 10 .int, interfaces := #[4, 7], accessFlags := 1041 }

def heap : Heap := #[]
def classes : Array Class := #[k0, k1, k2, k3, k4, k5, k6, k7, k8, k9, k10, k11]
def interned : List (Array UInt16 × Addr) := []
def slotsUsed : Nat := 0
def theMethod : MethodId := ⟨1, 2⟩
def args0 : Array Value := #[.int 3, .int 7, .int 1, .int 2, .int 4]
def aboutOver (below : List Frame) : State where
  vm := { classes := classes, interned := interned.toArray }
  heap := heap
  slotsUsed := slotsUsed
  threads := #[{ frames := .invoking theMethod args0 :: below }]
def below0 : List Frame := [.native { method := ⟨0, 0⟩, args := #[] }]
def about1 : State := aboutOver below0
def p0 : Program := .bare "" "" ""
def e0 : Env := launch0.env 0 0 0
theorem w_frames : about1.frames = Frame.invoking theMethod args0 :: below0 := rfl
set_option maxRecDepth 65536 in
theorem w_args : argsFit about1.vm theMethod args0 = true := by decide +kernel
set_option maxRecDepth 65536 in
theorem w_heap : heapFits about1 = true := by decide +kernel
set_option maxRecDepth 65536 in
theorem w_runnable : about1.curStatus? = some .runnable := by decide +kernel
set_option maxRecDepth 65536 in
theorem w_alone : about1.alone = true := by decide +kernel
set_option maxRecDepth 65536 in
theorem w_named : about1.methodNamed? x = some theMethod := by decide +kernel
set_option maxRecDepth 65536 in
theorem w_hears : about1.hears theMethod below0 = true := by decide +kernel
set_option maxRecDepth 65536 in
theorem w_ripe : about1.ripe theMethod args0 below0 = true := by decide +kernel
theorem w_running : about1.status = .running := rfl
set_option maxRecDepth 65536 in
theorem w_room : about1.hasRoom e0.platform room_1 = true :=
  launch0.hasRoom_least _ room_1 (by decide +kernel) (by decide +kernel) (by decide +kernel) (by decide +kernel) (by decide +kernel) (by decide +kernel)
theorem allAtoms_all (ts : List Jvm.Cond) (a : Array Jvm.Value) (st : Jvm.State) : (allAtoms ts).before a st = ts.all (fun c => c.before a st) := by
  induction ts with
  | nil => rfl
  | cons c t ih =>
    show (Jvm.Cond.and c (allAtoms t)).before a st = _
    rw [Jvm.Cond.before_and, ih, List.all_cons]
def words1 : List Jvm.Cond := Jvm.Cond.code x code maxLocals ret :: tables_1
/-- a 'code' word, met by the world's own term for the bytes: nothing is compared byte by byte -/
theorem code_word {y : MethodName} {bytes : ByteArray} {mx : Nat} {rt : Option FieldType} {a : Array Value} {s : State} {m : MethodId} {meth : Method} {c : Code} (h1 : s.methodNamed? y = some m) (h2 : s.vm.method? m = some meth) (h3 : meth.code = some c) (h4 : c.code = bytes)
    (h5 : (c.maxLocals == mx && c.exceptionTable.isEmpty && decide (c.maxStack ≤ mostOperands) && decide (meth.sig.returnType = rt) && !meth.locks && decide (parseMethodDescriptor y.desc = some meth.sig)) = true) : (Jvm.Cond.code y bytes mx rt).before a s = true := by
  simp only [Bool.and_eq_true, beq_iff_eq, Bool.not_eq_true', decide_eq_true_eq] at h5
  obtain ⟨⟨⟨⟨⟨g1, g2⟩, g3⟩, g4⟩, g5⟩, g6⟩ := h5
  simp [Cond.before, Cond.holds, Cond.value, h1, h2, h3, h4, g1, g2, g3, g4, g5, g6]
def isCode : Jvm.Cond → Bool
  | .code _ _ _ _ => true
  | _ => false
theorem all_split {L : List Jvm.Cond} {P : Jvm.Cond → Bool} (h1 : L.all (fun c => isCode c || P c) = true) (h2 : ∀ c ∈ L.filter isCode, P c = true) : L.all P = true := by
  refine List.all_eq_true.mpr fun c hc => ?_
  have h := List.all_eq_true.mp h1 c hc
  rcases Bool.eq_false_or_eq_true (isCode c) with hi | hi
  · exact h2 c (List.mem_filter.mpr ⟨hc, hi⟩)
  · simpa [hi] using h
set_option maxRecDepth 65536 in
theorem w_c0 : (Jvm.Cond.code x code maxLocals ret).before args0 about1 = true := code_word (m := ⟨1, 2⟩) (meth := k1m2) (c := k1c2) (by decide +kernel) rfl rfl rfl (by decide +kernel)
set_option maxRecDepth 65536 in
theorem w_c1 : (Jvm.Cond.code ({ cls := "com/example/fach/fach/io/KeyBytesAfterAllWithPinLaw", name := "draw", desc := "(I)B" } : Jvm.MethodName) method_2_code (1 : Nat) (Option.some Jvm.ClassFile.FieldType.byte)).before args0 about1 = true := code_word (m := ⟨1, 1⟩) (meth := k1m1) (c := k1c1) (by decide +kernel) rfl rfl rfl (by decide +kernel)
set_option maxRecDepth 65536 in
theorem w_c2 : (Jvm.Cond.code ({ cls := "com/example/fach/fach/io/KeyBytes", name := "afterAllWith", desc := "([B)[B" } : Jvm.MethodName) prog_1_method_3_code (3 : Nat) (Option.some (Jvm.ClassFile.FieldType.array Jvm.ClassFile.FieldType.byte))).before args0 about1 = true := code_word (m := ⟨2, 1⟩) (meth := k2m1) (c := k2c1) (by decide +kernel) rfl rfl rfl (by decide +kernel)
set_option maxRecDepth 65536 in
theorem w_c3 : (Jvm.Cond.code ({ cls := "java/util/Arrays", name := "copyOf", desc := "([BI)[B" } : Jvm.MethodName) jdk_65_method_121_code (3 : Nat) (Option.some (Jvm.ClassFile.FieldType.array Jvm.ClassFile.FieldType.byte))).before args0 about1 = true := code_word (m := ⟨3, 1⟩) (meth := k3m1) (c := k3c1) (by decide +kernel) rfl rfl rfl (by decide +kernel)
set_option maxRecDepth 65536 in
theorem w_c4 : (Jvm.Cond.code ({ cls := "java/lang/Math", name := "min", desc := "(II)I" } : Jvm.MethodName) jdk_29_method_69_code (2 : Nat) (Option.some Jvm.ClassFile.FieldType.int)).before args0 about1 = true := code_word (m := ⟨5, 1⟩) (meth := k5m1) (c := k5c1) (by decide +kernel) rfl rfl rfl (by decide +kernel)
def codes1 : List Jvm.Cond := [Jvm.Cond.code x code maxLocals ret, Jvm.Cond.code ({ cls := "com/example/fach/fach/io/KeyBytesAfterAllWithPinLaw", name := "draw", desc := "(I)B" } : Jvm.MethodName) method_2_code (1 : Nat) (Option.some Jvm.ClassFile.FieldType.byte), Jvm.Cond.code ({ cls := "com/example/fach/fach/io/KeyBytes", name := "afterAllWith", desc := "([B)[B" } : Jvm.MethodName) prog_1_method_3_code (3 : Nat) (Option.some (Jvm.ClassFile.FieldType.array Jvm.ClassFile.FieldType.byte)), Jvm.Cond.code ({ cls := "java/util/Arrays", name := "copyOf", desc := "([BI)[B" } : Jvm.MethodName) jdk_65_method_121_code (3 : Nat) (Option.some (Jvm.ClassFile.FieldType.array Jvm.ClassFile.FieldType.byte)), Jvm.Cond.code ({ cls := "java/lang/Math", name := "min", desc := "(II)I" } : Jvm.MethodName) jdk_29_method_69_code (2 : Nat) (Option.some Jvm.ClassFile.FieldType.int)]
set_option maxRecDepth 65536 in
theorem codes_eq : words1.filter isCode = codes1 := rfl
theorem w_codes : ∀ c ∈ words1.filter isCode, c.before args0 about1 = true := by
  rw [codes_eq]
  intro c hc
  simp only [codes1, List.mem_cons, List.not_mem_nil, or_false] at hc
  rcases hc with rfl | rfl | rfl | rfl | rfl
  · exact w_c0
  · exact w_c1
  · exact w_c2
  · exact w_c3
  · exact w_c4
set_option maxRecDepth 65536 in
theorem w_t1 : (words1.take 24).all (fun c => isCode c || c.before args0 about1) = true := by decide +kernel
set_option maxRecDepth 65536 in
theorem w_t2 : (words1.drop 24).all (fun c => isCode c || c.before args0 about1) = true := by decide +kernel
theorem w_tables : (allAtoms (Jvm.Cond.code x code maxLocals ret :: tables_1)).before args0 about1 = true := by
  rw [allAtoms_all]
  show words1.all (fun c => c.before args0 about1) = true
  refine all_split ?_ w_codes
  rw [← List.take_append_drop 24 words1, List.all_append, w_t1, w_t2]
  rfl
set_option maxRecDepth 65536 in
theorem w_case : (Jvm.Cond.and given_1 narrow_1).before args0 about1 = true := by decide +kernel
theorem w_applies : (headSpec (Jvm.Cond.code x code maxLocals ret :: tables_1) room_1).applies x e0.platform about1 = true :=
  (Spec.applies_iff w_frames).mpr ⟨w_running, w_runnable, w_alone, w_named, w_hears, w_ripe, w_room, w_tables⟩
theorem atStart : AtStart classFile x code maxLocals ret World_1 tables_1 room_1 Calls_1 rest_1 Pre_1 launch0 p0 e0 about1 theMethod args0 below0 :=
  ⟨lists_1, trivial, launch0.admits_env _ _ _, launch0.least_env, fairChoices_fair.cas, fairChoices_fair.clock, w_frames, w_args, w_heap, w_applies, trivial, trivial, w_case⟩
end start1
theorem witness_1 : WitnessClaimed_1 := ⟨start1.p0, start1.e0, start1.about1, start1.theMethod, start1.args0, start1.below0, start1.atStart⟩
end Jvm.Pilot.@@N@@
