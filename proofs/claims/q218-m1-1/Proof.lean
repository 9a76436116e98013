import JvmDerived
import JvmDerived.Pilot.@@N@@Statement
import JvmDerived.Pilot.@@N@@Code
set_option linter.unusedVariables false
set_option linter.unusedSimpArgs false
namespace Jvm.Pilot.@@N@@
open Jvm Jvm.ClassFile Sem Op Lib Jvm.Free Jvm.Stand Jvm.LawKit Jvm.RoadKit Bundle Jvm.Pilot.@@N@@.Jvm.D
section OwnKit
variable {p : Program} {l : Launch} {e : Env} {R : Room} {s : State} {m : MethodId} {args : Array Value} {below : List Frame} {meth : Method} {c : Code} {T : State} {locs : List Loc} {cells slots : Nat} {Z : State} {a0 : Array Value} {h : Heap} {Q : Option Value → Heap → List Loc → Prop} {ck sk : Nat}
/-- from the state T with the frame g on top the run comes to a return that answers Q -/
def own_R (p : Program) (e : Env) (below : List Frame) (s : State) (Q : Option Value → Heap → List Loc → Prop) (ck sk : Nat) (T : State) (g : JFrame) : Prop :=
  ∃ (t : State) (o : Outcome), Steps p.tables e below (T.setTop g) t ∧ t.status = .running ∧ Ended t below o ∧ ∃ v L, o = .returned v ∧ Q v t.heap L ∧ FrameEnd s o t L ck sk
theorem own_lift {T' : State} {g g' : JFrame} (h : ∀ target, Steps p.tables e below (T'.setTop g') target → Steps p.tables e below (T.setTop g) target) (k : own_R p e below s Q ck sk T' g') : own_R p e below s Q ck sk T g := by
  obtain ⟨t, o, h1, h2⟩ := k
  exact ⟨t, o, h _ h1, h2⟩
theorem own_cast {g g' : JFrame} (q : g = g') (k : own_R p e below s Q ck sk T g') : own_R p e below s Q ck sk T g := q ▸ k
theorem own_iadd (X : Stand p l e R s m args below meth c T locs cells slots) (hx : p.tables.exec = Jvm.exec) {pc : Nat} {Ls : Array Slot} {St : List Value} {x y : Int32} (hd : decode c.code pc = .ok (.iadd, 1)) (k : own_R p e below s Q ck sk T (mkF m (pc + 1) Ls (.int (x + y) :: St))) : own_R p e below s Q ck sk T (mkF m pc Ls (.int y :: .int x :: St)) :=
  own_lift (fun _ q => XS.iadd X.here hx rfl hd rfl q) k
theorem own_isub (X : Stand p l e R s m args below meth c T locs cells slots) (hx : p.tables.exec = Jvm.exec) {pc : Nat} {Ls : Array Slot} {St : List Value} {x y : Int32} (hd : decode c.code pc = .ok (.isub, 1)) (k : own_R p e below s Q ck sk T (mkF m (pc + 1) Ls (.int (x - y) :: St))) : own_R p e below s Q ck sk T (mkF m pc Ls (.int y :: .int x :: St)) :=
  own_lift (fun _ q => XS.isub X.here hx rfl hd rfl q) k
theorem own_imul (X : Stand p l e R s m args below meth c T locs cells slots) (hx : p.tables.exec = Jvm.exec) {pc : Nat} {Ls : Array Slot} {St : List Value} {x y : Int32} (hd : decode c.code pc = .ok (.imul, 1)) (k : own_R p e below s Q ck sk T (mkF m (pc + 1) Ls (.int (x * y) :: St))) : own_R p e below s Q ck sk T (mkF m pc Ls (.int y :: .int x :: St)) :=
  own_lift (fun _ q => XS.imul X.here hx rfl hd rfl q) k
theorem own_iand (X : Stand p l e R s m args below meth c T locs cells slots) (hx : p.tables.exec = Jvm.exec) {pc : Nat} {Ls : Array Slot} {St : List Value} {x y : Int32} (hd : decode c.code pc = .ok (.iand, 1)) (k : own_R p e below s Q ck sk T (mkF m (pc + 1) Ls (.int (x &&& y) :: St))) : own_R p e below s Q ck sk T (mkF m pc Ls (.int y :: .int x :: St)) :=
  own_lift (fun _ q => XS.iand X.here hx rfl hd rfl q) k
theorem own_ior (X : Stand p l e R s m args below meth c T locs cells slots) (hx : p.tables.exec = Jvm.exec) {pc : Nat} {Ls : Array Slot} {St : List Value} {x y : Int32} (hd : decode c.code pc = .ok (.ior, 1)) (k : own_R p e below s Q ck sk T (mkF m (pc + 1) Ls (.int (x ||| y) :: St))) : own_R p e below s Q ck sk T (mkF m pc Ls (.int y :: .int x :: St)) :=
  own_lift (fun _ q => XS.ior X.here hx rfl hd rfl q) k
theorem own_ixor (X : Stand p l e R s m args below meth c T locs cells slots) (hx : p.tables.exec = Jvm.exec) {pc : Nat} {Ls : Array Slot} {St : List Value} {x y : Int32} (hd : decode c.code pc = .ok (.ixor, 1)) (k : own_R p e below s Q ck sk T (mkF m (pc + 1) Ls (.int (x ^^^ y) :: St))) : own_R p e below s Q ck sk T (mkF m pc Ls (.int y :: .int x :: St)) :=
  own_lift (fun _ q => XS.ixor X.here hx rfl hd rfl q) k
theorem own_ishl (X : Stand p l e R s m args below meth c T locs cells slots) (hx : p.tables.exec = Jvm.exec) {pc : Nat} {Ls : Array Slot} {St : List Value} {x y : Int32} (hd : decode c.code pc = .ok (.ishl, 1)) (k : own_R p e below s Q ck sk T (mkF m (pc + 1) Ls (.int (x <<< (y &&& 31)) :: St))) : own_R p e below s Q ck sk T (mkF m pc Ls (.int y :: .int x :: St)) :=
  own_lift (fun _ q => XS.ishl X.here hx rfl hd rfl q) k
theorem own_ishr (X : Stand p l e R s m args below meth c T locs cells slots) (hx : p.tables.exec = Jvm.exec) {pc : Nat} {Ls : Array Slot} {St : List Value} {x y : Int32} (hd : decode c.code pc = .ok (.ishr, 1)) (k : own_R p e below s Q ck sk T (mkF m (pc + 1) Ls (.int (x >>> (y &&& 31)) :: St))) : own_R p e below s Q ck sk T (mkF m pc Ls (.int y :: .int x :: St)) :=
  own_lift (fun _ q => XS.ishr X.here hx rfl hd rfl q) k
theorem own_iushr (X : Stand p l e R s m args below meth c T locs cells slots) (hx : p.tables.exec = Jvm.exec) {pc : Nat} {Ls : Array Slot} {St : List Value} {x y : Int32} (hd : decode c.code pc = .ok (.iushr, 1)) (k : own_R p e below s Q ck sk T (mkF m (pc + 1) Ls (.int ((x.toUInt32 >>> (y &&& 31).toUInt32).toInt32) :: St))) : own_R p e below s Q ck sk T (mkF m pc Ls (.int y :: .int x :: St)) :=
  own_lift (fun _ q => XS.iushr X.here hx rfl hd rfl q) k
theorem own_ladd (X : Stand p l e R s m args below meth c T locs cells slots) (hx : p.tables.exec = Jvm.exec) {pc : Nat} {Ls : Array Slot} {St : List Value} {x y : Int64} (hd : decode c.code pc = .ok (.ladd, 1)) (k : own_R p e below s Q ck sk T (mkF m (pc + 1) Ls (.long (x + y) :: St))) : own_R p e below s Q ck sk T (mkF m pc Ls (.long y :: .long x :: St)) :=
  own_lift (fun _ q => XS.ladd X.here hx rfl hd rfl q) k
theorem own_lsub (X : Stand p l e R s m args below meth c T locs cells slots) (hx : p.tables.exec = Jvm.exec) {pc : Nat} {Ls : Array Slot} {St : List Value} {x y : Int64} (hd : decode c.code pc = .ok (.lsub, 1)) (k : own_R p e below s Q ck sk T (mkF m (pc + 1) Ls (.long (x - y) :: St))) : own_R p e below s Q ck sk T (mkF m pc Ls (.long y :: .long x :: St)) :=
  own_lift (fun _ q => XS.lsub X.here hx rfl hd rfl q) k
theorem own_lmul (X : Stand p l e R s m args below meth c T locs cells slots) (hx : p.tables.exec = Jvm.exec) {pc : Nat} {Ls : Array Slot} {St : List Value} {x y : Int64} (hd : decode c.code pc = .ok (.lmul, 1)) (k : own_R p e below s Q ck sk T (mkF m (pc + 1) Ls (.long (x * y) :: St))) : own_R p e below s Q ck sk T (mkF m pc Ls (.long y :: .long x :: St)) :=
  own_lift (fun _ q => XS.lmul X.here hx rfl hd rfl q) k
theorem own_land (X : Stand p l e R s m args below meth c T locs cells slots) (hx : p.tables.exec = Jvm.exec) {pc : Nat} {Ls : Array Slot} {St : List Value} {x y : Int64} (hd : decode c.code pc = .ok (.land, 1)) (k : own_R p e below s Q ck sk T (mkF m (pc + 1) Ls (.long (x &&& y) :: St))) : own_R p e below s Q ck sk T (mkF m pc Ls (.long y :: .long x :: St)) :=
  own_lift (fun _ q => XS.land X.here hx rfl hd rfl q) k
theorem own_lor (X : Stand p l e R s m args below meth c T locs cells slots) (hx : p.tables.exec = Jvm.exec) {pc : Nat} {Ls : Array Slot} {St : List Value} {x y : Int64} (hd : decode c.code pc = .ok (.lor, 1)) (k : own_R p e below s Q ck sk T (mkF m (pc + 1) Ls (.long (x ||| y) :: St))) : own_R p e below s Q ck sk T (mkF m pc Ls (.long y :: .long x :: St)) :=
  own_lift (fun _ q => XS.lor X.here hx rfl hd rfl q) k
theorem own_lshl (X : Stand p l e R s m args below meth c T locs cells slots) (hx : p.tables.exec = Jvm.exec) {pc : Nat} {Ls : Array Slot} {St : List Value} {x : Int64} {y : Int32} (hd : decode c.code pc = .ok (.lshl, 1)) (k : own_R p e below s Q ck sk T (mkF m (pc + 1) Ls (.long (x <<< (y &&& 0x3f).toInt64) :: St))) : own_R p e below s Q ck sk T (mkF m pc Ls (.int y :: .long x :: St)) :=
  own_lift (fun _ q => XS.lshl X.here hx rfl hd rfl q) k
theorem own_lshr (X : Stand p l e R s m args below meth c T locs cells slots) (hx : p.tables.exec = Jvm.exec) {pc : Nat} {Ls : Array Slot} {St : List Value} {x : Int64} {y : Int32} (hd : decode c.code pc = .ok (.lshr, 1)) (k : own_R p e below s Q ck sk T (mkF m (pc + 1) Ls (.long (x >>> (y &&& 0x3f).toInt64) :: St))) : own_R p e below s Q ck sk T (mkF m pc Ls (.int y :: .long x :: St)) :=
  own_lift (fun _ q => XS.lshr X.here hx rfl hd rfl q) k
theorem own_lushr (X : Stand p l e R s m args below meth c T locs cells slots) (hx : p.tables.exec = Jvm.exec) {pc : Nat} {Ls : Array Slot} {St : List Value} {x : Int64} {y : Int32} (hd : decode c.code pc = .ok (.lushr, 1)) (k : own_R p e below s Q ck sk T (mkF m (pc + 1) Ls (.long ((x.toUInt64 >>> (y &&& 0x3f).toInt64.toUInt64).toInt64) :: St))) : own_R p e below s Q ck sk T (mkF m pc Ls (.int y :: .long x :: St)) :=
  own_lift (fun _ q => XS.lushr X.here hx rfl hd rfl q) k
theorem own_i2b (X : Stand p l e R s m args below meth c T locs cells slots) (hx : p.tables.exec = Jvm.exec) {pc : Nat} {Ls : Array Slot} {St : List Value} {x : Int32} (hd : decode c.code pc = .ok (.i2b, 1)) (k : own_R p e below s Q ck sk T (mkF m (pc + 1) Ls (.int x.toInt8.toInt32 :: St))) : own_R p e below s Q ck sk T (mkF m pc Ls (.int x :: St)) :=
  own_lift (fun _ q => XS.i2b X.here hx rfl hd rfl q) k
theorem own_i2s (X : Stand p l e R s m args below meth c T locs cells slots) (hx : p.tables.exec = Jvm.exec) {pc : Nat} {Ls : Array Slot} {St : List Value} {x : Int32} (hd : decode c.code pc = .ok (.i2s, 1)) (k : own_R p e below s Q ck sk T (mkF m (pc + 1) Ls (.int x.toInt16.toInt32 :: St))) : own_R p e below s Q ck sk T (mkF m pc Ls (.int x :: St)) :=
  own_lift (fun _ q => XS.i2s X.here hx rfl hd rfl q) k
theorem own_i2c (X : Stand p l e R s m args below meth c T locs cells slots) (hx : p.tables.exec = Jvm.exec) {pc : Nat} {Ls : Array Slot} {St : List Value} {x : Int32} (hd : decode c.code pc = .ok (.i2c, 1)) (k : own_R p e below s Q ck sk T (mkF m (pc + 1) Ls (.int x.toUInt32.toUInt16.toUInt32.toInt32 :: St))) : own_R p e below s Q ck sk T (mkF m pc Ls (.int x :: St)) :=
  own_lift (fun _ q => XS.i2c X.here hx rfl hd rfl q) k
theorem own_i2l (X : Stand p l e R s m args below meth c T locs cells slots) (hx : p.tables.exec = Jvm.exec) {pc : Nat} {Ls : Array Slot} {St : List Value} {x : Int32} (hd : decode c.code pc = .ok (.i2l, 1)) (k : own_R p e below s Q ck sk T (mkF m (pc + 1) Ls (.long x.toInt64 :: St))) : own_R p e below s Q ck sk T (mkF m pc Ls (.int x :: St)) :=
  own_lift (fun _ q => XS.i2l X.here hx rfl hd rfl q) k
theorem own_l2i (X : Stand p l e R s m args below meth c T locs cells slots) (hx : p.tables.exec = Jvm.exec) {pc : Nat} {Ls : Array Slot} {St : List Value} {x : Int64} (hd : decode c.code pc = .ok (.l2i, 1)) (k : own_R p e below s Q ck sk T (mkF m (pc + 1) Ls (.int x.toInt32 :: St))) : own_R p e below s Q ck sk T (mkF m pc Ls (.long x :: St)) :=
  own_lift (fun _ q => XS.l2i X.here hx rfl hd rfl q) k
theorem own_ineg (X : Stand p l e R s m args below meth c T locs cells slots) (hx : p.tables.exec = Jvm.exec) {pc : Nat} {Ls : Array Slot} {St : List Value} {x : Int32} (hd : decode c.code pc = .ok (.ineg, 1)) (k : own_R p e below s Q ck sk T (mkF m (pc + 1) Ls (.int (-x) :: St))) : own_R p e below s Q ck sk T (mkF m pc Ls (.int x :: St)) :=
  own_lift (fun _ q => XS.ineg X.here hx rfl hd rfl q) k
theorem own_lneg (X : Stand p l e R s m args below meth c T locs cells slots) (hx : p.tables.exec = Jvm.exec) {pc : Nat} {Ls : Array Slot} {St : List Value} {x : Int64} (hd : decode c.code pc = .ok (.lneg, 1)) (k : own_R p e below s Q ck sk T (mkF m (pc + 1) Ls (.long (-x) :: St))) : own_R p e below s Q ck sk T (mkF m pc Ls (.long x :: St)) :=
  own_lift (fun _ q => XS.lneg X.here hx rfl hd rfl q) k
theorem own_iloadN (X : Stand p l e R s m args below meth c T locs cells slots) (hx : p.tables.exec = Jvm.exec) {pc : Nat} {Ls : Array Slot} {St : List Value} {i : Fin 4} {v : Int32} (hd : decode c.code pc = .ok (.iload_n i, 1)) (hl : Ls[i.val]? = some (.val (.int v))) (k : own_R p e below s Q ck sk T (mkF m (pc + 1) Ls (.int v :: St))) : own_R p e below s Q ck sk T (mkF m pc Ls St) :=
  own_lift (fun _ q => XS.iloadN X.here hx rfl hd hl q) k
theorem own_iload (X : Stand p l e R s m args below meth c T locs cells slots) (hx : p.tables.exec = Jvm.exec) {pc : Nat} {Ls : Array Slot} {St : List Value} {i : Nat} {v : Int32} (hd : decode c.code pc = .ok (.iload i, 2)) (hl : Ls[i]? = some (.val (.int v))) (k : own_R p e below s Q ck sk T (mkF m (pc + 2) Ls (.int v :: St))) : own_R p e below s Q ck sk T (mkF m pc Ls St) :=
  own_lift (fun _ q => XS.iload X.here hx rfl hd hl q) k
theorem own_istoreN (X : Stand p l e R s m args below meth c T locs cells slots) (hx : p.tables.exec = Jvm.exec) {pc : Nat} {Ls : Array Slot} {St : List Value} {i : Fin 4} {v : Int32} {l' : Array Slot} (hd : decode c.code pc = .ok (.istore_n i, 1)) (hl : storeLocals Ls i.val (.int v) = some l') (k : own_R p e below s Q ck sk T (mkF m (pc + 1) l' St)) : own_R p e below s Q ck sk T (mkF m pc Ls (.int v :: St)) :=
  own_lift (fun _ q => XS.istoreN X.here hx rfl hd rfl hl q) k
theorem own_istore (X : Stand p l e R s m args below meth c T locs cells slots) (hx : p.tables.exec = Jvm.exec) {pc : Nat} {Ls : Array Slot} {St : List Value} {i : Nat} {v : Int32} {l' : Array Slot} (hd : decode c.code pc = .ok (.istore i, 2)) (hl : storeLocals Ls i (.int v) = some l') (k : own_R p e below s Q ck sk T (mkF m (pc + 2) l' St)) : own_R p e below s Q ck sk T (mkF m pc Ls (.int v :: St)) :=
  own_lift (fun _ q => XS.istore X.here hx rfl hd rfl hl q) k
theorem own_lloadN (X : Stand p l e R s m args below meth c T locs cells slots) (hx : p.tables.exec = Jvm.exec) {pc : Nat} {Ls : Array Slot} {St : List Value} {i : Fin 4} {v : Int64} (hd : decode c.code pc = .ok (.lload_n i, 1)) (hl : Ls[i.val]? = some (.val (.long v))) (k : own_R p e below s Q ck sk T (mkF m (pc + 1) Ls (.long v :: St))) : own_R p e below s Q ck sk T (mkF m pc Ls St) :=
  own_lift (fun _ q => XS.lloadN X.here hx rfl hd hl q) k
theorem own_lload (X : Stand p l e R s m args below meth c T locs cells slots) (hx : p.tables.exec = Jvm.exec) {pc : Nat} {Ls : Array Slot} {St : List Value} {i : Nat} {v : Int64} (hd : decode c.code pc = .ok (.lload i, 2)) (hl : Ls[i]? = some (.val (.long v))) (k : own_R p e below s Q ck sk T (mkF m (pc + 2) Ls (.long v :: St))) : own_R p e below s Q ck sk T (mkF m pc Ls St) :=
  own_lift (fun _ q => XS.lload X.here hx rfl hd hl q) k
theorem own_lstoreN (X : Stand p l e R s m args below meth c T locs cells slots) (hx : p.tables.exec = Jvm.exec) {pc : Nat} {Ls : Array Slot} {St : List Value} {i : Fin 4} {v : Int64} {l' : Array Slot} (hd : decode c.code pc = .ok (.lstore_n i, 1)) (hl : storeLocals Ls i.val (.long v) = some l') (k : own_R p e below s Q ck sk T (mkF m (pc + 1) l' St)) : own_R p e below s Q ck sk T (mkF m pc Ls (.long v :: St)) :=
  own_lift (fun _ q => XS.lstoreN X.here hx rfl hd rfl hl q) k
theorem own_lstore (X : Stand p l e R s m args below meth c T locs cells slots) (hx : p.tables.exec = Jvm.exec) {pc : Nat} {Ls : Array Slot} {St : List Value} {i : Nat} {v : Int64} {l' : Array Slot} (hd : decode c.code pc = .ok (.lstore i, 2)) (hl : storeLocals Ls i (.long v) = some l') (k : own_R p e below s Q ck sk T (mkF m (pc + 2) l' St)) : own_R p e below s Q ck sk T (mkF m pc Ls (.long v :: St)) :=
  own_lift (fun _ q => XS.lstore X.here hx rfl hd rfl hl q) k
theorem own_aloadN (X : Stand p l e R s m args below meth c T locs cells slots) (hx : p.tables.exec = Jvm.exec) {pc : Nat} {Ls : Array Slot} {St : List Value} {i : Fin 4} {v : Value} (hd : decode c.code pc = .ok (.aload_n i, 1)) (hl : Ls[i.val]? = some (.val v)) (hv : v.isRef = true) (k : own_R p e below s Q ck sk T (mkF m (pc + 1) Ls (v :: St))) : own_R p e below s Q ck sk T (mkF m pc Ls St) :=
  own_lift (fun _ q => XS.aloadN X.here hx rfl hd hl hv q) k
theorem own_aload (X : Stand p l e R s m args below meth c T locs cells slots) (hx : p.tables.exec = Jvm.exec) {pc : Nat} {Ls : Array Slot} {St : List Value} {i : Nat} {v : Value} (hd : decode c.code pc = .ok (.aload i, 2)) (hl : Ls[i]? = some (.val v)) (hv : v.isRef = true) (k : own_R p e below s Q ck sk T (mkF m (pc + 2) Ls (v :: St))) : own_R p e below s Q ck sk T (mkF m pc Ls St) :=
  own_lift (fun _ q => XS.aload X.here hx rfl hd hl hv q) k
theorem own_astoreN (X : Stand p l e R s m args below meth c T locs cells slots) (hx : p.tables.exec = Jvm.exec) {pc : Nat} {Ls : Array Slot} {St : List Value} {i : Fin 4} {v : Value} {l' : Array Slot} (hd : decode c.code pc = .ok (.astore_n i, 1)) (hv : v.isRef = true) (hl : storeLocals Ls i.val v = some l') (k : own_R p e below s Q ck sk T (mkF m (pc + 1) l' St)) : own_R p e below s Q ck sk T (mkF m pc Ls (v :: St)) :=
  own_lift (fun _ q => XS.astoreN X.here hx rfl hd rfl hv hl q) k
theorem own_astore (X : Stand p l e R s m args below meth c T locs cells slots) (hx : p.tables.exec = Jvm.exec) {pc : Nat} {Ls : Array Slot} {St : List Value} {i : Nat} {v : Value} {l' : Array Slot} (hd : decode c.code pc = .ok (.astore i, 2)) (hv : v.isRef = true) (hl : storeLocals Ls i v = some l') (k : own_R p e below s Q ck sk T (mkF m (pc + 2) l' St)) : own_R p e below s Q ck sk T (mkF m pc Ls (v :: St)) :=
  own_lift (fun _ q => XS.astore X.here hx rfl hd rfl hv hl q) k
theorem own_iconst (X : Stand p l e R s m args below meth c T locs cells slots) (hx : p.tables.exec = Jvm.exec) {pc : Nat} {Ls : Array Slot} {St : List Value} {i : Int} (v : Int32) (hd : decode c.code pc = .ok (.iconst i, 1)) (hv : Int32.ofInt i = v) (k : own_R p e below s Q ck sk T (mkF m (pc + 1) Ls (.int v :: St))) : own_R p e below s Q ck sk T (mkF m pc Ls St) :=
  own_lift (fun _ q => XS.iconst X.here hx rfl hd (hv ▸ q)) k
theorem own_bipush (X : Stand p l e R s m args below meth c T locs cells slots) (hx : p.tables.exec = Jvm.exec) {pc : Nat} {Ls : Array Slot} {St : List Value} {i : Int} (v : Int32) (hd : decode c.code pc = .ok (.bipush i, 2)) (hv : (Int8.ofInt i).toInt32 = v) (k : own_R p e below s Q ck sk T (mkF m (pc + 2) Ls (.int v :: St))) : own_R p e below s Q ck sk T (mkF m pc Ls St) :=
  own_lift (fun _ q => XS.bipush X.here hx rfl hd (hv ▸ q)) k
theorem own_sipush (X : Stand p l e R s m args below meth c T locs cells slots) (hx : p.tables.exec = Jvm.exec) {pc : Nat} {Ls : Array Slot} {St : List Value} {i : Int} (v : Int32) (hd : decode c.code pc = .ok (.sipush i, 3)) (hv : (Int16.ofInt i).toInt32 = v) (k : own_R p e below s Q ck sk T (mkF m (pc + 3) Ls (.int v :: St))) : own_R p e below s Q ck sk T (mkF m pc Ls St) :=
  own_lift (fun _ q => XS.sipush X.here hx rfl hd (hv ▸ q)) k
theorem own_lconst (X : Stand p l e R s m args below meth c T locs cells slots) (hx : p.tables.exec = Jvm.exec) {pc : Nat} {Ls : Array Slot} {St : List Value} {i : Fin 2} (v : Int64) (hd : decode c.code pc = .ok (.lconst i, 1)) (hv : Int64.ofNat i = v) (k : own_R p e below s Q ck sk T (mkF m (pc + 1) Ls (.long v :: St))) : own_R p e below s Q ck sk T (mkF m pc Ls St) :=
  own_lift (fun _ q => XS.lconst X.here hx rfl hd (hv ▸ q)) k
theorem own_iinc (X : Stand p l e R s m args below meth c T locs cells slots) (hx : p.tables.exec = Jvm.exec) {pc : Nat} {Ls : Array Slot} {St : List Value} {i : Nat} {cst : Int} {x : Int32} (v : Int32) {l' : Array Slot} (hd : decode c.code pc = .ok (.iinc i cst, 3)) (hv : Int32.ofInt cst = v) (hl : Ls[i]? = some (.val (.int x))) (hl' : storeLocals Ls i (.int (x + v)) = some l') (k : own_R p e below s Q ck sk T (mkF m (pc + 3) l' St)) : own_R p e below s Q ck sk T (mkF m pc Ls St) :=
  own_lift (fun _ q => XS.iinc X.here hx rfl hd hl (hv ▸ hl') q) k
theorem own_aconst_null (X : Stand p l e R s m args below meth c T locs cells slots) (hx : p.tables.exec = Jvm.exec) {pc : Nat} {Ls : Array Slot} {St : List Value}  (hd : decode c.code pc = .ok (.aconst_null, 1)) (k : own_R p e below s Q ck sk T (mkF m (pc + 1) Ls (.null :: St))) : own_R p e below s Q ck sk T (mkF m pc Ls St) :=
  own_lift (fun _ q => XS.aconstNull X.here hx rfl hd q) k
theorem own_dup (X : Stand p l e R s m args below meth c T locs cells slots) (hx : p.tables.exec = Jvm.exec) {pc : Nat} {Ls : Array Slot} {St : List Value} {x : Value} (hd : decode c.code pc = .ok (.dup, 1)) (hc : x.category = 1) (k : own_R p e below s Q ck sk T (mkF m (pc + 1) Ls (x :: x :: St))) : own_R p e below s Q ck sk T (mkF m pc Ls (x :: St)) :=
  own_lift (fun _ q => XS.dup X.here hx rfl hd rfl hc q) k
theorem own_dup_x1 (X : Stand p l e R s m args below meth c T locs cells slots) (hx : p.tables.exec = Jvm.exec) {pc : Nat} {Ls : Array Slot} {St : List Value} {x y : Value} (hd : decode c.code pc = .ok (.dup_x1, 1)) (hc : x.category = 1) (hc2 : y.category = 1) (k : own_R p e below s Q ck sk T (mkF m (pc + 1) Ls (x :: y :: x :: St))) : own_R p e below s Q ck sk T (mkF m pc Ls (x :: y :: St)) :=
  own_lift (fun _ q => XS.dupX1 X.here hx rfl hd rfl hc hc2 q) k
theorem own_pop (X : Stand p l e R s m args below meth c T locs cells slots) (hx : p.tables.exec = Jvm.exec) {pc : Nat} {Ls : Array Slot} {St : List Value} {x : Value} (hd : decode c.code pc = .ok (.pop, 1)) (hc : x.category = 1) (k : own_R p e below s Q ck sk T (mkF m (pc + 1) Ls St)) : own_R p e below s Q ck sk T (mkF m pc Ls (x :: St)) :=
  own_lift (fun _ q => XS.pop X.here hx rfl hd rfl hc q) k
theorem own_goto (X : Stand p l e R s m args below meth c T locs cells slots) (hx : p.tables.exec = Jvm.exec) {pc : Nat} {Ls : Array Slot} {St : List Value} {o : Int} {pc' : Nat} (hd : decode c.code pc = .ok (.goto o, 3)) (ho : 0 ≤ (pc : Int) + o) (hp : ((pc : Int) + o).toNat = pc') (k : own_R p e below s Q ck sk T (mkF m pc' Ls St)) : own_R p e below s Q ck sk T (mkF m pc Ls St) :=
  own_lift (fun _ q => XS.goto X.here hx rfl (pc0 := pc) rfl hd ho hp q) k
theorem own_ifnullY (X : Stand p l e R s m args below meth c T locs cells slots) (hx : p.tables.exec = Jvm.exec) {pc : Nat} {Ls : Array Slot} {St : List Value} {o : Int} {pc' : Nat} (hd : decode c.code pc = .ok (.ifnull o, 3)) (ho : 0 ≤ (pc : Int) + o) (hp : ((pc : Int) + o).toNat = pc') (k : own_R p e below s Q ck sk T (mkF m pc' Ls St)) : own_R p e below s Q ck sk T (mkF m pc Ls (.null :: St)) :=
  own_lift (fun _ q => XS.ifnullYes X.here hx rfl (pc0 := pc) rfl hd rfl ho hp q) k
theorem own_ifnullN (X : Stand p l e R s m args below meth c T locs cells slots) (hx : p.tables.exec = Jvm.exec) {pc : Nat} {Ls : Array Slot} {St : List Value} {o : Int} {b : Addr} (hd : decode c.code pc = .ok (.ifnull o, 3)) (k : own_R p e below s Q ck sk T (mkF m (pc + 3) Ls St)) : own_R p e below s Q ck sk T (mkF m pc Ls (.ref b :: St)) :=
  own_lift (fun _ q => XS.ifnullNo X.here hx rfl hd rfl q) k
theorem own_ifnonnullY (X : Stand p l e R s m args below meth c T locs cells slots) (hx : p.tables.exec = Jvm.exec) {pc : Nat} {Ls : Array Slot} {St : List Value} {o : Int} {pc' : Nat} {b : Addr} (hd : decode c.code pc = .ok (.ifnonnull o, 3)) (ho : 0 ≤ (pc : Int) + o) (hp : ((pc : Int) + o).toNat = pc') (k : own_R p e below s Q ck sk T (mkF m pc' Ls St)) : own_R p e below s Q ck sk T (mkF m pc Ls (.ref b :: St)) :=
  own_lift (fun _ q => XS.ifnonnullYes X.here hx rfl (pc0 := pc) rfl hd rfl ho hp q) k
theorem own_ifnonnullN (X : Stand p l e R s m args below meth c T locs cells slots) (hx : p.tables.exec = Jvm.exec) {pc : Nat} {Ls : Array Slot} {St : List Value} {o : Int} (hd : decode c.code pc = .ok (.ifnonnull o, 3)) (k : own_R p e below s Q ck sk T (mkF m (pc + 3) Ls St)) : own_R p e below s Q ck sk T (mkF m pc Ls (.null :: St)) :=
  own_lift (fun _ q => XS.ifnonnullNo X.here hx rfl hd rfl q) k
theorem own_irem (X : Stand p l e R s m args below meth c T locs cells slots) (hx : p.tables.exec = Jvm.exec) {pc : Nat} {Ls : Array Slot} {St : List Value} {x y : Int32} (hd : decode c.code pc = .ok (.irem, 1)) (hy : y ≠ 0) (k : own_R p e below s Q ck sk T (mkF m (pc + 1) Ls (.int (x % y) :: St))) : own_R p e below s Q ck sk T (mkF m pc Ls (.int y :: .int x :: St)) :=
  own_lift (fun _ q => iremM X hx rfl hd rfl hy q) k
theorem own_ldc (X : Stand p l e R s m args below meth c T locs cells slots) (hx : p.tables.exec = Jvm.exec) (hZ : Z.Warmed39 s.vm) {own : String} {index : Nat} {v : Int32} (hown : s.vm.findClass own = some m.cls) (w : (Cond.constant own index v).before a0 Z = true) {pc : Nat} {Ls : Array Slot} {St : List Value} (hd : decode c.code pc = .ok (.ldc index, 2)) (k : own_R p e below s Q ck sk T (mkF m (pc + 2) Ls (.int v :: St))) : own_R p e below s Q ck sk T (mkF m pc Ls St) :=
  own_lift (fun _ q => X.ldcInt hx hown (mvT hZ w) (g := mkF m pc Ls St) rfl hd _ q) k
theorem own_ldc2 (X : Stand p l e R s m args below meth c T locs cells slots) (hx : p.tables.exec = Jvm.exec) (hZ : Z.Warmed39 s.vm) {own : String} {index : Nat} {v : Int64} (hown : s.vm.findClass own = some m.cls) (w : (Cond.constantLong own index v).before a0 Z = true) {pc : Nat} {Ls : Array Slot} {St : List Value} (hd : decode c.code pc = .ok (.ldc2_w index, 3)) (k : own_R p e below s Q ck sk T (mkF m (pc + 3) Ls (.long v :: St))) : own_R p e below s Q ck sk T (mkF m pc Ls St) :=
  own_lift (fun _ q => X.ldc2Long hx hown (mvT hZ w) (g := mkF m pc Ls St) rfl hd _ q) k
theorem own_dup2 (X : Stand p l e R s m args below meth c T locs cells slots) (hx : p.tables.exec = Jvm.exec) {pc : Nat} {Ls : Array Slot} {St : List Value} {x y : Value} (hd : decode c.code pc = .ok (.dup2, 1)) (h1 : x.category = 1) (h2 : y.category = 1) (k : own_R p e below s Q ck sk T (mkF m (pc + 1) Ls (x :: y :: x :: y :: St))) : own_R p e below s Q ck sk T (mkF m pc Ls (x :: y :: St)) :=
  own_lift (fun _ q => by
    show Steps p.tables e below (T.setTop { method := m, pc := pc, locals := Ls, stack := x :: y :: St, locked := none }) _
    jvm_step X.here [X.here.top, hx, hd, h1, h2]
    exact q) k
/-! branches: both ways -/
theorem own_icmp (X : Stand p l e R s m args below meth c T locs cells slots) (hx : p.tables.exec = Jvm.exec) {pc pc' : Nat} {Ls : Array Slot} {St : List Value} {x y : Int32} {cd : ClassFile.Cond} {o : Int} (hd : decode c.code pc = .ok (.if_icmp cd o, 3)) (ho : 0 ≤ (pc : Int) + o) (hp : ((pc : Int) + o).toNat = pc')
    (k1 : if_icmp.holds cd x y = true → own_R p e below s Q ck sk T (mkF m pc' Ls St)) (k2 : if_icmp.holds cd x y = false → own_R p e below s Q ck sk T (mkF m (pc + 3) Ls St)) : own_R p e below s Q ck sk T (mkF m pc Ls (.int y :: .int x :: St)) := by
  cases hc : if_icmp.holds cd x y
  · exact own_lift (fun _ q => XS.icmpNo X.here hx rfl hd rfl hc q) (k2 hc)
  · exact own_lift (fun _ q => XS.icmpYes X.here hx rfl (pc0 := pc) rfl hd rfl hc ho hp q) (k1 hc)
theorem own_if (X : Stand p l e R s m args below meth c T locs cells slots) (hx : p.tables.exec = Jvm.exec) {pc pc' : Nat} {Ls : Array Slot} {St : List Value} {x : Int32} {cd : ClassFile.Cond} {o : Int} (hd : decode c.code pc = .ok (.ifCond cd o, 3)) (ho : 0 ≤ (pc : Int) + o) (hp : ((pc : Int) + o).toNat = pc')
    (k1 : if_icmp.holds cd x 0 = true → own_R p e below s Q ck sk T (mkF m pc' Ls St)) (k2 : if_icmp.holds cd x 0 = false → own_R p e below s Q ck sk T (mkF m (pc + 3) Ls St)) : own_R p e below s Q ck sk T (mkF m pc Ls (.int x :: St)) := by
  cases hc : if_icmp.holds cd x 0
  · exact own_lift (fun _ q => XS.ifNo X.here hx rfl hd rfl ((if0 _ _).trans hc) q) (k2 hc)
  · exact own_lift (fun _ q => XS.ifYes X.here hx rfl (pc0 := pc) rfl hd rfl ((if0 _ _).trans hc) ho hp q) (k1 hc)
theorem own_lt1 {x y : Int32} (q : if_icmp.holds .lt x y = true) : x < y := by simpa [if_icmp.holds] using q
theorem own_lt0 {x y : Int32} (q : if_icmp.holds .lt x y = false) : ¬ x < y := by simpa [if_icmp.holds] using q
theorem own_ge1 {x y : Int32} (q : if_icmp.holds .ge x y = true) : ¬ x < y := by simpa [if_icmp.holds] using q
theorem own_ge0 {x y : Int32} (q : if_icmp.holds .ge x y = false) : x < y := by simpa [if_icmp.holds] using q
theorem own_gt1 {x y : Int32} (q : if_icmp.holds .gt x y = true) : y < x := by simpa [if_icmp.holds] using q
theorem own_gt0 {x y : Int32} (q : if_icmp.holds .gt x y = false) : ¬ y < x := by simpa [if_icmp.holds] using q
theorem own_le1 {x y : Int32} (q : if_icmp.holds .le x y = true) : ¬ y < x := by simpa [if_icmp.holds] using q
theorem own_le0 {x y : Int32} (q : if_icmp.holds .le x y = false) : y < x := by simpa [if_icmp.holds] using q
theorem own_eq1 {x y : Int32} (q : if_icmp.holds .eq x y = true) : x = y := by simpa [if_icmp.holds] using q
theorem own_eq0 {x y : Int32} (q : if_icmp.holds .eq x y = false) : ¬ x = y := by simpa [if_icmp.holds] using q
theorem own_ne1 {x y : Int32} (q : if_icmp.holds .ne x y = true) : ¬ x = y := by simpa [if_icmp.holds] using q
theorem own_ne0 {x y : Int32} (q : if_icmp.holds .ne x y = false) : x = y := by simpa [if_icmp.holds] using q
/-! lcmp and the branch behind it, in one -/
theorem own_lcmp (X : Stand p l e R s m args below meth c T locs cells slots) (hx : p.tables.exec = Jvm.exec) {pc pc' : Nat} {Ls : Array Slot} {St : List Value} {x y : Int64} {cd : ClassFile.Cond} {o : Int} (hd1 : decode c.code pc = .ok (.lcmp, 1)) (hd : decode c.code (pc + 1) = .ok (.ifCond cd o, 3)) (ho : 0 ≤ ((pc + 1 : Nat) : Int) + o) (hp : (((pc + 1 : Nat) : Int) + o).toNat = pc')
    (k1 : if_icmp.holds cd (lcmpW x y) 0 = true → own_R p e below s Q ck sk T (mkF m pc' Ls St)) (k2 : if_icmp.holds cd (lcmpW x y) 0 = false → own_R p e below s Q ck sk T (mkF m (pc + 4) Ls St)) : own_R p e below s Q ck sk T (mkF m pc Ls (.long y :: .long x :: St)) :=
  own_lift (fun _ q => XS.lcmp X.here hx rfl hd1 rfl q) (own_if X hx hd ho hp k1 k2)
theorem own_llt1 {x y : Int64} (q : if_icmp.holds .lt (lcmpW x y) 0 = true) : x < y := (lw_lt x y).mp (own_lt1 q)
theorem own_llt0 {x y : Int64} (q : if_icmp.holds .lt (lcmpW x y) 0 = false) : ¬ x < y := fun z => own_lt0 q ((lw_lt x y).mpr z)
theorem own_lge1 {x y : Int64} (q : if_icmp.holds .ge (lcmpW x y) 0 = true) : ¬ x < y := fun z => own_ge1 q ((lw_lt x y).mpr z)
theorem own_lge0 {x y : Int64} (q : if_icmp.holds .ge (lcmpW x y) 0 = false) : x < y := (lw_lt x y).mp (own_ge0 q)
theorem own_lgt1 {x y : Int64} (q : if_icmp.holds .gt (lcmpW x y) 0 = true) : y < x := (lw_gt x y).mp (own_gt1 q)
theorem own_lgt0 {x y : Int64} (q : if_icmp.holds .gt (lcmpW x y) 0 = false) : ¬ y < x := fun z => own_gt0 q ((lw_gt x y).mpr z)
theorem own_lle1 {x y : Int64} (q : if_icmp.holds .le (lcmpW x y) 0 = true) : ¬ y < x := fun z => own_le1 q ((lw_gt x y).mpr z)
theorem own_lle0 {x y : Int64} (q : if_icmp.holds .le (lcmpW x y) 0 = false) : y < x := (lw_gt x y).mp (own_le0 q)
theorem own_leq1 {x y : Int64} (q : if_icmp.holds .eq (lcmpW x y) 0 = true) : x = y := (lw_eq x y).mp (own_eq1 q)
theorem own_leq0 {x y : Int64} (q : if_icmp.holds .eq (lcmpW x y) 0 = false) : ¬ x = y := fun z => own_eq0 q ((lw_eq x y).mpr z)
theorem own_lne1 {x y : Int64} (q : if_icmp.holds .ne (lcmpW x y) 0 = true) : ¬ x = y := fun z => own_ne1 q ((lw_eq x y).mpr z)
theorem own_lne0 {x y : Int64} (q : if_icmp.holds .ne (lcmpW x y) 0 = false) : x = y := (lw_eq x y).mp (own_ne0 q)
/-! returns -/
theorem own_ret0 (X : Stand p l e R s m args below meth c T locs cells slots) (hx : p.tables.exec = Jvm.exec) {pc : Nat} {Ls : Array Slot} (hret : meth.sig.returnType = none) (hlk : meth.locks = false) (hd : decode c.code pc = .ok (.return_, 1)) (hQ : Q none T.heap locs) (hc : cells ≤ ck) (hs : slots ≤ sk) : own_R p e below s Q ck sk T (mkF m pc Ls []) := by
  obtain ⟨fs, hr, hrun, hended, hW, hsame⟩ := X.leave (v := none) (fun _ => rfl) hlk
  exact ⟨_, _, X.returnOut hx hret hd hr, hrun, hended, _, _, rfl, hQ, ⟨_, rfl⟩, hW, hsame.mono hc hs⟩
theorem own_retN (X : Stand p l e R s m args below meth c T locs cells slots) (hx : p.tables.exec = Jvm.exec) {pc : Nat} {Ls : Array Slot} {St : List Value} {z : Int32} {t : FieldType} (hret : meth.sig.returnType = some t) (ht : t = .boolean ∨ t = .byte ∨ t = .char ∨ t = .short) (hlk : meth.locks = false) (hd : decode c.code pc = .ok (.ireturn, 1)) (hQ : Q (some (.int (nar t z))) T.heap locs) (hc : cells ≤ ck) (hs : slots ≤ sk) : own_R p e below s Q ck sk T (mkF m pc Ls (.int z :: St)) := by
  obtain ⟨fs, hr, hrun, hended, hW, hsame⟩ := X.leave (v := some (.int (nar t z))) (fun h => by rw [hret] at h; cases h) hlk
  exact ⟨_, _, retN X hx hret ht hd hr, hrun, hended, _, _, rfl, hQ, ⟨_, rfl⟩, hW, hsame.mono hc hs⟩
theorem own_retV (X : Stand p l e R s m args below meth c T locs cells slots) (hx : p.tables.exec = Jvm.exec) {pc : Nat} {Ls : Array Slot} {St : List Value} {w : Value} {t : FieldType} {i : Instr} (hret : meth.sig.returnType = some t) (hn : narrow t w = w)
    (hi : (i = .ireturn ∧ (t = .int ∨ t = .boolean ∨ t = .byte ∨ t = .char ∨ t = .short) ∧ ∃ z, w = .int z) ∨ (i = .lreturn ∧ t = .long ∧ ∃ z, w = .long z) ∨ (i = .dreturn ∧ t = .double ∧ ∃ z, w = .double z) ∨ (i = .freturn ∧ t = .float ∧ ∃ z, w = .float z) ∨ (i = .areturn ∧ t.isReference = true ∧ w.isRef = true)) (hlk : meth.locks = false)
    (hd : decode c.code pc = .ok (i, 1)) (hQ : Q (some w) T.heap locs) (hc : cells ≤ ck) (hs : slots ≤ sk) : own_R p e below s Q ck sk T (mkF m pc Ls (w :: St)) := by
  obtain ⟨fs, hr, hrun, hended, hW, hsame⟩ := X.leave (v := some w) (fun h => by rw [hret] at h; cases h) hlk
  exact ⟨_, _, retOut X hx hret hn hi hd hr, hrun, hended, _, _, rfl, hQ, ⟨_, rfl⟩, hW, hsame.mono hc hs⟩
theorem own_retI (X : Stand p l e R s m args below meth c T locs cells slots) (hx : p.tables.exec = Jvm.exec) {pc : Nat} {Ls : Array Slot} {St : List Value} {z : Int32} (hret : meth.sig.returnType = some .int) (hlk : meth.locks = false) (hd : decode c.code pc = .ok (.ireturn, 1)) (hQ : Q (some (.int z)) T.heap locs) (hc : cells ≤ ck) (hs : slots ≤ sk) : own_R p e below s Q ck sk T (mkF m pc Ls (.int z :: St)) :=
  own_retV X hx hret rfl (Or.inl ⟨rfl, Or.inl rfl, _, rfl⟩) hlk hd hQ hc hs
theorem own_retJ (X : Stand p l e R s m args below meth c T locs cells slots) (hx : p.tables.exec = Jvm.exec) {pc : Nat} {Ls : Array Slot} {St : List Value} {z : Int64} (hret : meth.sig.returnType = some .long) (hlk : meth.locks = false) (hd : decode c.code pc = .ok (.lreturn, 1)) (hQ : Q (some (.long z)) T.heap locs) (hc : cells ≤ ck) (hs : slots ≤ sk) : own_R p e below s Q ck sk T (mkF m pc Ls (.long z :: St)) :=
  own_retV X hx hret rfl (Or.inr (Or.inl ⟨rfl, rfl, _, rfl⟩)) hlk hd hQ hc hs
theorem own_retA (X : Stand p l e R s m args below meth c T locs cells slots) (hx : p.tables.exec = Jvm.exec) {pc : Nat} {Ls : Array Slot} {St : List Value} {w : Value} {t : FieldType} (hret : meth.sig.returnType = some t) (ht : t.isReference = true) (hw : w.isRef = true) (hlk : meth.locks = false) (hd : decode c.code pc = .ok (.areturn, 1)) (hQ : Q (some w) T.heap locs) (hc : cells ≤ ck) (hs : slots ≤ sk) : own_R p e below s Q ck sk T (mkF m pc Ls (w :: St)) :=
  own_retV X hx hret (by rcases ref_cases hw with rfl | ⟨a, rfl⟩ <;> cases t <;> first | rfl | (cases ht)) (Or.inr (Or.inr (Or.inr (Or.inr ⟨rfl, ht, hw⟩)))) hlk hd hQ hc hs
/-! the heap -/
theorem own_getF (X : Stand p l e R s m args below meth c T locs cells slots) (hx : p.tables.exec = Jvm.exec) (hZ : Z.Warmed39 s.vm) {own R0 O n d host : String} {index : Nat} (hown : s.vm.findClass own = some m.cls) (w : (Cond.fieldLink own index R0 n d).before a0 Z = true ∨ (Cond.fieldLinkNest own index R0 n d host).before a0 Z = true) (via : Via Z R0 O n d) (eT : T.heap = h) {a : Addr} {v : Value} (F : Fld Z h a O n d v) {pc : Nat} {Ls : Array Slot} {St : List Value} (hd : decode c.code pc = .ok (.getfield index, 3))
    (k : ∀ T', Stand p l e R s m args below meth c T' locs cells slots → T'.heap = h → own_R p e below s Q ck sk T' (mkF m (pc + 3) Ls (v :: St))) : own_R p e below s Q ck sk T (mkF m pc Ls (.ref a :: St)) := by
  obtain ⟨T', X', e', st⟩ := getF X hx hZ hown w via eT F (g := mkF m pc Ls (.ref a :: St)) rfl rfl hd
  exact own_lift st (k T' X' e')
theorem own_putF (X : Stand p l e R s m args below meth c T locs cells slots) (hx : p.tables.exec = Jvm.exec) (hZ : Z.Warmed39 s.vm) {own R0 O n d host C : String} {index kk : Nat} {ty : FieldType} (hown : s.vm.findClass own = some m.cls) (w : (Cond.fieldLink own index R0 n d).before a0 Z = true ∨ (Cond.fieldLinkNest own index R0 n d host).before a0 Z = true) (via : Via Z R0 O n d)
    (eT : T.heap = h) {a : Addr} {v old : Value} (F : Fld Z h a O n d old) (E : Exa Z h a C) (L : (Cond.lays C O n d).before a0 Z = true ∨ ((Cond.laysFinal C O n d).before a0 Z = true ∧ own = O ∧ meth.name = "<init>")) (wi : (Cond.instantiable C kk).before a0 Z = true)
    (hty : parseFieldDescriptor d = some ty) (hn : narrow ty v = v) (hf : fits ty v = true) {pc : Nat} {Ls : Array Slot} {St : List Value} (hd : decode c.code pc = .ok (.putfield index, 3))
    (k : ∀ T' h', Stand p l e R s m args below meth c T' (locs ++ [⟨a, Jvm.RoadKit.slotOf Z O n d⟩]) cells slots → T'.heap = h' → Wr h h' a (Jvm.RoadKit.slotOf Z O n d) v → own_R p e below s Q ck sk T' (mkF m (pc + 3) Ls St)) : own_R p e below s Q ck sk T (mkF m pc Ls (v :: .ref a :: St)) := by
  obtain ⟨T', h', X', e', W, st⟩ := putF X hx hZ hown w via eT F E L wi hty hn hf (g := mkF m pc Ls (v :: .ref a :: St)) rfl rfl hd
  exact own_lift st (k T' h' X' e' W)
theorem own_putFN (X : Stand p l e R s m args below meth c T locs cells slots) (hx : p.tables.exec = Jvm.exec) (hZ : Z.Warmed39 s.vm) {own R0 O n d C : String} {index kk : Nat} {ty : FieldType} (hown : s.vm.findClass own = some m.cls) (w : (Cond.fieldLink own index R0 n d).before a0 Z = true) (via : Via Z R0 O n d)
    (eT : T.heap = h) {a : Addr} {v v' old : Value} (F : Fld Z h a O n d old) (E : Exa Z h a C) (L : (Cond.lays C O n d).before a0 Z = true ∨ ((Cond.laysFinal C O n d).before a0 Z = true ∧ own = O ∧ meth.name = "<init>")) (wi : (Cond.instantiable C kk).before a0 Z = true)
    (hty : parseFieldDescriptor d = some ty) (hn : narrow ty v = v') (hf : fits ty v' = true) {pc : Nat} {Ls : Array Slot} {St : List Value} (hd : decode c.code pc = .ok (.putfield index, 3))
    (k : ∀ T' h', Stand p l e R s m args below meth c T' (locs ++ [⟨a, Jvm.RoadKit.slotOf Z O n d⟩]) cells slots → T'.heap = h' → Wr h h' a (Jvm.RoadKit.slotOf Z O n d) v' → own_R p e below s Q ck sk T' (mkF m (pc + 3) Ls St)) : own_R p e below s Q ck sk T (mkF m pc Ls (v :: .ref a :: St)) := by
  obtain ⟨T', h', X', e', W, st⟩ := putFN X hx hZ hown w via eT F E L wi hty hn hf (g := mkF m pc Ls (v :: .ref a :: St)) rfl rfl hd
  exact own_lift st (k T' h' X' e' W)
theorem own_new (X : Stand p l e R s m args below meth c T locs cells slots) (hx : p.tables.exec = Jvm.exec) (hZ : Z.Warmed39 s.vm) {own C : String} {index n : Nat} (hown : s.vm.findClass own = some m.cls) (w : (Cond.classLink own index C).before a0 Z = true) (wi : (Cond.instantiable C n).before a0 Z = true) (wz : (Cond.initialized C).before a0 Z = true) (eT : T.heap = h) {pc : Nat} {Ls : Array Slot} {St : List Value} (hd : decode c.code pc = .ok (.new index, 3)) (hc : cells + 1 ≤ R.cells) (hl : slots + n ≤ R.slots)
    (k : ∀ T' h' b, b = h.size → Stand p l e R s m args below meth c T' locs (cells + 1) (slots + n) → T'.heap = h' → Ext h h' → Exa Z h' b C → (∀ {O nm d : String} {ty : FieldType}, Laid Z a0 C O nm d → parseFieldDescriptor d = some ty → Fld Z h' b O nm d (defaultValue ty)) → own_R p e below s Q ck sk T' (mkF m (pc + 3) Ls (.ref b :: St))) : own_R p e below s Q ck sk T (mkF m pc Ls St) := by
  obtain ⟨T', h', X', e', E, A, D, -, st⟩ := newO X hx hZ hown w wi wz eT (g := mkF m pc Ls St) rfl hd hc hl
  exact own_lift st (k T' h' _ rfl X' e' E A D)
theorem own_newA (X : Stand p l e R s m args below meth c T locs cells slots) (hx : p.tables.exec = Jvm.exec) (hZ : Z.Warmed39 s.vm) {aty : ArrayType} (w : (Cond.arrayClass (newarray.typeOf aty)).before a0 Z = true) (eT : T.heap = h) {pc : Nat} {Ls : Array Slot} {St : List Value} {n : Int32} (hd : decode c.code pc = .ok (.newarray aty, 2)) (hn : ¬ n < 0) (cap : Nat) (hcap : n.toNatClampNeg ≤ cap) (hb : cap * 8 ≤ 536870912) (hc : cells + 1 ≤ R.cells) (hl : slots + cap ≤ R.slots) {ad : String} (had : "[" ++ (newarray.typeOf aty).toString = ad) (N : Nat)
    (k : ∀ T' h' b kA, b = h.size → Stand p l e R s m args below meth c T' locs (cells + 1) (slots + cap) → T'.heap = h' → Ext h h' → Arv Z h' b kA (newarray.typeOf aty) n (List.replicate N (defaultValue (newarray.typeOf aty))) (defaultValue (newarray.typeOf aty)) → Exa Z h' b ad → own_R p e below s Q ck sk T' (mkF m (pc + 2) Ls (.ref b :: St))) : own_R p e below s Q ck sk T (mkF m pc Ls (.int n :: St)) := by
  obtain ⟨T', h', kA, X', e', E, A, EA, st⟩ := newPE X hx hZ w eT (g := mkF m pc Ls (.int n :: St)) rfl hd rfl hn hcap hb hc hl had
  have V := (Arv.new A hn).pad (vs' := List.replicate N (defaultValue (newarray.typeOf aty))) (fun i => pad_rep [] (defaultValue (newarray.typeOf aty)) N i)
  exact own_lift st (k T' h' _ kA rfl X' e' E V EA)
theorem own_len (X : Stand p l e R s m args below meth c T locs cells slots) (hx : p.tables.exec = Jvm.exec) (hZ : Z.Warmed39 s.vm) (eT : T.heap = h) {a : Addr} {kA : ClassId} {ty : FieldType} {n : Int32} {vs : List Value} {dv : Value} (V : Arv Z h a kA ty n vs dv) {pc : Nat} {Ls : Array Slot} {St : List Value} (hd : decode c.code pc = .ok (.arraylength, 1))
    (k : own_R p e below s Q ck sk T (mkF m (pc + 1) Ls (.int n :: St))) : own_R p e below s Q ck sk T (mkF m pc Ls (.ref a :: St)) := by
  obtain ⟨cl, A, -, S, N, -⟩ := V
  rw [← len_of S N] at k
  exact own_lift (fun _ q => X.arraylength hx (by rw [eT]; exact A.1) (State.isArrayOf_alike hZ.alike A.2.1) (g := mkF m pc Ls (.ref a :: St)) rfl rfl hd _ q) k
theorem own_baload (X : Stand p l e R s m args below meth c T locs cells slots) (hx : p.tables.exec = Jvm.exec) (hZ : Z.Warmed39 s.vm) (eT : T.heap = h) {a : Addr} {kA : ClassId} {n : Int32} {vs : List Value} {dv v : Value} (V : Arv Z h a kA .byte n vs dv) {pc : Nat} {Ls : Array Slot} {St : List Value} {j : Int32} (hj : ¬ j < 0 ∧ j < n) (hv : vs.getD j.toNatClampNeg dv = v) (hd : decode c.code pc = .ok (.baload, 1))
    (k : own_R p e below s Q ck sk T (mkF m (pc + 1) Ls (v :: St))) : own_R p e below s Q ck sk T (mkF m pc Ls (.int j :: .ref a :: St)) := by
  obtain ⟨cl, A, -, S, N, H, -⟩ := V
  have hin := inb_of S hj
  exact own_lift (fun _ q => X.baloadBytes hx (by rw [eT]; exact A.1) (State.isArrayOf_alike hZ.alike A.2.1) A.2.2 hin (H.at hin hv) (g := mkF m pc Ls (.int j :: .ref a :: St)) rfl rfl hd _ q) k
theorem own_zaload (X : Stand p l e R s m args below meth c T locs cells slots) (hx : p.tables.exec = Jvm.exec) (hZ : Z.Warmed39 s.vm) (eT : T.heap = h) {a : Addr} {kA : ClassId} {n : Int32} {vs : List Value} {dv v : Value} (V : Arv Z h a kA .boolean n vs dv) {pc : Nat} {Ls : Array Slot} {St : List Value} {j : Int32} (hj : ¬ j < 0 ∧ j < n) (hv : vs.getD j.toNatClampNeg dv = v) (hd : decode c.code pc = .ok (.baload, 1))
    (k : own_R p e below s Q ck sk T (mkF m (pc + 1) Ls (v :: St))) : own_R p e below s Q ck sk T (mkF m pc Ls (.int j :: .ref a :: St)) := by
  obtain ⟨cl, A, -, S, N, H, -⟩ := V
  have hin := inb_of S hj
  exact own_lift (fun _ q => X.baloadBooleans hx (by rw [eT]; exact A.1) (State.isArrayOf_alike hZ.alike A.2.1) A.2.2 hin (H.at hin hv) (g := mkF m pc Ls (.int j :: .ref a :: St)) rfl rfl hd _ q) k
theorem own_caload (X : Stand p l e R s m args below meth c T locs cells slots) (hx : p.tables.exec = Jvm.exec) (hZ : Z.Warmed39 s.vm) (eT : T.heap = h) {a : Addr} {kA : ClassId} {n : Int32} {vs : List Value} {dv v : Value} (V : Arv Z h a kA .char n vs dv) {pc : Nat} {Ls : Array Slot} {St : List Value} {j : Int32} (hj : ¬ j < 0 ∧ j < n) (hv : vs.getD j.toNatClampNeg dv = v) (hd : decode c.code pc = .ok (.caload, 1))
    (k : own_R p e below s Q ck sk T (mkF m (pc + 1) Ls (v :: St))) : own_R p e below s Q ck sk T (mkF m pc Ls (.int j :: .ref a :: St)) := by
  obtain ⟨cl, A, -, S, N, H, -⟩ := V
  have hin := inb_of S hj
  exact own_lift (fun _ q => X.caload hx (by rw [eT]; exact A.1) (State.isArrayOf_alike hZ.alike A.2.1) A.2.2 hin (H.at hin hv) (g := mkF m pc Ls (.int j :: .ref a :: St)) rfl rfl hd _ q) k
theorem own_iaload (X : Stand p l e R s m args below meth c T locs cells slots) (hx : p.tables.exec = Jvm.exec) (hZ : Z.Warmed39 s.vm) (eT : T.heap = h) {a : Addr} {kA : ClassId} {n : Int32} {vs : List Value} {dv v : Value} (V : Arv Z h a kA .int n vs dv) {pc : Nat} {Ls : Array Slot} {St : List Value} {j : Int32} (hj : ¬ j < 0 ∧ j < n) (hv : vs.getD j.toNatClampNeg dv = v) (hd : decode c.code pc = .ok (.iaload, 1))
    (k : own_R p e below s Q ck sk T (mkF m (pc + 1) Ls (v :: St))) : own_R p e below s Q ck sk T (mkF m pc Ls (.int j :: .ref a :: St)) := by
  obtain ⟨cl, A, -, S, N, H, -⟩ := V
  have hin := inb_of S hj
  exact own_lift (fun _ q => X.iaload hx (by rw [eT]; exact A.1) (State.isArrayOf_alike hZ.alike A.2.1) A.2.2 hin (H.at hin hv) (g := mkF m pc Ls (.int j :: .ref a :: St)) rfl rfl hd _ q) k
theorem own_bastore (X : Stand p l e R s m args below meth c T locs cells slots) (hx : p.tables.exec = Jvm.exec) (hZ : Z.Warmed39 s.vm) (eT : T.heap = h) {a : Addr} {kA : ClassId} {n : Int32} {vs : List Value} {dv : Value} (V : Arv Z h a kA .byte n vs dv) {pc : Nat} {Ls : Array Slot} {St : List Value} {j x x' : Int32} (hn : nar .byte x = x') (hj : ¬ j < 0 ∧ j < n) (i : Nat) (hi : j.toNatClampNeg = i) (hl : i < vs.length) (hd : decode c.code pc = .ok (.bastore, 1))
    (k : ∀ T' h', Stand p l e R s m args below meth c T' (locs ++ [⟨a, j.toNatClampNeg⟩]) cells slots → T'.heap = h' → Wr h h' a j.toNatClampNeg (.int x') → Arv Z h' a kA .byte n (vs.set i (.int x')) dv → own_R p e below s Q ck sk T' (mkF m (pc + 1) Ls St)) : own_R p e below s Q ck sk T (mkF m pc Ls (.int x :: .int j :: .ref a :: St)) := by
  obtain ⟨cl, A, q1, S, N, H, G⟩ := V
  have hin := inb_of S hj
  obtain ⟨T', h', X', e', W, st⟩ := stB X hx hZ eT A hin (g := mkF m pc Ls (.int x :: .int j :: .ref a :: St)) rfl rfl hd
  subst hn
  exact own_lift st (k T' h' X' e' W (Arv.set A q1 S N H G (fits_nar_byte _) W i hi hl))
theorem own_zastore (X : Stand p l e R s m args below meth c T locs cells slots) (hx : p.tables.exec = Jvm.exec) (hZ : Z.Warmed39 s.vm) (eT : T.heap = h) {a : Addr} {kA : ClassId} {n : Int32} {vs : List Value} {dv : Value} (V : Arv Z h a kA .boolean n vs dv) {pc : Nat} {Ls : Array Slot} {St : List Value} {j x x' : Int32} (hn : nar .boolean x = x') (hj : ¬ j < 0 ∧ j < n) (i : Nat) (hi : j.toNatClampNeg = i) (hl : i < vs.length) (hd : decode c.code pc = .ok (.bastore, 1))
    (k : ∀ T' h', Stand p l e R s m args below meth c T' (locs ++ [⟨a, j.toNatClampNeg⟩]) cells slots → T'.heap = h' → Wr h h' a j.toNatClampNeg (.int x') → Arv Z h' a kA .boolean n (vs.set i (.int x')) dv → own_R p e below s Q ck sk T' (mkF m (pc + 1) Ls St)) : own_R p e below s Q ck sk T (mkF m pc Ls (.int x :: .int j :: .ref a :: St)) := by
  obtain ⟨cl, A, q1, S, N, H, G⟩ := V
  have hin := inb_of S hj
  obtain ⟨T', h', X', e', W, st⟩ := stZ X hx hZ eT A hin (g := mkF m pc Ls (.int x :: .int j :: .ref a :: St)) rfl rfl hd
  subst hn
  exact own_lift st (k T' h' X' e' W (Arv.set A q1 S N H G (fits_nar_bool _) W i hi hl))
theorem own_castore (X : Stand p l e R s m args below meth c T locs cells slots) (hx : p.tables.exec = Jvm.exec) (hZ : Z.Warmed39 s.vm) (eT : T.heap = h) {a : Addr} {kA : ClassId} {n : Int32} {vs : List Value} {dv : Value} (V : Arv Z h a kA .char n vs dv) {pc : Nat} {Ls : Array Slot} {St : List Value} {j x x' : Int32} (hn : nar .char x = x') (hj : ¬ j < 0 ∧ j < n) (i : Nat) (hi : j.toNatClampNeg = i) (hl : i < vs.length) (hd : decode c.code pc = .ok (.castore, 1))
    (k : ∀ T' h', Stand p l e R s m args below meth c T' (locs ++ [⟨a, j.toNatClampNeg⟩]) cells slots → T'.heap = h' → Wr h h' a j.toNatClampNeg (.int x') → Arv Z h' a kA .char n (vs.set i (.int x')) dv → own_R p e below s Q ck sk T' (mkF m (pc + 1) Ls St)) : own_R p e below s Q ck sk T (mkF m pc Ls (.int x :: .int j :: .ref a :: St)) := by
  obtain ⟨cl, A, q1, S, N, H, G⟩ := V
  have hin := inb_of S hj
  obtain ⟨T', h', X', e', W, st⟩ := stC X hx hZ eT A hin (g := mkF m pc Ls (.int x :: .int j :: .ref a :: St)) rfl rfl hd
  subst hn
  exact own_lift st (k T' h' X' e' W (Arv.set A q1 S N H G (fits_nar_char _) W i hi hl))
theorem own_iastore (X : Stand p l e R s m args below meth c T locs cells slots) (hx : p.tables.exec = Jvm.exec) (hZ : Z.Warmed39 s.vm) (eT : T.heap = h) {a : Addr} {kA : ClassId} {n : Int32} {vs : List Value} {dv : Value} (V : Arv Z h a kA .int n vs dv) {pc : Nat} {Ls : Array Slot} {St : List Value} {j x x' : Int32} (hn : x = x') (hj : ¬ j < 0 ∧ j < n) (i : Nat) (hi : j.toNatClampNeg = i) (hl : i < vs.length) (hd : decode c.code pc = .ok (.iastore, 1))
    (k : ∀ T' h', Stand p l e R s m args below meth c T' (locs ++ [⟨a, j.toNatClampNeg⟩]) cells slots → T'.heap = h' → Wr h h' a j.toNatClampNeg (.int x') → Arv Z h' a kA .int n (vs.set i (.int x')) dv → own_R p e below s Q ck sk T' (mkF m (pc + 1) Ls St)) : own_R p e below s Q ck sk T (mkF m pc Ls (.int x :: .int j :: .ref a :: St)) := by
  obtain ⟨cl, A, q1, S, N, H, G⟩ := V
  have hin := inb_of S hj
  obtain ⟨T', h', X', e', W, st⟩ := stI X hx hZ eT A hin (g := mkF m pc Ls (.int x :: .int j :: .ref a :: St)) rfl rfl hd
  subst hn
  exact own_lift st (k T' h' X' e' W (Arv.set A q1 S N H G rfl W i hi hl))
theorem own_initO (X : Stand p l e R s m args below meth c T locs cells slots) (hx : p.tables.exec = Jvm.exec) (hZ : Z.Warmed39 s.vm) {own : String} {idx : Nat} (hown : s.vm.findClass own = some m.cls) (w1 : (Cond.methodLink own idx Lib.objectInit).before a0 Z = true) (w2 : (Cond.instanceMethod Lib.objectInit).before a0 Z = true)
    (w3 : (Cond.code Lib.objectInit ⟨#[0xb1]⟩ 1 none).before a0 Z = true) (eT : T.heap = h) {pc : Nat} {Ls : Array Slot} {St : List Value} {a : Addr} (hsize : Ls.size = c.maxLocals) (hd : decode c.code pc = .ok (.invokespecial idx, 3)) (hf : 1 ≤ R.frames) {W : Nat} (hW : (St.map fun v => v.category).sum ≤ W) (hl : W + 12 ≤ R.locals)
    (k : ∀ T', Stand p l e R s m args below meth c T' locs cells slots → T'.heap = h → own_R p e below s Q ck sk T' (mkF m (pc + 3) Ls St)) : own_R p e below s Q ck sk T (mkF m pc Ls (.ref a :: St)) := by
  obtain ⟨T', X', e', st⟩ := initO X hx hZ hown w1 w2 w3 eT (g := mkF m pc Ls (.ref a :: St)) rfl hsize rfl hd hf (W := W) (by show 2 * 0 + _ ≤ _; omega) hl
  exact own_lift st (k T' X' e')
/-! calls by contract -/
theorem own_callS (X : Stand p l e R s m args below meth c T locs cells slots) (hx : p.tables.exec = Jvm.exec) (hZ : Z.Warmed39 s.vm) {own : String} {index : Nat} {y : MethodName} {bytes : ByteArray} {maxL : Nat} {ret : Option FieldType} {rm : Room} {as' : Array Value} {Q' : Option Value → Heap → List Loc → Prop}
    (hown : s.vm.findClass own = some m.cls) (w1 : (Cond.methodLink own index y).before a0 Z = true) (w2 : (Cond.static y).before a0 Z = true) (w3 : (Cond.initialized y.cls).before a0 Z = true) (w4 : (Cond.code y bytes maxL ret).before a0 Z = true) (hy : y.cls ≠ "java/lang/invoke/MethodHandle" ∧ y.cls ≠ "java/lang/invoke/VarHandle")
    (hM : MetFree l y (head1 [Cond.code y bytes maxL ret] rm) (fun a U => a = as' ∧ Z.Warmed39 U.vm ∧ U.heap = h) (fun _ _ _ _ _ => True) (fun _ U o U' => ∃ v L, o = .returned v ∧ Q' v U'.heap L ∧ FrameEnd U o U' L rm.cells rm.slots))
    (W : Nat) (hf : rm.frames + 1 ≤ R.frames) (hl : W + (maxL + 11) + rm.locals ≤ R.locals) (eT : T.heap = h) {pc : Nat} {Ls : Array Slot} {St : List Value} (hsize : Ls.size = c.maxLocals) (argsL rest : List Value) (has : as' = argsL.toArray) (hlen : ∀ sig, parseMethodDescriptor y.desc = some sig → argsL.length = sig.parameters.length) (hst : St = argsL.reverse ++ rest) (hW : (rest.map fun v => v.category).sum ≤ W)
    (hd : decode c.code pc = .ok (.invokestatic index, 3)) (hc : cells + rm.cells ≤ R.cells) (hs : slots + rm.slots ≤ R.slots)
    (k : ∀ T' v L, Stand p l e R s m args below meth c T' (locs ++ L) (cells + rm.cells) (slots + rm.slots) → Q' v T'.heap L → own_R p e below s Q ck sk T' (mkF m (pc + 3) Ls (v.toList ++ rest))) : own_R p e below s Q ck sk T (mkF m pc Ls St) := by
  obtain ⟨v, _, ⟨T', L', k', n'⟩, -, X', ⟨Lc, hQ, l', y', z'⟩, st⟩ := Jvm.LawKit.callS X hx (y := y) hown (mvT hZ w1) (mvT hZ w2) (mvT hZ w3) (mvT hZ w4) hy (backOf (W := W) hM hZ w4 w3 hf hl) (g := mkF m pc Ls St) rfl hsize (argsL := argsL) (rest := rest) hlen hst (by show 2 * 0 + _ ≤ _; omega) hd (fun _ _ => ⟨has.symm, eT, hc, hs⟩)
  dsimp only [Pt.U, Pt.locs, Pt.cells, Pt.slots] at X' l' y' z' st hQ
  subst l' y' z'
  exact own_lift st (k T' v Lc X' hQ)
theorem own_callI (X : Stand p l e R s m args below meth c T locs cells slots) (hx : p.tables.exec = Jvm.exec) (hZ : Z.Warmed39 s.vm) {own : String} {index : Nat} {y : MethodName} {bytes : ByteArray} {maxL : Nat} {rm : Room} {as' : Array Value} {Q' : Option Value → Heap → List Loc → Prop} (hy1 : y.name = "<init>")
    (hown : s.vm.findClass own = some m.cls) (w1 : (Cond.methodLink own index y).before a0 Z = true) (w2 : (Cond.instanceMethod y).before a0 Z = true) (w3 : (Cond.initialized y.cls).before a0 Z = true) (w4 : (Cond.code y bytes maxL none).before a0 Z = true) (hy : y.cls ≠ "java/lang/invoke/MethodHandle" ∧ y.cls ≠ "java/lang/invoke/VarHandle")
    (hM : MetFree l y (head1 [Cond.code y bytes maxL none] rm) (fun a U => a = as' ∧ Z.Warmed39 U.vm ∧ U.heap = h) (fun _ _ _ _ _ => True) (fun _ U o U' => ∃ v L, o = .returned v ∧ Q' v U'.heap L ∧ FrameEnd U o U' L rm.cells rm.slots))
    (W : Nat) (hf : rm.frames + 1 ≤ R.frames) (hl : W + (maxL + 11) + rm.locals ≤ R.locals) (eT : T.heap = h) {pc : Nat} {Ls : Array Slot} {St : List Value} (hsize : Ls.size = c.maxLocals) (a : Addr) (argsL rest : List Value) (has : as' = (.ref a :: argsL).toArray) (hlen : ∀ sig, parseMethodDescriptor y.desc = some sig → argsL.length = sig.parameters.length) (hst : St = argsL.reverse ++ .ref a :: rest) (hW : (rest.map fun v => v.category).sum ≤ W)
    (hd : decode c.code pc = .ok (.invokespecial index, 3)) (hc : cells + rm.cells ≤ R.cells) (hs : slots + rm.slots ≤ R.slots)
    (k : ∀ T' v L, Stand p l e R s m args below meth c T' (locs ++ L) (cells + rm.cells) (slots + rm.slots) → Q' v T'.heap L → own_R p e below s Q ck sk T' (mkF m (pc + 3) Ls (v.toList ++ rest))) : own_R p e below s Q ck sk T (mkF m pc Ls St) := by
  obtain ⟨v, _, ⟨T', L', k', n'⟩, -, X', ⟨Lc, hQ, l', y', z'⟩, st⟩ := X.specialBack hx (y := y) hy1 hown (mvT hZ w1) (mvT hZ w2) (mvT hZ w4) hy (backOf (W := W) hM hZ w4 w3 hf hl) (g := mkF m pc Ls St) rfl hsize (Steps.refl _) (a := a) (argsL := argsL) (rest := rest) hlen hst (by show 2 * 0 + _ ≤ _; omega) hd (fun _ _ => ⟨has.symm, eT, hc, hs⟩)
  dsimp only [Pt.U, Pt.locs, Pt.cells, Pt.slots] at X' l' y' z' st hQ
  subst l' y' z'
  exact own_lift (fun _ q => st.trans q) (k T' v Lc X' hQ)
theorem own_callV (X : Stand p l e R s m args below meth c T locs cells slots) (hx : p.tables.exec = Jvm.exec) (hZ : Z.Warmed39 s.vm) {own C : String} {index : Nat} {y z : MethodName} {bytes : ByteArray} {maxL : Nat} {ret : Option FieldType} {rm : Room} {as' : Array Value} {Q' : Option Value → Heap → List Loc → Prop}
    (hown : s.vm.findClass own = some m.cls) (w1 : (Cond.methodLink own index y).before a0 Z = true) (w2 : (Cond.declares y).before a0 Z = true) (nf : NotFace s y) (w5 : (Cond.selects C y z).before a0 Z = true) (w6 : (Cond.instanceMethod z).before a0 Z = true) (w3 : (Cond.initialized z.cls).before a0 Z = true) (w4 : (Cond.code z bytes maxL ret).before a0 Z = true) (hy : y.cls ≠ "java/lang/invoke/MethodHandle" ∧ y.cls ≠ "java/lang/invoke/VarHandle")
    (hM : MetFree l z (head1 [Cond.code z bytes maxL ret] rm) (fun a U => a = as' ∧ Z.Warmed39 U.vm ∧ U.heap = h) (fun _ _ _ _ _ => True) (fun _ U o U' => ∃ v L, o = .returned v ∧ Q' v U'.heap L ∧ FrameEnd U o U' L rm.cells rm.slots))
    (W : Nat) (hf : rm.frames + 1 ≤ R.frames) (hl : W + (maxL + 11) + rm.locals ≤ R.locals) (eT : T.heap = h) {pc : Nat} {Ls : Array Slot} {St : List Value} (hsize : Ls.size = c.maxLocals) (a : Addr) (E : Exa Z h a C) (argsL rest : List Value) (has : as' = (.ref a :: argsL).toArray) (hlen : ∀ sig, parseMethodDescriptor y.desc = some sig → argsL.length = sig.parameters.length) (hst : St = argsL.reverse ++ .ref a :: rest) (hW : (rest.map fun v => v.category).sum ≤ W)
    (hd : decode c.code pc = .ok (.invokevirtual index, 3)) (hc : cells + rm.cells ≤ R.cells) (hs : slots + rm.slots ≤ R.slots)
    (k : ∀ T' v L, Stand p l e R s m args below meth c T' (locs ++ L) (cells + rm.cells) (slots + rm.slots) → Q' v T'.heap L → own_R p e below s Q ck sk T' (mkF m (pc + 3) Ls (v.toList ++ rest))) : own_R p e below s Q ck sk T (mkF m pc Ls St) := by
  obtain ⟨cq, kq, qa, qb, qc⟩ := isOf hZ eT E
  obtain ⟨v, _, ⟨T', L', k', n'⟩, -, X', ⟨Lc, hQ, l', y', z'⟩, st⟩ := X.virtualBack hx (y := y) (z := z) hown (mvT hZ w1) (mvT hZ w2) nf (mvT hZ w5) (mvT hZ w6) hy (backOf (W := W) hM hZ w4 w3 hf hl) qa qc (g := mkF m pc Ls St) rfl hsize (Steps.refl _) (argsL := argsL) (rest := rest) hlen hst (by show 2 * 0 + _ ≤ _; omega) hd (fun _ _ => ⟨has.symm, eT, hc, hs⟩)
  dsimp only [Pt.U, Pt.locs, Pt.cells, Pt.slots] at X' l' y' z' st hQ
  subst l' y' z'
  exact own_lift (fun _ q => st.trans q) (k T' v Lc X' hQ)
end OwnKit

theorem pl_4 (x : Int32) : ((x.toUInt32 >>> ((2 : Int32) &&& 31).toUInt32).toInt32 &&& (3 : Int32)) = 0 ∨ ((x.toUInt32 >>> ((2 : Int32) &&& 31).toUInt32).toInt32 &&& (3 : Int32)) = 1 ∨ ((x.toUInt32 >>> ((2 : Int32) &&& 31).toUInt32).toInt32 &&& (3 : Int32)) = 2 ∨ ((x.toUInt32 >>> ((2 : Int32) &&& 31).toUInt32).toInt32 &&& (3 : Int32)) = 3 := by
  generalize (x.toUInt32 >>> ((2 : Int32) &&& 31).toUInt32).toInt32 = y
  have h := c_mask y (3 : Int32) 2 (by decide) (by decide)
  simp only [← Int32.toInt_inj, show (0 : Int32).toInt = 0 from by decide, show (1 : Int32).toInt = 1 from by decide, show (2 : Int32).toInt = 2 from by decide, show (3 : Int32).toInt = 3 from by decide]
  omega
theorem pl_nb (b : Int32) (h : -128 ≤ b.toInt ∧ b.toInt < 128) : nar .byte b = b := by
  show b.toInt8.toInt32 = b
  apply Int32.toInt_inj.mp
  have := c_i2b b
  omega
theorem pl_m1 (b : Int32) (h : -128 ≤ b.toInt ∧ b.toInt < 128) (k : Int32) (q : Int32) (h1 : k.toInt = q.toInt % 256) (h2 : -128 ≤ q.toInt ∧ q.toInt < 128) : (b &&& (255 : Int32) = k) = (b = q) := by
  have := c_mask b (255 : Int32) 8 (by decide) (by decide)
  rw [← Int32.toInt_inj, ← Int32.toInt_inj]
  apply propext
  constructor <;> intro z <;> omega

theorem d1_0 : decode prog_3_method_2_code 0 = .ok (.aload_n 0, 1) := by decide +kernel
theorem d1_1 : decode prog_3_method_2_code 1 = .ok (.arraylength, 1) := by decide +kernel
theorem d1_2 : decode prog_3_method_2_code 2 = .ok (.iconst 2, 1) := by decide +kernel
theorem d1_3 : decode prog_3_method_2_code 3 = .ok (.if_icmp .lt 32, 3) := by decide +kernel
theorem d1_6 : decode prog_3_method_2_code 6 = .ok (.aload_n 0, 1) := by decide +kernel
theorem d1_7 : decode prog_3_method_2_code 7 = .ok (.iconst 0, 1) := by decide +kernel
theorem d1_8 : decode prog_3_method_2_code 8 = .ok (.baload, 1) := by decide +kernel
theorem d1_9 : decode prog_3_method_2_code 9 = .ok (.sipush 255, 3) := by decide +kernel
theorem d1_12 : decode prog_3_method_2_code 12 = .ok (.iand, 1) := by decide +kernel
theorem d1_13 : decode prog_3_method_2_code 13 = .ok (.bipush 31, 2) := by decide +kernel
theorem d1_15 : decode prog_3_method_2_code 15 = .ok (.if_icmp .ne 20, 3) := by decide +kernel
theorem d1_18 : decode prog_3_method_2_code 18 = .ok (.aload_n 0, 1) := by decide +kernel
theorem d1_19 : decode prog_3_method_2_code 19 = .ok (.iconst 1, 1) := by decide +kernel
theorem d1_20 : decode prog_3_method_2_code 20 = .ok (.baload, 1) := by decide +kernel
theorem d1_21 : decode prog_3_method_2_code 21 = .ok (.sipush 255, 3) := by decide +kernel
theorem d1_24 : decode prog_3_method_2_code 24 = .ok (.iand, 1) := by decide +kernel
theorem d1_25 : decode prog_3_method_2_code 25 = .ok (.sipush 139, 3) := by decide +kernel
theorem d1_28 : decode prog_3_method_2_code 28 = .ok (.if_icmp .ne 7, 3) := by decide +kernel
theorem d1_31 : decode prog_3_method_2_code 31 = .ok (.iconst 1, 1) := by decide +kernel
theorem d1_32 : decode prog_3_method_2_code 32 = .ok (.goto 4, 3) := by decide +kernel
theorem d1_35 : decode prog_3_method_2_code 35 = .ok (.iconst 0, 1) := by decide +kernel
theorem d1_36 : decode prog_3_method_2_code 36 = .ok (.ireturn, 1) := by decide +kernel
theorem pd_0 : parseMethodDescriptor "([B)Z" = some ⟨[(.array .byte)], some .boolean⟩ := by decide +kernel
theorem pl_lt0 (z : Int32) (h : ¬ z < 2) : (0 : Int32) < z := by
  rw [Int32.lt_iff_toInt_lt] at *; rw [show (2 : Int32).toInt = 2 from by decide] at h; rw [show (0 : Int32).toInt = 0 from by decide]; omega
theorem pl_lt1 (z : Int32) (h : ¬ z < 2) : (1 : Int32) < z := by
  rw [Int32.lt_iff_toInt_lt] at *; rw [show (2 : Int32).toInt = 2 from by decide] at h; rw [show (1 : Int32).toInt = 1 from by decide]; omega
def pl_m (z : Int32) (x0 : Int32) (x1 : Int32) : Int32 := (if z < (2 : Int32) then (0 : Int32) else (if (x0 &&& (255 : Int32)) = (31 : Int32) then (if (x1 &&& (255 : Int32)) = (139 : Int32) then (1 : Int32) else (0 : Int32)) else (0 : Int32)))
theorem pn_1 : plainFor (⟨"com/example/structure_to_score/structuretoscore/GzipText", "isMagic", "([B)Z"⟩ : MethodName) = true := by decide +kernel
theorem ef_1 (m : MethodId) (a1 : Addr) : entryFrame m #[(.ref a1)] 1 = mkF m 0 #[.val (.ref a1)] [] := by first | (simp [entryFrame, mkF, argsToLocals, Value.category]; done) | rfl
def Q1 (Z : State) (a1 : Addr) (k1 : ClassId) (z : Int32) (vs : List Value) (x0 : Int32) (x1 : Int32) (h0 : Heap) (n0 : Nat) (v : Option Value) (h : Heap) (L : List Loc) : Prop := v = some (.int (pl_m z x0 x1)) ∧ Fr n0 L ∧ h = h0
set_option maxRecDepth 65536 in
set_option maxHeartbeats 40000000 in
theorem rm1 (l : Launch) (Z : State) (a0 : Array Value) (hw : ∀ d ∈ tables_1, d.before a0 Z = true) (ws : List Jvm.Cond) (a1 : Addr) (k1 : ClassId) (z : Int32) (vs : List Value) (x0 : Int32) (x1 : Int32) (h0 : Heap) (n0 : Nat) (Z0 : n0 ≤ h0.size) (hV : Arv Z h0 a1 k1 .byte z vs (.int (0 : Int32))) (hx0 : vs.getD (0 : Int32).toNatClampNeg (.int (0 : Int32)) = .int x0) (hx1 : vs.getD (1 : Int32).toNatClampNeg (.int (0 : Int32)) = .int x1) :
    MetFree l (⟨"com/example/structure_to_score/structuretoscore/GzipText", "isMagic", "([B)Z"⟩ : MethodName) (head1 (Jvm.Cond.code (⟨"com/example/structure_to_score/structuretoscore/GzipText", "isMagic", "([B)Z"⟩ : MethodName) prog_3_method_2_code 1 (some .boolean) :: ws) ({ frames := 0, cells := 0, slots := 0, locals := 0 } : Room)) (fun a U => a = #[(.ref a1)] ∧ Z.Warmed39 U.vm ∧ U.heap = h0) (fun _ _ _ _ _ => True) (fun _ U o U' => ∃ v L, o = .returned v ∧ Q1 Z a1 k1 z vs x0 x1 h0 n0 v U'.heap L ∧ FrameEnd U o U' L ({ frames := 0, cells := 0, slots := 0, locals := 0 } : Room).cells ({ frames := 0, cells := 0, slots := 0, locals := 0 } : Room).slots) := by
  refine MetFree.of_bodySF pn_1 hisR ?_
  intro p e s m args below meth c s₁ Bd hml0 hP hK
  obtain ⟨rfl, hZ, hh⟩ := hP
  have hx := Bd.exec
  have hby := Bd.bytes
  have hml : c.maxLocals = 1 := hml0
  have hown : s.vm.findClass "com/example/structure_to_score/structuretoscore/GzipText" = some m.cls := findClass_of_methodNamed Bd.named
  have hnm := (name_of_methodNamed Bd.named Bd.method).1
  have hlk := BodyLoose.notSynchronized Bd
  have X0 : Stand p l e ({ frames := 0, cells := 0, slots := 0, locals := 0 } : Room) s m #[(.ref a1)] below meth c s₁ [] 0 0 := Stand.of_body Bd
  have e0 : s₁.heap = h0 := by rw [← hh, Bd.state]; rfl
  have N0 := Fr.nil n0
  show own_R p e below s (Q1 Z a1 k1 z vs x0 x1 h0 n0) ({ frames := 0, cells := 0, slots := 0, locals := 0 } : Room).cells ({ frames := 0, cells := 0, slots := 0, locals := 0 } : Room).slots s₁ (entryFrame m #[(.ref a1)] 1)
  refine own_cast (ef_1 m a1) ?_
  show own_R p e below s _ _ _ s₁ (mkF m 0 #[.val (.ref a1)] [])
  have K0 := Keep.refl h0 ([] : List Addr)
  refine own_aloadN X0 hx (hb hby d1_0) rfl rfl ?_
  show own_R p e below s _ _ _ s₁ (mkF m 1 #[.val (.ref a1)] [(.ref a1)])
  refine own_len X0 hx hZ e0 hV (hb hby d1_1) ?_
  show own_R p e below s _ _ _ s₁ (mkF m 2 #[.val (.ref a1)] [(.int z)])
  refine own_iconst X0 hx (2 : Int32) (hb hby d1_2) rfl ?_
  show own_R p e below s _ _ _ s₁ (mkF m 3 #[.val (.ref a1)] [(.int (2 : Int32)), (.int z)])
  refine own_icmp X0 hx (hb hby d1_3) (pc' := 35) (by decide) (by decide) (fun hc => ?_) (fun hc => ?_)
  · have hc3 : z < (2 : Int32) := own_lt1 hc
    clear hc
    show own_R p e below s _ _ _ s₁ (mkF m 35 #[.val (.ref a1)] [])
    refine own_iconst X0 hx (0 : Int32) (hb hby d1_35) rfl ?_
    show own_R p e below s _ _ _ s₁ (mkF m 36 #[.val (.ref a1)] [(.int (0 : Int32))])
    refine own_retN X0 hx (t := .boolean) Bd.returns (by simp) hlk (hb hby d1_36) ?_ (by decide) (by decide)
    refine ⟨?_, N0, e0⟩
    show some (Value.int _) = some (Value.int (pl_m z x0 x1))
    rw [pl_m, if_pos hc3] <;> first | rfl | decide
  · have hc3 : ¬ z < (2 : Int32) := own_lt0 hc
    clear hc
    show own_R p e below s _ _ _ s₁ (mkF m 6 #[.val (.ref a1)] [])
    refine own_aloadN X0 hx (hb hby d1_6) rfl rfl ?_
    show own_R p e below s _ _ _ s₁ (mkF m 7 #[.val (.ref a1)] [(.ref a1)])
    refine own_iconst X0 hx (0 : Int32) (hb hby d1_7) rfl ?_
    show own_R p e below s _ _ _ s₁ (mkF m 8 #[.val (.ref a1)] [(.int (0 : Int32)), (.ref a1)])
    refine own_baload X0 hx hZ e0 hV (v := .int x0) ⟨by decide, pl_lt0 z hc3⟩ hx0 (hb hby d1_8) ?_
    show own_R p e below s _ _ _ s₁ (mkF m 9 #[.val (.ref a1)] [(.int x0)])
    refine own_sipush X0 hx (255 : Int32) (hb hby d1_9) rfl ?_
    show own_R p e below s _ _ _ s₁ (mkF m 12 #[.val (.ref a1)] [(.int (255 : Int32)), (.int x0)])
    refine own_iand X0 hx (hb hby d1_12) ?_
    show own_R p e below s _ _ _ s₁ (mkF m 13 #[.val (.ref a1)] [(.int (x0 &&& (255 : Int32)))])
    refine own_bipush X0 hx (31 : Int32) (hb hby d1_13) rfl ?_
    show own_R p e below s _ _ _ s₁ (mkF m 15 #[.val (.ref a1)] [(.int (31 : Int32)), (.int (x0 &&& (255 : Int32)))])
    refine own_icmp X0 hx (hb hby d1_15) (pc' := 35) (by decide) (by decide) (fun hc => ?_) (fun hc => ?_)
    · have hc15 : ¬ (x0 &&& (255 : Int32)) = (31 : Int32) := own_ne1 hc
      clear hc
      show own_R p e below s _ _ _ s₁ (mkF m 35 #[.val (.ref a1)] [])
      refine own_iconst X0 hx (0 : Int32) (hb hby d1_35) rfl ?_
      show own_R p e below s _ _ _ s₁ (mkF m 36 #[.val (.ref a1)] [(.int (0 : Int32))])
      refine own_retN X0 hx (t := .boolean) Bd.returns (by simp) hlk (hb hby d1_36) ?_ (by decide) (by decide)
      refine ⟨?_, N0, e0⟩
      show some (Value.int _) = some (Value.int (pl_m z x0 x1))
      rw [pl_m, if_neg hc3, if_neg hc15] <;> first | rfl | decide
    · have hc15 : (x0 &&& (255 : Int32)) = (31 : Int32) := own_ne0 hc
      clear hc
      show own_R p e below s _ _ _ s₁ (mkF m 18 #[.val (.ref a1)] [])
      refine own_aloadN X0 hx (hb hby d1_18) rfl rfl ?_
      show own_R p e below s _ _ _ s₁ (mkF m 19 #[.val (.ref a1)] [(.ref a1)])
      refine own_iconst X0 hx (1 : Int32) (hb hby d1_19) rfl ?_
      show own_R p e below s _ _ _ s₁ (mkF m 20 #[.val (.ref a1)] [(.int (1 : Int32)), (.ref a1)])
      refine own_baload X0 hx hZ e0 hV (v := .int x1) ⟨by decide, pl_lt1 z hc3⟩ hx1 (hb hby d1_20) ?_
      show own_R p e below s _ _ _ s₁ (mkF m 21 #[.val (.ref a1)] [(.int x1)])
      refine own_sipush X0 hx (255 : Int32) (hb hby d1_21) rfl ?_
      show own_R p e below s _ _ _ s₁ (mkF m 24 #[.val (.ref a1)] [(.int (255 : Int32)), (.int x1)])
      refine own_iand X0 hx (hb hby d1_24) ?_
      show own_R p e below s _ _ _ s₁ (mkF m 25 #[.val (.ref a1)] [(.int (x1 &&& (255 : Int32)))])
      refine own_sipush X0 hx (139 : Int32) (hb hby d1_25) rfl ?_
      show own_R p e below s _ _ _ s₁ (mkF m 28 #[.val (.ref a1)] [(.int (139 : Int32)), (.int (x1 &&& (255 : Int32)))])
      refine own_icmp X0 hx (hb hby d1_28) (pc' := 35) (by decide) (by decide) (fun hc => ?_) (fun hc => ?_)
      · have hc28 : ¬ (x1 &&& (255 : Int32)) = (139 : Int32) := own_ne1 hc
        clear hc
        show own_R p e below s _ _ _ s₁ (mkF m 35 #[.val (.ref a1)] [])
        refine own_iconst X0 hx (0 : Int32) (hb hby d1_35) rfl ?_
        show own_R p e below s _ _ _ s₁ (mkF m 36 #[.val (.ref a1)] [(.int (0 : Int32))])
        refine own_retN X0 hx (t := .boolean) Bd.returns (by simp) hlk (hb hby d1_36) ?_ (by decide) (by decide)
        refine ⟨?_, N0, e0⟩
        show some (Value.int _) = some (Value.int (pl_m z x0 x1))
        rw [pl_m, if_neg hc3, if_pos hc15, if_neg hc28] <;> first | rfl | decide
      · have hc28 : (x1 &&& (255 : Int32)) = (139 : Int32) := own_ne0 hc
        clear hc
        show own_R p e below s _ _ _ s₁ (mkF m 31 #[.val (.ref a1)] [])
        refine own_iconst X0 hx (1 : Int32) (hb hby d1_31) rfl ?_
        show own_R p e below s _ _ _ s₁ (mkF m 32 #[.val (.ref a1)] [(.int (1 : Int32))])
        refine own_goto X0 hx (hb hby d1_32) (pc' := 36) (by decide) (by decide) ?_
        show own_R p e below s _ _ _ s₁ (mkF m 36 #[.val (.ref a1)] [(.int (1 : Int32))])
        refine own_retN X0 hx (t := .boolean) Bd.returns (by simp) hlk (hb hby d1_36) ?_ (by decide) (by decide)
        refine ⟨?_, N0, e0⟩
        show some (Value.int _) = some (Value.int (pl_m z x0 x1))
        rw [pl_m, if_neg hc3, if_pos hc15, if_pos hc28] <;> first | rfl | decide
theorem pl_eq (z b0 b1 : Int32) (hz : ¬ z < 2) (h0 : -128 ≤ b0.toInt ∧ b0.toInt < 128) (h1 : -128 ≤ b1.toInt ∧ b1.toInt < 128) : pl_m z b0 b1 = if b0 = 31 then (if b1 = -117 then 1 else 0) else 0 := by
  rw [pl_m, if_neg hz]
  simp only [pl_m1 b0 h0 31 31 (by decide) (by decide), pl_m1 b1 h1 139 (-117) (by decide) (by decide)]
theorem pl_lo (z b0 b1 : Int32) (hz : z < 2) : pl_m z b0 b1 = 0 := by rw [pl_m, if_pos hz]
theorem pn_0 : plainFor (⟨"com/example/structure_to_score/structuretoscore/GzipTextIsMagicPinLaw", "law", "(IIII)Z"⟩ : MethodName) = true := by decide +kernel
theorem ef_0 (m : MethodId) (p0 : Int32) (p1 : Int32) (p2 : Int32) (p3 : Int32) : entryFrame m #[(.int p0), (.int p1), (.int p2), (.int p3)] maxLocals = mkF m 0 #[.val (.int p0), .val (.int p1), .val (.int p2), .val (.int p3), .unset, .unset, .unset, .unset, .unset] [] := by first | (simp [entryFrame, mkF, argsToLocals, Value.category, maxLocals]; done) | rfl
def Q0 (Z : State) (p0 : Int32) (p1 : Int32) (p2 : Int32) (p3 : Int32) (h0 : Heap) (n0 : Nat) (v : Option Value) (h : Heap) (L : List Loc) : Prop := v = some (.int 1) ∧ Fr n0 L
set_option maxRecDepth 65536 in
set_option maxHeartbeats 40000000 in
theorem rm0 (l : Launch) (Z : State) (a0 : Array Value) (hw : ∀ d ∈ tables_1, d.before a0 Z = true) (ws : List Jvm.Cond) (p0 : Int32) (p1 : Int32) (p2 : Int32) (p3 : Int32) (h0 : Heap) (n0 : Nat) (Z0 : n0 ≤ h0.size) :
    MetFree l x (head1 (Jvm.Cond.code x code maxLocals ret :: ws) room_1) (fun a U => a = #[(.int p0), (.int p1), (.int p2), (.int p3)] ∧ Z.Warmed39 U.vm ∧ U.heap = h0) (fun _ _ _ _ _ => True) (fun _ U o U' => ∃ v L, o = .returned v ∧ Q0 Z p0 p1 p2 p3 h0 n0 v U'.heap L ∧ FrameEnd U o U' L room_1.cells room_1.slots) := by
  refine MetFree.of_bodySF pn_0 hisR ?_
  intro p e s m args below meth c s₁ Bd hml0 hP hK
  obtain ⟨rfl, hZ, hh⟩ := hP
  have hx := Bd.exec
  have hby := Bd.bytes
  have hml : c.maxLocals = 9 := hml0
  have hown : s.vm.findClass "com/example/structure_to_score/structuretoscore/GzipTextIsMagicPinLaw" = some m.cls := findClass_of_methodNamed Bd.named
  have hnm := (name_of_methodNamed Bd.named Bd.method).1
  have hlk := BodyLoose.notSynchronized Bd
  have X0 : Stand p l e room_1 s m #[(.int p0), (.int p1), (.int p2), (.int p3)] below meth c s₁ [] 0 0 := Stand.of_body Bd
  have e0 : s₁.heap = h0 := by rw [← hh, Bd.state]; rfl
  have N0 := Fr.nil n0
  show own_R p e below s (Q0 Z p0 p1 p2 p3 h0 n0) room_1.cells room_1.slots s₁ (entryFrame m #[(.int p0), (.int p1), (.int p2), (.int p3)] maxLocals)
  refine own_cast (ef_0 m p0 p1 p2 p3) ?_
  show own_R p e below s _ _ _ s₁ (mkF m 0 #[.val (.int p0), .val (.int p1), .val (.int p2), .val (.int p3), .unset, .unset, .unset, .unset, .unset] [])
  refine own_iloadN X0 hx (hb hby at_0) rfl ?_
  show own_R p e below s _ _ _ s₁ (mkF m 1 #[.val (.int p0), .val (.int p1), .val (.int p2), .val (.int p3), .unset, .unset, .unset, .unset, .unset] [(.int p0)])
  refine own_iconst X0 hx (2 : Int32) (hb hby at_1) rfl ?_
  show own_R p e below s _ _ _ s₁ (mkF m 2 #[.val (.int p0), .val (.int p1), .val (.int p2), .val (.int p3), .unset, .unset, .unset, .unset, .unset] [(.int (2 : Int32)), (.int p0)])
  refine own_iushr X0 hx (hb hby at_2) ?_
  show own_R p e below s _ _ _ s₁ (mkF m 3 #[.val (.int p0), .val (.int p1), .val (.int p2), .val (.int p3), .unset, .unset, .unset, .unset, .unset] [(.int ((p0.toUInt32 >>> ((2 : Int32) &&& 31).toUInt32).toInt32))])
  refine own_iconst X0 hx (3 : Int32) (hb hby at_3) rfl ?_
  show own_R p e below s _ _ _ s₁ (mkF m 4 #[.val (.int p0), .val (.int p1), .val (.int p2), .val (.int p3), .unset, .unset, .unset, .unset, .unset] [(.int (3 : Int32)), (.int ((p0.toUInt32 >>> ((2 : Int32) &&& 31).toUInt32).toInt32))])
  refine own_iand X0 hx (hb hby at_4) ?_
  show own_R p e below s _ _ _ s₁ (mkF m 5 #[.val (.int p0), .val (.int p1), .val (.int p2), .val (.int p3), .unset, .unset, .unset, .unset, .unset] [(.int (((p0.toUInt32 >>> ((2 : Int32) &&& 31).toUInt32).toInt32) &&& (3 : Int32)))])
  refine own_istore X0 hx (hb hby at_5) (l' := #[.val (.int p0), .val (.int p1), .val (.int p2), .val (.int p3), .val (.int (((p0.toUInt32 >>> ((2 : Int32) &&& 31).toUInt32).toInt32) &&& (3 : Int32))), .unset, .unset, .unset, .unset]) rfl ?_
  show own_R p e below s _ _ _ s₁ (mkF m 7 #[.val (.int p0), .val (.int p1), .val (.int p2), .val (.int p3), .val (.int (((p0.toUInt32 >>> ((2 : Int32) &&& 31).toUInt32).toInt32) &&& (3 : Int32))), .unset, .unset, .unset, .unset] [])
  obtain ⟨n, hn, hn4⟩ : ∃ z : Int32, z = (((p0.toUInt32 >>> ((2 : Int32) &&& 31).toUInt32).toInt32) &&& (3 : Int32)) ∧ (z = 0 ∨ z = 1 ∨ z = 2 ∨ z = 3) := ⟨_, rfl, pl_4 _⟩
  rw [← hn]
  show own_R p e below s _ _ _ s₁ (mkF m 7 #[.val (.int p0), .val (.int p1), .val (.int p2), .val (.int p3), .val (.int n), .unset, .unset, .unset, .unset] [])
  have J20 : ∀ (c0 : Int32) (hc0 : -128 ≤ c0.toInt ∧ c0.toInt < 128), own_R p e below s (Q0 Z p0 p1 p2 p3 h0 n0) room_1.cells room_1.slots s₁ (mkF m 20 #[.val (.int p0), .val (.int p1), .val (.int p2), .val (.int p3), .val (.int n), .unset, .unset, .unset, .unset] [(.int c0)]) := by
    intro c0 hc0
    refine own_istore X0 hx (hb hby at_20) (l' := #[.val (.int p0), .val (.int p1), .val (.int p2), .val (.int p3), .val (.int n), .val (.int c0), .unset, .unset, .unset]) rfl ?_
    show own_R p e below s _ _ _ s₁ (mkF m 22 #[.val (.int p0), .val (.int p1), .val (.int p2), .val (.int p3), .val (.int n), .val (.int c0), .unset, .unset, .unset] [])
    have J35 : ∀ (c1 : Int32) (hc1 : -128 ≤ c1.toInt ∧ c1.toInt < 128), own_R p e below s (Q0 Z p0 p1 p2 p3 h0 n0) room_1.cells room_1.slots s₁ (mkF m 35 #[.val (.int p0), .val (.int p1), .val (.int p2), .val (.int p3), .val (.int n), .val (.int c0), .unset, .unset, .unset] [(.int c1)]) := by
      intro c1 hc1
      refine own_istore X0 hx (hb hby at_35) (l' := #[.val (.int p0), .val (.int p1), .val (.int p2), .val (.int p3), .val (.int n), .val (.int c0), .val (.int c1), .unset, .unset]) rfl ?_
      show own_R p e below s _ _ _ s₁ (mkF m 37 #[.val (.int p0), .val (.int p1), .val (.int p2), .val (.int p3), .val (.int n), .val (.int c0), .val (.int c1), .unset, .unset] [])
      rcases hn4 with rfl | rfl | rfl | rfl
      ·
        show own_R p e below s _ _ _ s₁ (mkF m 37 #[.val (.int p0), .val (.int p1), .val (.int p2), .val (.int p3), .val (.int (0 : Int32)), .val (.int c0), .val (.int c1), .unset, .unset] [])
        have K0 := Keep.refl h0 ([] : List Addr)
        refine own_iload X0 hx (hb hby at_37) rfl ?_
        show own_R p e below s _ _ _ s₁ (mkF m 39 #[.val (.int p0), .val (.int p1), .val (.int p2), .val (.int p3), .val (.int (0 : Int32)), .val (.int c0), .val (.int c1), .unset, .unset] [(.int (0 : Int32))])
        refine own_newA X0 hx hZ (hw _ (List.mem_of_getElem? (i := 0) rfl)) e0 (hb hby at_39) (by decide) 0 (by decide) (by decide) (by decide) (by decide) (ad := "[B") (by decide) 0 ?_
        intro T1 h1 b1 k1 g1 X1 e1 E1 V1 A1
        have sz_b1 : h0.size ≤ b1 := Nat.le_trans K0.1 (Nat.le_of_eq g1.symm)
        have n0_b1 : n0 ≤ b1 := Nat.le_trans Z0 sz_b1
        have K1 := K0.ext E1
        have V_b1 : Arv Z h1 b1 k1 .byte (0 : Int32) [] (.int (0 : Int32)) := V1
        show own_R p e below s _ _ _ T1 (mkF m 41 #[.val (.int p0), .val (.int p1), .val (.int p2), .val (.int p3), .val (.int (0 : Int32)), .val (.int c0), .val (.int c1), .unset, .unset] [(.ref b1)])
        refine own_astore X1 hx (hb hby at_41) rfl (l' := #[.val (.int p0), .val (.int p1), .val (.int p2), .val (.int p3), .val (.int (0 : Int32)), .val (.int c0), .val (.int c1), .val (.ref b1), .unset]) rfl ?_
        show own_R p e below s _ _ _ T1 (mkF m 43 #[.val (.int p0), .val (.int p1), .val (.int p2), .val (.int p3), .val (.int (0 : Int32)), .val (.int c0), .val (.int c1), .val (.ref b1), .unset] [])
        refine own_iload X1 hx (hb hby at_43) rfl ?_
        show own_R p e below s _ _ _ T1 (mkF m 45 #[.val (.int p0), .val (.int p1), .val (.int p2), .val (.int p3), .val (.int (0 : Int32)), .val (.int c0), .val (.int c1), .val (.ref b1), .unset] [(.int (0 : Int32))])
        refine own_iconst X1 hx (1 : Int32) (hb hby at_45) rfl ?_
        show own_R p e below s _ _ _ T1 (mkF m 46 #[.val (.int p0), .val (.int p1), .val (.int p2), .val (.int p3), .val (.int (0 : Int32)), .val (.int c0), .val (.int c1), .val (.ref b1), .unset] [(.int (1 : Int32)), (.int (0 : Int32))])
        refine own_icmp X1 hx (hb hby at_46) (pc' := 55) (by decide) (by decide) (fun hc => ?_) (fun hc => ?_)
        · have hc46 : (0 : Int32) < (1 : Int32) := own_lt1 hc
          clear hc
          show own_R p e below s _ _ _ T1 (mkF m 55 #[.val (.int p0), .val (.int p1), .val (.int p2), .val (.int p3), .val (.int (0 : Int32)), .val (.int c0), .val (.int c1), .val (.ref b1), .unset] [])
          refine own_iload X1 hx (hb hby at_55) rfl ?_
          show own_R p e below s _ _ _ T1 (mkF m 57 #[.val (.int p0), .val (.int p1), .val (.int p2), .val (.int p3), .val (.int (0 : Int32)), .val (.int c0), .val (.int c1), .val (.ref b1), .unset] [(.int (0 : Int32))])
          refine own_iconst X1 hx (2 : Int32) (hb hby at_57) rfl ?_
          show own_R p e below s _ _ _ T1 (mkF m 58 #[.val (.int p0), .val (.int p1), .val (.int p2), .val (.int p3), .val (.int (0 : Int32)), .val (.int c0), .val (.int c1), .val (.ref b1), .unset] [(.int (2 : Int32)), (.int (0 : Int32))])
          refine own_icmp X1 hx (hb hby at_58) (pc' := 67) (by decide) (by decide) (fun hc => ?_) (fun hc => ?_)
          · have hc58 : (0 : Int32) < (2 : Int32) := own_lt1 hc
            clear hc
            show own_R p e below s _ _ _ T1 (mkF m 67 #[.val (.int p0), .val (.int p1), .val (.int p2), .val (.int p3), .val (.int (0 : Int32)), .val (.int c0), .val (.int c1), .val (.ref b1), .unset] [])
            refine own_iload X1 hx (hb hby at_67) rfl ?_
            show own_R p e below s _ _ _ T1 (mkF m 69 #[.val (.int p0), .val (.int p1), .val (.int p2), .val (.int p3), .val (.int (0 : Int32)), .val (.int c0), .val (.int c1), .val (.ref b1), .unset] [(.int (0 : Int32))])
            refine own_iconst X1 hx (3 : Int32) (hb hby at_69) rfl ?_
            show own_R p e below s _ _ _ T1 (mkF m 70 #[.val (.int p0), .val (.int p1), .val (.int p2), .val (.int p3), .val (.int (0 : Int32)), .val (.int c0), .val (.int c1), .val (.ref b1), .unset] [(.int (3 : Int32)), (.int (0 : Int32))])
            refine own_icmp X1 hx (hb hby at_70) (pc' := 79) (by decide) (by decide) (fun hc => ?_) (fun hc => ?_)
            · have hc70 : (0 : Int32) < (3 : Int32) := own_lt1 hc
              clear hc
              show own_R p e below s _ _ _ T1 (mkF m 79 #[.val (.int p0), .val (.int p1), .val (.int p2), .val (.int p3), .val (.int (0 : Int32)), .val (.int c0), .val (.int c1), .val (.ref b1), .unset] [])
              refine own_iload X1 hx (hb hby at_79) rfl ?_
              show own_R p e below s _ _ _ T1 (mkF m 81 #[.val (.int p0), .val (.int p1), .val (.int p2), .val (.int p3), .val (.int (0 : Int32)), .val (.int c0), .val (.int c1), .val (.ref b1), .unset] [(.int (0 : Int32))])
              refine own_iconst X1 hx (2 : Int32) (hb hby at_81) rfl ?_
              show own_R p e below s _ _ _ T1 (mkF m 82 #[.val (.int p0), .val (.int p1), .val (.int p2), .val (.int p3), .val (.int (0 : Int32)), .val (.int c0), .val (.int c1), .val (.ref b1), .unset] [(.int (2 : Int32)), (.int (0 : Int32))])
              refine own_icmp X1 hx (hb hby at_82) (pc' := 103) (by decide) (by decide) (fun hc => ?_) (fun hc => ?_)
              · have hc82 : (0 : Int32) < (2 : Int32) := own_lt1 hc
                clear hc
                show own_R p e below s _ _ _ T1 (mkF m 103 #[.val (.int p0), .val (.int p1), .val (.int p2), .val (.int p3), .val (.int (0 : Int32)), .val (.int c0), .val (.int c1), .val (.ref b1), .unset] [])
                have hm : pl_m (0 : Int32) (0 : Int32) (0 : Int32) = (0 : Int32) := pl_lo _ _ _ (by decide)
                refine own_iconst X1 hx (0 : Int32) (hb hby at_103) rfl ?_
                show own_R p e below s _ _ _ T1 (mkF m 104 #[.val (.int p0), .val (.int p1), .val (.int p2), .val (.int p3), .val (.int (0 : Int32)), .val (.int c0), .val (.int c1), .val (.ref b1), .unset] [(.int (0 : Int32))])
                refine own_istore X1 hx (hb hby at_104) (l' := #[.val (.int p0), .val (.int p1), .val (.int p2), .val (.int p3), .val (.int (0 : Int32)), .val (.int c0), .val (.int c1), .val (.ref b1), .val (.int (0 : Int32))]) rfl ?_
                show own_R p e below s _ _ _ T1 (mkF m 106 #[.val (.int p0), .val (.int p1), .val (.int p2), .val (.int p3), .val (.int (0 : Int32)), .val (.int c0), .val (.int c1), .val (.ref b1), .val (.int (0 : Int32))] [])
                refine own_aload X1 hx (hb hby at_106) rfl rfl ?_
                show own_R p e below s _ _ _ T1 (mkF m 108 #[.val (.int p0), .val (.int p1), .val (.int p2), .val (.int p3), .val (.int (0 : Int32)), .val (.int c0), .val (.int c1), .val (.ref b1), .val (.int (0 : Int32))] [(.ref b1)])
                refine own_callS X1 hx hZ (y := (⟨"com/example/structure_to_score/structuretoscore/GzipText", "isMagic", "([B)Z"⟩ : MethodName)) hown (hw _ (List.mem_of_getElem? (i := 1) rfl)) (hw _ (List.mem_of_getElem? (i := 2) rfl)) (hw _ (List.mem_of_getElem? (i := 3) rfl)) (hw _ (List.mem_of_getElem? (i := 4) rfl)) (by decide) (rm1 l Z a0 hw [] b1 k1 (0 : Int32) [] (0 : Int32) (0 : Int32) h1 n0 (Nat.le_trans Z0 K1.1) V_b1 rfl rfl) 0 (by decide) (by decide) e1 (by rw [hml]; rfl) [(.ref b1)] [] rfl (lenOf pd_0 rfl) rfl (Nat.le_of_eq rfl) (hb hby at_108) (by decide) (by decide) ?_
                rintro T2 _ L2 X2 ⟨rfl, N2q, e2⟩
                have N2 := Fr.app N0 N2q
                show own_R p e below s _ _ _ T2 (mkF m 111 #[.val (.int p0), .val (.int p1), .val (.int p2), .val (.int p3), .val (.int (0 : Int32)), .val (.int c0), .val (.int c1), .val (.ref b1), .val (.int (0 : Int32))] [(.int (pl_m (0 : Int32) (0 : Int32) (0 : Int32)))])
                refine own_iload X2 hx (hb hby at_111) rfl ?_
                show own_R p e below s _ _ _ T2 (mkF m 113 #[.val (.int p0), .val (.int p1), .val (.int p2), .val (.int p3), .val (.int (0 : Int32)), .val (.int c0), .val (.int c1), .val (.ref b1), .val (.int (0 : Int32))] [(.int (0 : Int32)), (.int (pl_m (0 : Int32) (0 : Int32) (0 : Int32)))])
                refine own_icmp X2 hx (hb hby at_113) (pc' := 120) (by decide) (by decide) (fun hc => ?_) (fun hc => ?_)
                · have hc113 : ¬ (pl_m (0 : Int32) (0 : Int32) (0 : Int32)) = (0 : Int32) := own_ne1 hc
                  exact absurd hm hc113
                · have hc113 : (pl_m (0 : Int32) (0 : Int32) (0 : Int32)) = (0 : Int32) := own_ne0 hc
                  clear hc
                  show own_R p e below s _ _ _ T2 (mkF m 116 #[.val (.int p0), .val (.int p1), .val (.int p2), .val (.int p3), .val (.int (0 : Int32)), .val (.int c0), .val (.int c1), .val (.ref b1), .val (.int (0 : Int32))] [])
                  refine own_iconst X2 hx (1 : Int32) (hb hby at_116) rfl ?_
                  show own_R p e below s _ _ _ T2 (mkF m 117 #[.val (.int p0), .val (.int p1), .val (.int p2), .val (.int p3), .val (.int (0 : Int32)), .val (.int c0), .val (.int c1), .val (.ref b1), .val (.int (0 : Int32))] [(.int (1 : Int32))])
                  refine own_goto X2 hx (hb hby at_117) (pc' := 121) (by decide) (by decide) ?_
                  show own_R p e below s _ _ _ T2 (mkF m 121 #[.val (.int p0), .val (.int p1), .val (.int p2), .val (.int p3), .val (.int (0 : Int32)), .val (.int c0), .val (.int c1), .val (.ref b1), .val (.int (0 : Int32))] [(.int (1 : Int32))])
                  refine own_retN X2 hx (t := .boolean) Bd.returns (by simp) hlk (hb hby at_121) ?_ (by decide) (by decide)
                  exact ⟨rfl, N2⟩
              · have hc82 : ¬ (0 : Int32) < (2 : Int32) := own_lt0 hc
                exact absurd (by decide) hc82
            · have hc70 : ¬ (0 : Int32) < (3 : Int32) := own_lt0 hc
              exact absurd (by decide) hc70
          · have hc58 : ¬ (0 : Int32) < (2 : Int32) := own_lt0 hc
            exact absurd (by decide) hc58
        · have hc46 : ¬ (0 : Int32) < (1 : Int32) := own_lt0 hc
          exact absurd (by decide) hc46
      ·
        show own_R p e below s _ _ _ s₁ (mkF m 37 #[.val (.int p0), .val (.int p1), .val (.int p2), .val (.int p3), .val (.int (1 : Int32)), .val (.int c0), .val (.int c1), .unset, .unset] [])
        have K0 := Keep.refl h0 ([] : List Addr)
        refine own_iload X0 hx (hb hby at_37) rfl ?_
        show own_R p e below s _ _ _ s₁ (mkF m 39 #[.val (.int p0), .val (.int p1), .val (.int p2), .val (.int p3), .val (.int (1 : Int32)), .val (.int c0), .val (.int c1), .unset, .unset] [(.int (1 : Int32))])
        refine own_newA X0 hx hZ (hw _ (List.mem_of_getElem? (i := 0) rfl)) e0 (hb hby at_39) (by decide) 1 (by decide) (by decide) (by decide) (by decide) (ad := "[B") (by decide) 1 ?_
        intro T3 h3 b3 k3 g3 X3 e3 E3 V3 A3
        have sz_b3 : h0.size ≤ b3 := Nat.le_trans K0.1 (Nat.le_of_eq g3.symm)
        have n0_b3 : n0 ≤ b3 := Nat.le_trans Z0 sz_b3
        have K3 := K0.ext E3
        have V_b3 : Arv Z h3 b3 k3 .byte (1 : Int32) [(.int (0 : Int32))] (.int (0 : Int32)) := V3
        show own_R p e below s _ _ _ T3 (mkF m 41 #[.val (.int p0), .val (.int p1), .val (.int p2), .val (.int p3), .val (.int (1 : Int32)), .val (.int c0), .val (.int c1), .unset, .unset] [(.ref b3)])
        refine own_astore X3 hx (hb hby at_41) rfl (l' := #[.val (.int p0), .val (.int p1), .val (.int p2), .val (.int p3), .val (.int (1 : Int32)), .val (.int c0), .val (.int c1), .val (.ref b3), .unset]) rfl ?_
        show own_R p e below s _ _ _ T3 (mkF m 43 #[.val (.int p0), .val (.int p1), .val (.int p2), .val (.int p3), .val (.int (1 : Int32)), .val (.int c0), .val (.int c1), .val (.ref b3), .unset] [])
        refine own_iload X3 hx (hb hby at_43) rfl ?_
        show own_R p e below s _ _ _ T3 (mkF m 45 #[.val (.int p0), .val (.int p1), .val (.int p2), .val (.int p3), .val (.int (1 : Int32)), .val (.int c0), .val (.int c1), .val (.ref b3), .unset] [(.int (1 : Int32))])
        refine own_iconst X3 hx (1 : Int32) (hb hby at_45) rfl ?_
        show own_R p e below s _ _ _ T3 (mkF m 46 #[.val (.int p0), .val (.int p1), .val (.int p2), .val (.int p3), .val (.int (1 : Int32)), .val (.int c0), .val (.int c1), .val (.ref b3), .unset] [(.int (1 : Int32)), (.int (1 : Int32))])
        refine own_icmp X3 hx (hb hby at_46) (pc' := 55) (by decide) (by decide) (fun hc => ?_) (fun hc => ?_)
        · have hc46 : (1 : Int32) < (1 : Int32) := own_lt1 hc
          exact absurd hc46 (by decide)
        · have hc46 : ¬ (1 : Int32) < (1 : Int32) := own_lt0 hc
          clear hc
          show own_R p e below s _ _ _ T3 (mkF m 49 #[.val (.int p0), .val (.int p1), .val (.int p2), .val (.int p3), .val (.int (1 : Int32)), .val (.int c0), .val (.int c1), .val (.ref b3), .unset] [])
          refine own_aload X3 hx (hb hby at_49) rfl rfl ?_
          show own_R p e below s _ _ _ T3 (mkF m 51 #[.val (.int p0), .val (.int p1), .val (.int p2), .val (.int p3), .val (.int (1 : Int32)), .val (.int c0), .val (.int c1), .val (.ref b3), .unset] [(.ref b3)])
          refine own_iconst X3 hx (0 : Int32) (hb hby at_51) rfl ?_
          show own_R p e below s _ _ _ T3 (mkF m 52 #[.val (.int p0), .val (.int p1), .val (.int p2), .val (.int p3), .val (.int (1 : Int32)), .val (.int c0), .val (.int c1), .val (.ref b3), .unset] [(.int (0 : Int32)), (.ref b3)])
          refine own_iload X3 hx (hb hby at_52) rfl ?_
          show own_R p e below s _ _ _ T3 (mkF m 54 #[.val (.int p0), .val (.int p1), .val (.int p2), .val (.int p3), .val (.int (1 : Int32)), .val (.int c0), .val (.int c1), .val (.ref b3), .unset] [(.int c0), (.int (0 : Int32)), (.ref b3)])
          refine own_bastore X3 hx hZ e3 V_b3 (x' := c0) (pl_nb c0 hc0) ⟨by decide, by decide⟩ 0 rfl (Nat.le_of_ble_eq_true rfl) (hb hby at_54) ?_
          intro T4 h4 X4 e4 W4 V4
          have K4 := K3.wr W4 (Or.inr sz_b3)
          have N4 := Fr.snoc X4 N0 n0_b3
          have V_b3_4 : Arv Z h4 b3 k3 .byte (1 : Int32) [(.int c0)] (.int (0 : Int32)) := V4
          show own_R p e below s _ _ _ T4 (mkF m 55 #[.val (.int p0), .val (.int p1), .val (.int p2), .val (.int p3), .val (.int (1 : Int32)), .val (.int c0), .val (.int c1), .val (.ref b3), .unset] [])
          refine own_iload X4 hx (hb hby at_55) rfl ?_
          show own_R p e below s _ _ _ T4 (mkF m 57 #[.val (.int p0), .val (.int p1), .val (.int p2), .val (.int p3), .val (.int (1 : Int32)), .val (.int c0), .val (.int c1), .val (.ref b3), .unset] [(.int (1 : Int32))])
          refine own_iconst X4 hx (2 : Int32) (hb hby at_57) rfl ?_
          show own_R p e below s _ _ _ T4 (mkF m 58 #[.val (.int p0), .val (.int p1), .val (.int p2), .val (.int p3), .val (.int (1 : Int32)), .val (.int c0), .val (.int c1), .val (.ref b3), .unset] [(.int (2 : Int32)), (.int (1 : Int32))])
          refine own_icmp X4 hx (hb hby at_58) (pc' := 67) (by decide) (by decide) (fun hc => ?_) (fun hc => ?_)
          · have hc58 : (1 : Int32) < (2 : Int32) := own_lt1 hc
            clear hc
            show own_R p e below s _ _ _ T4 (mkF m 67 #[.val (.int p0), .val (.int p1), .val (.int p2), .val (.int p3), .val (.int (1 : Int32)), .val (.int c0), .val (.int c1), .val (.ref b3), .unset] [])
            refine own_iload X4 hx (hb hby at_67) rfl ?_
            show own_R p e below s _ _ _ T4 (mkF m 69 #[.val (.int p0), .val (.int p1), .val (.int p2), .val (.int p3), .val (.int (1 : Int32)), .val (.int c0), .val (.int c1), .val (.ref b3), .unset] [(.int (1 : Int32))])
            refine own_iconst X4 hx (3 : Int32) (hb hby at_69) rfl ?_
            show own_R p e below s _ _ _ T4 (mkF m 70 #[.val (.int p0), .val (.int p1), .val (.int p2), .val (.int p3), .val (.int (1 : Int32)), .val (.int c0), .val (.int c1), .val (.ref b3), .unset] [(.int (3 : Int32)), (.int (1 : Int32))])
            refine own_icmp X4 hx (hb hby at_70) (pc' := 79) (by decide) (by decide) (fun hc => ?_) (fun hc => ?_)
            · have hc70 : (1 : Int32) < (3 : Int32) := own_lt1 hc
              clear hc
              show own_R p e below s _ _ _ T4 (mkF m 79 #[.val (.int p0), .val (.int p1), .val (.int p2), .val (.int p3), .val (.int (1 : Int32)), .val (.int c0), .val (.int c1), .val (.ref b3), .unset] [])
              refine own_iload X4 hx (hb hby at_79) rfl ?_
              show own_R p e below s _ _ _ T4 (mkF m 81 #[.val (.int p0), .val (.int p1), .val (.int p2), .val (.int p3), .val (.int (1 : Int32)), .val (.int c0), .val (.int c1), .val (.ref b3), .unset] [(.int (1 : Int32))])
              refine own_iconst X4 hx (2 : Int32) (hb hby at_81) rfl ?_
              show own_R p e below s _ _ _ T4 (mkF m 82 #[.val (.int p0), .val (.int p1), .val (.int p2), .val (.int p3), .val (.int (1 : Int32)), .val (.int c0), .val (.int c1), .val (.ref b3), .unset] [(.int (2 : Int32)), (.int (1 : Int32))])
              refine own_icmp X4 hx (hb hby at_82) (pc' := 103) (by decide) (by decide) (fun hc => ?_) (fun hc => ?_)
              · have hc82 : (1 : Int32) < (2 : Int32) := own_lt1 hc
                clear hc
                show own_R p e below s _ _ _ T4 (mkF m 103 #[.val (.int p0), .val (.int p1), .val (.int p2), .val (.int p3), .val (.int (1 : Int32)), .val (.int c0), .val (.int c1), .val (.ref b3), .unset] [])
                have hm : pl_m (1 : Int32) c0 (0 : Int32) = (0 : Int32) := pl_lo _ _ _ (by decide)
                refine own_iconst X4 hx (0 : Int32) (hb hby at_103) rfl ?_
                show own_R p e below s _ _ _ T4 (mkF m 104 #[.val (.int p0), .val (.int p1), .val (.int p2), .val (.int p3), .val (.int (1 : Int32)), .val (.int c0), .val (.int c1), .val (.ref b3), .unset] [(.int (0 : Int32))])
                refine own_istore X4 hx (hb hby at_104) (l' := #[.val (.int p0), .val (.int p1), .val (.int p2), .val (.int p3), .val (.int (1 : Int32)), .val (.int c0), .val (.int c1), .val (.ref b3), .val (.int (0 : Int32))]) rfl ?_
                show own_R p e below s _ _ _ T4 (mkF m 106 #[.val (.int p0), .val (.int p1), .val (.int p2), .val (.int p3), .val (.int (1 : Int32)), .val (.int c0), .val (.int c1), .val (.ref b3), .val (.int (0 : Int32))] [])
                refine own_aload X4 hx (hb hby at_106) rfl rfl ?_
                show own_R p e below s _ _ _ T4 (mkF m 108 #[.val (.int p0), .val (.int p1), .val (.int p2), .val (.int p3), .val (.int (1 : Int32)), .val (.int c0), .val (.int c1), .val (.ref b3), .val (.int (0 : Int32))] [(.ref b3)])
                refine own_callS X4 hx hZ (y := (⟨"com/example/structure_to_score/structuretoscore/GzipText", "isMagic", "([B)Z"⟩ : MethodName)) hown (hw _ (List.mem_of_getElem? (i := 1) rfl)) (hw _ (List.mem_of_getElem? (i := 2) rfl)) (hw _ (List.mem_of_getElem? (i := 3) rfl)) (hw _ (List.mem_of_getElem? (i := 4) rfl)) (by decide) (rm1 l Z a0 hw [] b3 k3 (1 : Int32) [(.int c0)] c0 (0 : Int32) h4 n0 (Nat.le_trans Z0 K4.1) V_b3_4 rfl rfl) 0 (by decide) (by decide) e4 (by rw [hml]; rfl) [(.ref b3)] [] rfl (lenOf pd_0 rfl) rfl (Nat.le_of_eq rfl) (hb hby at_108) (by decide) (by decide) ?_
                rintro T5 _ L5 X5 ⟨rfl, N5q, e5⟩
                have N5 := Fr.app N4 N5q
                show own_R p e below s _ _ _ T5 (mkF m 111 #[.val (.int p0), .val (.int p1), .val (.int p2), .val (.int p3), .val (.int (1 : Int32)), .val (.int c0), .val (.int c1), .val (.ref b3), .val (.int (0 : Int32))] [(.int (pl_m (1 : Int32) c0 (0 : Int32)))])
                refine own_iload X5 hx (hb hby at_111) rfl ?_
                show own_R p e below s _ _ _ T5 (mkF m 113 #[.val (.int p0), .val (.int p1), .val (.int p2), .val (.int p3), .val (.int (1 : Int32)), .val (.int c0), .val (.int c1), .val (.ref b3), .val (.int (0 : Int32))] [(.int (0 : Int32)), (.int (pl_m (1 : Int32) c0 (0 : Int32)))])
                refine own_icmp X5 hx (hb hby at_113) (pc' := 120) (by decide) (by decide) (fun hc => ?_) (fun hc => ?_)
                · have hc113 : ¬ (pl_m (1 : Int32) c0 (0 : Int32)) = (0 : Int32) := own_ne1 hc
                  exact absurd hm hc113
                · have hc113 : (pl_m (1 : Int32) c0 (0 : Int32)) = (0 : Int32) := own_ne0 hc
                  clear hc
                  show own_R p e below s _ _ _ T5 (mkF m 116 #[.val (.int p0), .val (.int p1), .val (.int p2), .val (.int p3), .val (.int (1 : Int32)), .val (.int c0), .val (.int c1), .val (.ref b3), .val (.int (0 : Int32))] [])
                  refine own_iconst X5 hx (1 : Int32) (hb hby at_116) rfl ?_
                  show own_R p e below s _ _ _ T5 (mkF m 117 #[.val (.int p0), .val (.int p1), .val (.int p2), .val (.int p3), .val (.int (1 : Int32)), .val (.int c0), .val (.int c1), .val (.ref b3), .val (.int (0 : Int32))] [(.int (1 : Int32))])
                  refine own_goto X5 hx (hb hby at_117) (pc' := 121) (by decide) (by decide) ?_
                  show own_R p e below s _ _ _ T5 (mkF m 121 #[.val (.int p0), .val (.int p1), .val (.int p2), .val (.int p3), .val (.int (1 : Int32)), .val (.int c0), .val (.int c1), .val (.ref b3), .val (.int (0 : Int32))] [(.int (1 : Int32))])
                  refine own_retN X5 hx (t := .boolean) Bd.returns (by simp) hlk (hb hby at_121) ?_ (by decide) (by decide)
                  exact ⟨rfl, N5⟩
              · have hc82 : ¬ (1 : Int32) < (2 : Int32) := own_lt0 hc
                exact absurd (by decide) hc82
            · have hc70 : ¬ (1 : Int32) < (3 : Int32) := own_lt0 hc
              exact absurd (by decide) hc70
          · have hc58 : ¬ (1 : Int32) < (2 : Int32) := own_lt0 hc
            exact absurd (by decide) hc58
      ·
        show own_R p e below s _ _ _ s₁ (mkF m 37 #[.val (.int p0), .val (.int p1), .val (.int p2), .val (.int p3), .val (.int (2 : Int32)), .val (.int c0), .val (.int c1), .unset, .unset] [])
        have K0 := Keep.refl h0 ([] : List Addr)
        refine own_iload X0 hx (hb hby at_37) rfl ?_
        show own_R p e below s _ _ _ s₁ (mkF m 39 #[.val (.int p0), .val (.int p1), .val (.int p2), .val (.int p3), .val (.int (2 : Int32)), .val (.int c0), .val (.int c1), .unset, .unset] [(.int (2 : Int32))])
        refine own_newA X0 hx hZ (hw _ (List.mem_of_getElem? (i := 0) rfl)) e0 (hb hby at_39) (by decide) 2 (by decide) (by decide) (by decide) (by decide) (ad := "[B") (by decide) 2 ?_
        intro T6 h6 b6 k6 g6 X6 e6 E6 V6 A6
        have sz_b6 : h0.size ≤ b6 := Nat.le_trans K0.1 (Nat.le_of_eq g6.symm)
        have n0_b6 : n0 ≤ b6 := Nat.le_trans Z0 sz_b6
        have K6 := K0.ext E6
        have V_b6 : Arv Z h6 b6 k6 .byte (2 : Int32) [(.int (0 : Int32)), (.int (0 : Int32))] (.int (0 : Int32)) := V6
        show own_R p e below s _ _ _ T6 (mkF m 41 #[.val (.int p0), .val (.int p1), .val (.int p2), .val (.int p3), .val (.int (2 : Int32)), .val (.int c0), .val (.int c1), .unset, .unset] [(.ref b6)])
        refine own_astore X6 hx (hb hby at_41) rfl (l' := #[.val (.int p0), .val (.int p1), .val (.int p2), .val (.int p3), .val (.int (2 : Int32)), .val (.int c0), .val (.int c1), .val (.ref b6), .unset]) rfl ?_
        show own_R p e below s _ _ _ T6 (mkF m 43 #[.val (.int p0), .val (.int p1), .val (.int p2), .val (.int p3), .val (.int (2 : Int32)), .val (.int c0), .val (.int c1), .val (.ref b6), .unset] [])
        refine own_iload X6 hx (hb hby at_43) rfl ?_
        show own_R p e below s _ _ _ T6 (mkF m 45 #[.val (.int p0), .val (.int p1), .val (.int p2), .val (.int p3), .val (.int (2 : Int32)), .val (.int c0), .val (.int c1), .val (.ref b6), .unset] [(.int (2 : Int32))])
        refine own_iconst X6 hx (1 : Int32) (hb hby at_45) rfl ?_
        show own_R p e below s _ _ _ T6 (mkF m 46 #[.val (.int p0), .val (.int p1), .val (.int p2), .val (.int p3), .val (.int (2 : Int32)), .val (.int c0), .val (.int c1), .val (.ref b6), .unset] [(.int (1 : Int32)), (.int (2 : Int32))])
        refine own_icmp X6 hx (hb hby at_46) (pc' := 55) (by decide) (by decide) (fun hc => ?_) (fun hc => ?_)
        · have hc46 : (2 : Int32) < (1 : Int32) := own_lt1 hc
          exact absurd hc46 (by decide)
        · have hc46 : ¬ (2 : Int32) < (1 : Int32) := own_lt0 hc
          clear hc
          show own_R p e below s _ _ _ T6 (mkF m 49 #[.val (.int p0), .val (.int p1), .val (.int p2), .val (.int p3), .val (.int (2 : Int32)), .val (.int c0), .val (.int c1), .val (.ref b6), .unset] [])
          refine own_aload X6 hx (hb hby at_49) rfl rfl ?_
          show own_R p e below s _ _ _ T6 (mkF m 51 #[.val (.int p0), .val (.int p1), .val (.int p2), .val (.int p3), .val (.int (2 : Int32)), .val (.int c0), .val (.int c1), .val (.ref b6), .unset] [(.ref b6)])
          refine own_iconst X6 hx (0 : Int32) (hb hby at_51) rfl ?_
          show own_R p e below s _ _ _ T6 (mkF m 52 #[.val (.int p0), .val (.int p1), .val (.int p2), .val (.int p3), .val (.int (2 : Int32)), .val (.int c0), .val (.int c1), .val (.ref b6), .unset] [(.int (0 : Int32)), (.ref b6)])
          refine own_iload X6 hx (hb hby at_52) rfl ?_
          show own_R p e below s _ _ _ T6 (mkF m 54 #[.val (.int p0), .val (.int p1), .val (.int p2), .val (.int p3), .val (.int (2 : Int32)), .val (.int c0), .val (.int c1), .val (.ref b6), .unset] [(.int c0), (.int (0 : Int32)), (.ref b6)])
          refine own_bastore X6 hx hZ e6 V_b6 (x' := c0) (pl_nb c0 hc0) ⟨by decide, by decide⟩ 0 rfl (Nat.le_of_ble_eq_true rfl) (hb hby at_54) ?_
          intro T7 h7 X7 e7 W7 V7
          have K7 := K6.wr W7 (Or.inr sz_b6)
          have N7 := Fr.snoc X7 N0 n0_b6
          have V_b6_7 : Arv Z h7 b6 k6 .byte (2 : Int32) [(.int c0), (.int (0 : Int32))] (.int (0 : Int32)) := V7
          show own_R p e below s _ _ _ T7 (mkF m 55 #[.val (.int p0), .val (.int p1), .val (.int p2), .val (.int p3), .val (.int (2 : Int32)), .val (.int c0), .val (.int c1), .val (.ref b6), .unset] [])
          refine own_iload X7 hx (hb hby at_55) rfl ?_
          show own_R p e below s _ _ _ T7 (mkF m 57 #[.val (.int p0), .val (.int p1), .val (.int p2), .val (.int p3), .val (.int (2 : Int32)), .val (.int c0), .val (.int c1), .val (.ref b6), .unset] [(.int (2 : Int32))])
          refine own_iconst X7 hx (2 : Int32) (hb hby at_57) rfl ?_
          show own_R p e below s _ _ _ T7 (mkF m 58 #[.val (.int p0), .val (.int p1), .val (.int p2), .val (.int p3), .val (.int (2 : Int32)), .val (.int c0), .val (.int c1), .val (.ref b6), .unset] [(.int (2 : Int32)), (.int (2 : Int32))])
          refine own_icmp X7 hx (hb hby at_58) (pc' := 67) (by decide) (by decide) (fun hc => ?_) (fun hc => ?_)
          · have hc58 : (2 : Int32) < (2 : Int32) := own_lt1 hc
            exact absurd hc58 (by decide)
          · have hc58 : ¬ (2 : Int32) < (2 : Int32) := own_lt0 hc
            clear hc
            show own_R p e below s _ _ _ T7 (mkF m 61 #[.val (.int p0), .val (.int p1), .val (.int p2), .val (.int p3), .val (.int (2 : Int32)), .val (.int c0), .val (.int c1), .val (.ref b6), .unset] [])
            refine own_aload X7 hx (hb hby at_61) rfl rfl ?_
            show own_R p e below s _ _ _ T7 (mkF m 63 #[.val (.int p0), .val (.int p1), .val (.int p2), .val (.int p3), .val (.int (2 : Int32)), .val (.int c0), .val (.int c1), .val (.ref b6), .unset] [(.ref b6)])
            refine own_iconst X7 hx (1 : Int32) (hb hby at_63) rfl ?_
            show own_R p e below s _ _ _ T7 (mkF m 64 #[.val (.int p0), .val (.int p1), .val (.int p2), .val (.int p3), .val (.int (2 : Int32)), .val (.int c0), .val (.int c1), .val (.ref b6), .unset] [(.int (1 : Int32)), (.ref b6)])
            refine own_iload X7 hx (hb hby at_64) rfl ?_
            show own_R p e below s _ _ _ T7 (mkF m 66 #[.val (.int p0), .val (.int p1), .val (.int p2), .val (.int p3), .val (.int (2 : Int32)), .val (.int c0), .val (.int c1), .val (.ref b6), .unset] [(.int c1), (.int (1 : Int32)), (.ref b6)])
            refine own_bastore X7 hx hZ e7 V_b6_7 (x' := c1) (pl_nb c1 hc1) ⟨by decide, by decide⟩ 1 rfl (Nat.le_of_ble_eq_true rfl) (hb hby at_66) ?_
            intro T8 h8 X8 e8 W8 V8
            have K8 := K7.wr W8 (Or.inr sz_b6)
            have N8 := Fr.snoc X8 N7 n0_b6
            have V_b6_8 : Arv Z h8 b6 k6 .byte (2 : Int32) [(.int c0), (.int c1)] (.int (0 : Int32)) := V8
            show own_R p e below s _ _ _ T8 (mkF m 67 #[.val (.int p0), .val (.int p1), .val (.int p2), .val (.int p3), .val (.int (2 : Int32)), .val (.int c0), .val (.int c1), .val (.ref b6), .unset] [])
            refine own_iload X8 hx (hb hby at_67) rfl ?_
            show own_R p e below s _ _ _ T8 (mkF m 69 #[.val (.int p0), .val (.int p1), .val (.int p2), .val (.int p3), .val (.int (2 : Int32)), .val (.int c0), .val (.int c1), .val (.ref b6), .unset] [(.int (2 : Int32))])
            refine own_iconst X8 hx (3 : Int32) (hb hby at_69) rfl ?_
            show own_R p e below s _ _ _ T8 (mkF m 70 #[.val (.int p0), .val (.int p1), .val (.int p2), .val (.int p3), .val (.int (2 : Int32)), .val (.int c0), .val (.int c1), .val (.ref b6), .unset] [(.int (3 : Int32)), (.int (2 : Int32))])
            refine own_icmp X8 hx (hb hby at_70) (pc' := 79) (by decide) (by decide) (fun hc => ?_) (fun hc => ?_)
            · have hc70 : (2 : Int32) < (3 : Int32) := own_lt1 hc
              clear hc
              show own_R p e below s _ _ _ T8 (mkF m 79 #[.val (.int p0), .val (.int p1), .val (.int p2), .val (.int p3), .val (.int (2 : Int32)), .val (.int c0), .val (.int c1), .val (.ref b6), .unset] [])
              refine own_iload X8 hx (hb hby at_79) rfl ?_
              show own_R p e below s _ _ _ T8 (mkF m 81 #[.val (.int p0), .val (.int p1), .val (.int p2), .val (.int p3), .val (.int (2 : Int32)), .val (.int c0), .val (.int c1), .val (.ref b6), .unset] [(.int (2 : Int32))])
              refine own_iconst X8 hx (2 : Int32) (hb hby at_81) rfl ?_
              show own_R p e below s _ _ _ T8 (mkF m 82 #[.val (.int p0), .val (.int p1), .val (.int p2), .val (.int p3), .val (.int (2 : Int32)), .val (.int c0), .val (.int c1), .val (.ref b6), .unset] [(.int (2 : Int32)), (.int (2 : Int32))])
              refine own_icmp X8 hx (hb hby at_82) (pc' := 103) (by decide) (by decide) (fun hc => ?_) (fun hc => ?_)
              · have hc82 : (2 : Int32) < (2 : Int32) := own_lt1 hc
                exact absurd hc82 (by decide)
              · have hc82 : ¬ (2 : Int32) < (2 : Int32) := own_lt0 hc
                clear hc
                show own_R p e below s _ _ _ T8 (mkF m 85 #[.val (.int p0), .val (.int p1), .val (.int p2), .val (.int p3), .val (.int (2 : Int32)), .val (.int c0), .val (.int c1), .val (.ref b6), .unset] [])
                refine own_iload X8 hx (hb hby at_85) rfl ?_
                show own_R p e below s _ _ _ T8 (mkF m 87 #[.val (.int p0), .val (.int p1), .val (.int p2), .val (.int p3), .val (.int (2 : Int32)), .val (.int c0), .val (.int c1), .val (.ref b6), .unset] [(.int c0)])
                refine own_bipush X8 hx (31 : Int32) (hb hby at_87) rfl ?_
                show own_R p e below s _ _ _ T8 (mkF m 89 #[.val (.int p0), .val (.int p1), .val (.int p2), .val (.int p3), .val (.int (2 : Int32)), .val (.int c0), .val (.int c1), .val (.ref b6), .unset] [(.int (31 : Int32)), (.int c0)])
                refine own_icmp X8 hx (hb hby at_89) (pc' := 103) (by decide) (by decide) (fun hc => ?_) (fun hc => ?_)
                · have hc89 : ¬ c0 = (31 : Int32) := own_ne1 hc
                  clear hc
                  show own_R p e below s _ _ _ T8 (mkF m 103 #[.val (.int p0), .val (.int p1), .val (.int p2), .val (.int p3), .val (.int (2 : Int32)), .val (.int c0), .val (.int c1), .val (.ref b6), .unset] [])
                  have hm : pl_m (2 : Int32) c0 c1 = (0 : Int32) := by rw [(pl_eq (2 : Int32) c0 c1 (by decide) hc0 hc1), if_neg hc89]
                  refine own_iconst X8 hx (0 : Int32) (hb hby at_103) rfl ?_
                  show own_R p e below s _ _ _ T8 (mkF m 104 #[.val (.int p0), .val (.int p1), .val (.int p2), .val (.int p3), .val (.int (2 : Int32)), .val (.int c0), .val (.int c1), .val (.ref b6), .unset] [(.int (0 : Int32))])
                  refine own_istore X8 hx (hb hby at_104) (l' := #[.val (.int p0), .val (.int p1), .val (.int p2), .val (.int p3), .val (.int (2 : Int32)), .val (.int c0), .val (.int c1), .val (.ref b6), .val (.int (0 : Int32))]) rfl ?_
                  show own_R p e below s _ _ _ T8 (mkF m 106 #[.val (.int p0), .val (.int p1), .val (.int p2), .val (.int p3), .val (.int (2 : Int32)), .val (.int c0), .val (.int c1), .val (.ref b6), .val (.int (0 : Int32))] [])
                  refine own_aload X8 hx (hb hby at_106) rfl rfl ?_
                  show own_R p e below s _ _ _ T8 (mkF m 108 #[.val (.int p0), .val (.int p1), .val (.int p2), .val (.int p3), .val (.int (2 : Int32)), .val (.int c0), .val (.int c1), .val (.ref b6), .val (.int (0 : Int32))] [(.ref b6)])
                  refine own_callS X8 hx hZ (y := (⟨"com/example/structure_to_score/structuretoscore/GzipText", "isMagic", "([B)Z"⟩ : MethodName)) hown (hw _ (List.mem_of_getElem? (i := 1) rfl)) (hw _ (List.mem_of_getElem? (i := 2) rfl)) (hw _ (List.mem_of_getElem? (i := 3) rfl)) (hw _ (List.mem_of_getElem? (i := 4) rfl)) (by decide) (rm1 l Z a0 hw [] b6 k6 (2 : Int32) [(.int c0), (.int c1)] c0 c1 h8 n0 (Nat.le_trans Z0 K8.1) V_b6_8 rfl rfl) 0 (by decide) (by decide) e8 (by rw [hml]; rfl) [(.ref b6)] [] rfl (lenOf pd_0 rfl) rfl (Nat.le_of_eq rfl) (hb hby at_108) (by decide) (by decide) ?_
                  rintro T9 _ L9 X9 ⟨rfl, N9q, e9⟩
                  have N9 := Fr.app N8 N9q
                  show own_R p e below s _ _ _ T9 (mkF m 111 #[.val (.int p0), .val (.int p1), .val (.int p2), .val (.int p3), .val (.int (2 : Int32)), .val (.int c0), .val (.int c1), .val (.ref b6), .val (.int (0 : Int32))] [(.int (pl_m (2 : Int32) c0 c1))])
                  refine own_iload X9 hx (hb hby at_111) rfl ?_
                  show own_R p e below s _ _ _ T9 (mkF m 113 #[.val (.int p0), .val (.int p1), .val (.int p2), .val (.int p3), .val (.int (2 : Int32)), .val (.int c0), .val (.int c1), .val (.ref b6), .val (.int (0 : Int32))] [(.int (0 : Int32)), (.int (pl_m (2 : Int32) c0 c1))])
                  refine own_icmp X9 hx (hb hby at_113) (pc' := 120) (by decide) (by decide) (fun hc => ?_) (fun hc => ?_)
                  · have hc113 : ¬ (pl_m (2 : Int32) c0 c1) = (0 : Int32) := own_ne1 hc
                    exact absurd hm hc113
                  · have hc113 : (pl_m (2 : Int32) c0 c1) = (0 : Int32) := own_ne0 hc
                    clear hc
                    show own_R p e below s _ _ _ T9 (mkF m 116 #[.val (.int p0), .val (.int p1), .val (.int p2), .val (.int p3), .val (.int (2 : Int32)), .val (.int c0), .val (.int c1), .val (.ref b6), .val (.int (0 : Int32))] [])
                    refine own_iconst X9 hx (1 : Int32) (hb hby at_116) rfl ?_
                    show own_R p e below s _ _ _ T9 (mkF m 117 #[.val (.int p0), .val (.int p1), .val (.int p2), .val (.int p3), .val (.int (2 : Int32)), .val (.int c0), .val (.int c1), .val (.ref b6), .val (.int (0 : Int32))] [(.int (1 : Int32))])
                    refine own_goto X9 hx (hb hby at_117) (pc' := 121) (by decide) (by decide) ?_
                    show own_R p e below s _ _ _ T9 (mkF m 121 #[.val (.int p0), .val (.int p1), .val (.int p2), .val (.int p3), .val (.int (2 : Int32)), .val (.int c0), .val (.int c1), .val (.ref b6), .val (.int (0 : Int32))] [(.int (1 : Int32))])
                    refine own_retN X9 hx (t := .boolean) Bd.returns (by simp) hlk (hb hby at_121) ?_ (by decide) (by decide)
                    exact ⟨rfl, N9⟩
                · have hc89 : c0 = (31 : Int32) := own_ne0 hc
                  clear hc
                  show own_R p e below s _ _ _ T8 (mkF m 92 #[.val (.int p0), .val (.int p1), .val (.int p2), .val (.int p3), .val (.int (2 : Int32)), .val (.int c0), .val (.int c1), .val (.ref b6), .unset] [])
                  refine own_iload X8 hx (hb hby at_92) rfl ?_
                  show own_R p e below s _ _ _ T8 (mkF m 94 #[.val (.int p0), .val (.int p1), .val (.int p2), .val (.int p3), .val (.int (2 : Int32)), .val (.int c0), .val (.int c1), .val (.ref b6), .unset] [(.int c1)])
                  refine own_bipush X8 hx (-117 : Int32) (hb hby at_94) rfl ?_
                  show own_R p e below s _ _ _ T8 (mkF m 96 #[.val (.int p0), .val (.int p1), .val (.int p2), .val (.int p3), .val (.int (2 : Int32)), .val (.int c0), .val (.int c1), .val (.ref b6), .unset] [(.int (-117 : Int32)), (.int c1)])
                  refine own_icmp X8 hx (hb hby at_96) (pc' := 103) (by decide) (by decide) (fun hc => ?_) (fun hc => ?_)
                  · have hc96 : ¬ c1 = (-117 : Int32) := own_ne1 hc
                    clear hc
                    show own_R p e below s _ _ _ T8 (mkF m 103 #[.val (.int p0), .val (.int p1), .val (.int p2), .val (.int p3), .val (.int (2 : Int32)), .val (.int c0), .val (.int c1), .val (.ref b6), .unset] [])
                    have hm : pl_m (2 : Int32) c0 c1 = (0 : Int32) := by rw [(pl_eq (2 : Int32) c0 c1 (by decide) hc0 hc1), if_pos hc89, if_neg hc96]
                    refine own_iconst X8 hx (0 : Int32) (hb hby at_103) rfl ?_
                    show own_R p e below s _ _ _ T8 (mkF m 104 #[.val (.int p0), .val (.int p1), .val (.int p2), .val (.int p3), .val (.int (2 : Int32)), .val (.int c0), .val (.int c1), .val (.ref b6), .unset] [(.int (0 : Int32))])
                    refine own_istore X8 hx (hb hby at_104) (l' := #[.val (.int p0), .val (.int p1), .val (.int p2), .val (.int p3), .val (.int (2 : Int32)), .val (.int c0), .val (.int c1), .val (.ref b6), .val (.int (0 : Int32))]) rfl ?_
                    show own_R p e below s _ _ _ T8 (mkF m 106 #[.val (.int p0), .val (.int p1), .val (.int p2), .val (.int p3), .val (.int (2 : Int32)), .val (.int c0), .val (.int c1), .val (.ref b6), .val (.int (0 : Int32))] [])
                    refine own_aload X8 hx (hb hby at_106) rfl rfl ?_
                    show own_R p e below s _ _ _ T8 (mkF m 108 #[.val (.int p0), .val (.int p1), .val (.int p2), .val (.int p3), .val (.int (2 : Int32)), .val (.int c0), .val (.int c1), .val (.ref b6), .val (.int (0 : Int32))] [(.ref b6)])
                    refine own_callS X8 hx hZ (y := (⟨"com/example/structure_to_score/structuretoscore/GzipText", "isMagic", "([B)Z"⟩ : MethodName)) hown (hw _ (List.mem_of_getElem? (i := 1) rfl)) (hw _ (List.mem_of_getElem? (i := 2) rfl)) (hw _ (List.mem_of_getElem? (i := 3) rfl)) (hw _ (List.mem_of_getElem? (i := 4) rfl)) (by decide) (rm1 l Z a0 hw [] b6 k6 (2 : Int32) [(.int c0), (.int c1)] c0 c1 h8 n0 (Nat.le_trans Z0 K8.1) V_b6_8 rfl rfl) 0 (by decide) (by decide) e8 (by rw [hml]; rfl) [(.ref b6)] [] rfl (lenOf pd_0 rfl) rfl (Nat.le_of_eq rfl) (hb hby at_108) (by decide) (by decide) ?_
                    rintro T10 _ L10 X10 ⟨rfl, N10q, e10⟩
                    have N10 := Fr.app N8 N10q
                    show own_R p e below s _ _ _ T10 (mkF m 111 #[.val (.int p0), .val (.int p1), .val (.int p2), .val (.int p3), .val (.int (2 : Int32)), .val (.int c0), .val (.int c1), .val (.ref b6), .val (.int (0 : Int32))] [(.int (pl_m (2 : Int32) c0 c1))])
                    refine own_iload X10 hx (hb hby at_111) rfl ?_
                    show own_R p e below s _ _ _ T10 (mkF m 113 #[.val (.int p0), .val (.int p1), .val (.int p2), .val (.int p3), .val (.int (2 : Int32)), .val (.int c0), .val (.int c1), .val (.ref b6), .val (.int (0 : Int32))] [(.int (0 : Int32)), (.int (pl_m (2 : Int32) c0 c1))])
                    refine own_icmp X10 hx (hb hby at_113) (pc' := 120) (by decide) (by decide) (fun hc => ?_) (fun hc => ?_)
                    · have hc113 : ¬ (pl_m (2 : Int32) c0 c1) = (0 : Int32) := own_ne1 hc
                      exact absurd hm hc113
                    · have hc113 : (pl_m (2 : Int32) c0 c1) = (0 : Int32) := own_ne0 hc
                      clear hc
                      show own_R p e below s _ _ _ T10 (mkF m 116 #[.val (.int p0), .val (.int p1), .val (.int p2), .val (.int p3), .val (.int (2 : Int32)), .val (.int c0), .val (.int c1), .val (.ref b6), .val (.int (0 : Int32))] [])
                      refine own_iconst X10 hx (1 : Int32) (hb hby at_116) rfl ?_
                      show own_R p e below s _ _ _ T10 (mkF m 117 #[.val (.int p0), .val (.int p1), .val (.int p2), .val (.int p3), .val (.int (2 : Int32)), .val (.int c0), .val (.int c1), .val (.ref b6), .val (.int (0 : Int32))] [(.int (1 : Int32))])
                      refine own_goto X10 hx (hb hby at_117) (pc' := 121) (by decide) (by decide) ?_
                      show own_R p e below s _ _ _ T10 (mkF m 121 #[.val (.int p0), .val (.int p1), .val (.int p2), .val (.int p3), .val (.int (2 : Int32)), .val (.int c0), .val (.int c1), .val (.ref b6), .val (.int (0 : Int32))] [(.int (1 : Int32))])
                      refine own_retN X10 hx (t := .boolean) Bd.returns (by simp) hlk (hb hby at_121) ?_ (by decide) (by decide)
                      exact ⟨rfl, N10⟩
                  · have hc96 : c1 = (-117 : Int32) := own_ne0 hc
                    clear hc
                    show own_R p e below s _ _ _ T8 (mkF m 99 #[.val (.int p0), .val (.int p1), .val (.int p2), .val (.int p3), .val (.int (2 : Int32)), .val (.int c0), .val (.int c1), .val (.ref b6), .unset] [])
                    have hm : pl_m (2 : Int32) c0 c1 = (1 : Int32) := by rw [(pl_eq (2 : Int32) c0 c1 (by decide) hc0 hc1), if_pos hc89, if_pos hc96]
                    refine own_iconst X8 hx (1 : Int32) (hb hby at_99) rfl ?_
                    show own_R p e below s _ _ _ T8 (mkF m 100 #[.val (.int p0), .val (.int p1), .val (.int p2), .val (.int p3), .val (.int (2 : Int32)), .val (.int c0), .val (.int c1), .val (.ref b6), .unset] [(.int (1 : Int32))])
                    refine own_goto X8 hx (hb hby at_100) (pc' := 104) (by decide) (by decide) ?_
                    show own_R p e below s _ _ _ T8 (mkF m 104 #[.val (.int p0), .val (.int p1), .val (.int p2), .val (.int p3), .val (.int (2 : Int32)), .val (.int c0), .val (.int c1), .val (.ref b6), .unset] [(.int (1 : Int32))])
                    refine own_istore X8 hx (hb hby at_104) (l' := #[.val (.int p0), .val (.int p1), .val (.int p2), .val (.int p3), .val (.int (2 : Int32)), .val (.int c0), .val (.int c1), .val (.ref b6), .val (.int (1 : Int32))]) rfl ?_
                    show own_R p e below s _ _ _ T8 (mkF m 106 #[.val (.int p0), .val (.int p1), .val (.int p2), .val (.int p3), .val (.int (2 : Int32)), .val (.int c0), .val (.int c1), .val (.ref b6), .val (.int (1 : Int32))] [])
                    refine own_aload X8 hx (hb hby at_106) rfl rfl ?_
                    show own_R p e below s _ _ _ T8 (mkF m 108 #[.val (.int p0), .val (.int p1), .val (.int p2), .val (.int p3), .val (.int (2 : Int32)), .val (.int c0), .val (.int c1), .val (.ref b6), .val (.int (1 : Int32))] [(.ref b6)])
                    refine own_callS X8 hx hZ (y := (⟨"com/example/structure_to_score/structuretoscore/GzipText", "isMagic", "([B)Z"⟩ : MethodName)) hown (hw _ (List.mem_of_getElem? (i := 1) rfl)) (hw _ (List.mem_of_getElem? (i := 2) rfl)) (hw _ (List.mem_of_getElem? (i := 3) rfl)) (hw _ (List.mem_of_getElem? (i := 4) rfl)) (by decide) (rm1 l Z a0 hw [] b6 k6 (2 : Int32) [(.int c0), (.int c1)] c0 c1 h8 n0 (Nat.le_trans Z0 K8.1) V_b6_8 rfl rfl) 0 (by decide) (by decide) e8 (by rw [hml]; rfl) [(.ref b6)] [] rfl (lenOf pd_0 rfl) rfl (Nat.le_of_eq rfl) (hb hby at_108) (by decide) (by decide) ?_
                    rintro T11 _ L11 X11 ⟨rfl, N11q, e11⟩
                    have N11 := Fr.app N8 N11q
                    show own_R p e below s _ _ _ T11 (mkF m 111 #[.val (.int p0), .val (.int p1), .val (.int p2), .val (.int p3), .val (.int (2 : Int32)), .val (.int c0), .val (.int c1), .val (.ref b6), .val (.int (1 : Int32))] [(.int (pl_m (2 : Int32) c0 c1))])
                    refine own_iload X11 hx (hb hby at_111) rfl ?_
                    show own_R p e below s _ _ _ T11 (mkF m 113 #[.val (.int p0), .val (.int p1), .val (.int p2), .val (.int p3), .val (.int (2 : Int32)), .val (.int c0), .val (.int c1), .val (.ref b6), .val (.int (1 : Int32))] [(.int (1 : Int32)), (.int (pl_m (2 : Int32) c0 c1))])
                    refine own_icmp X11 hx (hb hby at_113) (pc' := 120) (by decide) (by decide) (fun hc => ?_) (fun hc => ?_)
                    · have hc113 : ¬ (pl_m (2 : Int32) c0 c1) = (1 : Int32) := own_ne1 hc
                      exact absurd hm hc113
                    · have hc113 : (pl_m (2 : Int32) c0 c1) = (1 : Int32) := own_ne0 hc
                      clear hc
                      show own_R p e below s _ _ _ T11 (mkF m 116 #[.val (.int p0), .val (.int p1), .val (.int p2), .val (.int p3), .val (.int (2 : Int32)), .val (.int c0), .val (.int c1), .val (.ref b6), .val (.int (1 : Int32))] [])
                      refine own_iconst X11 hx (1 : Int32) (hb hby at_116) rfl ?_
                      show own_R p e below s _ _ _ T11 (mkF m 117 #[.val (.int p0), .val (.int p1), .val (.int p2), .val (.int p3), .val (.int (2 : Int32)), .val (.int c0), .val (.int c1), .val (.ref b6), .val (.int (1 : Int32))] [(.int (1 : Int32))])
                      refine own_goto X11 hx (hb hby at_117) (pc' := 121) (by decide) (by decide) ?_
                      show own_R p e below s _ _ _ T11 (mkF m 121 #[.val (.int p0), .val (.int p1), .val (.int p2), .val (.int p3), .val (.int (2 : Int32)), .val (.int c0), .val (.int c1), .val (.ref b6), .val (.int (1 : Int32))] [(.int (1 : Int32))])
                      refine own_retN X11 hx (t := .boolean) Bd.returns (by simp) hlk (hb hby at_121) ?_ (by decide) (by decide)
                      exact ⟨rfl, N11⟩
            · have hc70 : ¬ (2 : Int32) < (3 : Int32) := own_lt0 hc
              exact absurd (by decide) hc70
      ·
        show own_R p e below s _ _ _ s₁ (mkF m 37 #[.val (.int p0), .val (.int p1), .val (.int p2), .val (.int p3), .val (.int (3 : Int32)), .val (.int c0), .val (.int c1), .unset, .unset] [])
        have K0 := Keep.refl h0 ([] : List Addr)
        refine own_iload X0 hx (hb hby at_37) rfl ?_
        show own_R p e below s _ _ _ s₁ (mkF m 39 #[.val (.int p0), .val (.int p1), .val (.int p2), .val (.int p3), .val (.int (3 : Int32)), .val (.int c0), .val (.int c1), .unset, .unset] [(.int (3 : Int32))])
        refine own_newA X0 hx hZ (hw _ (List.mem_of_getElem? (i := 0) rfl)) e0 (hb hby at_39) (by decide) 3 (by decide) (by decide) (by decide) (by decide) (ad := "[B") (by decide) 3 ?_
        intro T12 h12 b12 k12 g12 X12 e12 E12 V12 A12
        have sz_b12 : h0.size ≤ b12 := Nat.le_trans K0.1 (Nat.le_of_eq g12.symm)
        have n0_b12 : n0 ≤ b12 := Nat.le_trans Z0 sz_b12
        have K12 := K0.ext E12
        have V_b12 : Arv Z h12 b12 k12 .byte (3 : Int32) [(.int (0 : Int32)), (.int (0 : Int32)), (.int (0 : Int32))] (.int (0 : Int32)) := V12
        show own_R p e below s _ _ _ T12 (mkF m 41 #[.val (.int p0), .val (.int p1), .val (.int p2), .val (.int p3), .val (.int (3 : Int32)), .val (.int c0), .val (.int c1), .unset, .unset] [(.ref b12)])
        refine own_astore X12 hx (hb hby at_41) rfl (l' := #[.val (.int p0), .val (.int p1), .val (.int p2), .val (.int p3), .val (.int (3 : Int32)), .val (.int c0), .val (.int c1), .val (.ref b12), .unset]) rfl ?_
        show own_R p e below s _ _ _ T12 (mkF m 43 #[.val (.int p0), .val (.int p1), .val (.int p2), .val (.int p3), .val (.int (3 : Int32)), .val (.int c0), .val (.int c1), .val (.ref b12), .unset] [])
        refine own_iload X12 hx (hb hby at_43) rfl ?_
        show own_R p e below s _ _ _ T12 (mkF m 45 #[.val (.int p0), .val (.int p1), .val (.int p2), .val (.int p3), .val (.int (3 : Int32)), .val (.int c0), .val (.int c1), .val (.ref b12), .unset] [(.int (3 : Int32))])
        refine own_iconst X12 hx (1 : Int32) (hb hby at_45) rfl ?_
        show own_R p e below s _ _ _ T12 (mkF m 46 #[.val (.int p0), .val (.int p1), .val (.int p2), .val (.int p3), .val (.int (3 : Int32)), .val (.int c0), .val (.int c1), .val (.ref b12), .unset] [(.int (1 : Int32)), (.int (3 : Int32))])
        refine own_icmp X12 hx (hb hby at_46) (pc' := 55) (by decide) (by decide) (fun hc => ?_) (fun hc => ?_)
        · have hc46 : (3 : Int32) < (1 : Int32) := own_lt1 hc
          exact absurd hc46 (by decide)
        · have hc46 : ¬ (3 : Int32) < (1 : Int32) := own_lt0 hc
          clear hc
          show own_R p e below s _ _ _ T12 (mkF m 49 #[.val (.int p0), .val (.int p1), .val (.int p2), .val (.int p3), .val (.int (3 : Int32)), .val (.int c0), .val (.int c1), .val (.ref b12), .unset] [])
          refine own_aload X12 hx (hb hby at_49) rfl rfl ?_
          show own_R p e below s _ _ _ T12 (mkF m 51 #[.val (.int p0), .val (.int p1), .val (.int p2), .val (.int p3), .val (.int (3 : Int32)), .val (.int c0), .val (.int c1), .val (.ref b12), .unset] [(.ref b12)])
          refine own_iconst X12 hx (0 : Int32) (hb hby at_51) rfl ?_
          show own_R p e below s _ _ _ T12 (mkF m 52 #[.val (.int p0), .val (.int p1), .val (.int p2), .val (.int p3), .val (.int (3 : Int32)), .val (.int c0), .val (.int c1), .val (.ref b12), .unset] [(.int (0 : Int32)), (.ref b12)])
          refine own_iload X12 hx (hb hby at_52) rfl ?_
          show own_R p e below s _ _ _ T12 (mkF m 54 #[.val (.int p0), .val (.int p1), .val (.int p2), .val (.int p3), .val (.int (3 : Int32)), .val (.int c0), .val (.int c1), .val (.ref b12), .unset] [(.int c0), (.int (0 : Int32)), (.ref b12)])
          refine own_bastore X12 hx hZ e12 V_b12 (x' := c0) (pl_nb c0 hc0) ⟨by decide, by decide⟩ 0 rfl (Nat.le_of_ble_eq_true rfl) (hb hby at_54) ?_
          intro T13 h13 X13 e13 W13 V13
          have K13 := K12.wr W13 (Or.inr sz_b12)
          have N13 := Fr.snoc X13 N0 n0_b12
          have V_b12_13 : Arv Z h13 b12 k12 .byte (3 : Int32) [(.int c0), (.int (0 : Int32)), (.int (0 : Int32))] (.int (0 : Int32)) := V13
          show own_R p e below s _ _ _ T13 (mkF m 55 #[.val (.int p0), .val (.int p1), .val (.int p2), .val (.int p3), .val (.int (3 : Int32)), .val (.int c0), .val (.int c1), .val (.ref b12), .unset] [])
          refine own_iload X13 hx (hb hby at_55) rfl ?_
          show own_R p e below s _ _ _ T13 (mkF m 57 #[.val (.int p0), .val (.int p1), .val (.int p2), .val (.int p3), .val (.int (3 : Int32)), .val (.int c0), .val (.int c1), .val (.ref b12), .unset] [(.int (3 : Int32))])
          refine own_iconst X13 hx (2 : Int32) (hb hby at_57) rfl ?_
          show own_R p e below s _ _ _ T13 (mkF m 58 #[.val (.int p0), .val (.int p1), .val (.int p2), .val (.int p3), .val (.int (3 : Int32)), .val (.int c0), .val (.int c1), .val (.ref b12), .unset] [(.int (2 : Int32)), (.int (3 : Int32))])
          refine own_icmp X13 hx (hb hby at_58) (pc' := 67) (by decide) (by decide) (fun hc => ?_) (fun hc => ?_)
          · have hc58 : (3 : Int32) < (2 : Int32) := own_lt1 hc
            exact absurd hc58 (by decide)
          · have hc58 : ¬ (3 : Int32) < (2 : Int32) := own_lt0 hc
            clear hc
            show own_R p e below s _ _ _ T13 (mkF m 61 #[.val (.int p0), .val (.int p1), .val (.int p2), .val (.int p3), .val (.int (3 : Int32)), .val (.int c0), .val (.int c1), .val (.ref b12), .unset] [])
            refine own_aload X13 hx (hb hby at_61) rfl rfl ?_
            show own_R p e below s _ _ _ T13 (mkF m 63 #[.val (.int p0), .val (.int p1), .val (.int p2), .val (.int p3), .val (.int (3 : Int32)), .val (.int c0), .val (.int c1), .val (.ref b12), .unset] [(.ref b12)])
            refine own_iconst X13 hx (1 : Int32) (hb hby at_63) rfl ?_
            show own_R p e below s _ _ _ T13 (mkF m 64 #[.val (.int p0), .val (.int p1), .val (.int p2), .val (.int p3), .val (.int (3 : Int32)), .val (.int c0), .val (.int c1), .val (.ref b12), .unset] [(.int (1 : Int32)), (.ref b12)])
            refine own_iload X13 hx (hb hby at_64) rfl ?_
            show own_R p e below s _ _ _ T13 (mkF m 66 #[.val (.int p0), .val (.int p1), .val (.int p2), .val (.int p3), .val (.int (3 : Int32)), .val (.int c0), .val (.int c1), .val (.ref b12), .unset] [(.int c1), (.int (1 : Int32)), (.ref b12)])
            refine own_bastore X13 hx hZ e13 V_b12_13 (x' := c1) (pl_nb c1 hc1) ⟨by decide, by decide⟩ 1 rfl (Nat.le_of_ble_eq_true rfl) (hb hby at_66) ?_
            intro T14 h14 X14 e14 W14 V14
            have K14 := K13.wr W14 (Or.inr sz_b12)
            have N14 := Fr.snoc X14 N13 n0_b12
            have V_b12_14 : Arv Z h14 b12 k12 .byte (3 : Int32) [(.int c0), (.int c1), (.int (0 : Int32))] (.int (0 : Int32)) := V14
            show own_R p e below s _ _ _ T14 (mkF m 67 #[.val (.int p0), .val (.int p1), .val (.int p2), .val (.int p3), .val (.int (3 : Int32)), .val (.int c0), .val (.int c1), .val (.ref b12), .unset] [])
            refine own_iload X14 hx (hb hby at_67) rfl ?_
            show own_R p e below s _ _ _ T14 (mkF m 69 #[.val (.int p0), .val (.int p1), .val (.int p2), .val (.int p3), .val (.int (3 : Int32)), .val (.int c0), .val (.int c1), .val (.ref b12), .unset] [(.int (3 : Int32))])
            refine own_iconst X14 hx (3 : Int32) (hb hby at_69) rfl ?_
            show own_R p e below s _ _ _ T14 (mkF m 70 #[.val (.int p0), .val (.int p1), .val (.int p2), .val (.int p3), .val (.int (3 : Int32)), .val (.int c0), .val (.int c1), .val (.ref b12), .unset] [(.int (3 : Int32)), (.int (3 : Int32))])
            refine own_icmp X14 hx (hb hby at_70) (pc' := 79) (by decide) (by decide) (fun hc => ?_) (fun hc => ?_)
            · have hc70 : (3 : Int32) < (3 : Int32) := own_lt1 hc
              exact absurd hc70 (by decide)
            · have hc70 : ¬ (3 : Int32) < (3 : Int32) := own_lt0 hc
              clear hc
              show own_R p e below s _ _ _ T14 (mkF m 73 #[.val (.int p0), .val (.int p1), .val (.int p2), .val (.int p3), .val (.int (3 : Int32)), .val (.int c0), .val (.int c1), .val (.ref b12), .unset] [])
              refine own_aload X14 hx (hb hby at_73) rfl rfl ?_
              show own_R p e below s _ _ _ T14 (mkF m 75 #[.val (.int p0), .val (.int p1), .val (.int p2), .val (.int p3), .val (.int (3 : Int32)), .val (.int c0), .val (.int c1), .val (.ref b12), .unset] [(.ref b12)])
              refine own_iconst X14 hx (2 : Int32) (hb hby at_75) rfl ?_
              show own_R p e below s _ _ _ T14 (mkF m 76 #[.val (.int p0), .val (.int p1), .val (.int p2), .val (.int p3), .val (.int (3 : Int32)), .val (.int c0), .val (.int c1), .val (.ref b12), .unset] [(.int (2 : Int32)), (.ref b12)])
              refine own_iloadN X14 hx (hb hby at_76) rfl ?_
              show own_R p e below s _ _ _ T14 (mkF m 77 #[.val (.int p0), .val (.int p1), .val (.int p2), .val (.int p3), .val (.int (3 : Int32)), .val (.int c0), .val (.int c1), .val (.ref b12), .unset] [(.int p3), (.int (2 : Int32)), (.ref b12)])
              refine own_i2b X14 hx (hb hby at_77) ?_
              show own_R p e below s _ _ _ T14 (mkF m 78 #[.val (.int p0), .val (.int p1), .val (.int p2), .val (.int p3), .val (.int (3 : Int32)), .val (.int c0), .val (.int c1), .val (.ref b12), .unset] [(.int (p3.toInt8.toInt32)), (.int (2 : Int32)), (.ref b12)])
              refine own_bastore X14 hx hZ e14 V_b12_14 (x' := (p3.toInt8.toInt32)) (pl_nb _ (by have := c_i2b p3; omega)) ⟨by decide, by decide⟩ 2 rfl (Nat.le_of_ble_eq_true rfl) (hb hby at_78) ?_
              intro T15 h15 X15 e15 W15 V15
              have K15 := K14.wr W15 (Or.inr sz_b12)
              have N15 := Fr.snoc X15 N14 n0_b12
              have V_b12_15 : Arv Z h15 b12 k12 .byte (3 : Int32) [(.int c0), (.int c1), (.int (p3.toInt8.toInt32))] (.int (0 : Int32)) := V15
              show own_R p e below s _ _ _ T15 (mkF m 79 #[.val (.int p0), .val (.int p1), .val (.int p2), .val (.int p3), .val (.int (3 : Int32)), .val (.int c0), .val (.int c1), .val (.ref b12), .unset] [])
              refine own_iload X15 hx (hb hby at_79) rfl ?_
              show own_R p e below s _ _ _ T15 (mkF m 81 #[.val (.int p0), .val (.int p1), .val (.int p2), .val (.int p3), .val (.int (3 : Int32)), .val (.int c0), .val (.int c1), .val (.ref b12), .unset] [(.int (3 : Int32))])
              refine own_iconst X15 hx (2 : Int32) (hb hby at_81) rfl ?_
              show own_R p e below s _ _ _ T15 (mkF m 82 #[.val (.int p0), .val (.int p1), .val (.int p2), .val (.int p3), .val (.int (3 : Int32)), .val (.int c0), .val (.int c1), .val (.ref b12), .unset] [(.int (2 : Int32)), (.int (3 : Int32))])
              refine own_icmp X15 hx (hb hby at_82) (pc' := 103) (by decide) (by decide) (fun hc => ?_) (fun hc => ?_)
              · have hc82 : (3 : Int32) < (2 : Int32) := own_lt1 hc
                exact absurd hc82 (by decide)
              · have hc82 : ¬ (3 : Int32) < (2 : Int32) := own_lt0 hc
                clear hc
                show own_R p e below s _ _ _ T15 (mkF m 85 #[.val (.int p0), .val (.int p1), .val (.int p2), .val (.int p3), .val (.int (3 : Int32)), .val (.int c0), .val (.int c1), .val (.ref b12), .unset] [])
                refine own_iload X15 hx (hb hby at_85) rfl ?_
                show own_R p e below s _ _ _ T15 (mkF m 87 #[.val (.int p0), .val (.int p1), .val (.int p2), .val (.int p3), .val (.int (3 : Int32)), .val (.int c0), .val (.int c1), .val (.ref b12), .unset] [(.int c0)])
                refine own_bipush X15 hx (31 : Int32) (hb hby at_87) rfl ?_
                show own_R p e below s _ _ _ T15 (mkF m 89 #[.val (.int p0), .val (.int p1), .val (.int p2), .val (.int p3), .val (.int (3 : Int32)), .val (.int c0), .val (.int c1), .val (.ref b12), .unset] [(.int (31 : Int32)), (.int c0)])
                refine own_icmp X15 hx (hb hby at_89) (pc' := 103) (by decide) (by decide) (fun hc => ?_) (fun hc => ?_)
                · have hc89 : ¬ c0 = (31 : Int32) := own_ne1 hc
                  clear hc
                  show own_R p e below s _ _ _ T15 (mkF m 103 #[.val (.int p0), .val (.int p1), .val (.int p2), .val (.int p3), .val (.int (3 : Int32)), .val (.int c0), .val (.int c1), .val (.ref b12), .unset] [])
                  have hm : pl_m (3 : Int32) c0 c1 = (0 : Int32) := by rw [(pl_eq (3 : Int32) c0 c1 (by decide) hc0 hc1), if_neg hc89]
                  refine own_iconst X15 hx (0 : Int32) (hb hby at_103) rfl ?_
                  show own_R p e below s _ _ _ T15 (mkF m 104 #[.val (.int p0), .val (.int p1), .val (.int p2), .val (.int p3), .val (.int (3 : Int32)), .val (.int c0), .val (.int c1), .val (.ref b12), .unset] [(.int (0 : Int32))])
                  refine own_istore X15 hx (hb hby at_104) (l' := #[.val (.int p0), .val (.int p1), .val (.int p2), .val (.int p3), .val (.int (3 : Int32)), .val (.int c0), .val (.int c1), .val (.ref b12), .val (.int (0 : Int32))]) rfl ?_
                  show own_R p e below s _ _ _ T15 (mkF m 106 #[.val (.int p0), .val (.int p1), .val (.int p2), .val (.int p3), .val (.int (3 : Int32)), .val (.int c0), .val (.int c1), .val (.ref b12), .val (.int (0 : Int32))] [])
                  refine own_aload X15 hx (hb hby at_106) rfl rfl ?_
                  show own_R p e below s _ _ _ T15 (mkF m 108 #[.val (.int p0), .val (.int p1), .val (.int p2), .val (.int p3), .val (.int (3 : Int32)), .val (.int c0), .val (.int c1), .val (.ref b12), .val (.int (0 : Int32))] [(.ref b12)])
                  refine own_callS X15 hx hZ (y := (⟨"com/example/structure_to_score/structuretoscore/GzipText", "isMagic", "([B)Z"⟩ : MethodName)) hown (hw _ (List.mem_of_getElem? (i := 1) rfl)) (hw _ (List.mem_of_getElem? (i := 2) rfl)) (hw _ (List.mem_of_getElem? (i := 3) rfl)) (hw _ (List.mem_of_getElem? (i := 4) rfl)) (by decide) (rm1 l Z a0 hw [] b12 k12 (3 : Int32) [(.int c0), (.int c1), (.int (p3.toInt8.toInt32))] c0 c1 h15 n0 (Nat.le_trans Z0 K15.1) V_b12_15 rfl rfl) 0 (by decide) (by decide) e15 (by rw [hml]; rfl) [(.ref b12)] [] rfl (lenOf pd_0 rfl) rfl (Nat.le_of_eq rfl) (hb hby at_108) (by decide) (by decide) ?_
                  rintro T16 _ L16 X16 ⟨rfl, N16q, e16⟩
                  have N16 := Fr.app N15 N16q
                  show own_R p e below s _ _ _ T16 (mkF m 111 #[.val (.int p0), .val (.int p1), .val (.int p2), .val (.int p3), .val (.int (3 : Int32)), .val (.int c0), .val (.int c1), .val (.ref b12), .val (.int (0 : Int32))] [(.int (pl_m (3 : Int32) c0 c1))])
                  refine own_iload X16 hx (hb hby at_111) rfl ?_
                  show own_R p e below s _ _ _ T16 (mkF m 113 #[.val (.int p0), .val (.int p1), .val (.int p2), .val (.int p3), .val (.int (3 : Int32)), .val (.int c0), .val (.int c1), .val (.ref b12), .val (.int (0 : Int32))] [(.int (0 : Int32)), (.int (pl_m (3 : Int32) c0 c1))])
                  refine own_icmp X16 hx (hb hby at_113) (pc' := 120) (by decide) (by decide) (fun hc => ?_) (fun hc => ?_)
                  · have hc113 : ¬ (pl_m (3 : Int32) c0 c1) = (0 : Int32) := own_ne1 hc
                    exact absurd hm hc113
                  · have hc113 : (pl_m (3 : Int32) c0 c1) = (0 : Int32) := own_ne0 hc
                    clear hc
                    show own_R p e below s _ _ _ T16 (mkF m 116 #[.val (.int p0), .val (.int p1), .val (.int p2), .val (.int p3), .val (.int (3 : Int32)), .val (.int c0), .val (.int c1), .val (.ref b12), .val (.int (0 : Int32))] [])
                    refine own_iconst X16 hx (1 : Int32) (hb hby at_116) rfl ?_
                    show own_R p e below s _ _ _ T16 (mkF m 117 #[.val (.int p0), .val (.int p1), .val (.int p2), .val (.int p3), .val (.int (3 : Int32)), .val (.int c0), .val (.int c1), .val (.ref b12), .val (.int (0 : Int32))] [(.int (1 : Int32))])
                    refine own_goto X16 hx (hb hby at_117) (pc' := 121) (by decide) (by decide) ?_
                    show own_R p e below s _ _ _ T16 (mkF m 121 #[.val (.int p0), .val (.int p1), .val (.int p2), .val (.int p3), .val (.int (3 : Int32)), .val (.int c0), .val (.int c1), .val (.ref b12), .val (.int (0 : Int32))] [(.int (1 : Int32))])
                    refine own_retN X16 hx (t := .boolean) Bd.returns (by simp) hlk (hb hby at_121) ?_ (by decide) (by decide)
                    exact ⟨rfl, N16⟩
                · have hc89 : c0 = (31 : Int32) := own_ne0 hc
                  clear hc
                  show own_R p e below s _ _ _ T15 (mkF m 92 #[.val (.int p0), .val (.int p1), .val (.int p2), .val (.int p3), .val (.int (3 : Int32)), .val (.int c0), .val (.int c1), .val (.ref b12), .unset] [])
                  refine own_iload X15 hx (hb hby at_92) rfl ?_
                  show own_R p e below s _ _ _ T15 (mkF m 94 #[.val (.int p0), .val (.int p1), .val (.int p2), .val (.int p3), .val (.int (3 : Int32)), .val (.int c0), .val (.int c1), .val (.ref b12), .unset] [(.int c1)])
                  refine own_bipush X15 hx (-117 : Int32) (hb hby at_94) rfl ?_
                  show own_R p e below s _ _ _ T15 (mkF m 96 #[.val (.int p0), .val (.int p1), .val (.int p2), .val (.int p3), .val (.int (3 : Int32)), .val (.int c0), .val (.int c1), .val (.ref b12), .unset] [(.int (-117 : Int32)), (.int c1)])
                  refine own_icmp X15 hx (hb hby at_96) (pc' := 103) (by decide) (by decide) (fun hc => ?_) (fun hc => ?_)
                  · have hc96 : ¬ c1 = (-117 : Int32) := own_ne1 hc
                    clear hc
                    show own_R p e below s _ _ _ T15 (mkF m 103 #[.val (.int p0), .val (.int p1), .val (.int p2), .val (.int p3), .val (.int (3 : Int32)), .val (.int c0), .val (.int c1), .val (.ref b12), .unset] [])
                    have hm : pl_m (3 : Int32) c0 c1 = (0 : Int32) := by rw [(pl_eq (3 : Int32) c0 c1 (by decide) hc0 hc1), if_pos hc89, if_neg hc96]
                    refine own_iconst X15 hx (0 : Int32) (hb hby at_103) rfl ?_
                    show own_R p e below s _ _ _ T15 (mkF m 104 #[.val (.int p0), .val (.int p1), .val (.int p2), .val (.int p3), .val (.int (3 : Int32)), .val (.int c0), .val (.int c1), .val (.ref b12), .unset] [(.int (0 : Int32))])
                    refine own_istore X15 hx (hb hby at_104) (l' := #[.val (.int p0), .val (.int p1), .val (.int p2), .val (.int p3), .val (.int (3 : Int32)), .val (.int c0), .val (.int c1), .val (.ref b12), .val (.int (0 : Int32))]) rfl ?_
                    show own_R p e below s _ _ _ T15 (mkF m 106 #[.val (.int p0), .val (.int p1), .val (.int p2), .val (.int p3), .val (.int (3 : Int32)), .val (.int c0), .val (.int c1), .val (.ref b12), .val (.int (0 : Int32))] [])
                    refine own_aload X15 hx (hb hby at_106) rfl rfl ?_
                    show own_R p e below s _ _ _ T15 (mkF m 108 #[.val (.int p0), .val (.int p1), .val (.int p2), .val (.int p3), .val (.int (3 : Int32)), .val (.int c0), .val (.int c1), .val (.ref b12), .val (.int (0 : Int32))] [(.ref b12)])
                    refine own_callS X15 hx hZ (y := (⟨"com/example/structure_to_score/structuretoscore/GzipText", "isMagic", "([B)Z"⟩ : MethodName)) hown (hw _ (List.mem_of_getElem? (i := 1) rfl)) (hw _ (List.mem_of_getElem? (i := 2) rfl)) (hw _ (List.mem_of_getElem? (i := 3) rfl)) (hw _ (List.mem_of_getElem? (i := 4) rfl)) (by decide) (rm1 l Z a0 hw [] b12 k12 (3 : Int32) [(.int c0), (.int c1), (.int (p3.toInt8.toInt32))] c0 c1 h15 n0 (Nat.le_trans Z0 K15.1) V_b12_15 rfl rfl) 0 (by decide) (by decide) e15 (by rw [hml]; rfl) [(.ref b12)] [] rfl (lenOf pd_0 rfl) rfl (Nat.le_of_eq rfl) (hb hby at_108) (by decide) (by decide) ?_
                    rintro T17 _ L17 X17 ⟨rfl, N17q, e17⟩
                    have N17 := Fr.app N15 N17q
                    show own_R p e below s _ _ _ T17 (mkF m 111 #[.val (.int p0), .val (.int p1), .val (.int p2), .val (.int p3), .val (.int (3 : Int32)), .val (.int c0), .val (.int c1), .val (.ref b12), .val (.int (0 : Int32))] [(.int (pl_m (3 : Int32) c0 c1))])
                    refine own_iload X17 hx (hb hby at_111) rfl ?_
                    show own_R p e below s _ _ _ T17 (mkF m 113 #[.val (.int p0), .val (.int p1), .val (.int p2), .val (.int p3), .val (.int (3 : Int32)), .val (.int c0), .val (.int c1), .val (.ref b12), .val (.int (0 : Int32))] [(.int (0 : Int32)), (.int (pl_m (3 : Int32) c0 c1))])
                    refine own_icmp X17 hx (hb hby at_113) (pc' := 120) (by decide) (by decide) (fun hc => ?_) (fun hc => ?_)
                    · have hc113 : ¬ (pl_m (3 : Int32) c0 c1) = (0 : Int32) := own_ne1 hc
                      exact absurd hm hc113
                    · have hc113 : (pl_m (3 : Int32) c0 c1) = (0 : Int32) := own_ne0 hc
                      clear hc
                      show own_R p e below s _ _ _ T17 (mkF m 116 #[.val (.int p0), .val (.int p1), .val (.int p2), .val (.int p3), .val (.int (3 : Int32)), .val (.int c0), .val (.int c1), .val (.ref b12), .val (.int (0 : Int32))] [])
                      refine own_iconst X17 hx (1 : Int32) (hb hby at_116) rfl ?_
                      show own_R p e below s _ _ _ T17 (mkF m 117 #[.val (.int p0), .val (.int p1), .val (.int p2), .val (.int p3), .val (.int (3 : Int32)), .val (.int c0), .val (.int c1), .val (.ref b12), .val (.int (0 : Int32))] [(.int (1 : Int32))])
                      refine own_goto X17 hx (hb hby at_117) (pc' := 121) (by decide) (by decide) ?_
                      show own_R p e below s _ _ _ T17 (mkF m 121 #[.val (.int p0), .val (.int p1), .val (.int p2), .val (.int p3), .val (.int (3 : Int32)), .val (.int c0), .val (.int c1), .val (.ref b12), .val (.int (0 : Int32))] [(.int (1 : Int32))])
                      refine own_retN X17 hx (t := .boolean) Bd.returns (by simp) hlk (hb hby at_121) ?_ (by decide) (by decide)
                      exact ⟨rfl, N17⟩
                  · have hc96 : c1 = (-117 : Int32) := own_ne0 hc
                    clear hc
                    show own_R p e below s _ _ _ T15 (mkF m 99 #[.val (.int p0), .val (.int p1), .val (.int p2), .val (.int p3), .val (.int (3 : Int32)), .val (.int c0), .val (.int c1), .val (.ref b12), .unset] [])
                    have hm : pl_m (3 : Int32) c0 c1 = (1 : Int32) := by rw [(pl_eq (3 : Int32) c0 c1 (by decide) hc0 hc1), if_pos hc89, if_pos hc96]
                    refine own_iconst X15 hx (1 : Int32) (hb hby at_99) rfl ?_
                    show own_R p e below s _ _ _ T15 (mkF m 100 #[.val (.int p0), .val (.int p1), .val (.int p2), .val (.int p3), .val (.int (3 : Int32)), .val (.int c0), .val (.int c1), .val (.ref b12), .unset] [(.int (1 : Int32))])
                    refine own_goto X15 hx (hb hby at_100) (pc' := 104) (by decide) (by decide) ?_
                    show own_R p e below s _ _ _ T15 (mkF m 104 #[.val (.int p0), .val (.int p1), .val (.int p2), .val (.int p3), .val (.int (3 : Int32)), .val (.int c0), .val (.int c1), .val (.ref b12), .unset] [(.int (1 : Int32))])
                    refine own_istore X15 hx (hb hby at_104) (l' := #[.val (.int p0), .val (.int p1), .val (.int p2), .val (.int p3), .val (.int (3 : Int32)), .val (.int c0), .val (.int c1), .val (.ref b12), .val (.int (1 : Int32))]) rfl ?_
                    show own_R p e below s _ _ _ T15 (mkF m 106 #[.val (.int p0), .val (.int p1), .val (.int p2), .val (.int p3), .val (.int (3 : Int32)), .val (.int c0), .val (.int c1), .val (.ref b12), .val (.int (1 : Int32))] [])
                    refine own_aload X15 hx (hb hby at_106) rfl rfl ?_
                    show own_R p e below s _ _ _ T15 (mkF m 108 #[.val (.int p0), .val (.int p1), .val (.int p2), .val (.int p3), .val (.int (3 : Int32)), .val (.int c0), .val (.int c1), .val (.ref b12), .val (.int (1 : Int32))] [(.ref b12)])
                    refine own_callS X15 hx hZ (y := (⟨"com/example/structure_to_score/structuretoscore/GzipText", "isMagic", "([B)Z"⟩ : MethodName)) hown (hw _ (List.mem_of_getElem? (i := 1) rfl)) (hw _ (List.mem_of_getElem? (i := 2) rfl)) (hw _ (List.mem_of_getElem? (i := 3) rfl)) (hw _ (List.mem_of_getElem? (i := 4) rfl)) (by decide) (rm1 l Z a0 hw [] b12 k12 (3 : Int32) [(.int c0), (.int c1), (.int (p3.toInt8.toInt32))] c0 c1 h15 n0 (Nat.le_trans Z0 K15.1) V_b12_15 rfl rfl) 0 (by decide) (by decide) e15 (by rw [hml]; rfl) [(.ref b12)] [] rfl (lenOf pd_0 rfl) rfl (Nat.le_of_eq rfl) (hb hby at_108) (by decide) (by decide) ?_
                    rintro T18 _ L18 X18 ⟨rfl, N18q, e18⟩
                    have N18 := Fr.app N15 N18q
                    show own_R p e below s _ _ _ T18 (mkF m 111 #[.val (.int p0), .val (.int p1), .val (.int p2), .val (.int p3), .val (.int (3 : Int32)), .val (.int c0), .val (.int c1), .val (.ref b12), .val (.int (1 : Int32))] [(.int (pl_m (3 : Int32) c0 c1))])
                    refine own_iload X18 hx (hb hby at_111) rfl ?_
                    show own_R p e below s _ _ _ T18 (mkF m 113 #[.val (.int p0), .val (.int p1), .val (.int p2), .val (.int p3), .val (.int (3 : Int32)), .val (.int c0), .val (.int c1), .val (.ref b12), .val (.int (1 : Int32))] [(.int (1 : Int32)), (.int (pl_m (3 : Int32) c0 c1))])
                    refine own_icmp X18 hx (hb hby at_113) (pc' := 120) (by decide) (by decide) (fun hc => ?_) (fun hc => ?_)
                    · have hc113 : ¬ (pl_m (3 : Int32) c0 c1) = (1 : Int32) := own_ne1 hc
                      exact absurd hm hc113
                    · have hc113 : (pl_m (3 : Int32) c0 c1) = (1 : Int32) := own_ne0 hc
                      clear hc
                      show own_R p e below s _ _ _ T18 (mkF m 116 #[.val (.int p0), .val (.int p1), .val (.int p2), .val (.int p3), .val (.int (3 : Int32)), .val (.int c0), .val (.int c1), .val (.ref b12), .val (.int (1 : Int32))] [])
                      refine own_iconst X18 hx (1 : Int32) (hb hby at_116) rfl ?_
                      show own_R p e below s _ _ _ T18 (mkF m 117 #[.val (.int p0), .val (.int p1), .val (.int p2), .val (.int p3), .val (.int (3 : Int32)), .val (.int c0), .val (.int c1), .val (.ref b12), .val (.int (1 : Int32))] [(.int (1 : Int32))])
                      refine own_goto X18 hx (hb hby at_117) (pc' := 121) (by decide) (by decide) ?_
                      show own_R p e below s _ _ _ T18 (mkF m 121 #[.val (.int p0), .val (.int p1), .val (.int p2), .val (.int p3), .val (.int (3 : Int32)), .val (.int c0), .val (.int c1), .val (.ref b12), .val (.int (1 : Int32))] [(.int (1 : Int32))])
                      refine own_retN X18 hx (t := .boolean) Bd.returns (by simp) hlk (hb hby at_121) ?_ (by decide) (by decide)
                      exact ⟨rfl, N18⟩
    refine own_iloadN X0 hx (hb hby at_22) rfl ?_
    show own_R p e below s _ _ _ s₁ (mkF m 23 #[.val (.int p0), .val (.int p1), .val (.int p2), .val (.int p3), .val (.int n), .val (.int c0), .unset, .unset, .unset] [(.int p0)])
    refine own_iconst X0 hx (2 : Int32) (hb hby at_23) rfl ?_
    show own_R p e below s _ _ _ s₁ (mkF m 24 #[.val (.int p0), .val (.int p1), .val (.int p2), .val (.int p3), .val (.int n), .val (.int c0), .unset, .unset, .unset] [(.int (2 : Int32)), (.int p0)])
    refine own_iand X0 hx (hb hby at_24) ?_
    show own_R p e below s _ _ _ s₁ (mkF m 25 #[.val (.int p0), .val (.int p1), .val (.int p2), .val (.int p3), .val (.int n), .val (.int c0), .unset, .unset, .unset] [(.int (p0 &&& (2 : Int32)))])
    refine own_if X0 hx (hb hby at_25) (pc' := 33) (by decide) (by decide) (fun hc => ?_) (fun hc => ?_)
    · have hc25 : (p0 &&& (2 : Int32)) = (0 : Int32) := own_eq1 hc
      clear hc
      show own_R p e below s _ _ _ s₁ (mkF m 33 #[.val (.int p0), .val (.int p1), .val (.int p2), .val (.int p3), .val (.int n), .val (.int c0), .unset, .unset, .unset] [])
      refine own_iloadN X0 hx (hb hby at_33) rfl ?_
      show own_R p e below s _ _ _ s₁ (mkF m 34 #[.val (.int p0), .val (.int p1), .val (.int p2), .val (.int p3), .val (.int n), .val (.int c0), .unset, .unset, .unset] [(.int p2)])
      refine own_i2b X0 hx (hb hby at_34) ?_
      show own_R p e below s _ _ _ s₁ (mkF m 35 #[.val (.int p0), .val (.int p1), .val (.int p2), .val (.int p3), .val (.int n), .val (.int c0), .unset, .unset, .unset] [(.int (p2.toInt8.toInt32))])
      exact J35 _ (by have := c_i2b p2; omega)
    · have hc25 : ¬ (p0 &&& (2 : Int32)) = (0 : Int32) := own_eq0 hc
      clear hc
      show own_R p e below s _ _ _ s₁ (mkF m 28 #[.val (.int p0), .val (.int p1), .val (.int p2), .val (.int p3), .val (.int n), .val (.int c0), .unset, .unset, .unset] [])
      refine own_bipush X0 hx (-117 : Int32) (hb hby at_28) rfl ?_
      show own_R p e below s _ _ _ s₁ (mkF m 30 #[.val (.int p0), .val (.int p1), .val (.int p2), .val (.int p3), .val (.int n), .val (.int c0), .unset, .unset, .unset] [(.int (-117 : Int32))])
      refine own_goto X0 hx (hb hby at_30) (pc' := 35) (by decide) (by decide) ?_
      show own_R p e below s _ _ _ s₁ (mkF m 35 #[.val (.int p0), .val (.int p1), .val (.int p2), .val (.int p3), .val (.int n), .val (.int c0), .unset, .unset, .unset] [(.int (-117 : Int32))])
      exact J35 _ (by decide)
  refine own_iloadN X0 hx (hb hby at_7) rfl ?_
  show own_R p e below s _ _ _ s₁ (mkF m 8 #[.val (.int p0), .val (.int p1), .val (.int p2), .val (.int p3), .val (.int n), .unset, .unset, .unset, .unset] [(.int p0)])
  refine own_iconst X0 hx (1 : Int32) (hb hby at_8) rfl ?_
  show own_R p e below s _ _ _ s₁ (mkF m 9 #[.val (.int p0), .val (.int p1), .val (.int p2), .val (.int p3), .val (.int n), .unset, .unset, .unset, .unset] [(.int (1 : Int32)), (.int p0)])
  refine own_iand X0 hx (hb hby at_9) ?_
  show own_R p e below s _ _ _ s₁ (mkF m 10 #[.val (.int p0), .val (.int p1), .val (.int p2), .val (.int p3), .val (.int n), .unset, .unset, .unset, .unset] [(.int (p0 &&& (1 : Int32)))])
  refine own_if X0 hx (hb hby at_10) (pc' := 18) (by decide) (by decide) (fun hc => ?_) (fun hc => ?_)
  · have hc10 : (p0 &&& (1 : Int32)) = (0 : Int32) := own_eq1 hc
    clear hc
    show own_R p e below s _ _ _ s₁ (mkF m 18 #[.val (.int p0), .val (.int p1), .val (.int p2), .val (.int p3), .val (.int n), .unset, .unset, .unset, .unset] [])
    refine own_iloadN X0 hx (hb hby at_18) rfl ?_
    show own_R p e below s _ _ _ s₁ (mkF m 19 #[.val (.int p0), .val (.int p1), .val (.int p2), .val (.int p3), .val (.int n), .unset, .unset, .unset, .unset] [(.int p1)])
    refine own_i2b X0 hx (hb hby at_19) ?_
    show own_R p e below s _ _ _ s₁ (mkF m 20 #[.val (.int p0), .val (.int p1), .val (.int p2), .val (.int p3), .val (.int n), .unset, .unset, .unset, .unset] [(.int (p1.toInt8.toInt32))])
    exact J20 _ (by have := c_i2b p1; omega)
  · have hc10 : ¬ (p0 &&& (1 : Int32)) = (0 : Int32) := own_eq0 hc
    clear hc
    show own_R p e below s _ _ _ s₁ (mkF m 13 #[.val (.int p0), .val (.int p1), .val (.int p2), .val (.int p3), .val (.int n), .unset, .unset, .unset, .unset] [])
    refine own_bipush X0 hx (31 : Int32) (hb hby at_13) rfl ?_
    show own_R p e below s _ _ _ s₁ (mkF m 15 #[.val (.int p0), .val (.int p1), .val (.int p2), .val (.int p3), .val (.int n), .unset, .unset, .unset, .unset] [(.int (31 : Int32))])
    refine own_goto X0 hx (hb hby at_15) (pc' := 20) (by decide) (by decide) ?_
    show own_R p e below s _ _ _ s₁ (mkF m 20 #[.val (.int p0), .val (.int p1), .val (.int p2), .val (.int p3), .val (.int n), .unset, .unset, .unset, .unset] [(.int (31 : Int32))])
    exact J20 _ (by decide)
set_option maxRecDepth 65536 in
set_option maxHeartbeats 40000000 in
theorem comes_1 {Post : Tables → Env → Array Value → State → Outcome → State → Prop} (hpost : ∀ tb e args s v u, (limb_1_1.after args s (.returned v) u = true ∧ limb_1_2.after args s (.returned v) u = true) → FrameEnd s (.returned v) u (Jvm.fieldLocs frame_1_writes args s ++ Jvm.arrayLocs frame_1_arrays args s ++ Jvm.staticLocs frame_1_statics s) 16 128 → Post tb e args s (.returned v) u) :
    ArmFor flags0 classFile x code maxLocals ret World_1 tables_1 room_1 Calls_1 rest_1 Pre_1 Post := by
  intro l hfl _ _ p e ha hc hk s m args below hf hA hF happ hP
  obtain ⟨hcalls, hrest, hpre⟩ := hP
  obtain ⟨-, -, -, hnamed, -, -, -, hat⟩ := (Spec.applies_iff hf).mp happ
  obtain ⟨hg, hn⟩ := and_e (Cond.before_iff.mp (show (Jvm.Cond.and given_1 narrow_1).before args s = true from hpre))
  obtain ⟨g1, g2⟩ := and_e hg
  obtain ⟨g3, g4⟩ := and_e g2
  obtain ⟨g5, g6⟩ := and_e g4
  obtain ⟨g7, g8⟩ := and_e g6
  obtain ⟨w0, w1, w2, w3, rfl⟩ : ∃ w0 w1 w2 w3 : Value, args = #[w0, w1, w2, w3] := by
    have hs : args.size = 4 := by simpa [Cond.value, given_1] using g1
    obtain ⟨L⟩ := args
    match L, hs with
    | [w0, w1, w2, w3], _ => exact ⟨w0, w1, w2, w3, rfl⟩
  have hw := fun d (hd : d ∈ tables_1) => atoms_spec (ws := Jvm.Cond.code x code maxLocals ret :: tables_1) hat d (List.mem_cons_of_mem _ hd)
  obtain ⟨i0, ei0⟩ := is_v g3
  obtain rfl : w0 = (.int i0) := Option.some.inj ei0
  obtain ⟨i1, ei1⟩ := is_v g5
  obtain rfl : w1 = (.int i1) := Option.some.inj ei1
  obtain ⟨i2, ei2⟩ := is_v g7
  obtain rfl : w2 = (.int i2) := Option.some.inj ei2
  obtain ⟨i3, ei3⟩ := is_v g8
  obtain rfl : w3 = (.int i3) := Option.some.inj ei3
  obtain ⟨n, o, h1, h2, h3, _, L, rfl, ⟨rfl, N⟩, hq⟩ := rm0 l s _ hw tables_1 i0 i1 i2 i3 s.heap s.heap.size (Nat.le_refl _) p e ha hc hk s m _ below hf ((Spec.applies_iff_loose hf).mp happ).1 ⟨rfl, State.Warmed39.refl s, rfl⟩ trivial
  refine ⟨n, _, h1, h2, h3, hpost _ _ _ _ _ _ ⟨Cond.after_iff.mpr rfl, Cond.after_iff.mpr (eq_i res_at (Term.int_eval (1)) rfl)⟩ ⟨hq.1, hq.2.1, (hq.2.2.sift fun y hy => Or.inr (N y hy)).mono (by decide) (by decide)⟩⟩
theorem main_1_1 : Claimed_1_1 := comes_1 fun _ _ _ _ _ _ h hF => ⟨h.1, hF⟩
theorem main_1_2 : Claimed_1_2 := comes_1 fun _ _ _ _ _ _ h hF => ⟨h.2, hF⟩
end Jvm.Pilot.@@N@@
namespace Jvm.Pilot.@@N@@
open Jvm Jvm.ClassFile Sem Op Lib Jvm.Free Jvm.Stand Jvm.Pilot.@@N@@.Jvm.D
/-! MADE BY PROGRAM (witnessworld.py) out of the Statement's table words and the real class files: 12 classes; the members and pool entries that the words name. The judged class is class 1, her method 1. -/
namespace start1
open Jvm.ClassFile
def u (s : String) : CpInfo := .utf8 (stringToUtf16 s)
/-- a pool by its gaps: so many unusable entries, then the entry; so many at the end -/
def gap : Nat → List CpInfo → List CpInfo
  | 0, r => r
  | n + 1, r => .unusable :: gap n r
def poolList (es : List (Nat × CpInfo)) (last : Nat) : List CpInfo := es.foldr (fun e r => gap e.1 (e.2 :: r)) (gap last [])
def pool (es : List (Nat × CpInfo)) (last : Nat) : Array CpInfo := ⟨poolList es last⟩
def fileOf (pool : Array CpInfo) (this : Nat) (attrs : Array Attribute := #[]) (ms : Array MethodInfo := #[]) (fl : Nat := 33) (sup : Nat := 0) (ifs : Array Nat := #[]) (fds : Array FieldInfo := #[]) : ClassFile where
  minorVersion := 0
  majorVersion := 65
  constantPool := pool
  accessFlags := fl
  thisClass := this
  superClass := sup
  interfaces := ifs
  fields := fds
  methods := ms
  attributes := attrs
def plain (name : String) (sup : Option ClassId) : Class where
  name := name
  kind := .ordinary
  loader := none
  accessFlags := 33
  super := sup
  interfaces := #[]
  cf := none
  fields := #[]
  methods := #[]
  instanceTypes := #[]
  staticTypes := #[]
  resolved := #[]
  callSites := []
  init := .initialized
  statics := none
  mirror := none

def pool0 : Array CpInfo := pool [(5, u "<init>"), (0, u "()V"), (1, .class_ 10), (1, u "java/lang/Object")] 113

def k0m0 : Method := { name := "<init>", desc := "()V", sig := { parameters := [], returnType := none }, accessFlags := 1, code := none }
/-- java/lang/Object -/
def k0 : Class := { plain "java/lang/Object" none with
  accessFlags := 33
  interfaces := #[]
  cf := some (fileOf pool0 8 #[] #[{ accessFlags := 1, nameIndex := 5, descriptorIndex := 6, attributes := #[] }] 33 0 #[] #[])
  fields := #[]
  methods := #[k0m0]
  instanceTypes := #[]
  staticTypes := #[]
  resolved := Array.replicate 124 none
  statics := none }

def pool1 : Array CpInfo := pool [(2, .class_ 4), (1, u "java/lang/Object"), (0, u "<init>"), (0, u "()V"), (0, .methodref 8 9), (0, .class_ 10), (0, .nameAndType 11 12), (0, u "com/example/structure_to_score/structuretoscore/GzipText"), (0, u "isMagic"), (0, u "([B)Z"), (0, .class_ 14), (0, u "com/example/structure_to_score/structuretoscore/GzipTextIsMagicPinLaw"), (2, u "law"), (0, u "(IIII)Z")] 5

def k1m0 : Method := { name := "<init>", desc := "()V", sig := { parameters := [], returnType := none }, accessFlags := 1, code := none }
def k1c1 : Code := { maxStack := 3, maxLocals := 9, code := code, exceptionTable := #[], attributes := #[] }
def k1m1 : Method := { name := "law", desc := "(IIII)Z", sig := { parameters := [.int, .int, .int, .int], returnType := some .boolean }, accessFlags := 9, code := some k1c1 }
/-- com/example/structure_to_score/structuretoscore/GzipTextIsMagicPinLaw -/
def k1 : Class := { plain "com/example/structure_to_score/structuretoscore/GzipTextIsMagicPinLaw" (some 0) with
  accessFlags := 49
  interfaces := #[]
  cf := some (fileOf pool1 13 #[] #[{ accessFlags := 1, nameIndex := 5, descriptorIndex := 6, attributes := #[] }, { accessFlags := 9, nameIndex := 17, descriptorIndex := 18, attributes := #[] }] 49 2 #[] #[])
  fields := #[]
  methods := #[k1m0, k1m1]
  instanceTypes := #[]
  staticTypes := #[]
  resolved := Array.replicate 24 none
  statics := none }

def pool2 : Array CpInfo := pool [(1, .class_ 2), (0, u "java/lang/AutoCloseable"), (0, .class_ 4), (0, u "java/lang/Object")] 7

/-- java/lang/AutoCloseable -/
def k2 : Class := { plain "java/lang/AutoCloseable" (some 0) with
  accessFlags := 1537
  interfaces := #[]
  cf := some (fileOf pool2 1 #[] #[] 1537 3 #[] #[])
  fields := #[]
  methods := #[]
  instanceTypes := #[]
  staticTypes := #[]
  resolved := Array.replicate 12 none
  statics := none }

def pool3 : Array CpInfo := pool [(1, .class_ 2), (0, u "java/io/Closeable"), (0, .class_ 4), (0, u "java/lang/Object"), (0, .class_ 6), (0, u "java/lang/AutoCloseable")] 7

/-- java/io/Closeable -/
def k3 : Class := { plain "java/io/Closeable" (some 0) with
  accessFlags := 1537
  interfaces := #[2]
  cf := some (fileOf pool3 1 #[] #[] 1537 3 #[5] #[])
  fields := #[]
  methods := #[]
  instanceTypes := #[]
  staticTypes := #[]
  resolved := Array.replicate 14 none
  statics := none }

def pool4 : Array CpInfo := pool [(4, .class_ 6), (1, u "java/lang/Object"), (0, u "<init>"), (0, u "()V"), (0, .class_ 10), (0, u "java/io/InputStream$1"), (2, .class_ 15), (1, u "java/io/InputStream"), (116, .class_ 133), (0, u "java/io/Closeable"), (0, u "MAX_SKIP_BUFFER_SIZE"), (0, u "I"), (2, u "DEFAULT_BUFFER_SIZE"), (1, u "MAX_BUFFER_SIZE")] 54

def k4m0 : Method := { name := "<init>", desc := "()V", sig := { parameters := [], returnType := none }, accessFlags := 1, code := none }
/-- java/io/InputStream -/
def k4 : Class := { plain "java/io/InputStream" (some 0) with
  accessFlags := 1057
  interfaces := #[3]
  cf := some (fileOf pool4 13 #[.nestMembers #[9]] #[{ accessFlags := 1, nameIndex := 7, descriptorIndex := 8, attributes := #[] }] 1057 4 #[132] #[{ accessFlags := 26, nameIndex := 134, descriptorIndex := 135, attributes := #[] }, { accessFlags := 26, nameIndex := 138, descriptorIndex := 135, attributes := #[] }, { accessFlags := 26, nameIndex := 140, descriptorIndex := 135, attributes := #[] }])
  fields := #[{ name := "MAX_SKIP_BUFFER_SIZE", type := .int, accessFlags := 26, slot := 0, constantValue := 0 }, { name := "DEFAULT_BUFFER_SIZE", type := .int, accessFlags := 26, slot := 1, constantValue := 0 }, { name := "MAX_BUFFER_SIZE", type := .int, accessFlags := 26, slot := 2, constantValue := 0 }]
  methods := #[k4m0]
  instanceTypes := #[]
  staticTypes := #[.int, .int, .int]
  resolved := Array.replicate 195 none
  statics := none }

def pool5 : Array CpInfo := pool [(2, .class_ 4), (1, u "java/io/InputStream"), (2, .class_ 8), (0, u "com/example/structure_to_score/structuretoscore/GzipText"), (3, u "input"), (0, u "[B"), (7, u "inflater"), (0, u "Ljava/util/zip/Inflater;"), (5, u "crc"), (0, u "Ljava/util/zip/CRC32;"), (2, u "in"), (0, u "Ljava/io/InputStream;"), (8, u "ended"), (0, u "Z"), (2, u "inMember"), (75, u "limit"), (0, u "I"), (5, u "position"), (56, u "MAGIC_BYTES"), (2, u "ID1"), (1, u "ID2"), (1, u "DEFLATE"), (1, u "FHCRC"), (0, u "FEXTRA"), (1, u "FNAME"), (0, u "FCOMMENT"), (1, u "RESERVED"), (1, u "UNREAD_FIELDS"), (1, u "INPUT_BYTES"), (3, u "isMagic"), (0, u "([B)Z")] 24

def k5c0 : Code := { maxStack := 2, maxLocals := 1, code := prog_3_method_2_code, exceptionTable := #[], attributes := #[] }
def k5m0 : Method := { name := "isMagic", desc := "([B)Z", sig := { parameters := [(.array .byte)], returnType := some .boolean }, accessFlags := 8, code := some k5c0 }
/-- com/example/structure_to_score/structuretoscore/GzipText -/
def k5 : Class := { plain "com/example/structure_to_score/structuretoscore/GzipText" (some 4) with
  accessFlags := 48
  interfaces := #[]
  cf := some (fileOf pool5 7 #[] #[{ accessFlags := 8, nameIndex := 209, descriptorIndex := 210, attributes := #[] }] 48 2 #[] #[{ accessFlags := 24, nameIndex := 186, descriptorIndex := 123, attributes := #[] }, { accessFlags := 26, nameIndex := 189, descriptorIndex := 123, attributes := #[] }, { accessFlags := 26, nameIndex := 191, descriptorIndex := 123, attributes := #[] }, { accessFlags := 26, nameIndex := 193, descriptorIndex := 123, attributes := #[] }, { accessFlags := 26, nameIndex := 195, descriptorIndex := 123, attributes := #[] }, { accessFlags := 26, nameIndex := 196, descriptorIndex := 123, attributes := #[] }, { accessFlags := 26, nameIndex := 198, descriptorIndex := 123, attributes := #[] }, { accessFlags := 26, nameIndex := 199, descriptorIndex := 123, attributes := #[] }, { accessFlags := 26, nameIndex := 201, descriptorIndex := 123, attributes := #[] }, { accessFlags := 26, nameIndex := 203, descriptorIndex := 123, attributes := #[] }, { accessFlags := 26, nameIndex := 205, descriptorIndex := 123, attributes := #[] }, { accessFlags := 18, nameIndex := 32, descriptorIndex := 33, attributes := #[] }, { accessFlags := 18, nameIndex := 12, descriptorIndex := 13, attributes := #[] }, { accessFlags := 2, nameIndex := 129, descriptorIndex := 123, attributes := #[] }, { accessFlags := 2, nameIndex := 122, descriptorIndex := 123, attributes := #[] }, { accessFlags := 18, nameIndex := 21, descriptorIndex := 22, attributes := #[] }, { accessFlags := 18, nameIndex := 28, descriptorIndex := 29, attributes := #[] }, { accessFlags := 2, nameIndex := 46, descriptorIndex := 43, attributes := #[] }, { accessFlags := 2, nameIndex := 42, descriptorIndex := 43, attributes := #[] }])
  fields := #[{ name := "MAGIC_BYTES", type := .int, accessFlags := 24, slot := 0, constantValue := 0 }, { name := "ID1", type := .int, accessFlags := 26, slot := 1, constantValue := 0 }, { name := "ID2", type := .int, accessFlags := 26, slot := 2, constantValue := 0 }, { name := "DEFLATE", type := .int, accessFlags := 26, slot := 3, constantValue := 0 }, { name := "FHCRC", type := .int, accessFlags := 26, slot := 4, constantValue := 0 }, { name := "FEXTRA", type := .int, accessFlags := 26, slot := 5, constantValue := 0 }, { name := "FNAME", type := .int, accessFlags := 26, slot := 6, constantValue := 0 }, { name := "FCOMMENT", type := .int, accessFlags := 26, slot := 7, constantValue := 0 }, { name := "RESERVED", type := .int, accessFlags := 26, slot := 8, constantValue := 0 }, { name := "UNREAD_FIELDS", type := .int, accessFlags := 26, slot := 9, constantValue := 0 }, { name := "INPUT_BYTES", type := .int, accessFlags := 26, slot := 10, constantValue := 0 }, { name := "in", type := (.object "java/io/InputStream"), accessFlags := 18, slot := 0, constantValue := 0 }, { name := "input", type := (.array .byte), accessFlags := 18, slot := 1, constantValue := 0 }, { name := "position", type := .int, accessFlags := 2, slot := 2, constantValue := 0 }, { name := "limit", type := .int, accessFlags := 2, slot := 3, constantValue := 0 }, { name := "inflater", type := (.object "java/util/zip/Inflater"), accessFlags := 18, slot := 4, constantValue := 0 }, { name := "crc", type := (.object "java/util/zip/CRC32"), accessFlags := 18, slot := 5, constantValue := 0 }, { name := "inMember", type := .boolean, accessFlags := 2, slot := 6, constantValue := 0 }, { name := "ended", type := .boolean, accessFlags := 2, slot := 7, constantValue := 0 }]
  methods := #[k5m0]
  instanceTypes := #[(.object "java/io/InputStream"), (.array .byte), .int, .int, (.object "java/util/zip/Inflater"), (.object "java/util/zip/CRC32"), .boolean, .boolean]
  staticTypes := #[.int, .int, .int, .int, .int, .int, .int, .int, .int, .int, .int]
  resolved := Array.replicate 235 none
  statics := none }

def pool6 : Array CpInfo := pool [(1, u "java/lang/Cloneable"), (0, .class_ 1), (0, u "java/lang/Object"), (0, .class_ 3)] 3

/-- java/lang/Cloneable -/
def k6 : Class := { plain "java/lang/Cloneable" (some 0) with
  accessFlags := 1537
  interfaces := #[]
  cf := some (fileOf pool6 2 #[] #[] 1537 4 #[] #[])
  fields := #[]
  methods := #[]
  instanceTypes := #[]
  staticTypes := #[]
  resolved := Array.replicate 8 none
  statics := none }

def pool7 : Array CpInfo := pool [(1, u "java/io/Serializable"), (0, .class_ 1), (0, u "java/lang/Object"), (0, .class_ 3)] 3

/-- java/io/Serializable -/
def k7 : Class := { plain "java/io/Serializable" (some 0) with
  accessFlags := 1537
  interfaces := #[]
  cf := some (fileOf pool7 2 #[] #[] 1537 4 #[] #[])
  fields := #[]
  methods := #[]
  instanceTypes := #[]
  staticTypes := #[]
  resolved := Array.replicate 8 none
  statics := none }

/-- the primitive byte -/
def k8 : Class := { plain "byte" none with kind := .primitive 'B', accessFlags := 0x411 }
/-- [B -/
def k9 : Class := { plain "[B" (some 0) with kind := .array 8 .byte, interfaces := #[6, 7], accessFlags := 1041 }

/-- the primitive int -/
def k10 : Class := { plain "int" none with kind := .primitive 'I', accessFlags := 0x411 }
/-- [I -/
def k11 : Class := { plain "[I" (some 0) with kind := .array 10 .int, interfaces := #[6, 7], accessFlags := 1041 }

def heap : Heap := #[]
def classes : Array Class := #[k0, k1, k2, k3, k4, k5, k6, k7, k8, k9, k10, k11]
def interned : List (Array UInt16 × Addr) := []
def slotsUsed : Nat := 0
def theMethod : MethodId := ⟨1, 1⟩
def args0 : Array Value := #[.int 5, .int 7, .int 1, .int 2]
def aboutOver (below : List Frame) : State where
  vm := { classes := classes, interned := interned.toArray }
  heap := heap
  slotsUsed := slotsUsed
  threads := #[{ frames := .invoking theMethod args0 :: below }]
def below0 : List Frame := [.native { method := ⟨0, 0⟩, args := #[] }]
def about1 : State := aboutOver below0
def p0 : Program := .bare "" "" ""
def e0 : Env := launch0.env 0 0 0
theorem w_frames : about1.frames = Frame.invoking theMethod args0 :: below0 := rfl
set_option maxRecDepth 65536 in
theorem w_args : argsFit about1.vm theMethod args0 = true := by decide +kernel
set_option maxRecDepth 65536 in
theorem w_heap : heapFits about1 = true := by decide +kernel
set_option maxRecDepth 65536 in
theorem w_runnable : about1.curStatus? = some .runnable := by decide +kernel
set_option maxRecDepth 65536 in
theorem w_alone : about1.alone = true := by decide +kernel
set_option maxRecDepth 65536 in
theorem w_named : about1.methodNamed? x = some theMethod := by decide +kernel
set_option maxRecDepth 65536 in
theorem w_hears : about1.hears theMethod below0 = true := by decide +kernel
set_option maxRecDepth 65536 in
theorem w_ripe : about1.ripe theMethod args0 below0 = true := by decide +kernel
theorem w_running : about1.status = .running := rfl
set_option maxRecDepth 65536 in
theorem w_room : about1.hasRoom e0.platform room_1 = true :=
  launch0.hasRoom_least _ room_1 (by decide +kernel) (by decide +kernel) (by decide +kernel) (by decide +kernel) (by decide +kernel) (by decide +kernel)
theorem allAtoms_all (ts : List Jvm.Cond) (a : Array Jvm.Value) (st : Jvm.State) : (allAtoms ts).before a st = ts.all (fun c => c.before a st) := by
  induction ts with
  | nil => rfl
  | cons c t ih =>
    show (Jvm.Cond.and c (allAtoms t)).before a st = _
    rw [Jvm.Cond.before_and, ih, List.all_cons]
def words1 : List Jvm.Cond := Jvm.Cond.code x code maxLocals ret :: tables_1
/-- a 'code' word, met by the world's own term for the bytes: nothing is compared byte by byte -/
theorem code_word {y : MethodName} {bytes : ByteArray} {mx : Nat} {rt : Option FieldType} {a : Array Value} {s : State} {m : MethodId} {meth : Method} {c : Code} (h1 : s.methodNamed? y = some m) (h2 : s.vm.method? m = some meth) (h3 : meth.code = some c) (h4 : c.code = bytes)
    (h5 : (c.maxLocals == mx && c.exceptionTable.isEmpty && decide (c.maxStack ≤ mostOperands) && decide (meth.sig.returnType = rt) && !meth.locks && decide (parseMethodDescriptor y.desc = some meth.sig)) = true) : (Jvm.Cond.code y bytes mx rt).before a s = true := by
  simp only [Bool.and_eq_true, beq_iff_eq, Bool.not_eq_true', decide_eq_true_eq] at h5
  obtain ⟨⟨⟨⟨⟨g1, g2⟩, g3⟩, g4⟩, g5⟩, g6⟩ := h5
  simp [Cond.before, Cond.holds, Cond.value, h1, h2, h3, h4, g1, g2, g3, g4, g5, g6]
def isCode : Jvm.Cond → Bool
  | .code _ _ _ _ => true
  | _ => false
theorem all_split {L : List Jvm.Cond} {P : Jvm.Cond → Bool} (h1 : L.all (fun c => isCode c || P c) = true) (h2 : ∀ c ∈ L.filter isCode, P c = true) : L.all P = true := by
  refine List.all_eq_true.mpr fun c hc => ?_
  have h := List.all_eq_true.mp h1 c hc
  rcases Bool.eq_false_or_eq_true (isCode c) with hi | hi
  · exact h2 c (List.mem_filter.mpr ⟨hc, hi⟩)
  · simpa [hi] using h
set_option maxRecDepth 65536 in
theorem w_c0 : (Jvm.Cond.code x code maxLocals ret).before args0 about1 = true := code_word (m := ⟨1, 1⟩) (meth := k1m1) (c := k1c1) (by decide +kernel) rfl rfl rfl (by decide +kernel)
set_option maxRecDepth 65536 in
theorem w_c1 : (Jvm.Cond.code ({ cls := "com/example/structure_to_score/structuretoscore/GzipText", name := "isMagic", desc := "([B)Z" } : Jvm.MethodName) prog_3_method_2_code (1 : Nat) (Option.some Jvm.ClassFile.FieldType.boolean)).before args0 about1 = true := code_word (m := ⟨5, 0⟩) (meth := k5m0) (c := k5c0) (by decide +kernel) rfl rfl rfl (by decide +kernel)
def codes1 : List Jvm.Cond := [Jvm.Cond.code x code maxLocals ret, Jvm.Cond.code ({ cls := "com/example/structure_to_score/structuretoscore/GzipText", name := "isMagic", desc := "([B)Z" } : Jvm.MethodName) prog_3_method_2_code (1 : Nat) (Option.some Jvm.ClassFile.FieldType.boolean)]
set_option maxRecDepth 65536 in
theorem codes_eq : words1.filter isCode = codes1 := rfl
theorem w_codes : ∀ c ∈ words1.filter isCode, c.before args0 about1 = true := by
  rw [codes_eq]
  intro c hc
  simp only [codes1, List.mem_cons, List.not_mem_nil, or_false] at hc
  rcases hc with rfl | rfl
  · exact w_c0
  · exact w_c1
set_option maxRecDepth 65536 in
theorem w_t1 : words1.all (fun c => isCode c || c.before args0 about1) = true := by decide +kernel
theorem w_tables : (allAtoms (Jvm.Cond.code x code maxLocals ret :: tables_1)).before args0 about1 = true := by
  rw [allAtoms_all]
  show words1.all (fun c => c.before args0 about1) = true
  refine all_split ?_ w_codes
  rw [w_t1]
set_option maxRecDepth 65536 in
theorem w_case : (Jvm.Cond.and given_1 narrow_1).before args0 about1 = true := by decide +kernel
theorem w_applies : (headSpec (Jvm.Cond.code x code maxLocals ret :: tables_1) room_1).applies x e0.platform about1 = true :=
  (Spec.applies_iff w_frames).mpr ⟨w_running, w_runnable, w_alone, w_named, w_hears, w_ripe, w_room, w_tables⟩
theorem atStart : AtStart classFile x code maxLocals ret World_1 tables_1 room_1 Calls_1 rest_1 Pre_1 launch0 p0 e0 about1 theMethod args0 below0 :=
  ⟨lists_1, trivial, launch0.admits_env _ _ _, launch0.least_env, fairChoices_fair.cas, fairChoices_fair.clock, w_frames, w_args, w_heap, w_applies, trivial, trivial, w_case⟩
end start1
theorem witness_1 : WitnessClaimed_1 := ⟨start1.p0, start1.e0, start1.about1, start1.theMethod, start1.args0, start1.below0, start1.atStart⟩
end Jvm.Pilot.@@N@@
