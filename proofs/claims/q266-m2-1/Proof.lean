import JvmDerived
import JvmDerived.Pilot.@@N@@Statement
import JvmDerived.Pilot.@@N@@Code
set_option linter.unusedVariables false
set_option linter.unusedSimpArgs false
namespace Jvm.Pilot.@@N@@
open Jvm Jvm.ClassFile Sem Op Lib Jvm.Free Jvm.Stand Jvm.LawKit Jvm.RoadKit Bundle Jvm.Pilot.@@N@@.Jvm.D
section OwnKit
variable {p : Program} {l : Launch} {e : Env} {R : Room} {s : State} {m : MethodId} {args : Array Value} {below : List Frame} {meth : Method} {c : Code} {T : State} {locs : List Loc} {cells slots : Nat} {Z : State} {a0 : Array Value} {h : Heap} {Q : Option Value → Heap → List Loc → Prop} {ck sk : Nat}
/-- from the state T with the frame g on top the run comes to a return that answers Q -/
def own_R (p : Program) (e : Env) (below : List Frame) (s : State) (Q : Option Value → Heap → List Loc → Prop) (ck sk : Nat) (T : State) (g : JFrame) : Prop :=
  ∃ (t : State) (o : Outcome), Steps p.tables e below (T.setTop g) t ∧ t.status = .running ∧ Ended t below o ∧ ∃ v L, o = .returned v ∧ Q v t.heap L ∧ FrameEnd s o t L ck sk
theorem own_lift {T' : State} {g g' : JFrame} (h : ∀ target, Steps p.tables e below (T'.setTop g') target → Steps p.tables e below (T.setTop g) target) (k : own_R p e below s Q ck sk T' g') : own_R p e below s Q ck sk T g := by
  obtain ⟨t, o, h1, h2⟩ := k
  exact ⟨t, o, h _ h1, h2⟩
theorem own_cast {g g' : JFrame} (q : g = g') (k : own_R p e below s Q ck sk T g') : own_R p e below s Q ck sk T g := q ▸ k
theorem own_iadd (X : Stand p l e R s m args below meth c T locs cells slots) (hx : p.tables.exec = Jvm.exec) {pc : Nat} {Ls : Array Slot} {St : List Value} {x y : Int32} (hd : decode c.code pc = .ok (.iadd, 1)) (k : own_R p e below s Q ck sk T (mkF m (pc + 1) Ls (.int (x + y) :: St))) : own_R p e below s Q ck sk T (mkF m pc Ls (.int y :: .int x :: St)) :=
  own_lift (fun _ q => XS.iadd X.here hx rfl hd rfl q) k
theorem own_isub (X : Stand p l e R s m args below meth c T locs cells slots) (hx : p.tables.exec = Jvm.exec) {pc : Nat} {Ls : Array Slot} {St : List Value} {x y : Int32} (hd : decode c.code pc = .ok (.isub, 1)) (k : own_R p e below s Q ck sk T (mkF m (pc + 1) Ls (.int (x - y) :: St))) : own_R p e below s Q ck sk T (mkF m pc Ls (.int y :: .int x :: St)) :=
  own_lift (fun _ q => XS.isub X.here hx rfl hd rfl q) k
theorem own_imul (X : Stand p l e R s m args below meth c T locs cells slots) (hx : p.tables.exec = Jvm.exec) {pc : Nat} {Ls : Array Slot} {St : List Value} {x y : Int32} (hd : decode c.code pc = .ok (.imul, 1)) (k : own_R p e below s Q ck sk T (mkF m (pc + 1) Ls (.int (x * y) :: St))) : own_R p e below s Q ck sk T (mkF m pc Ls (.int y :: .int x :: St)) :=
  own_lift (fun _ q => XS.imul X.here hx rfl hd rfl q) k
theorem own_iand (X : Stand p l e R s m args below meth c T locs cells slots) (hx : p.tables.exec = Jvm.exec) {pc : Nat} {Ls : Array Slot} {St : List Value} {x y : Int32} (hd : decode c.code pc = .ok (.iand, 1)) (k : own_R p e below s Q ck sk T (mkF m (pc + 1) Ls (.int (x &&& y) :: St))) : own_R p e below s Q ck sk T (mkF m pc Ls (.int y :: .int x :: St)) :=
  own_lift (fun _ q => XS.iand X.here hx rfl hd rfl q) k
theorem own_ior (X : Stand p l e R s m args below meth c T locs cells slots) (hx : p.tables.exec = Jvm.exec) {pc : Nat} {Ls : Array Slot} {St : List Value} {x y : Int32} (hd : decode c.code pc = .ok (.ior, 1)) (k : own_R p e below s Q ck sk T (mkF m (pc + 1) Ls (.int (x ||| y) :: St))) : own_R p e below s Q ck sk T (mkF m pc Ls (.int y :: .int x :: St)) :=
  own_lift (fun _ q => XS.ior X.here hx rfl hd rfl q) k
theorem own_ixor (X : Stand p l e R s m args below meth c T locs cells slots) (hx : p.tables.exec = Jvm.exec) {pc : Nat} {Ls : Array Slot} {St : List Value} {x y : Int32} (hd : decode c.code pc = .ok (.ixor, 1)) (k : own_R p e below s Q ck sk T (mkF m (pc + 1) Ls (.int (x ^^^ y) :: St))) : own_R p e below s Q ck sk T (mkF m pc Ls (.int y :: .int x :: St)) :=
  own_lift (fun _ q => XS.ixor X.here hx rfl hd rfl q) k
theorem own_ishl (X : Stand p l e R s m args below meth c T locs cells slots) (hx : p.tables.exec = Jvm.exec) {pc : Nat} {Ls : Array Slot} {St : List Value} {x y : Int32} (hd : decode c.code pc = .ok (.ishl, 1)) (k : own_R p e below s Q ck sk T (mkF m (pc + 1) Ls (.int (x <<< (y &&& 31)) :: St))) : own_R p e below s Q ck sk T (mkF m pc Ls (.int y :: .int x :: St)) :=
  own_lift (fun _ q => XS.ishl X.here hx rfl hd rfl q) k
theorem own_ishr (X : Stand p l e R s m args below meth c T locs cells slots) (hx : p.tables.exec = Jvm.exec) {pc : Nat} {Ls : Array Slot} {St : List Value} {x y : Int32} (hd : decode c.code pc = .ok (.ishr, 1)) (k : own_R p e below s Q ck sk T (mkF m (pc + 1) Ls (.int (x >>> (y &&& 31)) :: St))) : own_R p e below s Q ck sk T (mkF m pc Ls (.int y :: .int x :: St)) :=
  own_lift (fun _ q => XS.ishr X.here hx rfl hd rfl q) k
theorem own_iushr (X : Stand p l e R s m args below meth c T locs cells slots) (hx : p.tables.exec = Jvm.exec) {pc : Nat} {Ls : Array Slot} {St : List Value} {x y : Int32} (hd : decode c.code pc = .ok (.iushr, 1)) (k : own_R p e below s Q ck sk T (mkF m (pc + 1) Ls (.int ((x.toUInt32 >>> (y &&& 31).toUInt32).toInt32) :: St))) : own_R p e below s Q ck sk T (mkF m pc Ls (.int y :: .int x :: St)) :=
  own_lift (fun _ q => XS.iushr X.here hx rfl hd rfl q) k
theorem own_ladd (X : Stand p l e R s m args below meth c T locs cells slots) (hx : p.tables.exec = Jvm.exec) {pc : Nat} {Ls : Array Slot} {St : List Value} {x y : Int64} (hd : decode c.code pc = .ok (.ladd, 1)) (k : own_R p e below s Q ck sk T (mkF m (pc + 1) Ls (.long (x + y) :: St))) : own_R p e below s Q ck sk T (mkF m pc Ls (.long y :: .long x :: St)) :=
  own_lift (fun _ q => XS.ladd X.here hx rfl hd rfl q) k
theorem own_lsub (X : Stand p l e R s m args below meth c T locs cells slots) (hx : p.tables.exec = Jvm.exec) {pc : Nat} {Ls : Array Slot} {St : List Value} {x y : Int64} (hd : decode c.code pc = .ok (.lsub, 1)) (k : own_R p e below s Q ck sk T (mkF m (pc + 1) Ls (.long (x - y) :: St))) : own_R p e below s Q ck sk T (mkF m pc Ls (.long y :: .long x :: St)) :=
  own_lift (fun _ q => XS.lsub X.here hx rfl hd rfl q) k
theorem own_lmul (X : Stand p l e R s m args below meth c T locs cells slots) (hx : p.tables.exec = Jvm.exec) {pc : Nat} {Ls : Array Slot} {St : List Value} {x y : Int64} (hd : decode c.code pc = .ok (.lmul, 1)) (k : own_R p e below s Q ck sk T (mkF m (pc + 1) Ls (.long (x * y) :: St))) : own_R p e below s Q ck sk T (mkF m pc Ls (.long y :: .long x :: St)) :=
  own_lift (fun _ q => XS.lmul X.here hx rfl hd rfl q) k
theorem own_land (X : Stand p l e R s m args below meth c T locs cells slots) (hx : p.tables.exec = Jvm.exec) {pc : Nat} {Ls : Array Slot} {St : List Value} {x y : Int64} (hd : decode c.code pc = .ok (.land, 1)) (k : own_R p e below s Q ck sk T (mkF m (pc + 1) Ls (.long (x &&& y) :: St))) : own_R p e below s Q ck sk T (mkF m pc Ls (.long y :: .long x :: St)) :=
  own_lift (fun _ q => XS.land X.here hx rfl hd rfl q) k
theorem own_lor (X : Stand p l e R s m args below meth c T locs cells slots) (hx : p.tables.exec = Jvm.exec) {pc : Nat} {Ls : Array Slot} {St : List Value} {x y : Int64} (hd : decode c.code pc = .ok (.lor, 1)) (k : own_R p e below s Q ck sk T (mkF m (pc + 1) Ls (.long (x ||| y) :: St))) : own_R p e below s Q ck sk T (mkF m pc Ls (.long y :: .long x :: St)) :=
  own_lift (fun _ q => XS.lor X.here hx rfl hd rfl q) k
theorem own_lshl (X : Stand p l e R s m args below meth c T locs cells slots) (hx : p.tables.exec = Jvm.exec) {pc : Nat} {Ls : Array Slot} {St : List Value} {x : Int64} {y : Int32} (hd : decode c.code pc = .ok (.lshl, 1)) (k : own_R p e below s Q ck sk T (mkF m (pc + 1) Ls (.long (x <<< (y &&& 0x3f).toInt64) :: St))) : own_R p e below s Q ck sk T (mkF m pc Ls (.int y :: .long x :: St)) :=
  own_lift (fun _ q => XS.lshl X.here hx rfl hd rfl q) k
theorem own_lshr (X : Stand p l e R s m args below meth c T locs cells slots) (hx : p.tables.exec = Jvm.exec) {pc : Nat} {Ls : Array Slot} {St : List Value} {x : Int64} {y : Int32} (hd : decode c.code pc = .ok (.lshr, 1)) (k : own_R p e below s Q ck sk T (mkF m (pc + 1) Ls (.long (x >>> (y &&& 0x3f).toInt64) :: St))) : own_R p e below s Q ck sk T (mkF m pc Ls (.int y :: .long x :: St)) :=
  own_lift (fun _ q => XS.lshr X.here hx rfl hd rfl q) k
theorem own_lushr (X : Stand p l e R s m args below meth c T locs cells slots) (hx : p.tables.exec = Jvm.exec) {pc : Nat} {Ls : Array Slot} {St : List Value} {x : Int64} {y : Int32} (hd : decode c.code pc = .ok (.lushr, 1)) (k : own_R p e below s Q ck sk T (mkF m (pc + 1) Ls (.long ((x.toUInt64 >>> (y &&& 0x3f).toInt64.toUInt64).toInt64) :: St))) : own_R p e below s Q ck sk T (mkF m pc Ls (.int y :: .long x :: St)) :=
  own_lift (fun _ q => XS.lushr X.here hx rfl hd rfl q) k
theorem own_i2b (X : Stand p l e R s m args below meth c T locs cells slots) (hx : p.tables.exec = Jvm.exec) {pc : Nat} {Ls : Array Slot} {St : List Value} {x : Int32} (hd : decode c.code pc = .ok (.i2b, 1)) (k : own_R p e below s Q ck sk T (mkF m (pc + 1) Ls (.int x.toInt8.toInt32 :: St))) : own_R p e below s Q ck sk T (mkF m pc Ls (.int x :: St)) :=
  own_lift (fun _ q => XS.i2b X.here hx rfl hd rfl q) k
theorem own_i2s (X : Stand p l e R s m args below meth c T locs cells slots) (hx : p.tables.exec = Jvm.exec) {pc : Nat} {Ls : Array Slot} {St : List Value} {x : Int32} (hd : decode c.code pc = .ok (.i2s, 1)) (k : own_R p e below s Q ck sk T (mkF m (pc + 1) Ls (.int x.toInt16.toInt32 :: St))) : own_R p e below s Q ck sk T (mkF m pc Ls (.int x :: St)) :=
  own_lift (fun _ q => XS.i2s X.here hx rfl hd rfl q) k
theorem own_i2c (X : Stand p l e R s m args below meth c T locs cells slots) (hx : p.tables.exec = Jvm.exec) {pc : Nat} {Ls : Array Slot} {St : List Value} {x : Int32} (hd : decode c.code pc = .ok (.i2c, 1)) (k : own_R p e below s Q ck sk T (mkF m (pc + 1) Ls (.int x.toUInt32.toUInt16.toUInt32.toInt32 :: St))) : own_R p e below s Q ck sk T (mkF m pc Ls (.int x :: St)) :=
  own_lift (fun _ q => XS.i2c X.here hx rfl hd rfl q) k
theorem own_i2l (X : Stand p l e R s m args below meth c T locs cells slots) (hx : p.tables.exec = Jvm.exec) {pc : Nat} {Ls : Array Slot} {St : List Value} {x : Int32} (hd : decode c.code pc = .ok (.i2l, 1)) (k : own_R p e below s Q ck sk T (mkF m (pc + 1) Ls (.long x.toInt64 :: St))) : own_R p e below s Q ck sk T (mkF m pc Ls (.int x :: St)) :=
  own_lift (fun _ q => XS.i2l X.here hx rfl hd rfl q) k
theorem own_l2i (X : Stand p l e R s m args below meth c T locs cells slots) (hx : p.tables.exec = Jvm.exec) {pc : Nat} {Ls : Array Slot} {St : List Value} {x : Int64} (hd : decode c.code pc = .ok (.l2i, 1)) (k : own_R p e below s Q ck sk T (mkF m (pc + 1) Ls (.int x.toInt32 :: St))) : own_R p e below s Q ck sk T (mkF m pc Ls (.long x :: St)) :=
  own_lift (fun _ q => XS.l2i X.here hx rfl hd rfl q) k
theorem own_ineg (X : Stand p l e R s m args below meth c T locs cells slots) (hx : p.tables.exec = Jvm.exec) {pc : Nat} {Ls : Array Slot} {St : List Value} {x : Int32} (hd : decode c.code pc = .ok (.ineg, 1)) (k : own_R p e below s Q ck sk T (mkF m (pc + 1) Ls (.int (-x) :: St))) : own_R p e below s Q ck sk T (mkF m pc Ls (.int x :: St)) :=
  own_lift (fun _ q => XS.ineg X.here hx rfl hd rfl q) k
theorem own_lneg (X : Stand p l e R s m args below meth c T locs cells slots) (hx : p.tables.exec = Jvm.exec) {pc : Nat} {Ls : Array Slot} {St : List Value} {x : Int64} (hd : decode c.code pc = .ok (.lneg, 1)) (k : own_R p e below s Q ck sk T (mkF m (pc + 1) Ls (.long (-x) :: St))) : own_R p e below s Q ck sk T (mkF m pc Ls (.long x :: St)) :=
  own_lift (fun _ q => XS.lneg X.here hx rfl hd rfl q) k
theorem own_iloadN (X : Stand p l e R s m args below meth c T locs cells slots) (hx : p.tables.exec = Jvm.exec) {pc : Nat} {Ls : Array Slot} {St : List Value} {i : Fin 4} {v : Int32} (hd : decode c.code pc = .ok (.iload_n i, 1)) (hl : Ls[i.val]? = some (.val (.int v))) (k : own_R p e below s Q ck sk T (mkF m (pc + 1) Ls (.int v :: St))) : own_R p e below s Q ck sk T (mkF m pc Ls St) :=
  own_lift (fun _ q => XS.iloadN X.here hx rfl hd hl q) k
theorem own_iload (X : Stand p l e R s m args below meth c T locs cells slots) (hx : p.tables.exec = Jvm.exec) {pc : Nat} {Ls : Array Slot} {St : List Value} {i : Nat} {v : Int32} (hd : decode c.code pc = .ok (.iload i, 2)) (hl : Ls[i]? = some (.val (.int v))) (k : own_R p e below s Q ck sk T (mkF m (pc + 2) Ls (.int v :: St))) : own_R p e below s Q ck sk T (mkF m pc Ls St) :=
  own_lift (fun _ q => XS.iload X.here hx rfl hd hl q) k
theorem own_istoreN (X : Stand p l e R s m args below meth c T locs cells slots) (hx : p.tables.exec = Jvm.exec) {pc : Nat} {Ls : Array Slot} {St : List Value} {i : Fin 4} {v : Int32} {l' : Array Slot} (hd : decode c.code pc = .ok (.istore_n i, 1)) (hl : storeLocals Ls i.val (.int v) = some l') (k : own_R p e below s Q ck sk T (mkF m (pc + 1) l' St)) : own_R p e below s Q ck sk T (mkF m pc Ls (.int v :: St)) :=
  own_lift (fun _ q => XS.istoreN X.here hx rfl hd rfl hl q) k
theorem own_istore (X : Stand p l e R s m args below meth c T locs cells slots) (hx : p.tables.exec = Jvm.exec) {pc : Nat} {Ls : Array Slot} {St : List Value} {i : Nat} {v : Int32} {l' : Array Slot} (hd : decode c.code pc = .ok (.istore i, 2)) (hl : storeLocals Ls i (.int v) = some l') (k : own_R p e below s Q ck sk T (mkF m (pc + 2) l' St)) : own_R p e below s Q ck sk T (mkF m pc Ls (.int v :: St)) :=
  own_lift (fun _ q => XS.istore X.here hx rfl hd rfl hl q) k
theorem own_lloadN (X : Stand p l e R s m args below meth c T locs cells slots) (hx : p.tables.exec = Jvm.exec) {pc : Nat} {Ls : Array Slot} {St : List Value} {i : Fin 4} {v : Int64} (hd : decode c.code pc = .ok (.lload_n i, 1)) (hl : Ls[i.val]? = some (.val (.long v))) (k : own_R p e below s Q ck sk T (mkF m (pc + 1) Ls (.long v :: St))) : own_R p e below s Q ck sk T (mkF m pc Ls St) :=
  own_lift (fun _ q => XS.lloadN X.here hx rfl hd hl q) k
theorem own_lload (X : Stand p l e R s m args below meth c T locs cells slots) (hx : p.tables.exec = Jvm.exec) {pc : Nat} {Ls : Array Slot} {St : List Value} {i : Nat} {v : Int64} (hd : decode c.code pc = .ok (.lload i, 2)) (hl : Ls[i]? = some (.val (.long v))) (k : own_R p e below s Q ck sk T (mkF m (pc + 2) Ls (.long v :: St))) : own_R p e below s Q ck sk T (mkF m pc Ls St) :=
  own_lift (fun _ q => XS.lload X.here hx rfl hd hl q) k
theorem own_lstoreN (X : Stand p l e R s m args below meth c T locs cells slots) (hx : p.tables.exec = Jvm.exec) {pc : Nat} {Ls : Array Slot} {St : List Value} {i : Fin 4} {v : Int64} {l' : Array Slot} (hd : decode c.code pc = .ok (.lstore_n i, 1)) (hl : storeLocals Ls i.val (.long v) = some l') (k : own_R p e below s Q ck sk T (mkF m (pc + 1) l' St)) : own_R p e below s Q ck sk T (mkF m pc Ls (.long v :: St)) :=
  own_lift (fun _ q => XS.lstoreN X.here hx rfl hd rfl hl q) k
theorem own_lstore (X : Stand p l e R s m args below meth c T locs cells slots) (hx : p.tables.exec = Jvm.exec) {pc : Nat} {Ls : Array Slot} {St : List Value} {i : Nat} {v : Int64} {l' : Array Slot} (hd : decode c.code pc = .ok (.lstore i, 2)) (hl : storeLocals Ls i (.long v) = some l') (k : own_R p e below s Q ck sk T (mkF m (pc + 2) l' St)) : own_R p e below s Q ck sk T (mkF m pc Ls (.long v :: St)) :=
  own_lift (fun _ q => XS.lstore X.here hx rfl hd rfl hl q) k
theorem own_aloadN (X : Stand p l e R s m args below meth c T locs cells slots) (hx : p.tables.exec = Jvm.exec) {pc : Nat} {Ls : Array Slot} {St : List Value} {i : Fin 4} {v : Value} (hd : decode c.code pc = .ok (.aload_n i, 1)) (hl : Ls[i.val]? = some (.val v)) (hv : v.isRef = true) (k : own_R p e below s Q ck sk T (mkF m (pc + 1) Ls (v :: St))) : own_R p e below s Q ck sk T (mkF m pc Ls St) :=
  own_lift (fun _ q => XS.aloadN X.here hx rfl hd hl hv q) k
theorem own_aload (X : Stand p l e R s m args below meth c T locs cells slots) (hx : p.tables.exec = Jvm.exec) {pc : Nat} {Ls : Array Slot} {St : List Value} {i : Nat} {v : Value} (hd : decode c.code pc = .ok (.aload i, 2)) (hl : Ls[i]? = some (.val v)) (hv : v.isRef = true) (k : own_R p e below s Q ck sk T (mkF m (pc + 2) Ls (v :: St))) : own_R p e below s Q ck sk T (mkF m pc Ls St) :=
  own_lift (fun _ q => XS.aload X.here hx rfl hd hl hv q) k
theorem own_astoreN (X : Stand p l e R s m args below meth c T locs cells slots) (hx : p.tables.exec = Jvm.exec) {pc : Nat} {Ls : Array Slot} {St : List Value} {i : Fin 4} {v : Value} {l' : Array Slot} (hd : decode c.code pc = .ok (.astore_n i, 1)) (hv : v.isRef = true) (hl : storeLocals Ls i.val v = some l') (k : own_R p e below s Q ck sk T (mkF m (pc + 1) l' St)) : own_R p e below s Q ck sk T (mkF m pc Ls (v :: St)) :=
  own_lift (fun _ q => XS.astoreN X.here hx rfl hd rfl hv hl q) k
theorem own_astore (X : Stand p l e R s m args below meth c T locs cells slots) (hx : p.tables.exec = Jvm.exec) {pc : Nat} {Ls : Array Slot} {St : List Value} {i : Nat} {v : Value} {l' : Array Slot} (hd : decode c.code pc = .ok (.astore i, 2)) (hv : v.isRef = true) (hl : storeLocals Ls i v = some l') (k : own_R p e below s Q ck sk T (mkF m (pc + 2) l' St)) : own_R p e below s Q ck sk T (mkF m pc Ls (v :: St)) :=
  own_lift (fun _ q => XS.astore X.here hx rfl hd rfl hv hl q) k
theorem own_iconst (X : Stand p l e R s m args below meth c T locs cells slots) (hx : p.tables.exec = Jvm.exec) {pc : Nat} {Ls : Array Slot} {St : List Value} {i : Int} (v : Int32) (hd : decode c.code pc = .ok (.iconst i, 1)) (hv : Int32.ofInt i = v) (k : own_R p e below s Q ck sk T (mkF m (pc + 1) Ls (.int v :: St))) : own_R p e below s Q ck sk T (mkF m pc Ls St) :=
  own_lift (fun _ q => XS.iconst X.here hx rfl hd (hv ▸ q)) k
theorem own_bipush (X : Stand p l e R s m args below meth c T locs cells slots) (hx : p.tables.exec = Jvm.exec) {pc : Nat} {Ls : Array Slot} {St : List Value} {i : Int} (v : Int32) (hd : decode c.code pc = .ok (.bipush i, 2)) (hv : (Int8.ofInt i).toInt32 = v) (k : own_R p e below s Q ck sk T (mkF m (pc + 2) Ls (.int v :: St))) : own_R p e below s Q ck sk T (mkF m pc Ls St) :=
  own_lift (fun _ q => XS.bipush X.here hx rfl hd (hv ▸ q)) k
theorem own_sipush (X : Stand p l e R s m args below meth c T locs cells slots) (hx : p.tables.exec = Jvm.exec) {pc : Nat} {Ls : Array Slot} {St : List Value} {i : Int} (v : Int32) (hd : decode c.code pc = .ok (.sipush i, 3)) (hv : (Int16.ofInt i).toInt32 = v) (k : own_R p e below s Q ck sk T (mkF m (pc + 3) Ls (.int v :: St))) : own_R p e below s Q ck sk T (mkF m pc Ls St) :=
  own_lift (fun _ q => XS.sipush X.here hx rfl hd (hv ▸ q)) k
theorem own_lconst (X : Stand p l e R s m args below meth c T locs cells slots) (hx : p.tables.exec = Jvm.exec) {pc : Nat} {Ls : Array Slot} {St : List Value} {i : Fin 2} (v : Int64) (hd : decode c.code pc = .ok (.lconst i, 1)) (hv : Int64.ofNat i = v) (k : own_R p e below s Q ck sk T (mkF m (pc + 1) Ls (.long v :: St))) : own_R p e below s Q ck sk T (mkF m pc Ls St) :=
  own_lift (fun _ q => XS.lconst X.here hx rfl hd (hv ▸ q)) k
theorem own_iinc (X : Stand p l e R s m args below meth c T locs cells slots) (hx : p.tables.exec = Jvm.exec) {pc : Nat} {Ls : Array Slot} {St : List Value} {i : Nat} {cst : Int} {x : Int32} (v : Int32) {l' : Array Slot} (hd : decode c.code pc = .ok (.iinc i cst, 3)) (hv : Int32.ofInt cst = v) (hl : Ls[i]? = some (.val (.int x))) (hl' : storeLocals Ls i (.int (x + v)) = some l') (k : own_R p e below s Q ck sk T (mkF m (pc + 3) l' St)) : own_R p e below s Q ck sk T (mkF m pc Ls St) :=
  own_lift (fun _ q => XS.iinc X.here hx rfl hd hl (hv ▸ hl') q) k
theorem own_aconst_null (X : Stand p l e R s m args below meth c T locs cells slots) (hx : p.tables.exec = Jvm.exec) {pc : Nat} {Ls : Array Slot} {St : List Value}  (hd : decode c.code pc = .ok (.aconst_null, 1)) (k : own_R p e below s Q ck sk T (mkF m (pc + 1) Ls (.null :: St))) : own_R p e below s Q ck sk T (mkF m pc Ls St) :=
  own_lift (fun _ q => XS.aconstNull X.here hx rfl hd q) k
theorem own_dup (X : Stand p l e R s m args below meth c T locs cells slots) (hx : p.tables.exec = Jvm.exec) {pc : Nat} {Ls : Array Slot} {St : List Value} {x : Value} (hd : decode c.code pc = .ok (.dup, 1)) (hc : x.category = 1) (k : own_R p e below s Q ck sk T (mkF m (pc + 1) Ls (x :: x :: St))) : own_R p e below s Q ck sk T (mkF m pc Ls (x :: St)) :=
  own_lift (fun _ q => XS.dup X.here hx rfl hd rfl hc q) k
theorem own_dup_x1 (X : Stand p l e R s m args below meth c T locs cells slots) (hx : p.tables.exec = Jvm.exec) {pc : Nat} {Ls : Array Slot} {St : List Value} {x y : Value} (hd : decode c.code pc = .ok (.dup_x1, 1)) (hc : x.category = 1) (hc2 : y.category = 1) (k : own_R p e below s Q ck sk T (mkF m (pc + 1) Ls (x :: y :: x :: St))) : own_R p e below s Q ck sk T (mkF m pc Ls (x :: y :: St)) :=
  own_lift (fun _ q => XS.dupX1 X.here hx rfl hd rfl hc hc2 q) k
theorem own_pop (X : Stand p l e R s m args below meth c T locs cells slots) (hx : p.tables.exec = Jvm.exec) {pc : Nat} {Ls : Array Slot} {St : List Value} {x : Value} (hd : decode c.code pc = .ok (.pop, 1)) (hc : x.category = 1) (k : own_R p e below s Q ck sk T (mkF m (pc + 1) Ls St)) : own_R p e below s Q ck sk T (mkF m pc Ls (x :: St)) :=
  own_lift (fun _ q => XS.pop X.here hx rfl hd rfl hc q) k
theorem own_goto (X : Stand p l e R s m args below meth c T locs cells slots) (hx : p.tables.exec = Jvm.exec) {pc : Nat} {Ls : Array Slot} {St : List Value} {o : Int} {pc' : Nat} (hd : decode c.code pc = .ok (.goto o, 3)) (ho : 0 ≤ (pc : Int) + o) (hp : ((pc : Int) + o).toNat = pc') (k : own_R p e below s Q ck sk T (mkF m pc' Ls St)) : own_R p e below s Q ck sk T (mkF m pc Ls St) :=
  own_lift (fun _ q => XS.goto X.here hx rfl (pc0 := pc) rfl hd ho hp q) k
theorem own_ifnullY (X : Stand p l e R s m args below meth c T locs cells slots) (hx : p.tables.exec = Jvm.exec) {pc : Nat} {Ls : Array Slot} {St : List Value} {o : Int} {pc' : Nat} (hd : decode c.code pc = .ok (.ifnull o, 3)) (ho : 0 ≤ (pc : Int) + o) (hp : ((pc : Int) + o).toNat = pc') (k : own_R p e below s Q ck sk T (mkF m pc' Ls St)) : own_R p e below s Q ck sk T (mkF m pc Ls (.null :: St)) :=
  own_lift (fun _ q => XS.ifnullYes X.here hx rfl (pc0 := pc) rfl hd rfl ho hp q) k
theorem own_ifnullN (X : Stand p l e R s m args below meth c T locs cells slots) (hx : p.tables.exec = Jvm.exec) {pc : Nat} {Ls : Array Slot} {St : List Value} {o : Int} {b : Addr} (hd : decode c.code pc = .ok (.ifnull o, 3)) (k : own_R p e below s Q ck sk T (mkF m (pc + 3) Ls St)) : own_R p e below s Q ck sk T (mkF m pc Ls (.ref b :: St)) :=
  own_lift (fun _ q => XS.ifnullNo X.here hx rfl hd rfl q) k
theorem own_ifnonnullY (X : Stand p l e R s m args below meth c T locs cells slots) (hx : p.tables.exec = Jvm.exec) {pc : Nat} {Ls : Array Slot} {St : List Value} {o : Int} {pc' : Nat} {b : Addr} (hd : decode c.code pc = .ok (.ifnonnull o, 3)) (ho : 0 ≤ (pc : Int) + o) (hp : ((pc : Int) + o).toNat = pc') (k : own_R p e below s Q ck sk T (mkF m pc' Ls St)) : own_R p e below s Q ck sk T (mkF m pc Ls (.ref b :: St)) :=
  own_lift (fun _ q => XS.ifnonnullYes X.here hx rfl (pc0 := pc) rfl hd rfl ho hp q) k
theorem own_ifnonnullN (X : Stand p l e R s m args below meth c T locs cells slots) (hx : p.tables.exec = Jvm.exec) {pc : Nat} {Ls : Array Slot} {St : List Value} {o : Int} (hd : decode c.code pc = .ok (.ifnonnull o, 3)) (k : own_R p e below s Q ck sk T (mkF m (pc + 3) Ls St)) : own_R p e below s Q ck sk T (mkF m pc Ls (.null :: St)) :=
  own_lift (fun _ q => XS.ifnonnullNo X.here hx rfl hd rfl q) k
theorem own_irem (X : Stand p l e R s m args below meth c T locs cells slots) (hx : p.tables.exec = Jvm.exec) {pc : Nat} {Ls : Array Slot} {St : List Value} {x y : Int32} (hd : decode c.code pc = .ok (.irem, 1)) (hy : y ≠ 0) (k : own_R p e below s Q ck sk T (mkF m (pc + 1) Ls (.int (x % y) :: St))) : own_R p e below s Q ck sk T (mkF m pc Ls (.int y :: .int x :: St)) :=
  own_lift (fun _ q => iremM X hx rfl hd rfl hy q) k
theorem own_ldc (X : Stand p l e R s m args below meth c T locs cells slots) (hx : p.tables.exec = Jvm.exec) (hZ : Z.Warmed39 s.vm) {own : String} {index : Nat} {v : Int32} (hown : s.vm.findClass own = some m.cls) (w : (Cond.constant own index v).before a0 Z = true) {pc : Nat} {Ls : Array Slot} {St : List Value} (hd : decode c.code pc = .ok (.ldc index, 2)) (k : own_R p e below s Q ck sk T (mkF m (pc + 2) Ls (.int v :: St))) : own_R p e below s Q ck sk T (mkF m pc Ls St) :=
  own_lift (fun _ q => X.ldcInt hx hown (mvT hZ w) (g := mkF m pc Ls St) rfl hd _ q) k
theorem own_ldc2 (X : Stand p l e R s m args below meth c T locs cells slots) (hx : p.tables.exec = Jvm.exec) (hZ : Z.Warmed39 s.vm) {own : String} {index : Nat} {v : Int64} (hown : s.vm.findClass own = some m.cls) (w : (Cond.constantLong own index v).before a0 Z = true) {pc : Nat} {Ls : Array Slot} {St : List Value} (hd : decode c.code pc = .ok (.ldc2_w index, 3)) (k : own_R p e below s Q ck sk T (mkF m (pc + 3) Ls (.long v :: St))) : own_R p e below s Q ck sk T (mkF m pc Ls St) :=
  own_lift (fun _ q => X.ldc2Long hx hown (mvT hZ w) (g := mkF m pc Ls St) rfl hd _ q) k
theorem own_dup2 (X : Stand p l e R s m args below meth c T locs cells slots) (hx : p.tables.exec = Jvm.exec) {pc : Nat} {Ls : Array Slot} {St : List Value} {x y : Value} (hd : decode c.code pc = .ok (.dup2, 1)) (h1 : x.category = 1) (h2 : y.category = 1) (k : own_R p e below s Q ck sk T (mkF m (pc + 1) Ls (x :: y :: x :: y :: St))) : own_R p e below s Q ck sk T (mkF m pc Ls (x :: y :: St)) :=
  own_lift (fun _ q => by
    show Steps p.tables e below (T.setTop { method := m, pc := pc, locals := Ls, stack := x :: y :: St, locked := none }) _
    jvm_step X.here [X.here.top, hx, hd, h1, h2]
    exact q) k
/-! branches: both ways -/
theorem own_icmp (X : Stand p l e R s m args below meth c T locs cells slots) (hx : p.tables.exec = Jvm.exec) {pc pc' : Nat} {Ls : Array Slot} {St : List Value} {x y : Int32} {cd : ClassFile.Cond} {o : Int} (hd : decode c.code pc = .ok (.if_icmp cd o, 3)) (ho : 0 ≤ (pc : Int) + o) (hp : ((pc : Int) + o).toNat = pc')
    (k1 : if_icmp.holds cd x y = true → own_R p e below s Q ck sk T (mkF m pc' Ls St)) (k2 : if_icmp.holds cd x y = false → own_R p e below s Q ck sk T (mkF m (pc + 3) Ls St)) : own_R p e below s Q ck sk T (mkF m pc Ls (.int y :: .int x :: St)) := by
  cases hc : if_icmp.holds cd x y
  · exact own_lift (fun _ q => XS.icmpNo X.here hx rfl hd rfl hc q) (k2 hc)
  · exact own_lift (fun _ q => XS.icmpYes X.here hx rfl (pc0 := pc) rfl hd rfl hc ho hp q) (k1 hc)
theorem own_if (X : Stand p l e R s m args below meth c T locs cells slots) (hx : p.tables.exec = Jvm.exec) {pc pc' : Nat} {Ls : Array Slot} {St : List Value} {x : Int32} {cd : ClassFile.Cond} {o : Int} (hd : decode c.code pc = .ok (.ifCond cd o, 3)) (ho : 0 ≤ (pc : Int) + o) (hp : ((pc : Int) + o).toNat = pc')
    (k1 : if_icmp.holds cd x 0 = true → own_R p e below s Q ck sk T (mkF m pc' Ls St)) (k2 : if_icmp.holds cd x 0 = false → own_R p e below s Q ck sk T (mkF m (pc + 3) Ls St)) : own_R p e below s Q ck sk T (mkF m pc Ls (.int x :: St)) := by
  cases hc : if_icmp.holds cd x 0
  · exact own_lift (fun _ q => XS.ifNo X.here hx rfl hd rfl ((if0 _ _).trans hc) q) (k2 hc)
  · exact own_lift (fun _ q => XS.ifYes X.here hx rfl (pc0 := pc) rfl hd rfl ((if0 _ _).trans hc) ho hp q) (k1 hc)
theorem own_lt1 {x y : Int32} (q : if_icmp.holds .lt x y = true) : x < y := by simpa [if_icmp.holds] using q
theorem own_lt0 {x y : Int32} (q : if_icmp.holds .lt x y = false) : ¬ x < y := by simpa [if_icmp.holds] using q
theorem own_ge1 {x y : Int32} (q : if_icmp.holds .ge x y = true) : ¬ x < y := by simpa [if_icmp.holds] using q
theorem own_ge0 {x y : Int32} (q : if_icmp.holds .ge x y = false) : x < y := by simpa [if_icmp.holds] using q
theorem own_gt1 {x y : Int32} (q : if_icmp.holds .gt x y = true) : y < x := by simpa [if_icmp.holds] using q
theorem own_gt0 {x y : Int32} (q : if_icmp.holds .gt x y = false) : ¬ y < x := by simpa [if_icmp.holds] using q
theorem own_le1 {x y : Int32} (q : if_icmp.holds .le x y = true) : ¬ y < x := by simpa [if_icmp.holds] using q
theorem own_le0 {x y : Int32} (q : if_icmp.holds .le x y = false) : y < x := by simpa [if_icmp.holds] using q
theorem own_eq1 {x y : Int32} (q : if_icmp.holds .eq x y = true) : x = y := by simpa [if_icmp.holds] using q
theorem own_eq0 {x y : Int32} (q : if_icmp.holds .eq x y = false) : ¬ x = y := by simpa [if_icmp.holds] using q
theorem own_ne1 {x y : Int32} (q : if_icmp.holds .ne x y = true) : ¬ x = y := by simpa [if_icmp.holds] using q
theorem own_ne0 {x y : Int32} (q : if_icmp.holds .ne x y = false) : x = y := by simpa [if_icmp.holds] using q
/-! lcmp and the branch behind it, in one -/
theorem own_lcmp (X : Stand p l e R s m args below meth c T locs cells slots) (hx : p.tables.exec = Jvm.exec) {pc pc' : Nat} {Ls : Array Slot} {St : List Value} {x y : Int64} {cd : ClassFile.Cond} {o : Int} (hd1 : decode c.code pc = .ok (.lcmp, 1)) (hd : decode c.code (pc + 1) = .ok (.ifCond cd o, 3)) (ho : 0 ≤ ((pc + 1 : Nat) : Int) + o) (hp : (((pc + 1 : Nat) : Int) + o).toNat = pc')
    (k1 : if_icmp.holds cd (lcmpW x y) 0 = true → own_R p e below s Q ck sk T (mkF m pc' Ls St)) (k2 : if_icmp.holds cd (lcmpW x y) 0 = false → own_R p e below s Q ck sk T (mkF m (pc + 4) Ls St)) : own_R p e below s Q ck sk T (mkF m pc Ls (.long y :: .long x :: St)) :=
  own_lift (fun _ q => XS.lcmp X.here hx rfl hd1 rfl q) (own_if X hx hd ho hp k1 k2)
theorem own_llt1 {x y : Int64} (q : if_icmp.holds .lt (lcmpW x y) 0 = true) : x < y := (lw_lt x y).mp (own_lt1 q)
theorem own_llt0 {x y : Int64} (q : if_icmp.holds .lt (lcmpW x y) 0 = false) : ¬ x < y := fun z => own_lt0 q ((lw_lt x y).mpr z)
theorem own_lge1 {x y : Int64} (q : if_icmp.holds .ge (lcmpW x y) 0 = true) : ¬ x < y := fun z => own_ge1 q ((lw_lt x y).mpr z)
theorem own_lge0 {x y : Int64} (q : if_icmp.holds .ge (lcmpW x y) 0 = false) : x < y := (lw_lt x y).mp (own_ge0 q)
theorem own_lgt1 {x y : Int64} (q : if_icmp.holds .gt (lcmpW x y) 0 = true) : y < x := (lw_gt x y).mp (own_gt1 q)
theorem own_lgt0 {x y : Int64} (q : if_icmp.holds .gt (lcmpW x y) 0 = false) : ¬ y < x := fun z => own_gt0 q ((lw_gt x y).mpr z)
theorem own_lle1 {x y : Int64} (q : if_icmp.holds .le (lcmpW x y) 0 = true) : ¬ y < x := fun z => own_le1 q ((lw_gt x y).mpr z)
theorem own_lle0 {x y : Int64} (q : if_icmp.holds .le (lcmpW x y) 0 = false) : y < x := (lw_gt x y).mp (own_le0 q)
theorem own_leq1 {x y : Int64} (q : if_icmp.holds .eq (lcmpW x y) 0 = true) : x = y := (lw_eq x y).mp (own_eq1 q)
theorem own_leq0 {x y : Int64} (q : if_icmp.holds .eq (lcmpW x y) 0 = false) : ¬ x = y := fun z => own_eq0 q ((lw_eq x y).mpr z)
theorem own_lne1 {x y : Int64} (q : if_icmp.holds .ne (lcmpW x y) 0 = true) : ¬ x = y := fun z => own_ne1 q ((lw_eq x y).mpr z)
theorem own_lne0 {x y : Int64} (q : if_icmp.holds .ne (lcmpW x y) 0 = false) : x = y := (lw_eq x y).mp (own_ne0 q)
/-! returns -/
theorem own_ret0 (X : Stand p l e R s m args below meth c T locs cells slots) (hx : p.tables.exec = Jvm.exec) {pc : Nat} {Ls : Array Slot} (hret : meth.sig.returnType = none) (hlk : meth.locks = false) (hd : decode c.code pc = .ok (.return_, 1)) (hQ : Q none T.heap locs) (hc : cells ≤ ck) (hs : slots ≤ sk) : own_R p e below s Q ck sk T (mkF m pc Ls []) := by
  obtain ⟨fs, hr, hrun, hended, hW, hsame⟩ := X.leave (v := none) (fun _ => rfl) hlk
  exact ⟨_, _, X.returnOut hx hret hd hr, hrun, hended, _, _, rfl, hQ, ⟨_, rfl⟩, hW, hsame.mono hc hs⟩
theorem own_retN (X : Stand p l e R s m args below meth c T locs cells slots) (hx : p.tables.exec = Jvm.exec) {pc : Nat} {Ls : Array Slot} {St : List Value} {z : Int32} {t : FieldType} (hret : meth.sig.returnType = some t) (ht : t = .boolean ∨ t = .byte ∨ t = .char ∨ t = .short) (hlk : meth.locks = false) (hd : decode c.code pc = .ok (.ireturn, 1)) (hQ : Q (some (.int (nar t z))) T.heap locs) (hc : cells ≤ ck) (hs : slots ≤ sk) : own_R p e below s Q ck sk T (mkF m pc Ls (.int z :: St)) := by
  obtain ⟨fs, hr, hrun, hended, hW, hsame⟩ := X.leave (v := some (.int (nar t z))) (fun h => by rw [hret] at h; cases h) hlk
  exact ⟨_, _, retN X hx hret ht hd hr, hrun, hended, _, _, rfl, hQ, ⟨_, rfl⟩, hW, hsame.mono hc hs⟩
theorem own_retV (X : Stand p l e R s m args below meth c T locs cells slots) (hx : p.tables.exec = Jvm.exec) {pc : Nat} {Ls : Array Slot} {St : List Value} {w : Value} {t : FieldType} {i : Instr} (hret : meth.sig.returnType = some t) (hn : narrow t w = w)
    (hi : (i = .ireturn ∧ (t = .int ∨ t = .boolean ∨ t = .byte ∨ t = .char ∨ t = .short) ∧ ∃ z, w = .int z) ∨ (i = .lreturn ∧ t = .long ∧ ∃ z, w = .long z) ∨ (i = .dreturn ∧ t = .double ∧ ∃ z, w = .double z) ∨ (i = .freturn ∧ t = .float ∧ ∃ z, w = .float z) ∨ (i = .areturn ∧ t.isReference = true ∧ w.isRef = true)) (hlk : meth.locks = false)
    (hd : decode c.code pc = .ok (i, 1)) (hQ : Q (some w) T.heap locs) (hc : cells ≤ ck) (hs : slots ≤ sk) : own_R p e below s Q ck sk T (mkF m pc Ls (w :: St)) := by
  obtain ⟨fs, hr, hrun, hended, hW, hsame⟩ := X.leave (v := some w) (fun h => by rw [hret] at h; cases h) hlk
  exact ⟨_, _, retOut X hx hret hn hi hd hr, hrun, hended, _, _, rfl, hQ, ⟨_, rfl⟩, hW, hsame.mono hc hs⟩
theorem own_retI (X : Stand p l e R s m args below meth c T locs cells slots) (hx : p.tables.exec = Jvm.exec) {pc : Nat} {Ls : Array Slot} {St : List Value} {z : Int32} (hret : meth.sig.returnType = some .int) (hlk : meth.locks = false) (hd : decode c.code pc = .ok (.ireturn, 1)) (hQ : Q (some (.int z)) T.heap locs) (hc : cells ≤ ck) (hs : slots ≤ sk) : own_R p e below s Q ck sk T (mkF m pc Ls (.int z :: St)) :=
  own_retV X hx hret rfl (Or.inl ⟨rfl, Or.inl rfl, _, rfl⟩) hlk hd hQ hc hs
theorem own_retJ (X : Stand p l e R s m args below meth c T locs cells slots) (hx : p.tables.exec = Jvm.exec) {pc : Nat} {Ls : Array Slot} {St : List Value} {z : Int64} (hret : meth.sig.returnType = some .long) (hlk : meth.locks = false) (hd : decode c.code pc = .ok (.lreturn, 1)) (hQ : Q (some (.long z)) T.heap locs) (hc : cells ≤ ck) (hs : slots ≤ sk) : own_R p e below s Q ck sk T (mkF m pc Ls (.long z :: St)) :=
  own_retV X hx hret rfl (Or.inr (Or.inl ⟨rfl, rfl, _, rfl⟩)) hlk hd hQ hc hs
theorem own_retA (X : Stand p l e R s m args below meth c T locs cells slots) (hx : p.tables.exec = Jvm.exec) {pc : Nat} {Ls : Array Slot} {St : List Value} {w : Value} {t : FieldType} (hret : meth.sig.returnType = some t) (ht : t.isReference = true) (hw : w.isRef = true) (hlk : meth.locks = false) (hd : decode c.code pc = .ok (.areturn, 1)) (hQ : Q (some w) T.heap locs) (hc : cells ≤ ck) (hs : slots ≤ sk) : own_R p e below s Q ck sk T (mkF m pc Ls (w :: St)) :=
  own_retV X hx hret (by rcases ref_cases hw with rfl | ⟨a, rfl⟩ <;> cases t <;> first | rfl | (cases ht)) (Or.inr (Or.inr (Or.inr (Or.inr ⟨rfl, ht, hw⟩)))) hlk hd hQ hc hs
/-! the heap -/
theorem own_getF (X : Stand p l e R s m args below meth c T locs cells slots) (hx : p.tables.exec = Jvm.exec) (hZ : Z.Warmed39 s.vm) {own R0 O n d host : String} {index : Nat} (hown : s.vm.findClass own = some m.cls) (w : (Cond.fieldLink own index R0 n d).before a0 Z = true ∨ (Cond.fieldLinkNest own index R0 n d host).before a0 Z = true) (via : Via Z R0 O n d) (eT : T.heap = h) {a : Addr} {v : Value} (F : Fld Z h a O n d v) {pc : Nat} {Ls : Array Slot} {St : List Value} (hd : decode c.code pc = .ok (.getfield index, 3))
    (k : ∀ T', Stand p l e R s m args below meth c T' locs cells slots → T'.heap = h → own_R p e below s Q ck sk T' (mkF m (pc + 3) Ls (v :: St))) : own_R p e below s Q ck sk T (mkF m pc Ls (.ref a :: St)) := by
  obtain ⟨T', X', e', st⟩ := getF X hx hZ hown w via eT F (g := mkF m pc Ls (.ref a :: St)) rfl rfl hd
  exact own_lift st (k T' X' e')
theorem own_putF (X : Stand p l e R s m args below meth c T locs cells slots) (hx : p.tables.exec = Jvm.exec) (hZ : Z.Warmed39 s.vm) {own R0 O n d host C : String} {index kk : Nat} {ty : FieldType} (hown : s.vm.findClass own = some m.cls) (w : (Cond.fieldLink own index R0 n d).before a0 Z = true ∨ (Cond.fieldLinkNest own index R0 n d host).before a0 Z = true) (via : Via Z R0 O n d)
    (eT : T.heap = h) {a : Addr} {v old : Value} (F : Fld Z h a O n d old) (E : Exa Z h a C) (L : (Cond.lays C O n d).before a0 Z = true ∨ ((Cond.laysFinal C O n d).before a0 Z = true ∧ own = O ∧ meth.name = "<init>")) (wi : (Cond.instantiable C kk).before a0 Z = true)
    (hty : parseFieldDescriptor d = some ty) (hn : narrow ty v = v) (hf : fits ty v = true) {pc : Nat} {Ls : Array Slot} {St : List Value} (hd : decode c.code pc = .ok (.putfield index, 3))
    (k : ∀ T' h', Stand p l e R s m args below meth c T' (locs ++ [⟨a, Jvm.RoadKit.slotOf Z O n d⟩]) cells slots → T'.heap = h' → Wr h h' a (Jvm.RoadKit.slotOf Z O n d) v → own_R p e below s Q ck sk T' (mkF m (pc + 3) Ls St)) : own_R p e below s Q ck sk T (mkF m pc Ls (v :: .ref a :: St)) := by
  obtain ⟨T', h', X', e', W, st⟩ := putF X hx hZ hown w via eT F E L wi hty hn hf (g := mkF m pc Ls (v :: .ref a :: St)) rfl rfl hd
  exact own_lift st (k T' h' X' e' W)
theorem own_putFN (X : Stand p l e R s m args below meth c T locs cells slots) (hx : p.tables.exec = Jvm.exec) (hZ : Z.Warmed39 s.vm) {own R0 O n d C : String} {index kk : Nat} {ty : FieldType} (hown : s.vm.findClass own = some m.cls) (w : (Cond.fieldLink own index R0 n d).before a0 Z = true) (via : Via Z R0 O n d)
    (eT : T.heap = h) {a : Addr} {v v' old : Value} (F : Fld Z h a O n d old) (E : Exa Z h a C) (L : (Cond.lays C O n d).before a0 Z = true ∨ ((Cond.laysFinal C O n d).before a0 Z = true ∧ own = O ∧ meth.name = "<init>")) (wi : (Cond.instantiable C kk).before a0 Z = true)
    (hty : parseFieldDescriptor d = some ty) (hn : narrow ty v = v') (hf : fits ty v' = true) {pc : Nat} {Ls : Array Slot} {St : List Value} (hd : decode c.code pc = .ok (.putfield index, 3))
    (k : ∀ T' h', Stand p l e R s m args below meth c T' (locs ++ [⟨a, Jvm.RoadKit.slotOf Z O n d⟩]) cells slots → T'.heap = h' → Wr h h' a (Jvm.RoadKit.slotOf Z O n d) v' → own_R p e below s Q ck sk T' (mkF m (pc + 3) Ls St)) : own_R p e below s Q ck sk T (mkF m pc Ls (v :: .ref a :: St)) := by
  obtain ⟨T', h', X', e', W, st⟩ := putFN X hx hZ hown w via eT F E L wi hty hn hf (g := mkF m pc Ls (v :: .ref a :: St)) rfl rfl hd
  exact own_lift st (k T' h' X' e' W)
theorem own_new (X : Stand p l e R s m args below meth c T locs cells slots) (hx : p.tables.exec = Jvm.exec) (hZ : Z.Warmed39 s.vm) {own C : String} {index n : Nat} (hown : s.vm.findClass own = some m.cls) (w : (Cond.classLink own index C).before a0 Z = true) (wi : (Cond.instantiable C n).before a0 Z = true) (wz : (Cond.initialized C).before a0 Z = true) (eT : T.heap = h) {pc : Nat} {Ls : Array Slot} {St : List Value} (hd : decode c.code pc = .ok (.new index, 3)) (hc : cells + 1 ≤ R.cells) (hl : slots + n ≤ R.slots)
    (k : ∀ T' h' b, b = h.size → Stand p l e R s m args below meth c T' locs (cells + 1) (slots + n) → T'.heap = h' → Ext h h' → Exa Z h' b C → (∀ {O nm d : String} {ty : FieldType}, Laid Z a0 C O nm d → parseFieldDescriptor d = some ty → Fld Z h' b O nm d (defaultValue ty)) → own_R p e below s Q ck sk T' (mkF m (pc + 3) Ls (.ref b :: St))) : own_R p e below s Q ck sk T (mkF m pc Ls St) := by
  obtain ⟨T', h', X', e', E, A, D, -, st⟩ := newO X hx hZ hown w wi wz eT (g := mkF m pc Ls St) rfl hd hc hl
  exact own_lift st (k T' h' _ rfl X' e' E A D)
theorem own_newA (X : Stand p l e R s m args below meth c T locs cells slots) (hx : p.tables.exec = Jvm.exec) (hZ : Z.Warmed39 s.vm) {aty : ArrayType} (w : (Cond.arrayClass (newarray.typeOf aty)).before a0 Z = true) (eT : T.heap = h) {pc : Nat} {Ls : Array Slot} {St : List Value} {n : Int32} (hd : decode c.code pc = .ok (.newarray aty, 2)) (hn : ¬ n < 0) (cap : Nat) (hcap : n.toNatClampNeg ≤ cap) (hb : cap * 8 ≤ 536870912) (hc : cells + 1 ≤ R.cells) (hl : slots + cap ≤ R.slots) {ad : String} (had : "[" ++ (newarray.typeOf aty).toString = ad) (N : Nat)
    (k : ∀ T' h' b kA, b = h.size → Stand p l e R s m args below meth c T' locs (cells + 1) (slots + cap) → T'.heap = h' → Ext h h' → Arv Z h' b kA (newarray.typeOf aty) n (List.replicate N (defaultValue (newarray.typeOf aty))) (defaultValue (newarray.typeOf aty)) → Exa Z h' b ad → own_R p e below s Q ck sk T' (mkF m (pc + 2) Ls (.ref b :: St))) : own_R p e below s Q ck sk T (mkF m pc Ls (.int n :: St)) := by
  obtain ⟨T', h', kA, X', e', E, A, EA, st⟩ := newPE X hx hZ w eT (g := mkF m pc Ls (.int n :: St)) rfl hd rfl hn hcap hb hc hl had
  have V := (Arv.new A hn).pad (vs' := List.replicate N (defaultValue (newarray.typeOf aty))) (fun i => pad_rep [] (defaultValue (newarray.typeOf aty)) N i)
  exact own_lift st (k T' h' _ kA rfl X' e' E V EA)
theorem own_len (X : Stand p l e R s m args below meth c T locs cells slots) (hx : p.tables.exec = Jvm.exec) (hZ : Z.Warmed39 s.vm) (eT : T.heap = h) {a : Addr} {kA : ClassId} {ty : FieldType} {n : Int32} {vs : List Value} {dv : Value} (V : Arv Z h a kA ty n vs dv) {pc : Nat} {Ls : Array Slot} {St : List Value} (hd : decode c.code pc = .ok (.arraylength, 1))
    (k : own_R p e below s Q ck sk T (mkF m (pc + 1) Ls (.int n :: St))) : own_R p e below s Q ck sk T (mkF m pc Ls (.ref a :: St)) := by
  obtain ⟨cl, A, -, S, N, -⟩ := V
  rw [← len_of S N] at k
  exact own_lift (fun _ q => X.arraylength hx (by rw [eT]; exact A.1) (State.isArrayOf_alike hZ.alike A.2.1) (g := mkF m pc Ls (.ref a :: St)) rfl rfl hd _ q) k
theorem own_baload (X : Stand p l e R s m args below meth c T locs cells slots) (hx : p.tables.exec = Jvm.exec) (hZ : Z.Warmed39 s.vm) (eT : T.heap = h) {a : Addr} {kA : ClassId} {n : Int32} {vs : List Value} {dv v : Value} (V : Arv Z h a kA .byte n vs dv) {pc : Nat} {Ls : Array Slot} {St : List Value} {j : Int32} (hj : ¬ j < 0 ∧ j < n) (hv : vs.getD j.toNatClampNeg dv = v) (hd : decode c.code pc = .ok (.baload, 1))
    (k : own_R p e below s Q ck sk T (mkF m (pc + 1) Ls (v :: St))) : own_R p e below s Q ck sk T (mkF m pc Ls (.int j :: .ref a :: St)) := by
  obtain ⟨cl, A, -, S, N, H, -⟩ := V
  have hin := inb_of S hj
  exact own_lift (fun _ q => X.baloadBytes hx (by rw [eT]; exact A.1) (State.isArrayOf_alike hZ.alike A.2.1) A.2.2 hin (H.at hin hv) (g := mkF m pc Ls (.int j :: .ref a :: St)) rfl rfl hd _ q) k
theorem own_zaload (X : Stand p l e R s m args below meth c T locs cells slots) (hx : p.tables.exec = Jvm.exec) (hZ : Z.Warmed39 s.vm) (eT : T.heap = h) {a : Addr} {kA : ClassId} {n : Int32} {vs : List Value} {dv v : Value} (V : Arv Z h a kA .boolean n vs dv) {pc : Nat} {Ls : Array Slot} {St : List Value} {j : Int32} (hj : ¬ j < 0 ∧ j < n) (hv : vs.getD j.toNatClampNeg dv = v) (hd : decode c.code pc = .ok (.baload, 1))
    (k : own_R p e below s Q ck sk T (mkF m (pc + 1) Ls (v :: St))) : own_R p e below s Q ck sk T (mkF m pc Ls (.int j :: .ref a :: St)) := by
  obtain ⟨cl, A, -, S, N, H, -⟩ := V
  have hin := inb_of S hj
  exact own_lift (fun _ q => X.baloadBooleans hx (by rw [eT]; exact A.1) (State.isArrayOf_alike hZ.alike A.2.1) A.2.2 hin (H.at hin hv) (g := mkF m pc Ls (.int j :: .ref a :: St)) rfl rfl hd _ q) k
theorem own_caload (X : Stand p l e R s m args below meth c T locs cells slots) (hx : p.tables.exec = Jvm.exec) (hZ : Z.Warmed39 s.vm) (eT : T.heap = h) {a : Addr} {kA : ClassId} {n : Int32} {vs : List Value} {dv v : Value} (V : Arv Z h a kA .char n vs dv) {pc : Nat} {Ls : Array Slot} {St : List Value} {j : Int32} (hj : ¬ j < 0 ∧ j < n) (hv : vs.getD j.toNatClampNeg dv = v) (hd : decode c.code pc = .ok (.caload, 1))
    (k : own_R p e below s Q ck sk T (mkF m (pc + 1) Ls (v :: St))) : own_R p e below s Q ck sk T (mkF m pc Ls (.int j :: .ref a :: St)) := by
  obtain ⟨cl, A, -, S, N, H, -⟩ := V
  have hin := inb_of S hj
  exact own_lift (fun _ q => X.caload hx (by rw [eT]; exact A.1) (State.isArrayOf_alike hZ.alike A.2.1) A.2.2 hin (H.at hin hv) (g := mkF m pc Ls (.int j :: .ref a :: St)) rfl rfl hd _ q) k
theorem own_iaload (X : Stand p l e R s m args below meth c T locs cells slots) (hx : p.tables.exec = Jvm.exec) (hZ : Z.Warmed39 s.vm) (eT : T.heap = h) {a : Addr} {kA : ClassId} {n : Int32} {vs : List Value} {dv v : Value} (V : Arv Z h a kA .int n vs dv) {pc : Nat} {Ls : Array Slot} {St : List Value} {j : Int32} (hj : ¬ j < 0 ∧ j < n) (hv : vs.getD j.toNatClampNeg dv = v) (hd : decode c.code pc = .ok (.iaload, 1))
    (k : own_R p e below s Q ck sk T (mkF m (pc + 1) Ls (v :: St))) : own_R p e below s Q ck sk T (mkF m pc Ls (.int j :: .ref a :: St)) := by
  obtain ⟨cl, A, -, S, N, H, -⟩ := V
  have hin := inb_of S hj
  exact own_lift (fun _ q => X.iaload hx (by rw [eT]; exact A.1) (State.isArrayOf_alike hZ.alike A.2.1) A.2.2 hin (H.at hin hv) (g := mkF m pc Ls (.int j :: .ref a :: St)) rfl rfl hd _ q) k
theorem own_bastore (X : Stand p l e R s m args below meth c T locs cells slots) (hx : p.tables.exec = Jvm.exec) (hZ : Z.Warmed39 s.vm) (eT : T.heap = h) {a : Addr} {kA : ClassId} {n : Int32} {vs : List Value} {dv : Value} (V : Arv Z h a kA .byte n vs dv) {pc : Nat} {Ls : Array Slot} {St : List Value} {j x x' : Int32} (hn : nar .byte x = x') (hj : ¬ j < 0 ∧ j < n) (i : Nat) (hi : j.toNatClampNeg = i) (hl : i < vs.length) (hd : decode c.code pc = .ok (.bastore, 1))
    (k : ∀ T' h', Stand p l e R s m args below meth c T' (locs ++ [⟨a, j.toNatClampNeg⟩]) cells slots → T'.heap = h' → Wr h h' a j.toNatClampNeg (.int x') → Arv Z h' a kA .byte n (vs.set i (.int x')) dv → own_R p e below s Q ck sk T' (mkF m (pc + 1) Ls St)) : own_R p e below s Q ck sk T (mkF m pc Ls (.int x :: .int j :: .ref a :: St)) := by
  obtain ⟨cl, A, q1, S, N, H, G⟩ := V
  have hin := inb_of S hj
  obtain ⟨T', h', X', e', W, st⟩ := stB X hx hZ eT A hin (g := mkF m pc Ls (.int x :: .int j :: .ref a :: St)) rfl rfl hd
  subst hn
  exact own_lift st (k T' h' X' e' W (Arv.set A q1 S N H G (fits_nar_byte _) W i hi hl))
theorem own_zastore (X : Stand p l e R s m args below meth c T locs cells slots) (hx : p.tables.exec = Jvm.exec) (hZ : Z.Warmed39 s.vm) (eT : T.heap = h) {a : Addr} {kA : ClassId} {n : Int32} {vs : List Value} {dv : Value} (V : Arv Z h a kA .boolean n vs dv) {pc : Nat} {Ls : Array Slot} {St : List Value} {j x x' : Int32} (hn : nar .boolean x = x') (hj : ¬ j < 0 ∧ j < n) (i : Nat) (hi : j.toNatClampNeg = i) (hl : i < vs.length) (hd : decode c.code pc = .ok (.bastore, 1))
    (k : ∀ T' h', Stand p l e R s m args below meth c T' (locs ++ [⟨a, j.toNatClampNeg⟩]) cells slots → T'.heap = h' → Wr h h' a j.toNatClampNeg (.int x') → Arv Z h' a kA .boolean n (vs.set i (.int x')) dv → own_R p e below s Q ck sk T' (mkF m (pc + 1) Ls St)) : own_R p e below s Q ck sk T (mkF m pc Ls (.int x :: .int j :: .ref a :: St)) := by
  obtain ⟨cl, A, q1, S, N, H, G⟩ := V
  have hin := inb_of S hj
  obtain ⟨T', h', X', e', W, st⟩ := stZ X hx hZ eT A hin (g := mkF m pc Ls (.int x :: .int j :: .ref a :: St)) rfl rfl hd
  subst hn
  exact own_lift st (k T' h' X' e' W (Arv.set A q1 S N H G (fits_nar_bool _) W i hi hl))
theorem own_castore (X : Stand p l e R s m args below meth c T locs cells slots) (hx : p.tables.exec = Jvm.exec) (hZ : Z.Warmed39 s.vm) (eT : T.heap = h) {a : Addr} {kA : ClassId} {n : Int32} {vs : List Value} {dv : Value} (V : Arv Z h a kA .char n vs dv) {pc : Nat} {Ls : Array Slot} {St : List Value} {j x x' : Int32} (hn : nar .char x = x') (hj : ¬ j < 0 ∧ j < n) (i : Nat) (hi : j.toNatClampNeg = i) (hl : i < vs.length) (hd : decode c.code pc = .ok (.castore, 1))
    (k : ∀ T' h', Stand p l e R s m args below meth c T' (locs ++ [⟨a, j.toNatClampNeg⟩]) cells slots → T'.heap = h' → Wr h h' a j.toNatClampNeg (.int x') → Arv Z h' a kA .char n (vs.set i (.int x')) dv → own_R p e below s Q ck sk T' (mkF m (pc + 1) Ls St)) : own_R p e below s Q ck sk T (mkF m pc Ls (.int x :: .int j :: .ref a :: St)) := by
  obtain ⟨cl, A, q1, S, N, H, G⟩ := V
  have hin := inb_of S hj
  obtain ⟨T', h', X', e', W, st⟩ := stC X hx hZ eT A hin (g := mkF m pc Ls (.int x :: .int j :: .ref a :: St)) rfl rfl hd
  subst hn
  exact own_lift st (k T' h' X' e' W (Arv.set A q1 S N H G (fits_nar_char _) W i hi hl))
theorem own_iastore (X : Stand p l e R s m args below meth c T locs cells slots) (hx : p.tables.exec = Jvm.exec) (hZ : Z.Warmed39 s.vm) (eT : T.heap = h) {a : Addr} {kA : ClassId} {n : Int32} {vs : List Value} {dv : Value} (V : Arv Z h a kA .int n vs dv) {pc : Nat} {Ls : Array Slot} {St : List Value} {j x x' : Int32} (hn : x = x') (hj : ¬ j < 0 ∧ j < n) (i : Nat) (hi : j.toNatClampNeg = i) (hl : i < vs.length) (hd : decode c.code pc = .ok (.iastore, 1))
    (k : ∀ T' h', Stand p l e R s m args below meth c T' (locs ++ [⟨a, j.toNatClampNeg⟩]) cells slots → T'.heap = h' → Wr h h' a j.toNatClampNeg (.int x') → Arv Z h' a kA .int n (vs.set i (.int x')) dv → own_R p e below s Q ck sk T' (mkF m (pc + 1) Ls St)) : own_R p e below s Q ck sk T (mkF m pc Ls (.int x :: .int j :: .ref a :: St)) := by
  obtain ⟨cl, A, q1, S, N, H, G⟩ := V
  have hin := inb_of S hj
  obtain ⟨T', h', X', e', W, st⟩ := stI X hx hZ eT A hin (g := mkF m pc Ls (.int x :: .int j :: .ref a :: St)) rfl rfl hd
  subst hn
  exact own_lift st (k T' h' X' e' W (Arv.set A q1 S N H G rfl W i hi hl))
theorem own_initO (X : Stand p l e R s m args below meth c T locs cells slots) (hx : p.tables.exec = Jvm.exec) (hZ : Z.Warmed39 s.vm) {own : String} {idx : Nat} (hown : s.vm.findClass own = some m.cls) (w1 : (Cond.methodLink own idx Lib.objectInit).before a0 Z = true) (w2 : (Cond.instanceMethod Lib.objectInit).before a0 Z = true)
    (w3 : (Cond.code Lib.objectInit ⟨#[0xb1]⟩ 1 none).before a0 Z = true) (eT : T.heap = h) {pc : Nat} {Ls : Array Slot} {St : List Value} {a : Addr} (hsize : Ls.size = c.maxLocals) (hd : decode c.code pc = .ok (.invokespecial idx, 3)) (hf : 1 ≤ R.frames) {W : Nat} (hW : (St.map fun v => v.category).sum ≤ W) (hl : W + 12 ≤ R.locals)
    (k : ∀ T', Stand p l e R s m args below meth c T' locs cells slots → T'.heap = h → own_R p e below s Q ck sk T' (mkF m (pc + 3) Ls St)) : own_R p e below s Q ck sk T (mkF m pc Ls (.ref a :: St)) := by
  obtain ⟨T', X', e', st⟩ := initO X hx hZ hown w1 w2 w3 eT (g := mkF m pc Ls (.ref a :: St)) rfl hsize rfl hd hf (W := W) (by show 2 * 0 + _ ≤ _; omega) hl
  exact own_lift st (k T' X' e')
/-! calls by contract -/
theorem own_callS (X : Stand p l e R s m args below meth c T locs cells slots) (hx : p.tables.exec = Jvm.exec) (hZ : Z.Warmed39 s.vm) {own : String} {index : Nat} {y : MethodName} {bytes : ByteArray} {maxL : Nat} {ret : Option FieldType} {rm : Room} {as' : Array Value} {Q' : Option Value → Heap → List Loc → Prop}
    (hown : s.vm.findClass own = some m.cls) (w1 : (Cond.methodLink own index y).before a0 Z = true) (w2 : (Cond.static y).before a0 Z = true) (w3 : (Cond.initialized y.cls).before a0 Z = true) (w4 : (Cond.code y bytes maxL ret).before a0 Z = true) (hy : y.cls ≠ "java/lang/invoke/MethodHandle" ∧ y.cls ≠ "java/lang/invoke/VarHandle")
    (hM : MetFree l y (head1 [Cond.code y bytes maxL ret] rm) (fun a U => a = as' ∧ Z.Warmed39 U.vm ∧ U.heap = h) (fun _ _ _ _ _ => True) (fun _ U o U' => ∃ v L, o = .returned v ∧ Q' v U'.heap L ∧ FrameEnd U o U' L rm.cells rm.slots))
    (W : Nat) (hf : rm.frames + 1 ≤ R.frames) (hl : W + (maxL + 11) + rm.locals ≤ R.locals) (eT : T.heap = h) {pc : Nat} {Ls : Array Slot} {St : List Value} (hsize : Ls.size = c.maxLocals) (argsL rest : List Value) (has : as' = argsL.toArray) (hlen : ∀ sig, parseMethodDescriptor y.desc = some sig → argsL.length = sig.parameters.length) (hst : St = argsL.reverse ++ rest) (hW : (rest.map fun v => v.category).sum ≤ W)
    (hd : decode c.code pc = .ok (.invokestatic index, 3)) (hc : cells + rm.cells ≤ R.cells) (hs : slots + rm.slots ≤ R.slots)
    (k : ∀ T' v L, Stand p l e R s m args below meth c T' (locs ++ L) (cells + rm.cells) (slots + rm.slots) → Q' v T'.heap L → own_R p e below s Q ck sk T' (mkF m (pc + 3) Ls (v.toList ++ rest))) : own_R p e below s Q ck sk T (mkF m pc Ls St) := by
  obtain ⟨v, _, ⟨T', L', k', n'⟩, -, X', ⟨Lc, hQ, l', y', z'⟩, st⟩ := Jvm.LawKit.callS X hx (y := y) hown (mvT hZ w1) (mvT hZ w2) (mvT hZ w3) (mvT hZ w4) hy (backOf (W := W) hM hZ w4 w3 hf hl) (g := mkF m pc Ls St) rfl hsize (argsL := argsL) (rest := rest) hlen hst (by show 2 * 0 + _ ≤ _; omega) hd (fun _ _ => ⟨has.symm, eT, hc, hs⟩)
  dsimp only [Pt.U, Pt.locs, Pt.cells, Pt.slots] at X' l' y' z' st hQ
  subst l' y' z'
  exact own_lift st (k T' v Lc X' hQ)
theorem own_callI (X : Stand p l e R s m args below meth c T locs cells slots) (hx : p.tables.exec = Jvm.exec) (hZ : Z.Warmed39 s.vm) {own : String} {index : Nat} {y : MethodName} {bytes : ByteArray} {maxL : Nat} {rm : Room} {as' : Array Value} {Q' : Option Value → Heap → List Loc → Prop} (hy1 : y.name = "<init>")
    (hown : s.vm.findClass own = some m.cls) (w1 : (Cond.methodLink own index y).before a0 Z = true) (w2 : (Cond.instanceMethod y).before a0 Z = true) (w3 : (Cond.initialized y.cls).before a0 Z = true) (w4 : (Cond.code y bytes maxL none).before a0 Z = true) (hy : y.cls ≠ "java/lang/invoke/MethodHandle" ∧ y.cls ≠ "java/lang/invoke/VarHandle")
    (hM : MetFree l y (head1 [Cond.code y bytes maxL none] rm) (fun a U => a = as' ∧ Z.Warmed39 U.vm ∧ U.heap = h) (fun _ _ _ _ _ => True) (fun _ U o U' => ∃ v L, o = .returned v ∧ Q' v U'.heap L ∧ FrameEnd U o U' L rm.cells rm.slots))
    (W : Nat) (hf : rm.frames + 1 ≤ R.frames) (hl : W + (maxL + 11) + rm.locals ≤ R.locals) (eT : T.heap = h) {pc : Nat} {Ls : Array Slot} {St : List Value} (hsize : Ls.size = c.maxLocals) (a : Addr) (argsL rest : List Value) (has : as' = (.ref a :: argsL).toArray) (hlen : ∀ sig, parseMethodDescriptor y.desc = some sig → argsL.length = sig.parameters.length) (hst : St = argsL.reverse ++ .ref a :: rest) (hW : (rest.map fun v => v.category).sum ≤ W)
    (hd : decode c.code pc = .ok (.invokespecial index, 3)) (hc : cells + rm.cells ≤ R.cells) (hs : slots + rm.slots ≤ R.slots)
    (k : ∀ T' v L, Stand p l e R s m args below meth c T' (locs ++ L) (cells + rm.cells) (slots + rm.slots) → Q' v T'.heap L → own_R p e below s Q ck sk T' (mkF m (pc + 3) Ls (v.toList ++ rest))) : own_R p e below s Q ck sk T (mkF m pc Ls St) := by
  obtain ⟨v, _, ⟨T', L', k', n'⟩, -, X', ⟨Lc, hQ, l', y', z'⟩, st⟩ := X.specialBack hx (y := y) hy1 hown (mvT hZ w1) (mvT hZ w2) (mvT hZ w4) hy (backOf (W := W) hM hZ w4 w3 hf hl) (g := mkF m pc Ls St) rfl hsize (Steps.refl _) (a := a) (argsL := argsL) (rest := rest) hlen hst (by show 2 * 0 + _ ≤ _; omega) hd (fun _ _ => ⟨has.symm, eT, hc, hs⟩)
  dsimp only [Pt.U, Pt.locs, Pt.cells, Pt.slots] at X' l' y' z' st hQ
  subst l' y' z'
  exact own_lift (fun _ q => st.trans q) (k T' v Lc X' hQ)
theorem own_callV (X : Stand p l e R s m args below meth c T locs cells slots) (hx : p.tables.exec = Jvm.exec) (hZ : Z.Warmed39 s.vm) {own C : String} {index : Nat} {y z : MethodName} {bytes : ByteArray} {maxL : Nat} {ret : Option FieldType} {rm : Room} {as' : Array Value} {Q' : Option Value → Heap → List Loc → Prop}
    (hown : s.vm.findClass own = some m.cls) (w1 : (Cond.methodLink own index y).before a0 Z = true) (w2 : (Cond.declares y).before a0 Z = true) (nf : NotFace s y) (w5 : (Cond.selects C y z).before a0 Z = true) (w6 : (Cond.instanceMethod z).before a0 Z = true) (w3 : (Cond.initialized z.cls).before a0 Z = true) (w4 : (Cond.code z bytes maxL ret).before a0 Z = true) (hy : y.cls ≠ "java/lang/invoke/MethodHandle" ∧ y.cls ≠ "java/lang/invoke/VarHandle")
    (hM : MetFree l z (head1 [Cond.code z bytes maxL ret] rm) (fun a U => a = as' ∧ Z.Warmed39 U.vm ∧ U.heap = h) (fun _ _ _ _ _ => True) (fun _ U o U' => ∃ v L, o = .returned v ∧ Q' v U'.heap L ∧ FrameEnd U o U' L rm.cells rm.slots))
    (W : Nat) (hf : rm.frames + 1 ≤ R.frames) (hl : W + (maxL + 11) + rm.locals ≤ R.locals) (eT : T.heap = h) {pc : Nat} {Ls : Array Slot} {St : List Value} (hsize : Ls.size = c.maxLocals) (a : Addr) (E : Exa Z h a C) (argsL rest : List Value) (has : as' = (.ref a :: argsL).toArray) (hlen : ∀ sig, parseMethodDescriptor y.desc = some sig → argsL.length = sig.parameters.length) (hst : St = argsL.reverse ++ .ref a :: rest) (hW : (rest.map fun v => v.category).sum ≤ W)
    (hd : decode c.code pc = .ok (.invokevirtual index, 3)) (hc : cells + rm.cells ≤ R.cells) (hs : slots + rm.slots ≤ R.slots)
    (k : ∀ T' v L, Stand p l e R s m args below meth c T' (locs ++ L) (cells + rm.cells) (slots + rm.slots) → Q' v T'.heap L → own_R p e below s Q ck sk T' (mkF m (pc + 3) Ls (v.toList ++ rest))) : own_R p e below s Q ck sk T (mkF m pc Ls St) := by
  obtain ⟨cq, kq, qa, qb, qc⟩ := isOf hZ eT E
  obtain ⟨v, _, ⟨T', L', k', n'⟩, -, X', ⟨Lc, hQ, l', y', z'⟩, st⟩ := X.virtualBack hx (y := y) (z := z) hown (mvT hZ w1) (mvT hZ w2) nf (mvT hZ w5) (mvT hZ w6) hy (backOf (W := W) hM hZ w4 w3 hf hl) qa qc (g := mkF m pc Ls St) rfl hsize (Steps.refl _) (argsL := argsL) (rest := rest) hlen hst (by show 2 * 0 + _ ≤ _; omega) hd (fun _ _ => ⟨has.symm, eT, hc, hs⟩)
  dsimp only [Pt.U, Pt.locs, Pt.cells, Pt.slots] at X' l' y' z' st hQ
  subst l' y' z'
  exact own_lift (fun _ q => st.trans q) (k T' v Lc X' hQ)
end OwnKit

theorem pl_P (u : Int64) (s : Int32) (h1 : ¬ u < (-36028797018963967 : Int64)) (h2 : ¬ (36028797018963967 : Int64) < u) (h3 : ¬ s < 0) (h4 : ¬ (255 : Int32) < s) :
    ((u <<< ((8 : Int32) &&& 0x3f).toInt64) ||| s.toInt64).toInt = 256 * u.toInt + s.toInt ∧ -36028797018963967 ≤ u.toInt ∧ u.toInt ≤ 36028797018963967 ∧ 0 ≤ s.toInt ∧ s.toInt ≤ 255 := by
  rw [Int64.lt_iff_toInt_lt, show (-36028797018963967 : Int64).toInt = -36028797018963967 from by decide] at h1
  rw [Int64.lt_iff_toInt_lt, show (36028797018963967 : Int64).toInt = 36028797018963967 from by decide] at h2
  rw [Int32.lt_iff_toInt_lt, show (0 : Int32).toInt = 0 from by decide] at h3
  rw [Int32.lt_iff_toInt_lt, show (255 : Int32).toInt = 255 from by decide] at h4
  have a1 := c_lshl u (8 : Int32) 8 (by decide)
  have a2 := rng64 (u <<< ((8 : Int32) &&& 0x3f).toInt64)
  have a3 : (u <<< ((8 : Int32) &&& 0x3f).toInt64).toInt = 256 * u.toInt := by omega
  have a4 := c_orL (u <<< ((8 : Int32) &&& 0x3f).toInt64) s.toInt64 8 (by decide) 256 (by decide) (by omega) (by rw [c_i2l]; omega) (by rw [c_i2l]; omega)
  have a5 := rng64 ((u <<< ((8 : Int32) &&& 0x3f).toInt64) ||| s.toInt64)
  have a6 := c_i2l s
  omega
theorem pl_a (u : Int64) (s : Int32) (h1 : ¬ u < (-36028797018963967 : Int64)) (h2 : ¬ (36028797018963967 : Int64) < u) (h3 : ¬ s < 0) (h4 : ¬ (255 : Int32) < s) :
    ((u <<< ((8 : Int32) &&& 0x3f).toInt64) ||| s.toInt64) = u * (256 : Int64) + s.toInt64 := by
  apply Int64.toInt_inj.mp
  obtain ⟨b1, b2, b3, b4, b5⟩ := pl_P u s h1 h2 h3 h4
  have a1 := c_lmul u (256 : Int64)
  have a2 := c_ladd (u * (256 : Int64)) s.toInt64
  have a3 := rng64 (u * (256 : Int64))
  have a4 := rng64 (u * (256 : Int64) + s.toInt64)
  have a5 := c_i2l s
  rw [show (256 : Int64).toInt = 256 from by decide] at a1
  omega
theorem pl_b (u : Int64) (s : Int32) (h1 : ¬ u < (-36028797018963967 : Int64)) (h2 : ¬ (36028797018963967 : Int64) < u) (h3 : ¬ s < 0) (h4 : ¬ (255 : Int32) < s) :
    ¬ ((u <<< ((8 : Int32) &&& 0x3f).toInt64) ||| s.toInt64) = (-9223372036854775808 : Int64) := by
  intro q
  obtain ⟨b1, b2, b3, b4, b5⟩ := pl_P u s h1 h2 h3 h4
  rw [q, show (-9223372036854775808 : Int64).toInt = -9223372036854775808 from by decide] at b1
  omega
theorem pl_c (u : Int64) (s : Int32) (h1 : ¬ u < (-36028797018963967 : Int64)) (h2 : ¬ (36028797018963967 : Int64) < u) (h3 : ¬ s < 0) (h4 : ¬ (255 : Int32) < s) :
    (((u <<< ((8 : Int32) &&& 0x3f).toInt64) ||| s.toInt64) >>> ((8 : Int32) &&& 0x3f).toInt64) = u := by
  apply Int64.toInt_inj.mp
  obtain ⟨b1, b2, b3, b4, b5⟩ := pl_P u s h1 h2 h3 h4
  have a1 := c_lshr ((u <<< ((8 : Int32) &&& 0x3f).toInt64) ||| s.toInt64) (8 : Int32) 8 (by decide)
  omega
theorem pl_d (u : Int64) (s : Int32) (h1 : ¬ u < (-36028797018963967 : Int64)) (h2 : ¬ (36028797018963967 : Int64) < u) (h3 : ¬ s < 0) (h4 : ¬ (255 : Int32) < s) :
    (((u <<< ((8 : Int32) &&& 0x3f).toInt64) ||| s.toInt64) &&& (255 : Int64)).toInt32 = s := by
  apply Int32.toInt_inj.mp
  obtain ⟨b1, b2, b3, b4, b5⟩ := pl_P u s h1 h2 h3 h4
  have a1 := c_maskL ((u <<< ((8 : Int32) &&& 0x3f).toInt64) ||| s.toInt64) (255 : Int64) 8 (by decide) (by decide)
  have a2 := c_l2i (((u <<< ((8 : Int32) &&& 0x3f).toInt64) ||| s.toInt64) &&& (255 : Int64))
  have a3 := rng32 (((u <<< ((8 : Int32) &&& 0x3f).toInt64) ||| s.toInt64) &&& (255 : Int64)).toInt32
  omega

theorem d1_0 : decode prog_31_method_6_code 0 = .ok (.lload_n 0, 1) := by decide +kernel
theorem d1_1 : decode prog_31_method_6_code 1 = .ok (.ldc2_w 68, 3) := by decide +kernel
theorem d1_4 : decode prog_31_method_6_code 4 = .ok (.lcmp, 1) := by decide +kernel
theorem d1_5 : decode prog_31_method_6_code 5 = .ok (.ifCond .lt 26, 3) := by decide +kernel
theorem d1_8 : decode prog_31_method_6_code 8 = .ok (.lload_n 0, 1) := by decide +kernel
theorem d1_9 : decode prog_31_method_6_code 9 = .ok (.ldc2_w 46, 3) := by decide +kernel
theorem d1_12 : decode prog_31_method_6_code 12 = .ok (.lcmp, 1) := by decide +kernel
theorem d1_13 : decode prog_31_method_6_code 13 = .ok (.ifCond .gt 18, 3) := by decide +kernel
theorem d1_16 : decode prog_31_method_6_code 16 = .ok (.iload_n 2, 1) := by decide +kernel
theorem d1_17 : decode prog_31_method_6_code 17 = .ok (.ifCond .lt 14, 3) := by decide +kernel
theorem d1_20 : decode prog_31_method_6_code 20 = .ok (.iload_n 2, 1) := by decide +kernel
theorem d1_21 : decode prog_31_method_6_code 21 = .ok (.sipush 255, 3) := by decide +kernel
theorem d1_24 : decode prog_31_method_6_code 24 = .ok (.if_icmp .gt 7, 3) := by decide +kernel
theorem d1_27 : decode prog_31_method_6_code 27 = .ok (.iconst 1, 1) := by decide +kernel
theorem d1_28 : decode prog_31_method_6_code 28 = .ok (.goto 4, 3) := by decide +kernel
theorem d1_31 : decode prog_31_method_6_code 31 = .ok (.iconst 0, 1) := by decide +kernel
theorem d1_32 : decode prog_31_method_6_code 32 = .ok (.istore_n 3, 1) := by decide +kernel
theorem d1_33 : decode prog_31_method_6_code 33 = .ok (.iload_n 3, 1) := by decide +kernel
theorem d1_34 : decode prog_31_method_6_code 34 = .ok (.ifCond .eq 13, 3) := by decide +kernel
theorem d1_37 : decode prog_31_method_6_code 37 = .ok (.lload_n 0, 1) := by decide +kernel
theorem d1_38 : decode prog_31_method_6_code 38 = .ok (.bipush 8, 2) := by decide +kernel
theorem d1_40 : decode prog_31_method_6_code 40 = .ok (.lshl, 1) := by decide +kernel
theorem d1_41 : decode prog_31_method_6_code 41 = .ok (.iload_n 2, 1) := by decide +kernel
theorem d1_42 : decode prog_31_method_6_code 42 = .ok (.i2l, 1) := by decide +kernel
theorem d1_43 : decode prog_31_method_6_code 43 = .ok (.lor, 1) := by decide +kernel
theorem d1_44 : decode prog_31_method_6_code 44 = .ok (.goto 6, 3) := by decide +kernel
theorem d1_47 : decode prog_31_method_6_code 47 = .ok (.ldc2_w 31, 3) := by decide +kernel
theorem d1_50 : decode prog_31_method_6_code 50 = .ok (.lreturn, 1) := by decide +kernel
theorem d2_0 : decode prog_31_method_7_code 0 = .ok (.lload_n 0, 1) := by decide +kernel
theorem d2_1 : decode prog_31_method_7_code 1 = .ok (.bipush 8, 2) := by decide +kernel
theorem d2_3 : decode prog_31_method_7_code 3 = .ok (.lshr, 1) := by decide +kernel
theorem d2_4 : decode prog_31_method_7_code 4 = .ok (.lreturn, 1) := by decide +kernel
theorem d3_0 : decode prog_31_method_8_code 0 = .ok (.lload_n 0, 1) := by decide +kernel
theorem d3_1 : decode prog_31_method_8_code 1 = .ok (.ldc2_w 70, 3) := by decide +kernel
theorem d3_4 : decode prog_31_method_8_code 4 = .ok (.land, 1) := by decide +kernel
theorem d3_5 : decode prog_31_method_8_code 5 = .ok (.l2i, 1) := by decide +kernel
theorem d3_6 : decode prog_31_method_8_code 6 = .ok (.ireturn, 1) := by decide +kernel
theorem pd_0 : parseMethodDescriptor "(JI)J" = some ⟨[.long, .int], some .long⟩ := by decide +kernel
theorem pd_1 : parseMethodDescriptor "(J)J" = some ⟨[.long], some .long⟩ := by decide +kernel
theorem pd_2 : parseMethodDescriptor "(J)I" = some ⟨[.long], some .int⟩ := by decide +kernel
def pl_un (q0 : Int64) : Int64 := (q0 >>> ((8 : Int32) &&& 0x3f).toInt64)
theorem pn_2 : plainFor (⟨"com/example/crackwise/crackwise/PlainDecimal", "unscaled", "(J)J"⟩ : MethodName) = true := by decide +kernel
theorem ef_2 (m : MethodId) (q0 : Int64) : entryFrame m #[(.long q0)] 2 = mkF m 0 #[.val (.long q0), .second] [] := by first | (simp [entryFrame, mkF, argsToLocals, Value.category]; done) | rfl
def Q2 (Z : State) (q0 : Int64) (h0 : Heap) (n0 : Nat) (v : Option Value) (h : Heap) (L : List Loc) : Prop := v = some (.long (pl_un q0)) ∧ Fr n0 L ∧ h = h0
set_option maxRecDepth 65536 in
set_option maxHeartbeats 40000000 in
theorem rm2 (l : Launch) (Z : State) (a0 : Array Value) (hw : ∀ d ∈ tables_1, d.before a0 Z = true) (ws : List Jvm.Cond) (q0 : Int64) (h0 : Heap) (n0 : Nat) (Z0 : n0 ≤ h0.size) :
    MetFree l (⟨"com/example/crackwise/crackwise/PlainDecimal", "unscaled", "(J)J"⟩ : MethodName) (head1 (Jvm.Cond.code (⟨"com/example/crackwise/crackwise/PlainDecimal", "unscaled", "(J)J"⟩ : MethodName) prog_31_method_7_code 2 (some .long) :: ws) ({ frames := 0, cells := 0, slots := 0, locals := 0 } : Room)) (fun a U => a = #[(.long q0)] ∧ Z.Warmed39 U.vm ∧ U.heap = h0) (fun _ _ _ _ _ => True) (fun _ U o U' => ∃ v L, o = .returned v ∧ Q2 Z q0 h0 n0 v U'.heap L ∧ FrameEnd U o U' L ({ frames := 0, cells := 0, slots := 0, locals := 0 } : Room).cells ({ frames := 0, cells := 0, slots := 0, locals := 0 } : Room).slots) := by
  refine MetFree.of_bodySF pn_2 hisR ?_
  intro p e s m args below meth c s₁ Bd hml0 hP hK
  obtain ⟨rfl, hZ, hh⟩ := hP
  have hx := Bd.exec
  have hby := Bd.bytes
  have hml : c.maxLocals = 2 := hml0
  have hown : s.vm.findClass "com/example/crackwise/crackwise/PlainDecimal" = some m.cls := findClass_of_methodNamed Bd.named
  have hnm := (name_of_methodNamed Bd.named Bd.method).1
  have hlk := BodyLoose.notSynchronized Bd
  have X0 : Stand p l e ({ frames := 0, cells := 0, slots := 0, locals := 0 } : Room) s m #[(.long q0)] below meth c s₁ [] 0 0 := Stand.of_body Bd
  have e0 : s₁.heap = h0 := by rw [← hh, Bd.state]; rfl
  have N0 := Fr.nil n0
  show own_R p e below s (Q2 Z q0 h0 n0) ({ frames := 0, cells := 0, slots := 0, locals := 0 } : Room).cells ({ frames := 0, cells := 0, slots := 0, locals := 0 } : Room).slots s₁ (entryFrame m #[(.long q0)] 2)
  refine own_cast (ef_2 m q0) ?_
  show own_R p e below s _ _ _ s₁ (mkF m 0 #[.val (.long q0), .second] [])
  refine own_lloadN X0 hx (hb hby d2_0) rfl ?_
  show own_R p e below s _ _ _ s₁ (mkF m 1 #[.val (.long q0), .second] [(.long q0)])
  refine own_bipush X0 hx (8 : Int32) (hb hby d2_1) rfl ?_
  show own_R p e below s _ _ _ s₁ (mkF m 3 #[.val (.long q0), .second] [(.int (8 : Int32)), (.long q0)])
  refine own_lshr X0 hx (hb hby d2_3) ?_
  show own_R p e below s _ _ _ s₁ (mkF m 4 #[.val (.long q0), .second] [(.long (q0 >>> ((8 : Int32) &&& 0x3f).toInt64))])
  refine own_retJ X0 hx Bd.returns hlk (hb hby d2_4) ?_ (by decide) (by decide)
  refine ⟨?_, N0, e0⟩
  show some (Value.long _) = some (Value.long (pl_un q0))
  rw [pl_un] <;> first | rfl | decide
def pl_sc (q0 : Int64) : Int32 := ((q0 &&& (255 : Int64)).toInt32)
theorem pn_3 : plainFor (⟨"com/example/crackwise/crackwise/PlainDecimal", "scale", "(J)I"⟩ : MethodName) = true := by decide +kernel
theorem ef_3 (m : MethodId) (q0 : Int64) : entryFrame m #[(.long q0)] 2 = mkF m 0 #[.val (.long q0), .second] [] := by first | (simp [entryFrame, mkF, argsToLocals, Value.category]; done) | rfl
def Q3 (Z : State) (q0 : Int64) (h0 : Heap) (n0 : Nat) (v : Option Value) (h : Heap) (L : List Loc) : Prop := v = some (.int (pl_sc q0)) ∧ Fr n0 L ∧ h = h0
set_option maxRecDepth 65536 in
set_option maxHeartbeats 40000000 in
theorem rm3 (l : Launch) (Z : State) (a0 : Array Value) (hw : ∀ d ∈ tables_1, d.before a0 Z = true) (ws : List Jvm.Cond) (q0 : Int64) (h0 : Heap) (n0 : Nat) (Z0 : n0 ≤ h0.size) :
    MetFree l (⟨"com/example/crackwise/crackwise/PlainDecimal", "scale", "(J)I"⟩ : MethodName) (head1 (Jvm.Cond.code (⟨"com/example/crackwise/crackwise/PlainDecimal", "scale", "(J)I"⟩ : MethodName) prog_31_method_8_code 2 (some .int) :: ws) ({ frames := 0, cells := 0, slots := 0, locals := 0 } : Room)) (fun a U => a = #[(.long q0)] ∧ Z.Warmed39 U.vm ∧ U.heap = h0) (fun _ _ _ _ _ => True) (fun _ U o U' => ∃ v L, o = .returned v ∧ Q3 Z q0 h0 n0 v U'.heap L ∧ FrameEnd U o U' L ({ frames := 0, cells := 0, slots := 0, locals := 0 } : Room).cells ({ frames := 0, cells := 0, slots := 0, locals := 0 } : Room).slots) := by
  refine MetFree.of_bodySF pn_3 hisR ?_
  intro p e s m args below meth c s₁ Bd hml0 hP hK
  obtain ⟨rfl, hZ, hh⟩ := hP
  have hx := Bd.exec
  have hby := Bd.bytes
  have hml : c.maxLocals = 2 := hml0
  have hown : s.vm.findClass "com/example/crackwise/crackwise/PlainDecimal" = some m.cls := findClass_of_methodNamed Bd.named
  have hnm := (name_of_methodNamed Bd.named Bd.method).1
  have hlk := BodyLoose.notSynchronized Bd
  have X0 : Stand p l e ({ frames := 0, cells := 0, slots := 0, locals := 0 } : Room) s m #[(.long q0)] below meth c s₁ [] 0 0 := Stand.of_body Bd
  have e0 : s₁.heap = h0 := by rw [← hh, Bd.state]; rfl
  have N0 := Fr.nil n0
  show own_R p e below s (Q3 Z q0 h0 n0) ({ frames := 0, cells := 0, slots := 0, locals := 0 } : Room).cells ({ frames := 0, cells := 0, slots := 0, locals := 0 } : Room).slots s₁ (entryFrame m #[(.long q0)] 2)
  refine own_cast (ef_3 m q0) ?_
  show own_R p e below s _ _ _ s₁ (mkF m 0 #[.val (.long q0), .second] [])
  refine own_lloadN X0 hx (hb hby d3_0) rfl ?_
  show own_R p e below s _ _ _ s₁ (mkF m 1 #[.val (.long q0), .second] [(.long q0)])
  refine own_ldc2 X0 hx hZ hown (hw _ (List.mem_of_getElem? (i := 15) rfl)) (hb hby d3_1) ?_
  show own_R p e below s _ _ _ s₁ (mkF m 4 #[.val (.long q0), .second] [(.long (255 : Int64)), (.long q0)])
  refine own_land X0 hx (hb hby d3_4) ?_
  show own_R p e below s _ _ _ s₁ (mkF m 5 #[.val (.long q0), .second] [(.long (q0 &&& (255 : Int64)))])
  refine own_l2i X0 hx (hb hby d3_5) ?_
  show own_R p e below s _ _ _ s₁ (mkF m 6 #[.val (.long q0), .second] [(.int ((q0 &&& (255 : Int64)).toInt32))])
  refine own_retI X0 hx Bd.returns hlk (hb hby d3_6) ?_ (by decide) (by decide)
  refine ⟨?_, N0, e0⟩
  show some (Value.int _) = some (Value.int (pl_sc q0))
  rw [pl_sc] <;> first | rfl | decide
def pl_pk (q0 : Int64) (p2 : Int32) : Int64 := if q0 < (-36028797018963967 : Int64) then (-9223372036854775808 : Int64) else if (36028797018963967 : Int64) < q0 then (-9223372036854775808 : Int64) else if p2 < (0 : Int32) then (-9223372036854775808 : Int64) else if (255 : Int32) < p2 then (-9223372036854775808 : Int64) else ((q0 <<< ((8 : Int32) &&& 0x3f).toInt64) ||| p2.toInt64)
theorem pn_1 : plainFor (⟨"com/example/crackwise/crackwise/PlainDecimal", "packed", "(JI)J"⟩ : MethodName) = true := by decide +kernel
theorem ef_1 (m : MethodId) (q0 : Int64) (p2 : Int32) : entryFrame m #[(.long q0), (.int p2)] 4 = mkF m 0 #[.val (.long q0), .second, .val (.int p2), .unset] [] := by first | (simp [entryFrame, mkF, argsToLocals, Value.category]; done) | rfl
def Q1 (Z : State) (q0 : Int64) (p2 : Int32) (h0 : Heap) (n0 : Nat) (v : Option Value) (h : Heap) (L : List Loc) : Prop := v = some (.long (pl_pk q0 p2)) ∧ Fr n0 L ∧ h = h0
set_option maxRecDepth 65536 in
set_option maxHeartbeats 40000000 in
theorem rm1 (l : Launch) (Z : State) (a0 : Array Value) (hw : ∀ d ∈ tables_1, d.before a0 Z = true) (ws : List Jvm.Cond) (q0 : Int64) (p2 : Int32) (h0 : Heap) (n0 : Nat) (Z0 : n0 ≤ h0.size) :
    MetFree l (⟨"com/example/crackwise/crackwise/PlainDecimal", "packed", "(JI)J"⟩ : MethodName) (head1 (Jvm.Cond.code (⟨"com/example/crackwise/crackwise/PlainDecimal", "packed", "(JI)J"⟩ : MethodName) prog_31_method_6_code 4 (some .long) :: ws) ({ frames := 0, cells := 0, slots := 0, locals := 0 } : Room)) (fun a U => a = #[(.long q0), (.int p2)] ∧ Z.Warmed39 U.vm ∧ U.heap = h0) (fun _ _ _ _ _ => True) (fun _ U o U' => ∃ v L, o = .returned v ∧ Q1 Z q0 p2 h0 n0 v U'.heap L ∧ FrameEnd U o U' L ({ frames := 0, cells := 0, slots := 0, locals := 0 } : Room).cells ({ frames := 0, cells := 0, slots := 0, locals := 0 } : Room).slots) := by
  refine MetFree.of_bodySF pn_1 hisR ?_
  intro p e s m args below meth c s₁ Bd hml0 hP hK
  obtain ⟨rfl, hZ, hh⟩ := hP
  have hx := Bd.exec
  have hby := Bd.bytes
  have hml : c.maxLocals = 4 := hml0
  have hown : s.vm.findClass "com/example/crackwise/crackwise/PlainDecimal" = some m.cls := findClass_of_methodNamed Bd.named
  have hnm := (name_of_methodNamed Bd.named Bd.method).1
  have hlk := BodyLoose.notSynchronized Bd
  have X0 : Stand p l e ({ frames := 0, cells := 0, slots := 0, locals := 0 } : Room) s m #[(.long q0), (.int p2)] below meth c s₁ [] 0 0 := Stand.of_body Bd
  have e0 : s₁.heap = h0 := by rw [← hh, Bd.state]; rfl
  have N0 := Fr.nil n0
  show own_R p e below s (Q1 Z q0 p2 h0 n0) ({ frames := 0, cells := 0, slots := 0, locals := 0 } : Room).cells ({ frames := 0, cells := 0, slots := 0, locals := 0 } : Room).slots s₁ (entryFrame m #[(.long q0), (.int p2)] 4)
  refine own_cast (ef_1 m q0 p2) ?_
  show own_R p e below s _ _ _ s₁ (mkF m 0 #[.val (.long q0), .second, .val (.int p2), .unset] [])
  refine own_lloadN X0 hx (hb hby d1_0) rfl ?_
  show own_R p e below s _ _ _ s₁ (mkF m 1 #[.val (.long q0), .second, .val (.int p2), .unset] [(.long q0)])
  refine own_ldc2 X0 hx hZ hown (hw _ (List.mem_of_getElem? (i := 4) rfl)) (hb hby d1_1) ?_
  show own_R p e below s _ _ _ s₁ (mkF m 4 #[.val (.long q0), .second, .val (.int p2), .unset] [(.long (-36028797018963967 : Int64)), (.long q0)])
  refine own_lcmp X0 hx (hb hby d1_4) (hb hby d1_5) (pc' := 31) (by decide) (by decide) (fun hc => ?_) (fun hc => ?_)
  · have hc4 : q0 < (-36028797018963967 : Int64) := own_llt1 hc
    clear hc
    show own_R p e below s _ _ _ s₁ (mkF m 31 #[.val (.long q0), .second, .val (.int p2), .unset] [])
    refine own_iconst X0 hx (0 : Int32) (hb hby d1_31) rfl ?_
    show own_R p e below s _ _ _ s₁ (mkF m 32 #[.val (.long q0), .second, .val (.int p2), .unset] [(.int (0 : Int32))])
    refine own_istoreN X0 hx (hb hby d1_32) (l' := #[.val (.long q0), .second, .val (.int p2), .val (.int (0 : Int32))]) rfl ?_
    show own_R p e below s _ _ _ s₁ (mkF m 33 #[.val (.long q0), .second, .val (.int p2), .val (.int (0 : Int32))] [])
    refine own_iloadN X0 hx (hb hby d1_33) rfl ?_
    show own_R p e below s _ _ _ s₁ (mkF m 34 #[.val (.long q0), .second, .val (.int p2), .val (.int (0 : Int32))] [(.int (0 : Int32))])
    refine own_if X0 hx (hb hby d1_34) (pc' := 47) (by decide) (by decide) (fun hc => ?_) (fun hc => ?_)
    · have hc34 : (0 : Int32) = (0 : Int32) := own_eq1 hc
      clear hc
      show own_R p e below s _ _ _ s₁ (mkF m 47 #[.val (.long q0), .second, .val (.int p2), .val (.int (0 : Int32))] [])
      refine own_ldc2 X0 hx hZ hown (hw _ (List.mem_of_getElem? (i := 16) rfl)) (hb hby d1_47) ?_
      show own_R p e below s _ _ _ s₁ (mkF m 50 #[.val (.long q0), .second, .val (.int p2), .val (.int (0 : Int32))] [(.long (-9223372036854775808 : Int64))])
      refine own_retJ X0 hx Bd.returns hlk (hb hby d1_50) ?_ (by decide) (by decide)
      refine ⟨?_, N0, e0⟩
      show some (Value.long _) = some (Value.long (pl_pk q0 p2))
      rw [pl_pk, if_pos hc4] <;> first | rfl | decide
    · have hc34 : ¬ (0 : Int32) = (0 : Int32) := own_eq0 hc
      exact absurd rfl hc34
  · have hc4 : ¬ q0 < (-36028797018963967 : Int64) := own_llt0 hc
    clear hc
    show own_R p e below s _ _ _ s₁ (mkF m 8 #[.val (.long q0), .second, .val (.int p2), .unset] [])
    refine own_lloadN X0 hx (hb hby d1_8) rfl ?_
    show own_R p e below s _ _ _ s₁ (mkF m 9 #[.val (.long q0), .second, .val (.int p2), .unset] [(.long q0)])
    refine own_ldc2 X0 hx hZ hown (hw _ (List.mem_of_getElem? (i := 5) rfl)) (hb hby d1_9) ?_
    show own_R p e below s _ _ _ s₁ (mkF m 12 #[.val (.long q0), .second, .val (.int p2), .unset] [(.long (36028797018963967 : Int64)), (.long q0)])
    refine own_lcmp X0 hx (hb hby d1_12) (hb hby d1_13) (pc' := 31) (by decide) (by decide) (fun hc => ?_) (fun hc => ?_)
    · have hc12 : (36028797018963967 : Int64) < q0 := own_lgt1 hc
      clear hc
      show own_R p e below s _ _ _ s₁ (mkF m 31 #[.val (.long q0), .second, .val (.int p2), .unset] [])
      refine own_iconst X0 hx (0 : Int32) (hb hby d1_31) rfl ?_
      show own_R p e below s _ _ _ s₁ (mkF m 32 #[.val (.long q0), .second, .val (.int p2), .unset] [(.int (0 : Int32))])
      refine own_istoreN X0 hx (hb hby d1_32) (l' := #[.val (.long q0), .second, .val (.int p2), .val (.int (0 : Int32))]) rfl ?_
      show own_R p e below s _ _ _ s₁ (mkF m 33 #[.val (.long q0), .second, .val (.int p2), .val (.int (0 : Int32))] [])
      refine own_iloadN X0 hx (hb hby d1_33) rfl ?_
      show own_R p e below s _ _ _ s₁ (mkF m 34 #[.val (.long q0), .second, .val (.int p2), .val (.int (0 : Int32))] [(.int (0 : Int32))])
      refine own_if X0 hx (hb hby d1_34) (pc' := 47) (by decide) (by decide) (fun hc => ?_) (fun hc => ?_)
      · have hc34 : (0 : Int32) = (0 : Int32) := own_eq1 hc
        clear hc
        show own_R p e below s _ _ _ s₁ (mkF m 47 #[.val (.long q0), .second, .val (.int p2), .val (.int (0 : Int32))] [])
        refine own_ldc2 X0 hx hZ hown (hw _ (List.mem_of_getElem? (i := 16) rfl)) (hb hby d1_47) ?_
        show own_R p e below s _ _ _ s₁ (mkF m 50 #[.val (.long q0), .second, .val (.int p2), .val (.int (0 : Int32))] [(.long (-9223372036854775808 : Int64))])
        refine own_retJ X0 hx Bd.returns hlk (hb hby d1_50) ?_ (by decide) (by decide)
        refine ⟨?_, N0, e0⟩
        show some (Value.long _) = some (Value.long (pl_pk q0 p2))
        rw [pl_pk, if_neg hc4, if_pos hc12] <;> first | rfl | decide
      · have hc34 : ¬ (0 : Int32) = (0 : Int32) := own_eq0 hc
        exact absurd rfl hc34
    · have hc12 : ¬ (36028797018963967 : Int64) < q0 := own_lgt0 hc
      clear hc
      show own_R p e below s _ _ _ s₁ (mkF m 16 #[.val (.long q0), .second, .val (.int p2), .unset] [])
      refine own_iloadN X0 hx (hb hby d1_16) rfl ?_
      show own_R p e below s _ _ _ s₁ (mkF m 17 #[.val (.long q0), .second, .val (.int p2), .unset] [(.int p2)])
      refine own_if X0 hx (hb hby d1_17) (pc' := 31) (by decide) (by decide) (fun hc => ?_) (fun hc => ?_)
      · have hc17 : p2 < (0 : Int32) := own_lt1 hc
        clear hc
        show own_R p e below s _ _ _ s₁ (mkF m 31 #[.val (.long q0), .second, .val (.int p2), .unset] [])
        refine own_iconst X0 hx (0 : Int32) (hb hby d1_31) rfl ?_
        show own_R p e below s _ _ _ s₁ (mkF m 32 #[.val (.long q0), .second, .val (.int p2), .unset] [(.int (0 : Int32))])
        refine own_istoreN X0 hx (hb hby d1_32) (l' := #[.val (.long q0), .second, .val (.int p2), .val (.int (0 : Int32))]) rfl ?_
        show own_R p e below s _ _ _ s₁ (mkF m 33 #[.val (.long q0), .second, .val (.int p2), .val (.int (0 : Int32))] [])
        refine own_iloadN X0 hx (hb hby d1_33) rfl ?_
        show own_R p e below s _ _ _ s₁ (mkF m 34 #[.val (.long q0), .second, .val (.int p2), .val (.int (0 : Int32))] [(.int (0 : Int32))])
        refine own_if X0 hx (hb hby d1_34) (pc' := 47) (by decide) (by decide) (fun hc => ?_) (fun hc => ?_)
        · have hc34 : (0 : Int32) = (0 : Int32) := own_eq1 hc
          clear hc
          show own_R p e below s _ _ _ s₁ (mkF m 47 #[.val (.long q0), .second, .val (.int p2), .val (.int (0 : Int32))] [])
          refine own_ldc2 X0 hx hZ hown (hw _ (List.mem_of_getElem? (i := 16) rfl)) (hb hby d1_47) ?_
          show own_R p e below s _ _ _ s₁ (mkF m 50 #[.val (.long q0), .second, .val (.int p2), .val (.int (0 : Int32))] [(.long (-9223372036854775808 : Int64))])
          refine own_retJ X0 hx Bd.returns hlk (hb hby d1_50) ?_ (by decide) (by decide)
          refine ⟨?_, N0, e0⟩
          show some (Value.long _) = some (Value.long (pl_pk q0 p2))
          rw [pl_pk, if_neg hc4, if_neg hc12, if_pos hc17] <;> first | rfl | decide
        · have hc34 : ¬ (0 : Int32) = (0 : Int32) := own_eq0 hc
          exact absurd rfl hc34
      · have hc17 : ¬ p2 < (0 : Int32) := own_lt0 hc
        clear hc
        show own_R p e below s _ _ _ s₁ (mkF m 20 #[.val (.long q0), .second, .val (.int p2), .unset] [])
        refine own_iloadN X0 hx (hb hby d1_20) rfl ?_
        show own_R p e below s _ _ _ s₁ (mkF m 21 #[.val (.long q0), .second, .val (.int p2), .unset] [(.int p2)])
        refine own_sipush X0 hx (255 : Int32) (hb hby d1_21) rfl ?_
        show own_R p e below s _ _ _ s₁ (mkF m 24 #[.val (.long q0), .second, .val (.int p2), .unset] [(.int (255 : Int32)), (.int p2)])
        refine own_icmp X0 hx (hb hby d1_24) (pc' := 31) (by decide) (by decide) (fun hc => ?_) (fun hc => ?_)
        · have hc24 : (255 : Int32) < p2 := own_gt1 hc
          clear hc
          show own_R p e below s _ _ _ s₁ (mkF m 31 #[.val (.long q0), .second, .val (.int p2), .unset] [])
          refine own_iconst X0 hx (0 : Int32) (hb hby d1_31) rfl ?_
          show own_R p e below s _ _ _ s₁ (mkF m 32 #[.val (.long q0), .second, .val (.int p2), .unset] [(.int (0 : Int32))])
          refine own_istoreN X0 hx (hb hby d1_32) (l' := #[.val (.long q0), .second, .val (.int p2), .val (.int (0 : Int32))]) rfl ?_
          show own_R p e below s _ _ _ s₁ (mkF m 33 #[.val (.long q0), .second, .val (.int p2), .val (.int (0 : Int32))] [])
          refine own_iloadN X0 hx (hb hby d1_33) rfl ?_
          show own_R p e below s _ _ _ s₁ (mkF m 34 #[.val (.long q0), .second, .val (.int p2), .val (.int (0 : Int32))] [(.int (0 : Int32))])
          refine own_if X0 hx (hb hby d1_34) (pc' := 47) (by decide) (by decide) (fun hc => ?_) (fun hc => ?_)
          · have hc34 : (0 : Int32) = (0 : Int32) := own_eq1 hc
            clear hc
            show own_R p e below s _ _ _ s₁ (mkF m 47 #[.val (.long q0), .second, .val (.int p2), .val (.int (0 : Int32))] [])
            refine own_ldc2 X0 hx hZ hown (hw _ (List.mem_of_getElem? (i := 16) rfl)) (hb hby d1_47) ?_
            show own_R p e below s _ _ _ s₁ (mkF m 50 #[.val (.long q0), .second, .val (.int p2), .val (.int (0 : Int32))] [(.long (-9223372036854775808 : Int64))])
            refine own_retJ X0 hx Bd.returns hlk (hb hby d1_50) ?_ (by decide) (by decide)
            refine ⟨?_, N0, e0⟩
            show some (Value.long _) = some (Value.long (pl_pk q0 p2))
            rw [pl_pk, if_neg hc4, if_neg hc12, if_neg hc17, if_pos hc24] <;> first | rfl | decide
          · have hc34 : ¬ (0 : Int32) = (0 : Int32) := own_eq0 hc
            exact absurd rfl hc34
        · have hc24 : ¬ (255 : Int32) < p2 := own_gt0 hc
          clear hc
          show own_R p e below s _ _ _ s₁ (mkF m 27 #[.val (.long q0), .second, .val (.int p2), .unset] [])
          refine own_iconst X0 hx (1 : Int32) (hb hby d1_27) rfl ?_
          show own_R p e below s _ _ _ s₁ (mkF m 28 #[.val (.long q0), .second, .val (.int p2), .unset] [(.int (1 : Int32))])
          refine own_goto X0 hx (hb hby d1_28) (pc' := 32) (by decide) (by decide) ?_
          show own_R p e below s _ _ _ s₁ (mkF m 32 #[.val (.long q0), .second, .val (.int p2), .unset] [(.int (1 : Int32))])
          refine own_istoreN X0 hx (hb hby d1_32) (l' := #[.val (.long q0), .second, .val (.int p2), .val (.int (1 : Int32))]) rfl ?_
          show own_R p e below s _ _ _ s₁ (mkF m 33 #[.val (.long q0), .second, .val (.int p2), .val (.int (1 : Int32))] [])
          refine own_iloadN X0 hx (hb hby d1_33) rfl ?_
          show own_R p e below s _ _ _ s₁ (mkF m 34 #[.val (.long q0), .second, .val (.int p2), .val (.int (1 : Int32))] [(.int (1 : Int32))])
          refine own_if X0 hx (hb hby d1_34) (pc' := 47) (by decide) (by decide) (fun hc => ?_) (fun hc => ?_)
          · have hc34 : (1 : Int32) = (0 : Int32) := own_eq1 hc
            exact absurd hc34 (by decide)
          · have hc34 : ¬ (1 : Int32) = (0 : Int32) := own_eq0 hc
            clear hc
            show own_R p e below s _ _ _ s₁ (mkF m 37 #[.val (.long q0), .second, .val (.int p2), .val (.int (1 : Int32))] [])
            refine own_lloadN X0 hx (hb hby d1_37) rfl ?_
            show own_R p e below s _ _ _ s₁ (mkF m 38 #[.val (.long q0), .second, .val (.int p2), .val (.int (1 : Int32))] [(.long q0)])
            refine own_bipush X0 hx (8 : Int32) (hb hby d1_38) rfl ?_
            show own_R p e below s _ _ _ s₁ (mkF m 40 #[.val (.long q0), .second, .val (.int p2), .val (.int (1 : Int32))] [(.int (8 : Int32)), (.long q0)])
            refine own_lshl X0 hx (hb hby d1_40) ?_
            show own_R p e below s _ _ _ s₁ (mkF m 41 #[.val (.long q0), .second, .val (.int p2), .val (.int (1 : Int32))] [(.long (q0 <<< ((8 : Int32) &&& 0x3f).toInt64))])
            refine own_iloadN X0 hx (hb hby d1_41) rfl ?_
            show own_R p e below s _ _ _ s₁ (mkF m 42 #[.val (.long q0), .second, .val (.int p2), .val (.int (1 : Int32))] [(.int p2), (.long (q0 <<< ((8 : Int32) &&& 0x3f).toInt64))])
            refine own_i2l X0 hx (hb hby d1_42) ?_
            show own_R p e below s _ _ _ s₁ (mkF m 43 #[.val (.long q0), .second, .val (.int p2), .val (.int (1 : Int32))] [(.long (p2.toInt64)), (.long (q0 <<< ((8 : Int32) &&& 0x3f).toInt64))])
            refine own_lor X0 hx (hb hby d1_43) ?_
            show own_R p e below s _ _ _ s₁ (mkF m 44 #[.val (.long q0), .second, .val (.int p2), .val (.int (1 : Int32))] [(.long ((q0 <<< ((8 : Int32) &&& 0x3f).toInt64) ||| (p2.toInt64)))])
            refine own_goto X0 hx (hb hby d1_44) (pc' := 50) (by decide) (by decide) ?_
            show own_R p e below s _ _ _ s₁ (mkF m 50 #[.val (.long q0), .second, .val (.int p2), .val (.int (1 : Int32))] [(.long ((q0 <<< ((8 : Int32) &&& 0x3f).toInt64) ||| (p2.toInt64)))])
            refine own_retJ X0 hx Bd.returns hlk (hb hby d1_50) ?_ (by decide) (by decide)
            refine ⟨?_, N0, e0⟩
            show some (Value.long _) = some (Value.long (pl_pk q0 p2))
            rw [pl_pk, if_neg hc4, if_neg hc12, if_neg hc17, if_neg hc24] <;> first | rfl | decide
theorem pn_0 : plainFor (⟨"com/example/crackwise/crackwise/PlainDecimalPackedPinLaw", "law", "(JII)Z"⟩ : MethodName) = true := by decide +kernel
theorem ef_0 (m : MethodId) (q0 : Int64) (p2 : Int32) (p3 : Int32) : entryFrame m #[(.long q0), (.int p2), (.int p3)] maxLocals = mkF m 0 #[.val (.long q0), .second, .val (.int p2), .val (.int p3), .unset, .unset, .unset, .unset, .unset, .unset, .unset, .unset] [] := by first | (simp [entryFrame, mkF, argsToLocals, Value.category, maxLocals]; done) | rfl
def Q0 (Z : State) (q0 : Int64) (p2 : Int32) (p3 : Int32) (h0 : Heap) (n0 : Nat) (v : Option Value) (h : Heap) (L : List Loc) : Prop := v = some (.int 1) ∧ Fr n0 L
set_option maxRecDepth 65536 in
set_option maxHeartbeats 40000000 in
theorem rm0 (l : Launch) (Z : State) (a0 : Array Value) (hw : ∀ d ∈ tables_1, d.before a0 Z = true) (ws : List Jvm.Cond) (q0 : Int64) (p2 : Int32) (p3 : Int32) (h0 : Heap) (n0 : Nat) (Z0 : n0 ≤ h0.size) :
    MetFree l x (head1 (Jvm.Cond.code x code maxLocals ret :: ws) room_1) (fun a U => a = #[(.long q0), (.int p2), (.int p3)] ∧ Z.Warmed39 U.vm ∧ U.heap = h0) (fun _ _ _ _ _ => True) (fun _ U o U' => ∃ v L, o = .returned v ∧ Q0 Z q0 p2 p3 h0 n0 v U'.heap L ∧ FrameEnd U o U' L room_1.cells room_1.slots) := by
  refine MetFree.of_bodySF pn_0 hisR ?_
  intro p e s m args below meth c s₁ Bd hml0 hP hK
  obtain ⟨rfl, hZ, hh⟩ := hP
  have hx := Bd.exec
  have hby := Bd.bytes
  have hml : c.maxLocals = 12 := hml0
  have hown : s.vm.findClass "com/example/crackwise/crackwise/PlainDecimalPackedPinLaw" = some m.cls := findClass_of_methodNamed Bd.named
  have hnm := (name_of_methodNamed Bd.named Bd.method).1
  have hlk := BodyLoose.notSynchronized Bd
  have X0 : Stand p l e room_1 s m #[(.long q0), (.int p2), (.int p3)] below meth c s₁ [] 0 0 := Stand.of_body Bd
  have e0 : s₁.heap = h0 := by rw [← hh, Bd.state]; rfl
  have N0 := Fr.nil n0
  show own_R p e below s (Q0 Z q0 p2 p3 h0 n0) room_1.cells room_1.slots s₁ (entryFrame m #[(.long q0), (.int p2), (.int p3)] maxLocals)
  refine own_cast (ef_0 m q0 p2 p3) ?_
  show own_R p e below s _ _ _ s₁ (mkF m 0 #[.val (.long q0), .second, .val (.int p2), .val (.int p3), .unset, .unset, .unset, .unset, .unset, .unset, .unset, .unset] [])
  have J14 : ∀ (u : Int64), own_R p e below s (Q0 Z q0 p2 p3 h0 n0) room_1.cells room_1.slots s₁ (mkF m 14 #[.val (.long q0), .second, .val (.int p2), .val (.int p3), .unset, .unset, .unset, .unset, .unset, .unset, .unset, .unset] [(.long u)]) := by
    intro u
    refine own_lstore X0 hx (hb hby at_14) (l' := #[.val (.long q0), .second, .val (.int p2), .val (.int p3), .val (.long u), .second, .unset, .unset, .unset, .unset, .unset, .unset]) rfl ?_
    show own_R p e below s _ _ _ s₁ (mkF m 16 #[.val (.long q0), .second, .val (.int p2), .val (.int p3), .val (.long u), .second, .unset, .unset, .unset, .unset, .unset, .unset] [])
    have J31 : ∀ (t : Int32), own_R p e below s (Q0 Z q0 p2 p3 h0 n0) room_1.cells room_1.slots s₁ (mkF m 31 #[.val (.long q0), .second, .val (.int p2), .val (.int p3), .val (.long u), .second, .unset, .unset, .unset, .unset, .unset, .unset] [(.int t)]) := by
      intro t
      refine own_istore X0 hx (hb hby at_31) (l' := #[.val (.long q0), .second, .val (.int p2), .val (.int p3), .val (.long u), .second, .val (.int t), .unset, .unset, .unset, .unset, .unset]) rfl ?_
      show own_R p e below s _ _ _ s₁ (mkF m 33 #[.val (.long q0), .second, .val (.int p2), .val (.int p3), .val (.long u), .second, .val (.int t), .unset, .unset, .unset, .unset, .unset] [])
      refine own_lload X0 hx (hb hby at_33) rfl ?_
      show own_R p e below s _ _ _ s₁ (mkF m 35 #[.val (.long q0), .second, .val (.int p2), .val (.int p3), .val (.long u), .second, .val (.int t), .unset, .unset, .unset, .unset, .unset] [(.long u)])
      refine own_iload X0 hx (hb hby at_35) rfl ?_
      show own_R p e below s _ _ _ s₁ (mkF m 37 #[.val (.long q0), .second, .val (.int p2), .val (.int p3), .val (.long u), .second, .val (.int t), .unset, .unset, .unset, .unset, .unset] [(.int t), (.long u)])
      refine own_callS X0 hx hZ (y := (⟨"com/example/crackwise/crackwise/PlainDecimal", "packed", "(JI)J"⟩ : MethodName)) hown (hw _ (List.mem_of_getElem? (i := 0) rfl)) (hw _ (List.mem_of_getElem? (i := 1) rfl)) (hw _ (List.mem_of_getElem? (i := 2) rfl)) (hw _ (List.mem_of_getElem? (i := 3) rfl)) (by decide) (rm1 l Z a0 hw [] u t h0 n0 Z0) 0 (by decide) (by decide) e0 (by rw [hml]; rfl) [(.long u), (.int t)] [] rfl (lenOf pd_0 rfl) rfl (by decide) (hb hby at_37) (by decide) (by decide) ?_
      rintro T1 _ L1 X1 ⟨rfl, N1q, e1⟩
      have N1 := Fr.app N0 N1q
      show own_R p e below s _ _ _ T1 (mkF m 40 #[.val (.long q0), .second, .val (.int p2), .val (.int p3), .val (.long u), .second, .val (.int t), .unset, .unset, .unset, .unset, .unset] [(.long (pl_pk u t))])
      refine own_lstore X1 hx (hb hby at_40) (l' := #[.val (.long q0), .second, .val (.int p2), .val (.int p3), .val (.long u), .second, .val (.int t), .val (.long (pl_pk u t)), .second, .unset, .unset, .unset]) rfl ?_
      show own_R p e below s _ _ _ T1 (mkF m 42 #[.val (.long q0), .second, .val (.int p2), .val (.int p3), .val (.long u), .second, .val (.int t), .val (.long (pl_pk u t)), .second, .unset, .unset, .unset] [])
      refine own_ldc2 X1 hx hZ hown (hw _ (List.mem_of_getElem? (i := 6) rfl)) (hb hby at_42) ?_
      show own_R p e below s _ _ _ T1 (mkF m 45 #[.val (.long q0), .second, .val (.int p2), .val (.int p3), .val (.long u), .second, .val (.int t), .val (.long (pl_pk u t)), .second, .unset, .unset, .unset] [(.long (36028797018963967 : Int64))])
      refine own_lstore X1 hx (hb hby at_45) (l' := #[.val (.long q0), .second, .val (.int p2), .val (.int p3), .val (.long u), .second, .val (.int t), .val (.long (pl_pk u t)), .second, .val (.long (36028797018963967 : Int64)), .second, .unset]) rfl ?_
      show own_R p e below s _ _ _ T1 (mkF m 47 #[.val (.long q0), .second, .val (.int p2), .val (.int p3), .val (.long u), .second, .val (.int t), .val (.long (pl_pk u t)), .second, .val (.long (36028797018963967 : Int64)), .second, .unset] [])
      refine own_lload X1 hx (hb hby at_47) rfl ?_
      show own_R p e below s _ _ _ T1 (mkF m 49 #[.val (.long q0), .second, .val (.int p2), .val (.int p3), .val (.long u), .second, .val (.int t), .val (.long (pl_pk u t)), .second, .val (.long (36028797018963967 : Int64)), .second, .unset] [(.long u)])
      refine own_lload X1 hx (hb hby at_49) rfl ?_
      show own_R p e below s _ _ _ T1 (mkF m 51 #[.val (.long q0), .second, .val (.int p2), .val (.int p3), .val (.long u), .second, .val (.int t), .val (.long (pl_pk u t)), .second, .val (.long (36028797018963967 : Int64)), .second, .unset] [(.long (36028797018963967 : Int64)), (.long u)])
      refine own_lneg X1 hx (hb hby at_51) ?_
      show own_R p e below s _ _ _ T1 (mkF m 52 #[.val (.long q0), .second, .val (.int p2), .val (.int p3), .val (.long u), .second, .val (.int t), .val (.long (pl_pk u t)), .second, .val (.long (36028797018963967 : Int64)), .second, .unset] [(.long (-(36028797018963967 : Int64))), (.long u)])
      refine own_lcmp X1 hx (hb hby at_52) (hb hby at_53) (pc' := 81) (by decide) (by decide) (fun hc => ?_) (fun hc => ?_)
      · have hc52 : u < (-(36028797018963967 : Int64)) := own_llt1 hc
        clear hc
        show own_R p e below s _ _ _ T1 (mkF m 81 #[.val (.long q0), .second, .val (.int p2), .val (.int p3), .val (.long u), .second, .val (.int t), .val (.long (pl_pk u t)), .second, .val (.long (36028797018963967 : Int64)), .second, .unset] [])
        have hpk : pl_pk u t = (-9223372036854775808 : Int64) := by rw [pl_pk, if_pos hc52]
        refine own_iconst X1 hx (0 : Int32) (hb hby at_81) rfl ?_
        show own_R p e below s _ _ _ T1 (mkF m 82 #[.val (.long q0), .second, .val (.int p2), .val (.int p3), .val (.long u), .second, .val (.int t), .val (.long (pl_pk u t)), .second, .val (.long (36028797018963967 : Int64)), .second, .unset] [(.int (0 : Int32))])
        refine own_istore X1 hx (hb hby at_82) (l' := #[.val (.long q0), .second, .val (.int p2), .val (.int p3), .val (.long u), .second, .val (.int t), .val (.long (pl_pk u t)), .second, .val (.long (36028797018963967 : Int64)), .second, .val (.int (0 : Int32))]) rfl ?_
        show own_R p e below s _ _ _ T1 (mkF m 84 #[.val (.long q0), .second, .val (.int p2), .val (.int p3), .val (.long u), .second, .val (.int t), .val (.long (pl_pk u t)), .second, .val (.long (36028797018963967 : Int64)), .second, .val (.int (0 : Int32))] [])
        refine own_iload X1 hx (hb hby at_84) rfl ?_
        show own_R p e below s _ _ _ T1 (mkF m 86 #[.val (.long q0), .second, .val (.int p2), .val (.int p3), .val (.long u), .second, .val (.int t), .val (.long (pl_pk u t)), .second, .val (.long (36028797018963967 : Int64)), .second, .val (.int (0 : Int32))] [(.int (0 : Int32))])
        refine own_if X1 hx (hb hby at_86) (pc' := 104) (by decide) (by decide) (fun hc => ?_) (fun hc => ?_)
        · have hc86 : ¬ (0 : Int32) = (0 : Int32) := own_ne1 hc
          exact absurd rfl hc86
        · have hc86 : (0 : Int32) = (0 : Int32) := own_ne0 hc
          clear hc
          show own_R p e below s _ _ _ T1 (mkF m 89 #[.val (.long q0), .second, .val (.int p2), .val (.int p3), .val (.long u), .second, .val (.int t), .val (.long (pl_pk u t)), .second, .val (.long (36028797018963967 : Int64)), .second, .val (.int (0 : Int32))] [])
          refine own_lload X1 hx (hb hby at_89) rfl ?_
          show own_R p e below s _ _ _ T1 (mkF m 91 #[.val (.long q0), .second, .val (.int p2), .val (.int p3), .val (.long u), .second, .val (.int t), .val (.long (pl_pk u t)), .second, .val (.long (36028797018963967 : Int64)), .second, .val (.int (0 : Int32))] [(.long (pl_pk u t))])
          refine own_ldc2 X1 hx hZ hown (hw _ (List.mem_of_getElem? (i := 8) rfl)) (hb hby at_91) ?_
          show own_R p e below s _ _ _ T1 (mkF m 94 #[.val (.long q0), .second, .val (.int p2), .val (.int p3), .val (.long u), .second, .val (.int t), .val (.long (pl_pk u t)), .second, .val (.long (36028797018963967 : Int64)), .second, .val (.int (0 : Int32))] [(.long (-9223372036854775808 : Int64)), (.long (pl_pk u t))])
          refine own_lcmp X1 hx (hb hby at_94) (hb hby at_95) (pc' := 102) (by decide) (by decide) (fun hc => ?_) (fun hc => ?_)
          · have hc94 : ¬ (pl_pk u t) = (-9223372036854775808 : Int64) := own_lne1 hc
            exact absurd hpk hc94
          · have hc94 : (pl_pk u t) = (-9223372036854775808 : Int64) := own_lne0 hc
            clear hc
            show own_R p e below s _ _ _ T1 (mkF m 98 #[.val (.long q0), .second, .val (.int p2), .val (.int p3), .val (.long u), .second, .val (.int t), .val (.long (pl_pk u t)), .second, .val (.long (36028797018963967 : Int64)), .second, .val (.int (0 : Int32))] [])
            refine own_iconst X1 hx (1 : Int32) (hb hby at_98) rfl ?_
            show own_R p e below s _ _ _ T1 (mkF m 99 #[.val (.long q0), .second, .val (.int p2), .val (.int p3), .val (.long u), .second, .val (.int t), .val (.long (pl_pk u t)), .second, .val (.long (36028797018963967 : Int64)), .second, .val (.int (0 : Int32))] [(.int (1 : Int32))])
            refine own_goto X1 hx (hb hby at_99) (pc' := 103) (by decide) (by decide) ?_
            show own_R p e below s _ _ _ T1 (mkF m 103 #[.val (.long q0), .second, .val (.int p2), .val (.int p3), .val (.long u), .second, .val (.int t), .val (.long (pl_pk u t)), .second, .val (.long (36028797018963967 : Int64)), .second, .val (.int (0 : Int32))] [(.int (1 : Int32))])
            refine own_retN X1 hx (t := .boolean) Bd.returns (by simp) hlk (hb hby at_103) ?_ (by decide) (by decide)
            exact ⟨rfl, N1⟩
      · have hc52 : ¬ u < (-(36028797018963967 : Int64)) := own_llt0 hc
        clear hc
        show own_R p e below s _ _ _ T1 (mkF m 56 #[.val (.long q0), .second, .val (.int p2), .val (.int p3), .val (.long u), .second, .val (.int t), .val (.long (pl_pk u t)), .second, .val (.long (36028797018963967 : Int64)), .second, .unset] [])
        refine own_lload X1 hx (hb hby at_56) rfl ?_
        show own_R p e below s _ _ _ T1 (mkF m 58 #[.val (.long q0), .second, .val (.int p2), .val (.int p3), .val (.long u), .second, .val (.int t), .val (.long (pl_pk u t)), .second, .val (.long (36028797018963967 : Int64)), .second, .unset] [(.long u)])
        refine own_lload X1 hx (hb hby at_58) rfl ?_
        show own_R p e below s _ _ _ T1 (mkF m 60 #[.val (.long q0), .second, .val (.int p2), .val (.int p3), .val (.long u), .second, .val (.int t), .val (.long (pl_pk u t)), .second, .val (.long (36028797018963967 : Int64)), .second, .unset] [(.long (36028797018963967 : Int64)), (.long u)])
        refine own_lcmp X1 hx (hb hby at_60) (hb hby at_61) (pc' := 81) (by decide) (by decide) (fun hc => ?_) (fun hc => ?_)
        · have hc60 : (36028797018963967 : Int64) < u := own_lgt1 hc
          clear hc
          show own_R p e below s _ _ _ T1 (mkF m 81 #[.val (.long q0), .second, .val (.int p2), .val (.int p3), .val (.long u), .second, .val (.int t), .val (.long (pl_pk u t)), .second, .val (.long (36028797018963967 : Int64)), .second, .unset] [])
          have hpk : pl_pk u t = (-9223372036854775808 : Int64) := by rw [pl_pk, if_neg hc52, if_pos hc60]
          refine own_iconst X1 hx (0 : Int32) (hb hby at_81) rfl ?_
          show own_R p e below s _ _ _ T1 (mkF m 82 #[.val (.long q0), .second, .val (.int p2), .val (.int p3), .val (.long u), .second, .val (.int t), .val (.long (pl_pk u t)), .second, .val (.long (36028797018963967 : Int64)), .second, .unset] [(.int (0 : Int32))])
          refine own_istore X1 hx (hb hby at_82) (l' := #[.val (.long q0), .second, .val (.int p2), .val (.int p3), .val (.long u), .second, .val (.int t), .val (.long (pl_pk u t)), .second, .val (.long (36028797018963967 : Int64)), .second, .val (.int (0 : Int32))]) rfl ?_
          show own_R p e below s _ _ _ T1 (mkF m 84 #[.val (.long q0), .second, .val (.int p2), .val (.int p3), .val (.long u), .second, .val (.int t), .val (.long (pl_pk u t)), .second, .val (.long (36028797018963967 : Int64)), .second, .val (.int (0 : Int32))] [])
          refine own_iload X1 hx (hb hby at_84) rfl ?_
          show own_R p e below s _ _ _ T1 (mkF m 86 #[.val (.long q0), .second, .val (.int p2), .val (.int p3), .val (.long u), .second, .val (.int t), .val (.long (pl_pk u t)), .second, .val (.long (36028797018963967 : Int64)), .second, .val (.int (0 : Int32))] [(.int (0 : Int32))])
          refine own_if X1 hx (hb hby at_86) (pc' := 104) (by decide) (by decide) (fun hc => ?_) (fun hc => ?_)
          · have hc86 : ¬ (0 : Int32) = (0 : Int32) := own_ne1 hc
            exact absurd rfl hc86
          · have hc86 : (0 : Int32) = (0 : Int32) := own_ne0 hc
            clear hc
            show own_R p e below s _ _ _ T1 (mkF m 89 #[.val (.long q0), .second, .val (.int p2), .val (.int p3), .val (.long u), .second, .val (.int t), .val (.long (pl_pk u t)), .second, .val (.long (36028797018963967 : Int64)), .second, .val (.int (0 : Int32))] [])
            refine own_lload X1 hx (hb hby at_89) rfl ?_
            show own_R p e below s _ _ _ T1 (mkF m 91 #[.val (.long q0), .second, .val (.int p2), .val (.int p3), .val (.long u), .second, .val (.int t), .val (.long (pl_pk u t)), .second, .val (.long (36028797018963967 : Int64)), .second, .val (.int (0 : Int32))] [(.long (pl_pk u t))])
            refine own_ldc2 X1 hx hZ hown (hw _ (List.mem_of_getElem? (i := 8) rfl)) (hb hby at_91) ?_
            show own_R p e below s _ _ _ T1 (mkF m 94 #[.val (.long q0), .second, .val (.int p2), .val (.int p3), .val (.long u), .second, .val (.int t), .val (.long (pl_pk u t)), .second, .val (.long (36028797018963967 : Int64)), .second, .val (.int (0 : Int32))] [(.long (-9223372036854775808 : Int64)), (.long (pl_pk u t))])
            refine own_lcmp X1 hx (hb hby at_94) (hb hby at_95) (pc' := 102) (by decide) (by decide) (fun hc => ?_) (fun hc => ?_)
            · have hc94 : ¬ (pl_pk u t) = (-9223372036854775808 : Int64) := own_lne1 hc
              exact absurd hpk hc94
            · have hc94 : (pl_pk u t) = (-9223372036854775808 : Int64) := own_lne0 hc
              clear hc
              show own_R p e below s _ _ _ T1 (mkF m 98 #[.val (.long q0), .second, .val (.int p2), .val (.int p3), .val (.long u), .second, .val (.int t), .val (.long (pl_pk u t)), .second, .val (.long (36028797018963967 : Int64)), .second, .val (.int (0 : Int32))] [])
              refine own_iconst X1 hx (1 : Int32) (hb hby at_98) rfl ?_
              show own_R p e below s _ _ _ T1 (mkF m 99 #[.val (.long q0), .second, .val (.int p2), .val (.int p3), .val (.long u), .second, .val (.int t), .val (.long (pl_pk u t)), .second, .val (.long (36028797018963967 : Int64)), .second, .val (.int (0 : Int32))] [(.int (1 : Int32))])
              refine own_goto X1 hx (hb hby at_99) (pc' := 103) (by decide) (by decide) ?_
              show own_R p e below s _ _ _ T1 (mkF m 103 #[.val (.long q0), .second, .val (.int p2), .val (.int p3), .val (.long u), .second, .val (.int t), .val (.long (pl_pk u t)), .second, .val (.long (36028797018963967 : Int64)), .second, .val (.int (0 : Int32))] [(.int (1 : Int32))])
              refine own_retN X1 hx (t := .boolean) Bd.returns (by simp) hlk (hb hby at_103) ?_ (by decide) (by decide)
              exact ⟨rfl, N1⟩
        · have hc60 : ¬ (36028797018963967 : Int64) < u := own_lgt0 hc
          clear hc
          show own_R p e below s _ _ _ T1 (mkF m 64 #[.val (.long q0), .second, .val (.int p2), .val (.int p3), .val (.long u), .second, .val (.int t), .val (.long (pl_pk u t)), .second, .val (.long (36028797018963967 : Int64)), .second, .unset] [])
          refine own_iload X1 hx (hb hby at_64) rfl ?_
          show own_R p e below s _ _ _ T1 (mkF m 66 #[.val (.long q0), .second, .val (.int p2), .val (.int p3), .val (.long u), .second, .val (.int t), .val (.long (pl_pk u t)), .second, .val (.long (36028797018963967 : Int64)), .second, .unset] [(.int t)])
          refine own_if X1 hx (hb hby at_66) (pc' := 81) (by decide) (by decide) (fun hc => ?_) (fun hc => ?_)
          · have hc66 : t < (0 : Int32) := own_lt1 hc
            clear hc
            show own_R p e below s _ _ _ T1 (mkF m 81 #[.val (.long q0), .second, .val (.int p2), .val (.int p3), .val (.long u), .second, .val (.int t), .val (.long (pl_pk u t)), .second, .val (.long (36028797018963967 : Int64)), .second, .unset] [])
            have hpk : pl_pk u t = (-9223372036854775808 : Int64) := by rw [pl_pk, if_neg hc52, if_neg hc60, if_pos hc66]
            refine own_iconst X1 hx (0 : Int32) (hb hby at_81) rfl ?_
            show own_R p e below s _ _ _ T1 (mkF m 82 #[.val (.long q0), .second, .val (.int p2), .val (.int p3), .val (.long u), .second, .val (.int t), .val (.long (pl_pk u t)), .second, .val (.long (36028797018963967 : Int64)), .second, .unset] [(.int (0 : Int32))])
            refine own_istore X1 hx (hb hby at_82) (l' := #[.val (.long q0), .second, .val (.int p2), .val (.int p3), .val (.long u), .second, .val (.int t), .val (.long (pl_pk u t)), .second, .val (.long (36028797018963967 : Int64)), .second, .val (.int (0 : Int32))]) rfl ?_
            show own_R p e below s _ _ _ T1 (mkF m 84 #[.val (.long q0), .second, .val (.int p2), .val (.int p3), .val (.long u), .second, .val (.int t), .val (.long (pl_pk u t)), .second, .val (.long (36028797018963967 : Int64)), .second, .val (.int (0 : Int32))] [])
            refine own_iload X1 hx (hb hby at_84) rfl ?_
            show own_R p e below s _ _ _ T1 (mkF m 86 #[.val (.long q0), .second, .val (.int p2), .val (.int p3), .val (.long u), .second, .val (.int t), .val (.long (pl_pk u t)), .second, .val (.long (36028797018963967 : Int64)), .second, .val (.int (0 : Int32))] [(.int (0 : Int32))])
            refine own_if X1 hx (hb hby at_86) (pc' := 104) (by decide) (by decide) (fun hc => ?_) (fun hc => ?_)
            · have hc86 : ¬ (0 : Int32) = (0 : Int32) := own_ne1 hc
              exact absurd rfl hc86
            · have hc86 : (0 : Int32) = (0 : Int32) := own_ne0 hc
              clear hc
              show own_R p e below s _ _ _ T1 (mkF m 89 #[.val (.long q0), .second, .val (.int p2), .val (.int p3), .val (.long u), .second, .val (.int t), .val (.long (pl_pk u t)), .second, .val (.long (36028797018963967 : Int64)), .second, .val (.int (0 : Int32))] [])
              refine own_lload X1 hx (hb hby at_89) rfl ?_
              show own_R p e below s _ _ _ T1 (mkF m 91 #[.val (.long q0), .second, .val (.int p2), .val (.int p3), .val (.long u), .second, .val (.int t), .val (.long (pl_pk u t)), .second, .val (.long (36028797018963967 : Int64)), .second, .val (.int (0 : Int32))] [(.long (pl_pk u t))])
              refine own_ldc2 X1 hx hZ hown (hw _ (List.mem_of_getElem? (i := 8) rfl)) (hb hby at_91) ?_
              show own_R p e below s _ _ _ T1 (mkF m 94 #[.val (.long q0), .second, .val (.int p2), .val (.int p3), .val (.long u), .second, .val (.int t), .val (.long (pl_pk u t)), .second, .val (.long (36028797018963967 : Int64)), .second, .val (.int (0 : Int32))] [(.long (-9223372036854775808 : Int64)), (.long (pl_pk u t))])
              refine own_lcmp X1 hx (hb hby at_94) (hb hby at_95) (pc' := 102) (by decide) (by decide) (fun hc => ?_) (fun hc => ?_)
              · have hc94 : ¬ (pl_pk u t) = (-9223372036854775808 : Int64) := own_lne1 hc
                exact absurd hpk hc94
              · have hc94 : (pl_pk u t) = (-9223372036854775808 : Int64) := own_lne0 hc
                clear hc
                show own_R p e below s _ _ _ T1 (mkF m 98 #[.val (.long q0), .second, .val (.int p2), .val (.int p3), .val (.long u), .second, .val (.int t), .val (.long (pl_pk u t)), .second, .val (.long (36028797018963967 : Int64)), .second, .val (.int (0 : Int32))] [])
                refine own_iconst X1 hx (1 : Int32) (hb hby at_98) rfl ?_
                show own_R p e below s _ _ _ T1 (mkF m 99 #[.val (.long q0), .second, .val (.int p2), .val (.int p3), .val (.long u), .second, .val (.int t), .val (.long (pl_pk u t)), .second, .val (.long (36028797018963967 : Int64)), .second, .val (.int (0 : Int32))] [(.int (1 : Int32))])
                refine own_goto X1 hx (hb hby at_99) (pc' := 103) (by decide) (by decide) ?_
                show own_R p e below s _ _ _ T1 (mkF m 103 #[.val (.long q0), .second, .val (.int p2), .val (.int p3), .val (.long u), .second, .val (.int t), .val (.long (pl_pk u t)), .second, .val (.long (36028797018963967 : Int64)), .second, .val (.int (0 : Int32))] [(.int (1 : Int32))])
                refine own_retN X1 hx (t := .boolean) Bd.returns (by simp) hlk (hb hby at_103) ?_ (by decide) (by decide)
                exact ⟨rfl, N1⟩
          · have hc66 : ¬ t < (0 : Int32) := own_lt0 hc
            clear hc
            show own_R p e below s _ _ _ T1 (mkF m 69 #[.val (.long q0), .second, .val (.int p2), .val (.int p3), .val (.long u), .second, .val (.int t), .val (.long (pl_pk u t)), .second, .val (.long (36028797018963967 : Int64)), .second, .unset] [])
            refine own_iload X1 hx (hb hby at_69) rfl ?_
            show own_R p e below s _ _ _ T1 (mkF m 71 #[.val (.long q0), .second, .val (.int p2), .val (.int p3), .val (.long u), .second, .val (.int t), .val (.long (pl_pk u t)), .second, .val (.long (36028797018963967 : Int64)), .second, .unset] [(.int t)])
            refine own_sipush X1 hx (255 : Int32) (hb hby at_71) rfl ?_
            show own_R p e below s _ _ _ T1 (mkF m 74 #[.val (.long q0), .second, .val (.int p2), .val (.int p3), .val (.long u), .second, .val (.int t), .val (.long (pl_pk u t)), .second, .val (.long (36028797018963967 : Int64)), .second, .unset] [(.int (255 : Int32)), (.int t)])
            refine own_icmp X1 hx (hb hby at_74) (pc' := 81) (by decide) (by decide) (fun hc => ?_) (fun hc => ?_)
            · have hc74 : (255 : Int32) < t := own_gt1 hc
              clear hc
              show own_R p e below s _ _ _ T1 (mkF m 81 #[.val (.long q0), .second, .val (.int p2), .val (.int p3), .val (.long u), .second, .val (.int t), .val (.long (pl_pk u t)), .second, .val (.long (36028797018963967 : Int64)), .second, .unset] [])
              have hpk : pl_pk u t = (-9223372036854775808 : Int64) := by rw [pl_pk, if_neg hc52, if_neg hc60, if_neg hc66, if_pos hc74]
              refine own_iconst X1 hx (0 : Int32) (hb hby at_81) rfl ?_
              show own_R p e below s _ _ _ T1 (mkF m 82 #[.val (.long q0), .second, .val (.int p2), .val (.int p3), .val (.long u), .second, .val (.int t), .val (.long (pl_pk u t)), .second, .val (.long (36028797018963967 : Int64)), .second, .unset] [(.int (0 : Int32))])
              refine own_istore X1 hx (hb hby at_82) (l' := #[.val (.long q0), .second, .val (.int p2), .val (.int p3), .val (.long u), .second, .val (.int t), .val (.long (pl_pk u t)), .second, .val (.long (36028797018963967 : Int64)), .second, .val (.int (0 : Int32))]) rfl ?_
              show own_R p e below s _ _ _ T1 (mkF m 84 #[.val (.long q0), .second, .val (.int p2), .val (.int p3), .val (.long u), .second, .val (.int t), .val (.long (pl_pk u t)), .second, .val (.long (36028797018963967 : Int64)), .second, .val (.int (0 : Int32))] [])
              refine own_iload X1 hx (hb hby at_84) rfl ?_
              show own_R p e below s _ _ _ T1 (mkF m 86 #[.val (.long q0), .second, .val (.int p2), .val (.int p3), .val (.long u), .second, .val (.int t), .val (.long (pl_pk u t)), .second, .val (.long (36028797018963967 : Int64)), .second, .val (.int (0 : Int32))] [(.int (0 : Int32))])
              refine own_if X1 hx (hb hby at_86) (pc' := 104) (by decide) (by decide) (fun hc => ?_) (fun hc => ?_)
              · have hc86 : ¬ (0 : Int32) = (0 : Int32) := own_ne1 hc
                exact absurd rfl hc86
              · have hc86 : (0 : Int32) = (0 : Int32) := own_ne0 hc
                clear hc
                show own_R p e below s _ _ _ T1 (mkF m 89 #[.val (.long q0), .second, .val (.int p2), .val (.int p3), .val (.long u), .second, .val (.int t), .val (.long (pl_pk u t)), .second, .val (.long (36028797018963967 : Int64)), .second, .val (.int (0 : Int32))] [])
                refine own_lload X1 hx (hb hby at_89) rfl ?_
                show own_R p e below s _ _ _ T1 (mkF m 91 #[.val (.long q0), .second, .val (.int p2), .val (.int p3), .val (.long u), .second, .val (.int t), .val (.long (pl_pk u t)), .second, .val (.long (36028797018963967 : Int64)), .second, .val (.int (0 : Int32))] [(.long (pl_pk u t))])
                refine own_ldc2 X1 hx hZ hown (hw _ (List.mem_of_getElem? (i := 8) rfl)) (hb hby at_91) ?_
                show own_R p e below s _ _ _ T1 (mkF m 94 #[.val (.long q0), .second, .val (.int p2), .val (.int p3), .val (.long u), .second, .val (.int t), .val (.long (pl_pk u t)), .second, .val (.long (36028797018963967 : Int64)), .second, .val (.int (0 : Int32))] [(.long (-9223372036854775808 : Int64)), (.long (pl_pk u t))])
                refine own_lcmp X1 hx (hb hby at_94) (hb hby at_95) (pc' := 102) (by decide) (by decide) (fun hc => ?_) (fun hc => ?_)
                · have hc94 : ¬ (pl_pk u t) = (-9223372036854775808 : Int64) := own_lne1 hc
                  exact absurd hpk hc94
                · have hc94 : (pl_pk u t) = (-9223372036854775808 : Int64) := own_lne0 hc
                  clear hc
                  show own_R p e below s _ _ _ T1 (mkF m 98 #[.val (.long q0), .second, .val (.int p2), .val (.int p3), .val (.long u), .second, .val (.int t), .val (.long (pl_pk u t)), .second, .val (.long (36028797018963967 : Int64)), .second, .val (.int (0 : Int32))] [])
                  refine own_iconst X1 hx (1 : Int32) (hb hby at_98) rfl ?_
                  show own_R p e below s _ _ _ T1 (mkF m 99 #[.val (.long q0), .second, .val (.int p2), .val (.int p3), .val (.long u), .second, .val (.int t), .val (.long (pl_pk u t)), .second, .val (.long (36028797018963967 : Int64)), .second, .val (.int (0 : Int32))] [(.int (1 : Int32))])
                  refine own_goto X1 hx (hb hby at_99) (pc' := 103) (by decide) (by decide) ?_
                  show own_R p e below s _ _ _ T1 (mkF m 103 #[.val (.long q0), .second, .val (.int p2), .val (.int p3), .val (.long u), .second, .val (.int t), .val (.long (pl_pk u t)), .second, .val (.long (36028797018963967 : Int64)), .second, .val (.int (0 : Int32))] [(.int (1 : Int32))])
                  refine own_retN X1 hx (t := .boolean) Bd.returns (by simp) hlk (hb hby at_103) ?_ (by decide) (by decide)
                  exact ⟨rfl, N1⟩
            · have hc74 : ¬ (255 : Int32) < t := own_gt0 hc
              clear hc
              show own_R p e below s _ _ _ T1 (mkF m 77 #[.val (.long q0), .second, .val (.int p2), .val (.int p3), .val (.long u), .second, .val (.int t), .val (.long (pl_pk u t)), .second, .val (.long (36028797018963967 : Int64)), .second, .unset] [])
              have hpk : pl_pk u t = ((u <<< ((8 : Int32) &&& 0x3f).toInt64) ||| t.toInt64) := by rw [pl_pk, if_neg hc52, if_neg hc60, if_neg hc66, if_neg hc74]
              refine own_iconst X1 hx (1 : Int32) (hb hby at_77) rfl ?_
              show own_R p e below s _ _ _ T1 (mkF m 78 #[.val (.long q0), .second, .val (.int p2), .val (.int p3), .val (.long u), .second, .val (.int t), .val (.long (pl_pk u t)), .second, .val (.long (36028797018963967 : Int64)), .second, .unset] [(.int (1 : Int32))])
              refine own_goto X1 hx (hb hby at_78) (pc' := 82) (by decide) (by decide) ?_
              show own_R p e below s _ _ _ T1 (mkF m 82 #[.val (.long q0), .second, .val (.int p2), .val (.int p3), .val (.long u), .second, .val (.int t), .val (.long (pl_pk u t)), .second, .val (.long (36028797018963967 : Int64)), .second, .unset] [(.int (1 : Int32))])
              refine own_istore X1 hx (hb hby at_82) (l' := #[.val (.long q0), .second, .val (.int p2), .val (.int p3), .val (.long u), .second, .val (.int t), .val (.long (pl_pk u t)), .second, .val (.long (36028797018963967 : Int64)), .second, .val (.int (1 : Int32))]) rfl ?_
              show own_R p e below s _ _ _ T1 (mkF m 84 #[.val (.long q0), .second, .val (.int p2), .val (.int p3), .val (.long u), .second, .val (.int t), .val (.long (pl_pk u t)), .second, .val (.long (36028797018963967 : Int64)), .second, .val (.int (1 : Int32))] [])
              refine own_iload X1 hx (hb hby at_84) rfl ?_
              show own_R p e below s _ _ _ T1 (mkF m 86 #[.val (.long q0), .second, .val (.int p2), .val (.int p3), .val (.long u), .second, .val (.int t), .val (.long (pl_pk u t)), .second, .val (.long (36028797018963967 : Int64)), .second, .val (.int (1 : Int32))] [(.int (1 : Int32))])
              refine own_if X1 hx (hb hby at_86) (pc' := 104) (by decide) (by decide) (fun hc => ?_) (fun hc => ?_)
              · have hc86 : ¬ (1 : Int32) = (0 : Int32) := own_ne1 hc
                clear hc
                show own_R p e below s _ _ _ T1 (mkF m 104 #[.val (.long q0), .second, .val (.int p2), .val (.int p3), .val (.long u), .second, .val (.int t), .val (.long (pl_pk u t)), .second, .val (.long (36028797018963967 : Int64)), .second, .val (.int (1 : Int32))] [])
                refine own_lload X1 hx (hb hby at_104) rfl ?_
                show own_R p e below s _ _ _ T1 (mkF m 106 #[.val (.long q0), .second, .val (.int p2), .val (.int p3), .val (.long u), .second, .val (.int t), .val (.long (pl_pk u t)), .second, .val (.long (36028797018963967 : Int64)), .second, .val (.int (1 : Int32))] [(.long (pl_pk u t))])
                refine own_lload X1 hx (hb hby at_106) rfl ?_
                show own_R p e below s _ _ _ T1 (mkF m 108 #[.val (.long q0), .second, .val (.int p2), .val (.int p3), .val (.long u), .second, .val (.int t), .val (.long (pl_pk u t)), .second, .val (.long (36028797018963967 : Int64)), .second, .val (.int (1 : Int32))] [(.long u), (.long (pl_pk u t))])
                refine own_ldc2 X1 hx hZ hown (hw _ (List.mem_of_getElem? (i := 7) rfl)) (hb hby at_108) ?_
                show own_R p e below s _ _ _ T1 (mkF m 111 #[.val (.long q0), .second, .val (.int p2), .val (.int p3), .val (.long u), .second, .val (.int t), .val (.long (pl_pk u t)), .second, .val (.long (36028797018963967 : Int64)), .second, .val (.int (1 : Int32))] [(.long (256 : Int64)), (.long u), (.long (pl_pk u t))])
                refine own_lmul X1 hx (hb hby at_111) ?_
                show own_R p e below s _ _ _ T1 (mkF m 112 #[.val (.long q0), .second, .val (.int p2), .val (.int p3), .val (.long u), .second, .val (.int t), .val (.long (pl_pk u t)), .second, .val (.long (36028797018963967 : Int64)), .second, .val (.int (1 : Int32))] [(.long (u * (256 : Int64))), (.long (pl_pk u t))])
                refine own_iload X1 hx (hb hby at_112) rfl ?_
                show own_R p e below s _ _ _ T1 (mkF m 114 #[.val (.long q0), .second, .val (.int p2), .val (.int p3), .val (.long u), .second, .val (.int t), .val (.long (pl_pk u t)), .second, .val (.long (36028797018963967 : Int64)), .second, .val (.int (1 : Int32))] [(.int t), (.long (u * (256 : Int64))), (.long (pl_pk u t))])
                refine own_i2l X1 hx (hb hby at_114) ?_
                show own_R p e below s _ _ _ T1 (mkF m 115 #[.val (.long q0), .second, .val (.int p2), .val (.int p3), .val (.long u), .second, .val (.int t), .val (.long (pl_pk u t)), .second, .val (.long (36028797018963967 : Int64)), .second, .val (.int (1 : Int32))] [(.long (t.toInt64)), (.long (u * (256 : Int64))), (.long (pl_pk u t))])
                refine own_ladd X1 hx (hb hby at_115) ?_
                show own_R p e below s _ _ _ T1 (mkF m 116 #[.val (.long q0), .second, .val (.int p2), .val (.int p3), .val (.long u), .second, .val (.int t), .val (.long (pl_pk u t)), .second, .val (.long (36028797018963967 : Int64)), .second, .val (.int (1 : Int32))] [(.long ((u * (256 : Int64)) + (t.toInt64))), (.long (pl_pk u t))])
                refine own_lcmp X1 hx (hb hby at_116) (hb hby at_117) (pc' := 154) (by decide) (by decide) (fun hc => ?_) (fun hc => ?_)
                · have hc116 : ¬ (pl_pk u t) = ((u * (256 : Int64)) + (t.toInt64)) := own_lne1 hc
                  exact absurd (by rw [hpk]; exact pl_a u t hc52 hc60 hc66 hc74) hc116
                · have hc116 : (pl_pk u t) = ((u * (256 : Int64)) + (t.toInt64)) := own_lne0 hc
                  clear hc
                  show own_R p e below s _ _ _ T1 (mkF m 120 #[.val (.long q0), .second, .val (.int p2), .val (.int p3), .val (.long u), .second, .val (.int t), .val (.long (pl_pk u t)), .second, .val (.long (36028797018963967 : Int64)), .second, .val (.int (1 : Int32))] [])
                  refine own_lload X1 hx (hb hby at_120) rfl ?_
                  show own_R p e below s _ _ _ T1 (mkF m 122 #[.val (.long q0), .second, .val (.int p2), .val (.int p3), .val (.long u), .second, .val (.int t), .val (.long (pl_pk u t)), .second, .val (.long (36028797018963967 : Int64)), .second, .val (.int (1 : Int32))] [(.long (pl_pk u t))])
                  refine own_ldc2 X1 hx hZ hown (hw _ (List.mem_of_getElem? (i := 8) rfl)) (hb hby at_122) ?_
                  show own_R p e below s _ _ _ T1 (mkF m 125 #[.val (.long q0), .second, .val (.int p2), .val (.int p3), .val (.long u), .second, .val (.int t), .val (.long (pl_pk u t)), .second, .val (.long (36028797018963967 : Int64)), .second, .val (.int (1 : Int32))] [(.long (-9223372036854775808 : Int64)), (.long (pl_pk u t))])
                  refine own_lcmp X1 hx (hb hby at_125) (hb hby at_126) (pc' := 154) (by decide) (by decide) (fun hc => ?_) (fun hc => ?_)
                  · have hc125 : (pl_pk u t) = (-9223372036854775808 : Int64) := own_leq1 hc
                    rw [hpk] at hc125; exact absurd hc125 (pl_b u t hc52 hc60 hc66 hc74)
                  · have hc125 : ¬ (pl_pk u t) = (-9223372036854775808 : Int64) := own_leq0 hc
                    clear hc
                    show own_R p e below s _ _ _ T1 (mkF m 129 #[.val (.long q0), .second, .val (.int p2), .val (.int p3), .val (.long u), .second, .val (.int t), .val (.long (pl_pk u t)), .second, .val (.long (36028797018963967 : Int64)), .second, .val (.int (1 : Int32))] [])
                    refine own_lload X1 hx (hb hby at_129) rfl ?_
                    show own_R p e below s _ _ _ T1 (mkF m 131 #[.val (.long q0), .second, .val (.int p2), .val (.int p3), .val (.long u), .second, .val (.int t), .val (.long (pl_pk u t)), .second, .val (.long (36028797018963967 : Int64)), .second, .val (.int (1 : Int32))] [(.long (pl_pk u t))])
                    refine own_callS X1 hx hZ (y := (⟨"com/example/crackwise/crackwise/PlainDecimal", "unscaled", "(J)J"⟩ : MethodName)) hown (hw _ (List.mem_of_getElem? (i := 9) rfl)) (hw _ (List.mem_of_getElem? (i := 10) rfl)) (hw _ (List.mem_of_getElem? (i := 2) rfl)) (hw _ (List.mem_of_getElem? (i := 11) rfl)) (by decide) (rm2 l Z a0 hw [] (pl_pk u t) h0 n0 Z0) 0 (by decide) (by decide) e1 (by rw [hml]; rfl) [(.long (pl_pk u t))] [] rfl (lenOf pd_1 rfl) rfl (by decide) (hb hby at_131) (by decide) (by decide) ?_
                    rintro T2 _ L2 X2 ⟨rfl, N2q, e2⟩
                    have N2 := Fr.app N1 N2q
                    show own_R p e below s _ _ _ T2 (mkF m 134 #[.val (.long q0), .second, .val (.int p2), .val (.int p3), .val (.long u), .second, .val (.int t), .val (.long (pl_pk u t)), .second, .val (.long (36028797018963967 : Int64)), .second, .val (.int (1 : Int32))] [(.long (pl_un (pl_pk u t)))])
                    refine own_lload X2 hx (hb hby at_134) rfl ?_
                    show own_R p e below s _ _ _ T2 (mkF m 136 #[.val (.long q0), .second, .val (.int p2), .val (.int p3), .val (.long u), .second, .val (.int t), .val (.long (pl_pk u t)), .second, .val (.long (36028797018963967 : Int64)), .second, .val (.int (1 : Int32))] [(.long u), (.long (pl_un (pl_pk u t)))])
                    refine own_lcmp X2 hx (hb hby at_136) (hb hby at_137) (pc' := 154) (by decide) (by decide) (fun hc => ?_) (fun hc => ?_)
                    · have hc136 : ¬ (pl_un (pl_pk u t)) = u := own_lne1 hc
                      exact absurd (by rw [hpk]; exact pl_c u t hc52 hc60 hc66 hc74) hc136
                    · have hc136 : (pl_un (pl_pk u t)) = u := own_lne0 hc
                      clear hc
                      show own_R p e below s _ _ _ T2 (mkF m 140 #[.val (.long q0), .second, .val (.int p2), .val (.int p3), .val (.long u), .second, .val (.int t), .val (.long (pl_pk u t)), .second, .val (.long (36028797018963967 : Int64)), .second, .val (.int (1 : Int32))] [])
                      refine own_lload X2 hx (hb hby at_140) rfl ?_
                      show own_R p e below s _ _ _ T2 (mkF m 142 #[.val (.long q0), .second, .val (.int p2), .val (.int p3), .val (.long u), .second, .val (.int t), .val (.long (pl_pk u t)), .second, .val (.long (36028797018963967 : Int64)), .second, .val (.int (1 : Int32))] [(.long (pl_pk u t))])
                      refine own_callS X2 hx hZ (y := (⟨"com/example/crackwise/crackwise/PlainDecimal", "scale", "(J)I"⟩ : MethodName)) hown (hw _ (List.mem_of_getElem? (i := 12) rfl)) (hw _ (List.mem_of_getElem? (i := 13) rfl)) (hw _ (List.mem_of_getElem? (i := 2) rfl)) (hw _ (List.mem_of_getElem? (i := 14) rfl)) (by decide) (rm3 l Z a0 hw [] (pl_pk u t) h0 n0 Z0) 0 (by decide) (by decide) e2 (by rw [hml]; rfl) [(.long (pl_pk u t))] [] rfl (lenOf pd_2 rfl) rfl (by decide) (hb hby at_142) (by decide) (by decide) ?_
                      rintro T3 _ L3 X3 ⟨rfl, N3q, e3⟩
                      have N3 := Fr.app N2 N3q
                      show own_R p e below s _ _ _ T3 (mkF m 145 #[.val (.long q0), .second, .val (.int p2), .val (.int p3), .val (.long u), .second, .val (.int t), .val (.long (pl_pk u t)), .second, .val (.long (36028797018963967 : Int64)), .second, .val (.int (1 : Int32))] [(.int (pl_sc (pl_pk u t)))])
                      refine own_iload X3 hx (hb hby at_145) rfl ?_
                      show own_R p e below s _ _ _ T3 (mkF m 147 #[.val (.long q0), .second, .val (.int p2), .val (.int p3), .val (.long u), .second, .val (.int t), .val (.long (pl_pk u t)), .second, .val (.long (36028797018963967 : Int64)), .second, .val (.int (1 : Int32))] [(.int t), (.int (pl_sc (pl_pk u t)))])
                      refine own_icmp X3 hx (hb hby at_147) (pc' := 154) (by decide) (by decide) (fun hc => ?_) (fun hc => ?_)
                      · have hc147 : ¬ (pl_sc (pl_pk u t)) = t := own_ne1 hc
                        exact absurd (by rw [hpk]; exact pl_d u t hc52 hc60 hc66 hc74) hc147
                      · have hc147 : (pl_sc (pl_pk u t)) = t := own_ne0 hc
                        clear hc
                        show own_R p e below s _ _ _ T3 (mkF m 150 #[.val (.long q0), .second, .val (.int p2), .val (.int p3), .val (.long u), .second, .val (.int t), .val (.long (pl_pk u t)), .second, .val (.long (36028797018963967 : Int64)), .second, .val (.int (1 : Int32))] [])
                        refine own_iconst X3 hx (1 : Int32) (hb hby at_150) rfl ?_
                        show own_R p e below s _ _ _ T3 (mkF m 151 #[.val (.long q0), .second, .val (.int p2), .val (.int p3), .val (.long u), .second, .val (.int t), .val (.long (pl_pk u t)), .second, .val (.long (36028797018963967 : Int64)), .second, .val (.int (1 : Int32))] [(.int (1 : Int32))])
                        refine own_goto X3 hx (hb hby at_151) (pc' := 155) (by decide) (by decide) ?_
                        show own_R p e below s _ _ _ T3 (mkF m 155 #[.val (.long q0), .second, .val (.int p2), .val (.int p3), .val (.long u), .second, .val (.int t), .val (.long (pl_pk u t)), .second, .val (.long (36028797018963967 : Int64)), .second, .val (.int (1 : Int32))] [(.int (1 : Int32))])
                        refine own_retN X3 hx (t := .boolean) Bd.returns (by simp) hlk (hb hby at_155) ?_ (by decide) (by decide)
                        exact ⟨rfl, N3⟩
              · have hc86 : (1 : Int32) = (0 : Int32) := own_ne0 hc
                exact absurd hc86 (by decide)
    refine own_iloadN X0 hx (hb hby at_16) rfl ?_
    show own_R p e below s _ _ _ s₁ (mkF m 17 #[.val (.long q0), .second, .val (.int p2), .val (.int p3), .val (.long u), .second, .unset, .unset, .unset, .unset, .unset, .unset] [(.int p3)])
    refine own_iconst X0 hx (2 : Int32) (hb hby at_17) rfl ?_
    show own_R p e below s _ _ _ s₁ (mkF m 18 #[.val (.long q0), .second, .val (.int p2), .val (.int p3), .val (.long u), .second, .unset, .unset, .unset, .unset, .unset, .unset] [(.int (2 : Int32)), (.int p3)])
    refine own_iand X0 hx (hb hby at_18) ?_
    show own_R p e below s _ _ _ s₁ (mkF m 19 #[.val (.long q0), .second, .val (.int p2), .val (.int p3), .val (.long u), .second, .unset, .unset, .unset, .unset, .unset, .unset] [(.int (p3 &&& (2 : Int32)))])
    refine own_if X0 hx (hb hby at_19) (pc' := 30) (by decide) (by decide) (fun hc => ?_) (fun hc => ?_)
    · have hc19 : (p3 &&& (2 : Int32)) = (0 : Int32) := own_eq1 hc
      clear hc
      show own_R p e below s _ _ _ s₁ (mkF m 30 #[.val (.long q0), .second, .val (.int p2), .val (.int p3), .val (.long u), .second, .unset, .unset, .unset, .unset, .unset, .unset] [])
      refine own_iloadN X0 hx (hb hby at_30) rfl ?_
      show own_R p e below s _ _ _ s₁ (mkF m 31 #[.val (.long q0), .second, .val (.int p2), .val (.int p3), .val (.long u), .second, .unset, .unset, .unset, .unset, .unset, .unset] [(.int p2)])
      exact J31 _
    · have hc19 : ¬ (p3 &&& (2 : Int32)) = (0 : Int32) := own_eq0 hc
      clear hc
      show own_R p e below s _ _ _ s₁ (mkF m 22 #[.val (.long q0), .second, .val (.int p2), .val (.int p3), .val (.long u), .second, .unset, .unset, .unset, .unset, .unset, .unset] [])
      refine own_iloadN X0 hx (hb hby at_22) rfl ?_
      show own_R p e below s _ _ _ s₁ (mkF m 23 #[.val (.long q0), .second, .val (.int p2), .val (.int p3), .val (.long u), .second, .unset, .unset, .unset, .unset, .unset, .unset] [(.int p2)])
      refine own_sipush X0 hx (300 : Int32) (hb hby at_23) rfl ?_
      show own_R p e below s _ _ _ s₁ (mkF m 26 #[.val (.long q0), .second, .val (.int p2), .val (.int p3), .val (.long u), .second, .unset, .unset, .unset, .unset, .unset, .unset] [(.int (300 : Int32)), (.int p2)])
      refine own_irem X0 hx (hb hby at_26) (by decide) ?_
      show own_R p e below s _ _ _ s₁ (mkF m 27 #[.val (.long q0), .second, .val (.int p2), .val (.int p3), .val (.long u), .second, .unset, .unset, .unset, .unset, .unset, .unset] [(.int (p2 % (300 : Int32)))])
      refine own_goto X0 hx (hb hby at_27) (pc' := 31) (by decide) (by decide) ?_
      show own_R p e below s _ _ _ s₁ (mkF m 31 #[.val (.long q0), .second, .val (.int p2), .val (.int p3), .val (.long u), .second, .unset, .unset, .unset, .unset, .unset, .unset] [(.int (p2 % (300 : Int32)))])
      exact J31 _
  refine own_iloadN X0 hx (hb hby at_0) rfl ?_
  show own_R p e below s _ _ _ s₁ (mkF m 1 #[.val (.long q0), .second, .val (.int p2), .val (.int p3), .unset, .unset, .unset, .unset, .unset, .unset, .unset, .unset] [(.int p3)])
  refine own_iconst X0 hx (1 : Int32) (hb hby at_1) rfl ?_
  show own_R p e below s _ _ _ s₁ (mkF m 2 #[.val (.long q0), .second, .val (.int p2), .val (.int p3), .unset, .unset, .unset, .unset, .unset, .unset, .unset, .unset] [(.int (1 : Int32)), (.int p3)])
  refine own_iand X0 hx (hb hby at_2) ?_
  show own_R p e below s _ _ _ s₁ (mkF m 3 #[.val (.long q0), .second, .val (.int p2), .val (.int p3), .unset, .unset, .unset, .unset, .unset, .unset, .unset, .unset] [(.int (p3 &&& (1 : Int32)))])
  refine own_if X0 hx (hb hby at_3) (pc' := 13) (by decide) (by decide) (fun hc => ?_) (fun hc => ?_)
  · have hc3 : (p3 &&& (1 : Int32)) = (0 : Int32) := own_eq1 hc
    clear hc
    show own_R p e below s _ _ _ s₁ (mkF m 13 #[.val (.long q0), .second, .val (.int p2), .val (.int p3), .unset, .unset, .unset, .unset, .unset, .unset, .unset, .unset] [])
    refine own_lloadN X0 hx (hb hby at_13) rfl ?_
    show own_R p e below s _ _ _ s₁ (mkF m 14 #[.val (.long q0), .second, .val (.int p2), .val (.int p3), .unset, .unset, .unset, .unset, .unset, .unset, .unset, .unset] [(.long q0)])
    exact J14 _
  · have hc3 : ¬ (p3 &&& (1 : Int32)) = (0 : Int32) := own_eq0 hc
    clear hc
    show own_R p e below s _ _ _ s₁ (mkF m 6 #[.val (.long q0), .second, .val (.int p2), .val (.int p3), .unset, .unset, .unset, .unset, .unset, .unset, .unset, .unset] [])
    refine own_lloadN X0 hx (hb hby at_6) rfl ?_
    show own_R p e below s _ _ _ s₁ (mkF m 7 #[.val (.long q0), .second, .val (.int p2), .val (.int p3), .unset, .unset, .unset, .unset, .unset, .unset, .unset, .unset] [(.long q0)])
    refine own_bipush X0 hx (8 : Int32) (hb hby at_7) rfl ?_
    show own_R p e below s _ _ _ s₁ (mkF m 9 #[.val (.long q0), .second, .val (.int p2), .val (.int p3), .unset, .unset, .unset, .unset, .unset, .unset, .unset, .unset] [(.int (8 : Int32)), (.long q0)])
    refine own_lshr X0 hx (hb hby at_9) ?_
    show own_R p e below s _ _ _ s₁ (mkF m 10 #[.val (.long q0), .second, .val (.int p2), .val (.int p3), .unset, .unset, .unset, .unset, .unset, .unset, .unset, .unset] [(.long (q0 >>> ((8 : Int32) &&& 0x3f).toInt64))])
    refine own_goto X0 hx (hb hby at_10) (pc' := 14) (by decide) (by decide) ?_
    show own_R p e below s _ _ _ s₁ (mkF m 14 #[.val (.long q0), .second, .val (.int p2), .val (.int p3), .unset, .unset, .unset, .unset, .unset, .unset, .unset, .unset] [(.long (q0 >>> ((8 : Int32) &&& 0x3f).toInt64))])
    exact J14 _
set_option maxRecDepth 65536 in
set_option maxHeartbeats 40000000 in
theorem comes_1 {Post : Tables → Env → Array Value → State → Outcome → State → Prop} (hpost : ∀ tb e args s v u, (limb_1_1.after args s (.returned v) u = true ∧ limb_1_2.after args s (.returned v) u = true) → FrameEnd s (.returned v) u (Jvm.fieldLocs frame_1_writes args s ++ Jvm.arrayLocs frame_1_arrays args s ++ Jvm.staticLocs frame_1_statics s) 0 0 → Post tb e args s (.returned v) u) :
    ArmFor flags0 classFile x code maxLocals ret World_1 tables_1 room_1 Calls_1 rest_1 Pre_1 Post := by
  intro l hfl _ _ p e ha hc hk s m args below hf hA hF happ hP
  obtain ⟨hcalls, hrest, hpre⟩ := hP
  obtain ⟨-, -, -, hnamed, -, -, -, hat⟩ := (Spec.applies_iff hf).mp happ
  obtain ⟨hg, hn⟩ := and_e (Cond.before_iff.mp (show (Jvm.Cond.and given_1 narrow_1).before args s = true from hpre))
  obtain ⟨g1, g2⟩ := and_e hg
  obtain ⟨g3, g4⟩ := and_e g2
  obtain ⟨g5, g6⟩ := and_e g4
  obtain ⟨w0, w1, w2, rfl⟩ : ∃ w0 w1 w2 : Value, args = #[w0, w1, w2] := by
    have hs : args.size = 3 := by simpa [Cond.value, given_1] using g1
    obtain ⟨L⟩ := args
    match L, hs with
    | [w0, w1, w2], _ => exact ⟨w0, w1, w2, rfl⟩
  have hw := fun d (hd : d ∈ tables_1) => atoms_spec (ws := Jvm.Cond.code x code maxLocals ret :: tables_1) hat d (List.mem_cons_of_mem _ hd)
  obtain ⟨i0, ei0⟩ := isL_v g3
  obtain rfl : w0 = (.long i0) := Option.some.inj ei0
  obtain ⟨i1, ei1⟩ := is_v g5
  obtain rfl : w1 = (.int i1) := Option.some.inj ei1
  obtain ⟨i2, ei2⟩ := is_v g6
  obtain rfl : w2 = (.int i2) := Option.some.inj ei2
  obtain ⟨n, o, h1, h2, h3, _, L, rfl, ⟨rfl, N⟩, hq⟩ := rm0 l s _ hw tables_1 i0 i1 i2 s.heap s.heap.size (Nat.le_refl _) p e ha hc hk s m _ below hf ((Spec.applies_iff_loose hf).mp happ).1 ⟨rfl, State.Warmed39.refl s, rfl⟩ trivial
  refine ⟨n, _, h1, h2, h3, hpost _ _ _ _ _ _ ⟨Cond.after_iff.mpr rfl, Cond.after_iff.mpr (eq_i res_at (Term.int_eval (1)) rfl)⟩ ⟨hq.1, hq.2.1, (hq.2.2.sift fun y hy => Or.inr (N y hy)).mono (by decide) (by decide)⟩⟩
theorem main_1_1 : Claimed_1_1 := comes_1 fun _ _ _ _ _ _ h hF => ⟨h.1, hF⟩
theorem main_1_2 : Claimed_1_2 := comes_1 fun _ _ _ _ _ _ h hF => ⟨h.2, hF⟩
end Jvm.Pilot.@@N@@
namespace Jvm.Pilot.@@N@@
open Jvm Jvm.ClassFile Sem Op Lib Jvm.Free Jvm.Stand Jvm.Pilot.@@N@@.Jvm.D
/-! MADE BY PROGRAM (witnessworld.py) out of the Statement's table words and the real class files: 9 classes; the members and pool entries that the words name. The judged class is class 1, her method 1. -/
namespace start1
open Jvm.ClassFile
def u (s : String) : CpInfo := .utf8 (stringToUtf16 s)
/-- a pool by its gaps: so many unusable entries, then the entry; so many at the end -/
def gap : Nat → List CpInfo → List CpInfo
  | 0, r => r
  | n + 1, r => .unusable :: gap n r
def poolList (es : List (Nat × CpInfo)) (last : Nat) : List CpInfo := es.foldr (fun e r => gap e.1 (e.2 :: r)) (gap last [])
def pool (es : List (Nat × CpInfo)) (last : Nat) : Array CpInfo := ⟨poolList es last⟩
def fileOf (pool : Array CpInfo) (this : Nat) (attrs : Array Attribute := #[]) (ms : Array MethodInfo := #[]) (fl : Nat := 33) (sup : Nat := 0) (ifs : Array Nat := #[]) (fds : Array FieldInfo := #[]) : ClassFile where
  minorVersion := 0
  majorVersion := 65
  constantPool := pool
  accessFlags := fl
  thisClass := this
  superClass := sup
  interfaces := ifs
  fields := fds
  methods := ms
  attributes := attrs
def plain (name : String) (sup : Option ClassId) : Class where
  name := name
  kind := .ordinary
  loader := none
  accessFlags := 33
  super := sup
  interfaces := #[]
  cf := none
  fields := #[]
  methods := #[]
  instanceTypes := #[]
  staticTypes := #[]
  resolved := #[]
  callSites := []
  init := .initialized
  statics := none
  mirror := none

def pool0 : Array CpInfo := pool [(5, u "<init>"), (0, u "()V"), (1, .class_ 10), (1, u "java/lang/Object")] 113

def k0m0 : Method := { name := "<init>", desc := "()V", sig := { parameters := [], returnType := none }, accessFlags := 1, code := none }
/-- java/lang/Object -/
def k0 : Class := { plain "java/lang/Object" none with
  accessFlags := 33
  interfaces := #[]
  cf := some (fileOf pool0 8 #[] #[{ accessFlags := 1, nameIndex := 5, descriptorIndex := 6, attributes := #[] }] 33 0 #[] #[])
  fields := #[]
  methods := #[k0m0]
  instanceTypes := #[]
  staticTypes := #[]
  resolved := Array.replicate 124 none
  statics := none }

def pool1 : Array CpInfo := pool [(2, .class_ 4), (1, u "java/lang/Object"), (0, u "<init>"), (0, u "()V"), (0, .methodref 8 9), (0, .class_ 10), (0, .nameAndType 11 12), (0, u "com/example/crackwise/crackwise/PlainDecimal"), (0, u "packed"), (0, u "(JI)J"), (0, .long 36028797018963967), (3, .long 9223372036854775808), (1, .long 256), (1, .methodref 8 22), (0, .nameAndType 23 24), (0, u "unscaled"), (0, u "(J)J"), (0, .methodref 8 26), (0, .nameAndType 27 28), (0, u "scale"), (0, u "(J)I"), (0, .class_ 30), (0, u "com/example/crackwise/crackwise/PlainDecimalPackedPinLaw"), (2, u "law"), (0, u "(JII)Z")] 3

def k1m0 : Method := { name := "<init>", desc := "()V", sig := { parameters := [], returnType := none }, accessFlags := 2, code := none }
def k1c1 : Code := { maxStack := 6, maxLocals := 12, code := code, exceptionTable := #[], attributes := #[] }
def k1m1 : Method := { name := "law", desc := "(JII)Z", sig := { parameters := [.long, .int, .int], returnType := some .boolean }, accessFlags := 9, code := some k1c1 }
/-- com/example/crackwise/crackwise/PlainDecimalPackedPinLaw -/
def k1 : Class := { plain "com/example/crackwise/crackwise/PlainDecimalPackedPinLaw" (some 0) with
  accessFlags := 49
  interfaces := #[]
  cf := some (fileOf pool1 29 #[] #[{ accessFlags := 2, nameIndex := 5, descriptorIndex := 6, attributes := #[] }, { accessFlags := 9, nameIndex := 33, descriptorIndex := 34, attributes := #[] }] 49 2 #[] #[])
  fields := #[]
  methods := #[k1m0, k1m1]
  instanceTypes := #[]
  staticTypes := #[]
  resolved := Array.replicate 38 none
  statics := none }

def pool2 : Array CpInfo := pool [(3, .class_ 4), (0, u "com/example/crackwise/crackwise/PlainDecimal"), (1, .class_ 8), (1, u "java/lang/Object"), (0, u "<init>"), (0, u "()V"), (20, .long 9223372036854775808), (14, .long 36028797018963967), (7, u "packed"), (0, u "(JI)J"), (2, u "unscaled"), (0, u "(J)J"), (2, u "scale"), (0, u "(J)I"), (4, .long 18410715276690587649), (1, .long 255), (14, u "NOT_PACKED"), (0, u "J"), (1, u "SCALE_BITS"), (0, u "I"), (1, u "MOST_SCALE"), (1, u "MOST_UNSCALED")] 28

def k2m0 : Method := { name := "<init>", desc := "()V", sig := { parameters := [], returnType := none }, accessFlags := 2, code := none }
def k2c1 : Code := { maxStack := 4, maxLocals := 4, code := prog_31_method_6_code, exceptionTable := #[], attributes := #[] }
def k2m1 : Method := { name := "packed", desc := "(JI)J", sig := { parameters := [.long, .int], returnType := some .long }, accessFlags := 8, code := some k2c1 }
def k2c2 : Code := { maxStack := 3, maxLocals := 2, code := prog_31_method_7_code, exceptionTable := #[], attributes := #[] }
def k2m2 : Method := { name := "unscaled", desc := "(J)J", sig := { parameters := [.long], returnType := some .long }, accessFlags := 8, code := some k2c2 }
def k2c3 : Code := { maxStack := 4, maxLocals := 2, code := prog_31_method_8_code, exceptionTable := #[], attributes := #[] }
def k2m3 : Method := { name := "scale", desc := "(J)I", sig := { parameters := [.long], returnType := some .int }, accessFlags := 8, code := some k2c3 }
/-- com/example/crackwise/crackwise/PlainDecimal -/
def k2 : Class := { plain "com/example/crackwise/crackwise/PlainDecimal" (some 0) with
  accessFlags := 49
  interfaces := #[]
  cf := some (fileOf pool2 3 #[] #[{ accessFlags := 2, nameIndex := 9, descriptorIndex := 10, attributes := #[] }, { accessFlags := 8, nameIndex := 54, descriptorIndex := 55, attributes := #[] }, { accessFlags := 8, nameIndex := 58, descriptorIndex := 59, attributes := #[] }, { accessFlags := 8, nameIndex := 62, descriptorIndex := 63, attributes := #[] }] 49 6 #[] #[{ accessFlags := 24, nameIndex := 85, descriptorIndex := 86, attributes := #[] }, { accessFlags := 26, nameIndex := 88, descriptorIndex := 89, attributes := #[] }, { accessFlags := 26, nameIndex := 91, descriptorIndex := 89, attributes := #[] }, { accessFlags := 26, nameIndex := 93, descriptorIndex := 86, attributes := #[] }])
  fields := #[{ name := "NOT_PACKED", type := .long, accessFlags := 24, slot := 0, constantValue := 0 }, { name := "SCALE_BITS", type := .int, accessFlags := 26, slot := 1, constantValue := 0 }, { name := "MOST_SCALE", type := .int, accessFlags := 26, slot := 2, constantValue := 0 }, { name := "MOST_UNSCALED", type := .long, accessFlags := 26, slot := 3, constantValue := 0 }]
  methods := #[k2m0, k2m1, k2m2, k2m3]
  instanceTypes := #[]
  staticTypes := #[.long, .int, .int, .long]
  resolved := Array.replicate 122 none
  statics := none }

def pool3 : Array CpInfo := pool [(1, u "java/lang/Cloneable"), (0, .class_ 1), (0, u "java/lang/Object"), (0, .class_ 3)] 3

/-- java/lang/Cloneable -/
def k3 : Class := { plain "java/lang/Cloneable" (some 0) with
  accessFlags := 1537
  interfaces := #[]
  cf := some (fileOf pool3 2 #[] #[] 1537 4 #[] #[])
  fields := #[]
  methods := #[]
  instanceTypes := #[]
  staticTypes := #[]
  resolved := Array.replicate 8 none
  statics := none }

def pool4 : Array CpInfo := pool [(1, u "java/io/Serializable"), (0, .class_ 1), (0, u "java/lang/Object"), (0, .class_ 3)] 3

/-- java/io/Serializable -/
def k4 : Class := { plain "java/io/Serializable" (some 0) with
  accessFlags := 1537
  interfaces := #[]
  cf := some (fileOf pool4 2 #[] #[] 1537 4 #[] #[])
  fields := #[]
  methods := #[]
  instanceTypes := #[]
  staticTypes := #[]
  resolved := Array.replicate 8 none
  statics := none }

/-- the primitive byte -/
def k5 : Class := { plain "byte" none with kind := .primitive 'B', accessFlags := 0x411 }
/-- [B -/
def k6 : Class := { plain "[B" (some 0) with kind := .array 5 .byte, interfaces := #[3, 4], accessFlags := 1041 }

/-- the primitive int -/
def k7 : Class := { plain "int" none with kind := .primitive 'I', accessFlags := 0x411 }
/-- [I -/
def k8 : Class := { plain "[I" (some 0) with kind := .array 7 .int, interfaces := #[3, 4], accessFlags := 1041 }

def heap : Heap := #[]
def classes : Array Class := #[k0, k1, k2, k3, k4, k5, k6, k7, k8]
def interned : List (Array UInt16 × Addr) := []
def slotsUsed : Nat := 0
def theMethod : MethodId := ⟨1, 1⟩
def args0 : Array Value := #[.long 5, .int 7, .int 1]
def aboutOver (below : List Frame) : State where
  vm := { classes := classes, interned := interned.toArray }
  heap := heap
  slotsUsed := slotsUsed
  threads := #[{ frames := .invoking theMethod args0 :: below }]
def below0 : List Frame := [.native { method := ⟨0, 0⟩, args := #[] }]
def about1 : State := aboutOver below0
def p0 : Program := .bare "" "" ""
def e0 : Env := launch0.env 0 0 0
theorem w_frames : about1.frames = Frame.invoking theMethod args0 :: below0 := rfl
set_option maxRecDepth 65536 in
theorem w_args : argsFit about1.vm theMethod args0 = true := by decide +kernel
set_option maxRecDepth 65536 in
theorem w_heap : heapFits about1 = true := by decide +kernel
set_option maxRecDepth 65536 in
theorem w_runnable : about1.curStatus? = some .runnable := by decide +kernel
set_option maxRecDepth 65536 in
theorem w_alone : about1.alone = true := by decide +kernel
set_option maxRecDepth 65536 in
theorem w_named : about1.methodNamed? x = some theMethod := by decide +kernel
set_option maxRecDepth 65536 in
theorem w_hears : about1.hears theMethod below0 = true := by decide +kernel
set_option maxRecDepth 65536 in
theorem w_ripe : about1.ripe theMethod args0 below0 = true := by decide +kernel
theorem w_running : about1.status = .running := rfl
set_option maxRecDepth 65536 in
theorem w_room : about1.hasRoom e0.platform room_1 = true :=
  launch0.hasRoom_least _ room_1 (by decide +kernel) (by decide +kernel) (by decide +kernel) (by decide +kernel) (by decide +kernel) (by decide +kernel)
theorem allAtoms_all (ts : List Jvm.Cond) (a : Array Jvm.Value) (st : Jvm.State) : (allAtoms ts).before a st = ts.all (fun c => c.before a st) := by
  induction ts with
  | nil => rfl
  | cons c t ih =>
    show (Jvm.Cond.and c (allAtoms t)).before a st = _
    rw [Jvm.Cond.before_and, ih, List.all_cons]
def words1 : List Jvm.Cond := Jvm.Cond.code x code maxLocals ret :: tables_1
/-- a 'code' word, met by the world's own term for the bytes: nothing is compared byte by byte -/
theorem code_word {y : MethodName} {bytes : ByteArray} {mx : Nat} {rt : Option FieldType} {a : Array Value} {s : State} {m : MethodId} {meth : Method} {c : Code} (h1 : s.methodNamed? y = some m) (h2 : s.vm.method? m = some meth) (h3 : meth.code = some c) (h4 : c.code = bytes)
    (h5 : (c.maxLocals == mx && c.exceptionTable.isEmpty && decide (c.maxStack ≤ mostOperands) && decide (meth.sig.returnType = rt) && !meth.locks && decide (parseMethodDescriptor y.desc = some meth.sig)) = true) : (Jvm.Cond.code y bytes mx rt).before a s = true := by
  simp only [Bool.and_eq_true, beq_iff_eq, Bool.not_eq_true', decide_eq_true_eq] at h5
  obtain ⟨⟨⟨⟨⟨g1, g2⟩, g3⟩, g4⟩, g5⟩, g6⟩ := h5
  simp [Cond.before, Cond.holds, Cond.value, h1, h2, h3, h4, g1, g2, g3, g4, g5, g6]
def isCode : Jvm.Cond → Bool
  | .code _ _ _ _ => true
  | _ => false
theorem all_split {L : List Jvm.Cond} {P : Jvm.Cond → Bool} (h1 : L.all (fun c => isCode c || P c) = true) (h2 : ∀ c ∈ L.filter isCode, P c = true) : L.all P = true := by
  refine List.all_eq_true.mpr fun c hc => ?_
  have h := List.all_eq_true.mp h1 c hc
  rcases Bool.eq_false_or_eq_true (isCode c) with hi | hi
  · exact h2 c (List.mem_filter.mpr ⟨hc, hi⟩)
  · simpa [hi] using h
set_option maxRecDepth 65536 in
theorem w_c0 : (Jvm.Cond.code x code maxLocals ret).before args0 about1 = true := code_word (m := ⟨1, 1⟩) (meth := k1m1) (c := k1c1) (by decide +kernel) rfl rfl rfl (by decide +kernel)
set_option maxRecDepth 65536 in
theorem w_c1 : (Jvm.Cond.code ({ cls := "com/example/crackwise/crackwise/PlainDecimal", name := "packed", desc := "(JI)J" } : Jvm.MethodName) prog_31_method_6_code (4 : Nat) (Option.some Jvm.ClassFile.FieldType.long)).before args0 about1 = true := code_word (m := ⟨2, 1⟩) (meth := k2m1) (c := k2c1) (by decide +kernel) rfl rfl rfl (by decide +kernel)
set_option maxRecDepth 65536 in
theorem w_c2 : (Jvm.Cond.code ({ cls := "com/example/crackwise/crackwise/PlainDecimal", name := "unscaled", desc := "(J)J" } : Jvm.MethodName) prog_31_method_7_code (2 : Nat) (Option.some Jvm.ClassFile.FieldType.long)).before args0 about1 = true := code_word (m := ⟨2, 2⟩) (meth := k2m2) (c := k2c2) (by decide +kernel) rfl rfl rfl (by decide +kernel)
set_option maxRecDepth 65536 in
theorem w_c3 : (Jvm.Cond.code ({ cls := "com/example/crackwise/crackwise/PlainDecimal", name := "scale", desc := "(J)I" } : Jvm.MethodName) prog_31_method_8_code (2 : Nat) (Option.some Jvm.ClassFile.FieldType.int)).before args0 about1 = true := code_word (m := ⟨2, 3⟩) (meth := k2m3) (c := k2c3) (by decide +kernel) rfl rfl rfl (by decide +kernel)
def codes1 : List Jvm.Cond := [Jvm.Cond.code x code maxLocals ret, Jvm.Cond.code ({ cls := "com/example/crackwise/crackwise/PlainDecimal", name := "packed", desc := "(JI)J" } : Jvm.MethodName) prog_31_method_6_code (4 : Nat) (Option.some Jvm.ClassFile.FieldType.long), Jvm.Cond.code ({ cls := "com/example/crackwise/crackwise/PlainDecimal", name := "unscaled", desc := "(J)J" } : Jvm.MethodName) prog_31_method_7_code (2 : Nat) (Option.some Jvm.ClassFile.FieldType.long), Jvm.Cond.code ({ cls := "com/example/crackwise/crackwise/PlainDecimal", name := "scale", desc := "(J)I" } : Jvm.MethodName) prog_31_method_8_code (2 : Nat) (Option.some Jvm.ClassFile.FieldType.int)]
set_option maxRecDepth 65536 in
theorem codes_eq : words1.filter isCode = codes1 := rfl
theorem w_codes : ∀ c ∈ words1.filter isCode, c.before args0 about1 = true := by
  rw [codes_eq]
  intro c hc
  simp only [codes1, List.mem_cons, List.not_mem_nil, or_false] at hc
  rcases hc with rfl | rfl | rfl | rfl
  · exact w_c0
  · exact w_c1
  · exact w_c2
  · exact w_c3
set_option maxRecDepth 65536 in
theorem w_t1 : words1.all (fun c => isCode c || c.before args0 about1) = true := by decide +kernel
theorem w_tables : (allAtoms (Jvm.Cond.code x code maxLocals ret :: tables_1)).before args0 about1 = true := by
  rw [allAtoms_all]
  show words1.all (fun c => c.before args0 about1) = true
  refine all_split ?_ w_codes
  rw [w_t1]
set_option maxRecDepth 65536 in
theorem w_case : (Jvm.Cond.and given_1 narrow_1).before args0 about1 = true := by decide +kernel
theorem w_applies : (headSpec (Jvm.Cond.code x code maxLocals ret :: tables_1) room_1).applies x e0.platform about1 = true :=
  (Spec.applies_iff w_frames).mpr ⟨w_running, w_runnable, w_alone, w_named, w_hears, w_ripe, w_room, w_tables⟩
theorem atStart : AtStart classFile x code maxLocals ret World_1 tables_1 room_1 Calls_1 rest_1 Pre_1 launch0 p0 e0 about1 theMethod args0 below0 :=
  ⟨lists_1, trivial, launch0.admits_env _ _ _, launch0.least_env, fairChoices_fair.cas, fairChoices_fair.clock, w_frames, w_args, w_heap, w_applies, trivial, trivial, w_case⟩
end start1
theorem witness_1 : WitnessClaimed_1 := ⟨start1.p0, start1.e0, start1.about1, start1.theMethod, start1.args0, start1.below0, start1.atStart⟩
end Jvm.Pilot.@@N@@
