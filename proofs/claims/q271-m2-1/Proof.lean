import JvmDerived
import JvmDerived.Pilot.@@N@@Statement
import JvmDerived.Pilot.@@N@@Code
set_option linter.unusedVariables false
set_option linter.unusedSimpArgs false
namespace Jvm.Pilot.@@N@@
open Jvm Jvm.ClassFile Sem Op Lib Jvm.Free Jvm.Stand Jvm.LawKit Jvm.RoadKit Bundle Jvm.Pilot.@@N@@.Jvm.D
section OwnKit
variable {p : Program} {l : Launch} {e : Env} {R : Room} {s : State} {m : MethodId} {args : Array Value} {below : List Frame} {meth : Method} {c : Code} {T : State} {locs : List Loc} {cells slots : Nat} {Z : State} {a0 : Array Value} {h : Heap} {Q : Option Value → Heap → List Loc → Prop} {ck sk : Nat}
/-- from the state T with the frame g on top the run comes to a return that answers Q -/
def own_R (p : Program) (e : Env) (below : List Frame) (s : State) (Q : Option Value → Heap → List Loc → Prop) (ck sk : Nat) (T : State) (g : JFrame) : Prop :=
  ∃ (t : State) (o : Outcome), Steps p.tables e below (T.setTop g) t ∧ t.status = .running ∧ Ended t below o ∧ ∃ v L, o = .returned v ∧ Q v t.heap L ∧ FrameEnd s o t L ck sk
theorem own_lift {T' : State} {g g' : JFrame} (h : ∀ target, Steps p.tables e below (T'.setTop g') target → Steps p.tables e below (T.setTop g) target) (k : own_R p e below s Q ck sk T' g') : own_R p e below s Q ck sk T g := by
  obtain ⟨t, o, h1, h2⟩ := k
  exact ⟨t, o, h _ h1, h2⟩
theorem own_cast {g g' : JFrame} (q : g = g') (k : own_R p e below s Q ck sk T g') : own_R p e below s Q ck sk T g := q ▸ k
theorem own_iadd (X : Stand p l e R s m args below meth c T locs cells slots) (hx : p.tables.exec = Jvm.exec) {pc : Nat} {Ls : Array Slot} {St : List Value} {x y : Int32} (hd : decode c.code pc = .ok (.iadd, 1)) (k : own_R p e below s Q ck sk T (mkF m (pc + 1) Ls (.int (x + y) :: St))) : own_R p e below s Q ck sk T (mkF m pc Ls (.int y :: .int x :: St)) :=
  own_lift (fun _ q => XS.iadd X.here hx rfl hd rfl q) k
theorem own_isub (X : Stand p l e R s m args below meth c T locs cells slots) (hx : p.tables.exec = Jvm.exec) {pc : Nat} {Ls : Array Slot} {St : List Value} {x y : Int32} (hd : decode c.code pc = .ok (.isub, 1)) (k : own_R p e below s Q ck sk T (mkF m (pc + 1) Ls (.int (x - y) :: St))) : own_R p e below s Q ck sk T (mkF m pc Ls (.int y :: .int x :: St)) :=
  own_lift (fun _ q => XS.isub X.here hx rfl hd rfl q) k
theorem own_imul (X : Stand p l e R s m args below meth c T locs cells slots) (hx : p.tables.exec = Jvm.exec) {pc : Nat} {Ls : Array Slot} {St : List Value} {x y : Int32} (hd : decode c.code pc = .ok (.imul, 1)) (k : own_R p e below s Q ck sk T (mkF m (pc + 1) Ls (.int (x * y) :: St))) : own_R p e below s Q ck sk T (mkF m pc Ls (.int y :: .int x :: St)) :=
  own_lift (fun _ q => XS.imul X.here hx rfl hd rfl q) k
theorem own_iand (X : Stand p l e R s m args below meth c T locs cells slots) (hx : p.tables.exec = Jvm.exec) {pc : Nat} {Ls : Array Slot} {St : List Value} {x y : Int32} (hd : decode c.code pc = .ok (.iand, 1)) (k : own_R p e below s Q ck sk T (mkF m (pc + 1) Ls (.int (x &&& y) :: St))) : own_R p e below s Q ck sk T (mkF m pc Ls (.int y :: .int x :: St)) :=
  own_lift (fun _ q => XS.iand X.here hx rfl hd rfl q) k
theorem own_ior (X : Stand p l e R s m args below meth c T locs cells slots) (hx : p.tables.exec = Jvm.exec) {pc : Nat} {Ls : Array Slot} {St : List Value} {x y : Int32} (hd : decode c.code pc = .ok (.ior, 1)) (k : own_R p e below s Q ck sk T (mkF m (pc + 1) Ls (.int (x ||| y) :: St))) : own_R p e below s Q ck sk T (mkF m pc Ls (.int y :: .int x :: St)) :=
  own_lift (fun _ q => XS.ior X.here hx rfl hd rfl q) k
theorem own_ixor (X : Stand p l e R s m args below meth c T locs cells slots) (hx : p.tables.exec = Jvm.exec) {pc : Nat} {Ls : Array Slot} {St : List Value} {x y : Int32} (hd : decode c.code pc = .ok (.ixor, 1)) (k : own_R p e below s Q ck sk T (mkF m (pc + 1) Ls (.int (x ^^^ y) :: St))) : own_R p e below s Q ck sk T (mkF m pc Ls (.int y :: .int x :: St)) :=
  own_lift (fun _ q => XS.ixor X.here hx rfl hd rfl q) k
theorem own_ishl (X : Stand p l e R s m args below meth c T locs cells slots) (hx : p.tables.exec = Jvm.exec) {pc : Nat} {Ls : Array Slot} {St : List Value} {x y : Int32} (hd : decode c.code pc = .ok (.ishl, 1)) (k : own_R p e below s Q ck sk T (mkF m (pc + 1) Ls (.int (x <<< (y &&& 31)) :: St))) : own_R p e below s Q ck sk T (mkF m pc Ls (.int y :: .int x :: St)) :=
  own_lift (fun _ q => XS.ishl X.here hx rfl hd rfl q) k
theorem own_ishr (X : Stand p l e R s m args below meth c T locs cells slots) (hx : p.tables.exec = Jvm.exec) {pc : Nat} {Ls : Array Slot} {St : List Value} {x y : Int32} (hd : decode c.code pc = .ok (.ishr, 1)) (k : own_R p e below s Q ck sk T (mkF m (pc + 1) Ls (.int (x >>> (y &&& 31)) :: St))) : own_R p e below s Q ck sk T (mkF m pc Ls (.int y :: .int x :: St)) :=
  own_lift (fun _ q => XS.ishr X.here hx rfl hd rfl q) k
theorem own_iushr (X : Stand p l e R s m args below meth c T locs cells slots) (hx : p.tables.exec = Jvm.exec) {pc : Nat} {Ls : Array Slot} {St : List Value} {x y : Int32} (hd : decode c.code pc = .ok (.iushr, 1)) (k : own_R p e below s Q ck sk T (mkF m (pc + 1) Ls (.int ((x.toUInt32 >>> (y &&& 31).toUInt32).toInt32) :: St))) : own_R p e below s Q ck sk T (mkF m pc Ls (.int y :: .int x :: St)) :=
  own_lift (fun _ q => XS.iushr X.here hx rfl hd rfl q) k
theorem own_ladd (X : Stand p l e R s m args below meth c T locs cells slots) (hx : p.tables.exec = Jvm.exec) {pc : Nat} {Ls : Array Slot} {St : List Value} {x y : Int64} (hd : decode c.code pc = .ok (.ladd, 1)) (k : own_R p e below s Q ck sk T (mkF m (pc + 1) Ls (.long (x + y) :: St))) : own_R p e below s Q ck sk T (mkF m pc Ls (.long y :: .long x :: St)) :=
  own_lift (fun _ q => XS.ladd X.here hx rfl hd rfl q) k
theorem own_lsub (X : Stand p l e R s m args below meth c T locs cells slots) (hx : p.tables.exec = Jvm.exec) {pc : Nat} {Ls : Array Slot} {St : List Value} {x y : Int64} (hd : decode c.code pc = .ok (.lsub, 1)) (k : own_R p e below s Q ck sk T (mkF m (pc + 1) Ls (.long (x - y) :: St))) : own_R p e below s Q ck sk T (mkF m pc Ls (.long y :: .long x :: St)) :=
  own_lift (fun _ q => XS.lsub X.here hx rfl hd rfl q) k
theorem own_lmul (X : Stand p l e R s m args below meth c T locs cells slots) (hx : p.tables.exec = Jvm.exec) {pc : Nat} {Ls : Array Slot} {St : List Value} {x y : Int64} (hd : decode c.code pc = .ok (.lmul, 1)) (k : own_R p e below s Q ck sk T (mkF m (pc + 1) Ls (.long (x * y) :: St))) : own_R p e below s Q ck sk T (mkF m pc Ls (.long y :: .long x :: St)) :=
  own_lift (fun _ q => XS.lmul X.here hx rfl hd rfl q) k
theorem own_land (X : Stand p l e R s m args below meth c T locs cells slots) (hx : p.tables.exec = Jvm.exec) {pc : Nat} {Ls : Array Slot} {St : List Value} {x y : Int64} (hd : decode c.code pc = .ok (.land, 1)) (k : own_R p e below s Q ck sk T (mkF m (pc + 1) Ls (.long (x &&& y) :: St))) : own_R p e below s Q ck sk T (mkF m pc Ls (.long y :: .long x :: St)) :=
  own_lift (fun _ q => XS.land X.here hx rfl hd rfl q) k
theorem own_lor (X : Stand p l e R s m args below meth c T locs cells slots) (hx : p.tables.exec = Jvm.exec) {pc : Nat} {Ls : Array Slot} {St : List Value} {x y : Int64} (hd : decode c.code pc = .ok (.lor, 1)) (k : own_R p e below s Q ck sk T (mkF m (pc + 1) Ls (.long (x ||| y) :: St))) : own_R p e below s Q ck sk T (mkF m pc Ls (.long y :: .long x :: St)) :=
  own_lift (fun _ q => XS.lor X.here hx rfl hd rfl q) k
theorem own_lshl (X : Stand p l e R s m args below meth c T locs cells slots) (hx : p.tables.exec = Jvm.exec) {pc : Nat} {Ls : Array Slot} {St : List Value} {x : Int64} {y : Int32} (hd : decode c.code pc = .ok (.lshl, 1)) (k : own_R p e below s Q ck sk T (mkF m (pc + 1) Ls (.long (x <<< (y &&& 0x3f).toInt64) :: St))) : own_R p e below s Q ck sk T (mkF m pc Ls (.int y :: .long x :: St)) :=
  own_lift (fun _ q => XS.lshl X.here hx rfl hd rfl q) k
theorem own_lshr (X : Stand p l e R s m args below meth c T locs cells slots) (hx : p.tables.exec = Jvm.exec) {pc : Nat} {Ls : Array Slot} {St : List Value} {x : Int64} {y : Int32} (hd : decode c.code pc = .ok (.lshr, 1)) (k : own_R p e below s Q ck sk T (mkF m (pc + 1) Ls (.long (x >>> (y &&& 0x3f).toInt64) :: St))) : own_R p e below s Q ck sk T (mkF m pc Ls (.int y :: .long x :: St)) :=
  own_lift (fun _ q => XS.lshr X.here hx rfl hd rfl q) k
theorem own_lushr (X : Stand p l e R s m args below meth c T locs cells slots) (hx : p.tables.exec = Jvm.exec) {pc : Nat} {Ls : Array Slot} {St : List Value} {x : Int64} {y : Int32} (hd : decode c.code pc = .ok (.lushr, 1)) (k : own_R p e below s Q ck sk T (mkF m (pc + 1) Ls (.long ((x.toUInt64 >>> (y &&& 0x3f).toInt64.toUInt64).toInt64) :: St))) : own_R p e below s Q ck sk T (mkF m pc Ls (.int y :: .long x :: St)) :=
  own_lift (fun _ q => XS.lushr X.here hx rfl hd rfl q) k
theorem own_i2b (X : Stand p l e R s m args below meth c T locs cells slots) (hx : p.tables.exec = Jvm.exec) {pc : Nat} {Ls : Array Slot} {St : List Value} {x : Int32} (hd : decode c.code pc = .ok (.i2b, 1)) (k : own_R p e below s Q ck sk T (mkF m (pc + 1) Ls (.int x.toInt8.toInt32 :: St))) : own_R p e below s Q ck sk T (mkF m pc Ls (.int x :: St)) :=
  own_lift (fun _ q => XS.i2b X.here hx rfl hd rfl q) k
theorem own_i2s (X : Stand p l e R s m args below meth c T locs cells slots) (hx : p.tables.exec = Jvm.exec) {pc : Nat} {Ls : Array Slot} {St : List Value} {x : Int32} (hd : decode c.code pc = .ok (.i2s, 1)) (k : own_R p e below s Q ck sk T (mkF m (pc + 1) Ls (.int x.toInt16.toInt32 :: St))) : own_R p e below s Q ck sk T (mkF m pc Ls (.int x :: St)) :=
  own_lift (fun _ q => XS.i2s X.here hx rfl hd rfl q) k
theorem own_i2c (X : Stand p l e R s m args below meth c T locs cells slots) (hx : p.tables.exec = Jvm.exec) {pc : Nat} {Ls : Array Slot} {St : List Value} {x : Int32} (hd : decode c.code pc = .ok (.i2c, 1)) (k : own_R p e below s Q ck sk T (mkF m (pc + 1) Ls (.int x.toUInt32.toUInt16.toUInt32.toInt32 :: St))) : own_R p e below s Q ck sk T (mkF m pc Ls (.int x :: St)) :=
  own_lift (fun _ q => XS.i2c X.here hx rfl hd rfl q) k
theorem own_i2l (X : Stand p l e R s m args below meth c T locs cells slots) (hx : p.tables.exec = Jvm.exec) {pc : Nat} {Ls : Array Slot} {St : List Value} {x : Int32} (hd : decode c.code pc = .ok (.i2l, 1)) (k : own_R p e below s Q ck sk T (mkF m (pc + 1) Ls (.long x.toInt64 :: St))) : own_R p e below s Q ck sk T (mkF m pc Ls (.int x :: St)) :=
  own_lift (fun _ q => XS.i2l X.here hx rfl hd rfl q) k
theorem own_l2i (X : Stand p l e R s m args below meth c T locs cells slots) (hx : p.tables.exec = Jvm.exec) {pc : Nat} {Ls : Array Slot} {St : List Value} {x : Int64} (hd : decode c.code pc = .ok (.l2i, 1)) (k : own_R p e below s Q ck sk T (mkF m (pc + 1) Ls (.int x.toInt32 :: St))) : own_R p e below s Q ck sk T (mkF m pc Ls (.long x :: St)) :=
  own_lift (fun _ q => XS.l2i X.here hx rfl hd rfl q) k
theorem own_ineg (X : Stand p l e R s m args below meth c T locs cells slots) (hx : p.tables.exec = Jvm.exec) {pc : Nat} {Ls : Array Slot} {St : List Value} {x : Int32} (hd : decode c.code pc = .ok (.ineg, 1)) (k : own_R p e below s Q ck sk T (mkF m (pc + 1) Ls (.int (-x) :: St))) : own_R p e below s Q ck sk T (mkF m pc Ls (.int x :: St)) :=
  own_lift (fun _ q => XS.ineg X.here hx rfl hd rfl q) k
theorem own_lneg (X : Stand p l e R s m args below meth c T locs cells slots) (hx : p.tables.exec = Jvm.exec) {pc : Nat} {Ls : Array Slot} {St : List Value} {x : Int64} (hd : decode c.code pc = .ok (.lneg, 1)) (k : own_R p e below s Q ck sk T (mkF m (pc + 1) Ls (.long (-x) :: St))) : own_R p e below s Q ck sk T (mkF m pc Ls (.long x :: St)) :=
  own_lift (fun _ q => XS.lneg X.here hx rfl hd rfl q) k
theorem own_iloadN (X : Stand p l e R s m args below meth c T locs cells slots) (hx : p.tables.exec = Jvm.exec) {pc : Nat} {Ls : Array Slot} {St : List Value} {i : Fin 4} {v : Int32} (hd : decode c.code pc = .ok (.iload_n i, 1)) (hl : Ls[i.val]? = some (.val (.int v))) (k : own_R p e below s Q ck sk T (mkF m (pc + 1) Ls (.int v :: St))) : own_R p e below s Q ck sk T (mkF m pc Ls St) :=
  own_lift (fun _ q => XS.iloadN X.here hx rfl hd hl q) k
theorem own_iload (X : Stand p l e R s m args below meth c T locs cells slots) (hx : p.tables.exec = Jvm.exec) {pc : Nat} {Ls : Array Slot} {St : List Value} {i : Nat} {v : Int32} (hd : decode c.code pc = .ok (.iload i, 2)) (hl : Ls[i]? = some (.val (.int v))) (k : own_R p e below s Q ck sk T (mkF m (pc + 2) Ls (.int v :: St))) : own_R p e below s Q ck sk T (mkF m pc Ls St) :=
  own_lift (fun _ q => XS.iload X.here hx rfl hd hl q) k
theorem own_istoreN (X : Stand p l e R s m args below meth c T locs cells slots) (hx : p.tables.exec = Jvm.exec) {pc : Nat} {Ls : Array Slot} {St : List Value} {i : Fin 4} {v : Int32} {l' : Array Slot} (hd : decode c.code pc = .ok (.istore_n i, 1)) (hl : storeLocals Ls i.val (.int v) = some l') (k : own_R p e below s Q ck sk T (mkF m (pc + 1) l' St)) : own_R p e below s Q ck sk T (mkF m pc Ls (.int v :: St)) :=
  own_lift (fun _ q => XS.istoreN X.here hx rfl hd rfl hl q) k
theorem own_istore (X : Stand p l e R s m args below meth c T locs cells slots) (hx : p.tables.exec = Jvm.exec) {pc : Nat} {Ls : Array Slot} {St : List Value} {i : Nat} {v : Int32} {l' : Array Slot} (hd : decode c.code pc = .ok (.istore i, 2)) (hl : storeLocals Ls i (.int v) = some l') (k : own_R p e below s Q ck sk T (mkF m (pc + 2) l' St)) : own_R p e below s Q ck sk T (mkF m pc Ls (.int v :: St)) :=
  own_lift (fun _ q => XS.istore X.here hx rfl hd rfl hl q) k
theorem own_lloadN (X : Stand p l e R s m args below meth c T locs cells slots) (hx : p.tables.exec = Jvm.exec) {pc : Nat} {Ls : Array Slot} {St : List Value} {i : Fin 4} {v : Int64} (hd : decode c.code pc = .ok (.lload_n i, 1)) (hl : Ls[i.val]? = some (.val (.long v))) (k : own_R p e below s Q ck sk T (mkF m (pc + 1) Ls (.long v :: St))) : own_R p e below s Q ck sk T (mkF m pc Ls St) :=
  own_lift (fun _ q => XS.lloadN X.here hx rfl hd hl q) k
theorem own_lload (X : Stand p l e R s m args below meth c T locs cells slots) (hx : p.tables.exec = Jvm.exec) {pc : Nat} {Ls : Array Slot} {St : List Value} {i : Nat} {v : Int64} (hd : decode c.code pc = .ok (.lload i, 2)) (hl : Ls[i]? = some (.val (.long v))) (k : own_R p e below s Q ck sk T (mkF m (pc + 2) Ls (.long v :: St))) : own_R p e below s Q ck sk T (mkF m pc Ls St) :=
  own_lift (fun _ q => XS.lload X.here hx rfl hd hl q) k
theorem own_lstoreN (X : Stand p l e R s m args below meth c T locs cells slots) (hx : p.tables.exec = Jvm.exec) {pc : Nat} {Ls : Array Slot} {St : List Value} {i : Fin 4} {v : Int64} {l' : Array Slot} (hd : decode c.code pc = .ok (.lstore_n i, 1)) (hl : storeLocals Ls i.val (.long v) = some l') (k : own_R p e below s Q ck sk T (mkF m (pc + 1) l' St)) : own_R p e below s Q ck sk T (mkF m pc Ls (.long v :: St)) :=
  own_lift (fun _ q => XS.lstoreN X.here hx rfl hd rfl hl q) k
theorem own_lstore (X : Stand p l e R s m args below meth c T locs cells slots) (hx : p.tables.exec = Jvm.exec) {pc : Nat} {Ls : Array Slot} {St : List Value} {i : Nat} {v : Int64} {l' : Array Slot} (hd : decode c.code pc = .ok (.lstore i, 2)) (hl : storeLocals Ls i (.long v) = some l') (k : own_R p e below s Q ck sk T (mkF m (pc + 2) l' St)) : own_R p e below s Q ck sk T (mkF m pc Ls (.long v :: St)) :=
  own_lift (fun _ q => XS.lstore X.here hx rfl hd rfl hl q) k
theorem own_aloadN (X : Stand p l e R s m args below meth c T locs cells slots) (hx : p.tables.exec = Jvm.exec) {pc : Nat} {Ls : Array Slot} {St : List Value} {i : Fin 4} {v : Value} (hd : decode c.code pc = .ok (.aload_n i, 1)) (hl : Ls[i.val]? = some (.val v)) (hv : v.isRef = true) (k : own_R p e below s Q ck sk T (mkF m (pc + 1) Ls (v :: St))) : own_R p e below s Q ck sk T (mkF m pc Ls St) :=
  own_lift (fun _ q => XS.aloadN X.here hx rfl hd hl hv q) k
theorem own_aload (X : Stand p l e R s m args below meth c T locs cells slots) (hx : p.tables.exec = Jvm.exec) {pc : Nat} {Ls : Array Slot} {St : List Value} {i : Nat} {v : Value} (hd : decode c.code pc = .ok (.aload i, 2)) (hl : Ls[i]? = some (.val v)) (hv : v.isRef = true) (k : own_R p e below s Q ck sk T (mkF m (pc + 2) Ls (v :: St))) : own_R p e below s Q ck sk T (mkF m pc Ls St) :=
  own_lift (fun _ q => XS.aload X.here hx rfl hd hl hv q) k
theorem own_astoreN (X : Stand p l e R s m args below meth c T locs cells slots) (hx : p.tables.exec = Jvm.exec) {pc : Nat} {Ls : Array Slot} {St : List Value} {i : Fin 4} {v : Value} {l' : Array Slot} (hd : decode c.code pc = .ok (.astore_n i, 1)) (hv : v.isRef = true) (hl : storeLocals Ls i.val v = some l') (k : own_R p e below s Q ck sk T (mkF m (pc + 1) l' St)) : own_R p e below s Q ck sk T (mkF m pc Ls (v :: St)) :=
  own_lift (fun _ q => XS.astoreN X.here hx rfl hd rfl hv hl q) k
theorem own_astore (X : Stand p l e R s m args below meth c T locs cells slots) (hx : p.tables.exec = Jvm.exec) {pc : Nat} {Ls : Array Slot} {St : List Value} {i : Nat} {v : Value} {l' : Array Slot} (hd : decode c.code pc = .ok (.astore i, 2)) (hv : v.isRef = true) (hl : storeLocals Ls i v = some l') (k : own_R p e below s Q ck sk T (mkF m (pc + 2) l' St)) : own_R p e below s Q ck sk T (mkF m pc Ls (v :: St)) :=
  own_lift (fun _ q => XS.astore X.here hx rfl hd rfl hv hl q) k
theorem own_iconst (X : Stand p l e R s m args below meth c T locs cells slots) (hx : p.tables.exec = Jvm.exec) {pc : Nat} {Ls : Array Slot} {St : List Value} {i : Int} (v : Int32) (hd : decode c.code pc = .ok (.iconst i, 1)) (hv : Int32.ofInt i = v) (k : own_R p e below s Q ck sk T (mkF m (pc + 1) Ls (.int v :: St))) : own_R p e below s Q ck sk T (mkF m pc Ls St) :=
  own_lift (fun _ q => XS.iconst X.here hx rfl hd (hv ▸ q)) k
theorem own_bipush (X : Stand p l e R s m args below meth c T locs cells slots) (hx : p.tables.exec = Jvm.exec) {pc : Nat} {Ls : Array Slot} {St : List Value} {i : Int} (v : Int32) (hd : decode c.code pc = .ok (.bipush i, 2)) (hv : (Int8.ofInt i).toInt32 = v) (k : own_R p e below s Q ck sk T (mkF m (pc + 2) Ls (.int v :: St))) : own_R p e below s Q ck sk T (mkF m pc Ls St) :=
  own_lift (fun _ q => XS.bipush X.here hx rfl hd (hv ▸ q)) k
theorem own_sipush (X : Stand p l e R s m args below meth c T locs cells slots) (hx : p.tables.exec = Jvm.exec) {pc : Nat} {Ls : Array Slot} {St : List Value} {i : Int} (v : Int32) (hd : decode c.code pc = .ok (.sipush i, 3)) (hv : (Int16.ofInt i).toInt32 = v) (k : own_R p e below s Q ck sk T (mkF m (pc + 3) Ls (.int v :: St))) : own_R p e below s Q ck sk T (mkF m pc Ls St) :=
  own_lift (fun _ q => XS.sipush X.here hx rfl hd (hv ▸ q)) k
theorem own_lconst (X : Stand p l e R s m args below meth c T locs cells slots) (hx : p.tables.exec = Jvm.exec) {pc : Nat} {Ls : Array Slot} {St : List Value} {i : Fin 2} (v : Int64) (hd : decode c.code pc = .ok (.lconst i, 1)) (hv : Int64.ofNat i = v) (k : own_R p e below s Q ck sk T (mkF m (pc + 1) Ls (.long v :: St))) : own_R p e below s Q ck sk T (mkF m pc Ls St) :=
  own_lift (fun _ q => XS.lconst X.here hx rfl hd (hv ▸ q)) k
theorem own_iinc (X : Stand p l e R s m args below meth c T locs cells slots) (hx : p.tables.exec = Jvm.exec) {pc : Nat} {Ls : Array Slot} {St : List Value} {i : Nat} {cst : Int} {x : Int32} (v : Int32) {l' : Array Slot} (hd : decode c.code pc = .ok (.iinc i cst, 3)) (hv : Int32.ofInt cst = v) (hl : Ls[i]? = some (.val (.int x))) (hl' : storeLocals Ls i (.int (x + v)) = some l') (k : own_R p e below s Q ck sk T (mkF m (pc + 3) l' St)) : own_R p e below s Q ck sk T (mkF m pc Ls St) :=
  own_lift (fun _ q => XS.iinc X.here hx rfl hd hl (hv ▸ hl') q) k
theorem own_aconst_null (X : Stand p l e R s m args below meth c T locs cells slots) (hx : p.tables.exec = Jvm.exec) {pc : Nat} {Ls : Array Slot} {St : List Value}  (hd : decode c.code pc = .ok (.aconst_null, 1)) (k : own_R p e below s Q ck sk T (mkF m (pc + 1) Ls (.null :: St))) : own_R p e below s Q ck sk T (mkF m pc Ls St) :=
  own_lift (fun _ q => XS.aconstNull X.here hx rfl hd q) k
theorem own_dup (X : Stand p l e R s m args below meth c T locs cells slots) (hx : p.tables.exec = Jvm.exec) {pc : Nat} {Ls : Array Slot} {St : List Value} {x : Value} (hd : decode c.code pc = .ok (.dup, 1)) (hc : x.category = 1) (k : own_R p e below s Q ck sk T (mkF m (pc + 1) Ls (x :: x :: St))) : own_R p e below s Q ck sk T (mkF m pc Ls (x :: St)) :=
  own_lift (fun _ q => XS.dup X.here hx rfl hd rfl hc q) k
theorem own_dup_x1 (X : Stand p l e R s m args below meth c T locs cells slots) (hx : p.tables.exec = Jvm.exec) {pc : Nat} {Ls : Array Slot} {St : List Value} {x y : Value} (hd : decode c.code pc = .ok (.dup_x1, 1)) (hc : x.category = 1) (hc2 : y.category = 1) (k : own_R p e below s Q ck sk T (mkF m (pc + 1) Ls (x :: y :: x :: St))) : own_R p e below s Q ck sk T (mkF m pc Ls (x :: y :: St)) :=
  own_lift (fun _ q => XS.dupX1 X.here hx rfl hd rfl hc hc2 q) k
theorem own_pop (X : Stand p l e R s m args below meth c T locs cells slots) (hx : p.tables.exec = Jvm.exec) {pc : Nat} {Ls : Array Slot} {St : List Value} {x : Value} (hd : decode c.code pc = .ok (.pop, 1)) (hc : x.category = 1) (k : own_R p e below s Q ck sk T (mkF m (pc + 1) Ls St)) : own_R p e below s Q ck sk T (mkF m pc Ls (x :: St)) :=
  own_lift (fun _ q => XS.pop X.here hx rfl hd rfl hc q) k
theorem own_goto (X : Stand p l e R s m args below meth c T locs cells slots) (hx : p.tables.exec = Jvm.exec) {pc : Nat} {Ls : Array Slot} {St : List Value} {o : Int} {pc' : Nat} (hd : decode c.code pc = .ok (.goto o, 3)) (ho : 0 ≤ (pc : Int) + o) (hp : ((pc : Int) + o).toNat = pc') (k : own_R p e below s Q ck sk T (mkF m pc' Ls St)) : own_R p e below s Q ck sk T (mkF m pc Ls St) :=
  own_lift (fun _ q => XS.goto X.here hx rfl (pc0 := pc) rfl hd ho hp q) k
theorem own_ifnullY (X : Stand p l e R s m args below meth c T locs cells slots) (hx : p.tables.exec = Jvm.exec) {pc : Nat} {Ls : Array Slot} {St : List Value} {o : Int} {pc' : Nat} (hd : decode c.code pc = .ok (.ifnull o, 3)) (ho : 0 ≤ (pc : Int) + o) (hp : ((pc : Int) + o).toNat = pc') (k : own_R p e below s Q ck sk T (mkF m pc' Ls St)) : own_R p e below s Q ck sk T (mkF m pc Ls (.null :: St)) :=
  own_lift (fun _ q => XS.ifnullYes X.here hx rfl (pc0 := pc) rfl hd rfl ho hp q) k
theorem own_ifnullN (X : Stand p l e R s m args below meth c T locs cells slots) (hx : p.tables.exec = Jvm.exec) {pc : Nat} {Ls : Array Slot} {St : List Value} {o : Int} {b : Addr} (hd : decode c.code pc = .ok (.ifnull o, 3)) (k : own_R p e below s Q ck sk T (mkF m (pc + 3) Ls St)) : own_R p e below s Q ck sk T (mkF m pc Ls (.ref b :: St)) :=
  own_lift (fun _ q => XS.ifnullNo X.here hx rfl hd rfl q) k
theorem own_ifnonnullY (X : Stand p l e R s m args below meth c T locs cells slots) (hx : p.tables.exec = Jvm.exec) {pc : Nat} {Ls : Array Slot} {St : List Value} {o : Int} {pc' : Nat} {b : Addr} (hd : decode c.code pc = .ok (.ifnonnull o, 3)) (ho : 0 ≤ (pc : Int) + o) (hp : ((pc : Int) + o).toNat = pc') (k : own_R p e below s Q ck sk T (mkF m pc' Ls St)) : own_R p e below s Q ck sk T (mkF m pc Ls (.ref b :: St)) :=
  own_lift (fun _ q => XS.ifnonnullYes X.here hx rfl (pc0 := pc) rfl hd rfl ho hp q) k
theorem own_ifnonnullN (X : Stand p l e R s m args below meth c T locs cells slots) (hx : p.tables.exec = Jvm.exec) {pc : Nat} {Ls : Array Slot} {St : List Value} {o : Int} (hd : decode c.code pc = .ok (.ifnonnull o, 3)) (k : own_R p e below s Q ck sk T (mkF m (pc + 3) Ls St)) : own_R p e below s Q ck sk T (mkF m pc Ls (.null :: St)) :=
  own_lift (fun _ q => XS.ifnonnullNo X.here hx rfl hd rfl q) k
theorem own_irem (X : Stand p l e R s m args below meth c T locs cells slots) (hx : p.tables.exec = Jvm.exec) {pc : Nat} {Ls : Array Slot} {St : List Value} {x y : Int32} (hd : decode c.code pc = .ok (.irem, 1)) (hy : y ≠ 0) (k : own_R p e below s Q ck sk T (mkF m (pc + 1) Ls (.int (x % y) :: St))) : own_R p e below s Q ck sk T (mkF m pc Ls (.int y :: .int x :: St)) :=
  own_lift (fun _ q => iremM X hx rfl hd rfl hy q) k
theorem own_ldc (X : Stand p l e R s m args below meth c T locs cells slots) (hx : p.tables.exec = Jvm.exec) (hZ : Z.Warmed39 s.vm) {own : String} {index : Nat} {v : Int32} (hown : s.vm.findClass own = some m.cls) (w : (Cond.constant own index v).before a0 Z = true) {pc : Nat} {Ls : Array Slot} {St : List Value} (hd : decode c.code pc = .ok (.ldc index, 2)) (k : own_R p e below s Q ck sk T (mkF m (pc + 2) Ls (.int v :: St))) : own_R p e below s Q ck sk T (mkF m pc Ls St) :=
  own_lift (fun _ q => X.ldcInt hx hown (mvT hZ w) (g := mkF m pc Ls St) rfl hd _ q) k
theorem own_ldc2 (X : Stand p l e R s m args below meth c T locs cells slots) (hx : p.tables.exec = Jvm.exec) (hZ : Z.Warmed39 s.vm) {own : String} {index : Nat} {v : Int64} (hown : s.vm.findClass own = some m.cls) (w : (Cond.constantLong own index v).before a0 Z = true) {pc : Nat} {Ls : Array Slot} {St : List Value} (hd : decode c.code pc = .ok (.ldc2_w index, 3)) (k : own_R p e below s Q ck sk T (mkF m (pc + 3) Ls (.long v :: St))) : own_R p e below s Q ck sk T (mkF m pc Ls St) :=
  own_lift (fun _ q => X.ldc2Long hx hown (mvT hZ w) (g := mkF m pc Ls St) rfl hd _ q) k
theorem own_dup2 (X : Stand p l e R s m args below meth c T locs cells slots) (hx : p.tables.exec = Jvm.exec) {pc : Nat} {Ls : Array Slot} {St : List Value} {x y : Value} (hd : decode c.code pc = .ok (.dup2, 1)) (h1 : x.category = 1) (h2 : y.category = 1) (k : own_R p e below s Q ck sk T (mkF m (pc + 1) Ls (x :: y :: x :: y :: St))) : own_R p e below s Q ck sk T (mkF m pc Ls (x :: y :: St)) :=
  own_lift (fun _ q => by
    show Steps p.tables e below (T.setTop { method := m, pc := pc, locals := Ls, stack := x :: y :: St, locked := none }) _
    jvm_step X.here [X.here.top, hx, hd, h1, h2]
    exact q) k
/-! branches: both ways -/
theorem own_icmp (X : Stand p l e R s m args below meth c T locs cells slots) (hx : p.tables.exec = Jvm.exec) {pc pc' : Nat} {Ls : Array Slot} {St : List Value} {x y : Int32} {cd : ClassFile.Cond} {o : Int} (hd : decode c.code pc = .ok (.if_icmp cd o, 3)) (ho : 0 ≤ (pc : Int) + o) (hp : ((pc : Int) + o).toNat = pc')
    (k1 : if_icmp.holds cd x y = true → own_R p e below s Q ck sk T (mkF m pc' Ls St)) (k2 : if_icmp.holds cd x y = false → own_R p e below s Q ck sk T (mkF m (pc + 3) Ls St)) : own_R p e below s Q ck sk T (mkF m pc Ls (.int y :: .int x :: St)) := by
  cases hc : if_icmp.holds cd x y
  · exact own_lift (fun _ q => XS.icmpNo X.here hx rfl hd rfl hc q) (k2 hc)
  · exact own_lift (fun _ q => XS.icmpYes X.here hx rfl (pc0 := pc) rfl hd rfl hc ho hp q) (k1 hc)
theorem own_if (X : Stand p l e R s m args below meth c T locs cells slots) (hx : p.tables.exec = Jvm.exec) {pc pc' : Nat} {Ls : Array Slot} {St : List Value} {x : Int32} {cd : ClassFile.Cond} {o : Int} (hd : decode c.code pc = .ok (.ifCond cd o, 3)) (ho : 0 ≤ (pc : Int) + o) (hp : ((pc : Int) + o).toNat = pc')
    (k1 : if_icmp.holds cd x 0 = true → own_R p e below s Q ck sk T (mkF m pc' Ls St)) (k2 : if_icmp.holds cd x 0 = false → own_R p e below s Q ck sk T (mkF m (pc + 3) Ls St)) : own_R p e below s Q ck sk T (mkF m pc Ls (.int x :: St)) := by
  cases hc : if_icmp.holds cd x 0
  · exact own_lift (fun _ q => XS.ifNo X.here hx rfl hd rfl ((if0 _ _).trans hc) q) (k2 hc)
  · exact own_lift (fun _ q => XS.ifYes X.here hx rfl (pc0 := pc) rfl hd rfl ((if0 _ _).trans hc) ho hp q) (k1 hc)
theorem own_lt1 {x y : Int32} (q : if_icmp.holds .lt x y = true) : x < y := by simpa [if_icmp.holds] using q
theorem own_lt0 {x y : Int32} (q : if_icmp.holds .lt x y = false) : ¬ x < y := by simpa [if_icmp.holds] using q
theorem own_ge1 {x y : Int32} (q : if_icmp.holds .ge x y = true) : ¬ x < y := by simpa [if_icmp.holds] using q
theorem own_ge0 {x y : Int32} (q : if_icmp.holds .ge x y = false) : x < y := by simpa [if_icmp.holds] using q
theorem own_gt1 {x y : Int32} (q : if_icmp.holds .gt x y = true) : y < x := by simpa [if_icmp.holds] using q
theorem own_gt0 {x y : Int32} (q : if_icmp.holds .gt x y = false) : ¬ y < x := by simpa [if_icmp.holds] using q
theorem own_le1 {x y : Int32} (q : if_icmp.holds .le x y = true) : ¬ y < x := by simpa [if_icmp.holds] using q
theorem own_le0 {x y : Int32} (q : if_icmp.holds .le x y = false) : y < x := by simpa [if_icmp.holds] using q
theorem own_eq1 {x y : Int32} (q : if_icmp.holds .eq x y = true) : x = y := by simpa [if_icmp.holds] using q
theorem own_eq0 {x y : Int32} (q : if_icmp.holds .eq x y = false) : ¬ x = y := by simpa [if_icmp.holds] using q
theorem own_ne1 {x y : Int32} (q : if_icmp.holds .ne x y = true) : ¬ x = y := by simpa [if_icmp.holds] using q
theorem own_ne0 {x y : Int32} (q : if_icmp.holds .ne x y = false) : x = y := by simpa [if_icmp.holds] using q
/-! lcmp and the branch behind it, in one -/
theorem own_lcmp (X : Stand p l e R s m args below meth c T locs cells slots) (hx : p.tables.exec = Jvm.exec) {pc pc' : Nat} {Ls : Array Slot} {St : List Value} {x y : Int64} {cd : ClassFile.Cond} {o : Int} (hd1 : decode c.code pc = .ok (.lcmp, 1)) (hd : decode c.code (pc + 1) = .ok (.ifCond cd o, 3)) (ho : 0 ≤ ((pc + 1 : Nat) : Int) + o) (hp : (((pc + 1 : Nat) : Int) + o).toNat = pc')
    (k1 : if_icmp.holds cd (lcmpW x y) 0 = true → own_R p e below s Q ck sk T (mkF m pc' Ls St)) (k2 : if_icmp.holds cd (lcmpW x y) 0 = false → own_R p e below s Q ck sk T (mkF m (pc + 4) Ls St)) : own_R p e below s Q ck sk T (mkF m pc Ls (.long y :: .long x :: St)) :=
  own_lift (fun _ q => XS.lcmp X.here hx rfl hd1 rfl q) (own_if X hx hd ho hp k1 k2)
theorem own_llt1 {x y : Int64} (q : if_icmp.holds .lt (lcmpW x y) 0 = true) : x < y := (lw_lt x y).mp (own_lt1 q)
theorem own_llt0 {x y : Int64} (q : if_icmp.holds .lt (lcmpW x y) 0 = false) : ¬ x < y := fun z => own_lt0 q ((lw_lt x y).mpr z)
theorem own_lge1 {x y : Int64} (q : if_icmp.holds .ge (lcmpW x y) 0 = true) : ¬ x < y := fun z => own_ge1 q ((lw_lt x y).mpr z)
theorem own_lge0 {x y : Int64} (q : if_icmp.holds .ge (lcmpW x y) 0 = false) : x < y := (lw_lt x y).mp (own_ge0 q)
theorem own_lgt1 {x y : Int64} (q : if_icmp.holds .gt (lcmpW x y) 0 = true) : y < x := (lw_gt x y).mp (own_gt1 q)
theorem own_lgt0 {x y : Int64} (q : if_icmp.holds .gt (lcmpW x y) 0 = false) : ¬ y < x := fun z => own_gt0 q ((lw_gt x y).mpr z)
theorem own_lle1 {x y : Int64} (q : if_icmp.holds .le (lcmpW x y) 0 = true) : ¬ y < x := fun z => own_le1 q ((lw_gt x y).mpr z)
theorem own_lle0 {x y : Int64} (q : if_icmp.holds .le (lcmpW x y) 0 = false) : y < x := (lw_gt x y).mp (own_le0 q)
theorem own_leq1 {x y : Int64} (q : if_icmp.holds .eq (lcmpW x y) 0 = true) : x = y := (lw_eq x y).mp (own_eq1 q)
theorem own_leq0 {x y : Int64} (q : if_icmp.holds .eq (lcmpW x y) 0 = false) : ¬ x = y := fun z => own_eq0 q ((lw_eq x y).mpr z)
theorem own_lne1 {x y : Int64} (q : if_icmp.holds .ne (lcmpW x y) 0 = true) : ¬ x = y := fun z => own_ne1 q ((lw_eq x y).mpr z)
theorem own_lne0 {x y : Int64} (q : if_icmp.holds .ne (lcmpW x y) 0 = false) : x = y := (lw_eq x y).mp (own_ne0 q)
/-! returns -/
theorem own_ret0 (X : Stand p l e R s m args below meth c T locs cells slots) (hx : p.tables.exec = Jvm.exec) {pc : Nat} {Ls : Array Slot} (hret : meth.sig.returnType = none) (hlk : meth.locks = false) (hd : decode c.code pc = .ok (.return_, 1)) (hQ : Q none T.heap locs) (hc : cells ≤ ck) (hs : slots ≤ sk) : own_R p e below s Q ck sk T (mkF m pc Ls []) := by
  obtain ⟨fs, hr, hrun, hended, hW, hsame⟩ := X.leave (v := none) (fun _ => rfl) hlk
  exact ⟨_, _, X.returnOut hx hret hd hr, hrun, hended, _, _, rfl, hQ, ⟨_, rfl⟩, hW, hsame.mono hc hs⟩
theorem own_retN (X : Stand p l e R s m args below meth c T locs cells slots) (hx : p.tables.exec = Jvm.exec) {pc : Nat} {Ls : Array Slot} {St : List Value} {z : Int32} {t : FieldType} (hret : meth.sig.returnType = some t) (ht : t = .boolean ∨ t = .byte ∨ t = .char ∨ t = .short) (hlk : meth.locks = false) (hd : decode c.code pc = .ok (.ireturn, 1)) (hQ : Q (some (.int (nar t z))) T.heap locs) (hc : cells ≤ ck) (hs : slots ≤ sk) : own_R p e below s Q ck sk T (mkF m pc Ls (.int z :: St)) := by
  obtain ⟨fs, hr, hrun, hended, hW, hsame⟩ := X.leave (v := some (.int (nar t z))) (fun h => by rw [hret] at h; cases h) hlk
  exact ⟨_, _, retN X hx hret ht hd hr, hrun, hended, _, _, rfl, hQ, ⟨_, rfl⟩, hW, hsame.mono hc hs⟩
theorem own_retV (X : Stand p l e R s m args below meth c T locs cells slots) (hx : p.tables.exec = Jvm.exec) {pc : Nat} {Ls : Array Slot} {St : List Value} {w : Value} {t : FieldType} {i : Instr} (hret : meth.sig.returnType = some t) (hn : narrow t w = w)
    (hi : (i = .ireturn ∧ (t = .int ∨ t = .boolean ∨ t = .byte ∨ t = .char ∨ t = .short) ∧ ∃ z, w = .int z) ∨ (i = .lreturn ∧ t = .long ∧ ∃ z, w = .long z) ∨ (i = .dreturn ∧ t = .double ∧ ∃ z, w = .double z) ∨ (i = .freturn ∧ t = .float ∧ ∃ z, w = .float z) ∨ (i = .areturn ∧ t.isReference = true ∧ w.isRef = true)) (hlk : meth.locks = false)
    (hd : decode c.code pc = .ok (i, 1)) (hQ : Q (some w) T.heap locs) (hc : cells ≤ ck) (hs : slots ≤ sk) : own_R p e below s Q ck sk T (mkF m pc Ls (w :: St)) := by
  obtain ⟨fs, hr, hrun, hended, hW, hsame⟩ := X.leave (v := some w) (fun h => by rw [hret] at h; cases h) hlk
  exact ⟨_, _, retOut X hx hret hn hi hd hr, hrun, hended, _, _, rfl, hQ, ⟨_, rfl⟩, hW, hsame.mono hc hs⟩
theorem own_retI (X : Stand p l e R s m args below meth c T locs cells slots) (hx : p.tables.exec = Jvm.exec) {pc : Nat} {Ls : Array Slot} {St : List Value} {z : Int32} (hret : meth.sig.returnType = some .int) (hlk : meth.locks = false) (hd : decode c.code pc = .ok (.ireturn, 1)) (hQ : Q (some (.int z)) T.heap locs) (hc : cells ≤ ck) (hs : slots ≤ sk) : own_R p e below s Q ck sk T (mkF m pc Ls (.int z :: St)) :=
  own_retV X hx hret rfl (Or.inl ⟨rfl, Or.inl rfl, _, rfl⟩) hlk hd hQ hc hs
theorem own_retJ (X : Stand p l e R s m args below meth c T locs cells slots) (hx : p.tables.exec = Jvm.exec) {pc : Nat} {Ls : Array Slot} {St : List Value} {z : Int64} (hret : meth.sig.returnType = some .long) (hlk : meth.locks = false) (hd : decode c.code pc = .ok (.lreturn, 1)) (hQ : Q (some (.long z)) T.heap locs) (hc : cells ≤ ck) (hs : slots ≤ sk) : own_R p e below s Q ck sk T (mkF m pc Ls (.long z :: St)) :=
  own_retV X hx hret rfl (Or.inr (Or.inl ⟨rfl, rfl, _, rfl⟩)) hlk hd hQ hc hs
theorem own_retA (X : Stand p l e R s m args below meth c T locs cells slots) (hx : p.tables.exec = Jvm.exec) {pc : Nat} {Ls : Array Slot} {St : List Value} {w : Value} {t : FieldType} (hret : meth.sig.returnType = some t) (ht : t.isReference = true) (hw : w.isRef = true) (hlk : meth.locks = false) (hd : decode c.code pc = .ok (.areturn, 1)) (hQ : Q (some w) T.heap locs) (hc : cells ≤ ck) (hs : slots ≤ sk) : own_R p e below s Q ck sk T (mkF m pc Ls (w :: St)) :=
  own_retV X hx hret (by rcases ref_cases hw with rfl | ⟨a, rfl⟩ <;> cases t <;> first | rfl | (cases ht)) (Or.inr (Or.inr (Or.inr (Or.inr ⟨rfl, ht, hw⟩)))) hlk hd hQ hc hs
/-! the heap -/
theorem own_getF (X : Stand p l e R s m args below meth c T locs cells slots) (hx : p.tables.exec = Jvm.exec) (hZ : Z.Warmed39 s.vm) {own R0 O n d host : String} {index : Nat} (hown : s.vm.findClass own = some m.cls) (w : (Cond.fieldLink own index R0 n d).before a0 Z = true ∨ (Cond.fieldLinkNest own index R0 n d host).before a0 Z = true) (via : Via Z R0 O n d) (eT : T.heap = h) {a : Addr} {v : Value} (F : Fld Z h a O n d v) {pc : Nat} {Ls : Array Slot} {St : List Value} (hd : decode c.code pc = .ok (.getfield index, 3))
    (k : ∀ T', Stand p l e R s m args below meth c T' locs cells slots → T'.heap = h → own_R p e below s Q ck sk T' (mkF m (pc + 3) Ls (v :: St))) : own_R p e below s Q ck sk T (mkF m pc Ls (.ref a :: St)) := by
  obtain ⟨T', X', e', st⟩ := getF X hx hZ hown w via eT F (g := mkF m pc Ls (.ref a :: St)) rfl rfl hd
  exact own_lift st (k T' X' e')
theorem own_putF (X : Stand p l e R s m args below meth c T locs cells slots) (hx : p.tables.exec = Jvm.exec) (hZ : Z.Warmed39 s.vm) {own R0 O n d host C : String} {index kk : Nat} {ty : FieldType} (hown : s.vm.findClass own = some m.cls) (w : (Cond.fieldLink own index R0 n d).before a0 Z = true ∨ (Cond.fieldLinkNest own index R0 n d host).before a0 Z = true) (via : Via Z R0 O n d)
    (eT : T.heap = h) {a : Addr} {v old : Value} (F : Fld Z h a O n d old) (E : Exa Z h a C) (L : (Cond.lays C O n d).before a0 Z = true ∨ ((Cond.laysFinal C O n d).before a0 Z = true ∧ own = O ∧ meth.name = "<init>")) (wi : (Cond.instantiable C kk).before a0 Z = true)
    (hty : parseFieldDescriptor d = some ty) (hn : narrow ty v = v) (hf : fits ty v = true) {pc : Nat} {Ls : Array Slot} {St : List Value} (hd : decode c.code pc = .ok (.putfield index, 3))
    (k : ∀ T' h', Stand p l e R s m args below meth c T' (locs ++ [⟨a, Jvm.RoadKit.slotOf Z O n d⟩]) cells slots → T'.heap = h' → Wr h h' a (Jvm.RoadKit.slotOf Z O n d) v → own_R p e below s Q ck sk T' (mkF m (pc + 3) Ls St)) : own_R p e below s Q ck sk T (mkF m pc Ls (v :: .ref a :: St)) := by
  obtain ⟨T', h', X', e', W, st⟩ := putF X hx hZ hown w via eT F E L wi hty hn hf (g := mkF m pc Ls (v :: .ref a :: St)) rfl rfl hd
  exact own_lift st (k T' h' X' e' W)
theorem own_putFN (X : Stand p l e R s m args below meth c T locs cells slots) (hx : p.tables.exec = Jvm.exec) (hZ : Z.Warmed39 s.vm) {own R0 O n d C : String} {index kk : Nat} {ty : FieldType} (hown : s.vm.findClass own = some m.cls) (w : (Cond.fieldLink own index R0 n d).before a0 Z = true) (via : Via Z R0 O n d)
    (eT : T.heap = h) {a : Addr} {v v' old : Value} (F : Fld Z h a O n d old) (E : Exa Z h a C) (L : (Cond.lays C O n d).before a0 Z = true ∨ ((Cond.laysFinal C O n d).before a0 Z = true ∧ own = O ∧ meth.name = "<init>")) (wi : (Cond.instantiable C kk).before a0 Z = true)
    (hty : parseFieldDescriptor d = some ty) (hn : narrow ty v = v') (hf : fits ty v' = true) {pc : Nat} {Ls : Array Slot} {St : List Value} (hd : decode c.code pc = .ok (.putfield index, 3))
    (k : ∀ T' h', Stand p l e R s m args below meth c T' (locs ++ [⟨a, Jvm.RoadKit.slotOf Z O n d⟩]) cells slots → T'.heap = h' → Wr h h' a (Jvm.RoadKit.slotOf Z O n d) v' → own_R p e below s Q ck sk T' (mkF m (pc + 3) Ls St)) : own_R p e below s Q ck sk T (mkF m pc Ls (v :: .ref a :: St)) := by
  obtain ⟨T', h', X', e', W, st⟩ := putFN X hx hZ hown w via eT F E L wi hty hn hf (g := mkF m pc Ls (v :: .ref a :: St)) rfl rfl hd
  exact own_lift st (k T' h' X' e' W)
theorem own_new (X : Stand p l e R s m args below meth c T locs cells slots) (hx : p.tables.exec = Jvm.exec) (hZ : Z.Warmed39 s.vm) {own C : String} {index n : Nat} (hown : s.vm.findClass own = some m.cls) (w : (Cond.classLink own index C).before a0 Z = true) (wi : (Cond.instantiable C n).before a0 Z = true) (wz : (Cond.initialized C).before a0 Z = true) (eT : T.heap = h) {pc : Nat} {Ls : Array Slot} {St : List Value} (hd : decode c.code pc = .ok (.new index, 3)) (hc : cells + 1 ≤ R.cells) (hl : slots + n ≤ R.slots)
    (k : ∀ T' h' b, b = h.size → Stand p l e R s m args below meth c T' locs (cells + 1) (slots + n) → T'.heap = h' → Ext h h' → Exa Z h' b C → (∀ {O nm d : String} {ty : FieldType}, Laid Z a0 C O nm d → parseFieldDescriptor d = some ty → Fld Z h' b O nm d (defaultValue ty)) → own_R p e below s Q ck sk T' (mkF m (pc + 3) Ls (.ref b :: St))) : own_R p e below s Q ck sk T (mkF m pc Ls St) := by
  obtain ⟨T', h', X', e', E, A, D, -, st⟩ := newO X hx hZ hown w wi wz eT (g := mkF m pc Ls St) rfl hd hc hl
  exact own_lift st (k T' h' _ rfl X' e' E A D)
theorem own_newA (X : Stand p l e R s m args below meth c T locs cells slots) (hx : p.tables.exec = Jvm.exec) (hZ : Z.Warmed39 s.vm) {aty : ArrayType} (w : (Cond.arrayClass (newarray.typeOf aty)).before a0 Z = true) (eT : T.heap = h) {pc : Nat} {Ls : Array Slot} {St : List Value} {n : Int32} (hd : decode c.code pc = .ok (.newarray aty, 2)) (hn : ¬ n < 0) (cap : Nat) (hcap : n.toNatClampNeg ≤ cap) (hb : cap * 8 ≤ 536870912) (hc : cells + 1 ≤ R.cells) (hl : slots + cap ≤ R.slots) {ad : String} (had : "[" ++ (newarray.typeOf aty).toString = ad) (N : Nat)
    (k : ∀ T' h' b kA, b = h.size → Stand p l e R s m args below meth c T' locs (cells + 1) (slots + cap) → T'.heap = h' → Ext h h' → Arv Z h' b kA (newarray.typeOf aty) n (List.replicate N (defaultValue (newarray.typeOf aty))) (defaultValue (newarray.typeOf aty)) → Exa Z h' b ad → own_R p e below s Q ck sk T' (mkF m (pc + 2) Ls (.ref b :: St))) : own_R p e below s Q ck sk T (mkF m pc Ls (.int n :: St)) := by
  obtain ⟨T', h', kA, X', e', E, A, EA, st⟩ := newPE X hx hZ w eT (g := mkF m pc Ls (.int n :: St)) rfl hd rfl hn hcap hb hc hl had
  have V := (Arv.new A hn).pad (vs' := List.replicate N (defaultValue (newarray.typeOf aty))) (fun i => pad_rep [] (defaultValue (newarray.typeOf aty)) N i)
  exact own_lift st (k T' h' _ kA rfl X' e' E V EA)
theorem own_len (X : Stand p l e R s m args below meth c T locs cells slots) (hx : p.tables.exec = Jvm.exec) (hZ : Z.Warmed39 s.vm) (eT : T.heap = h) {a : Addr} {kA : ClassId} {ty : FieldType} {n : Int32} {vs : List Value} {dv : Value} (V : Arv Z h a kA ty n vs dv) {pc : Nat} {Ls : Array Slot} {St : List Value} (hd : decode c.code pc = .ok (.arraylength, 1))
    (k : own_R p e below s Q ck sk T (mkF m (pc + 1) Ls (.int n :: St))) : own_R p e below s Q ck sk T (mkF m pc Ls (.ref a :: St)) := by
  obtain ⟨cl, A, -, S, N, -⟩ := V
  rw [← len_of S N] at k
  exact own_lift (fun _ q => X.arraylength hx (by rw [eT]; exact A.1) (State.isArrayOf_alike hZ.alike A.2.1) (g := mkF m pc Ls (.ref a :: St)) rfl rfl hd _ q) k
theorem own_baload (X : Stand p l e R s m args below meth c T locs cells slots) (hx : p.tables.exec = Jvm.exec) (hZ : Z.Warmed39 s.vm) (eT : T.heap = h) {a : Addr} {kA : ClassId} {n : Int32} {vs : List Value} {dv v : Value} (V : Arv Z h a kA .byte n vs dv) {pc : Nat} {Ls : Array Slot} {St : List Value} {j : Int32} (hj : ¬ j < 0 ∧ j < n) (hv : vs.getD j.toNatClampNeg dv = v) (hd : decode c.code pc = .ok (.baload, 1))
    (k : own_R p e below s Q ck sk T (mkF m (pc + 1) Ls (v :: St))) : own_R p e below s Q ck sk T (mkF m pc Ls (.int j :: .ref a :: St)) := by
  obtain ⟨cl, A, -, S, N, H, -⟩ := V
  have hin := inb_of S hj
  exact own_lift (fun _ q => X.baloadBytes hx (by rw [eT]; exact A.1) (State.isArrayOf_alike hZ.alike A.2.1) A.2.2 hin (H.at hin hv) (g := mkF m pc Ls (.int j :: .ref a :: St)) rfl rfl hd _ q) k
theorem own_zaload (X : Stand p l e R s m args below meth c T locs cells slots) (hx : p.tables.exec = Jvm.exec) (hZ : Z.Warmed39 s.vm) (eT : T.heap = h) {a : Addr} {kA : ClassId} {n : Int32} {vs : List Value} {dv v : Value} (V : Arv Z h a kA .boolean n vs dv) {pc : Nat} {Ls : Array Slot} {St : List Value} {j : Int32} (hj : ¬ j < 0 ∧ j < n) (hv : vs.getD j.toNatClampNeg dv = v) (hd : decode c.code pc = .ok (.baload, 1))
    (k : own_R p e below s Q ck sk T (mkF m (pc + 1) Ls (v :: St))) : own_R p e below s Q ck sk T (mkF m pc Ls (.int j :: .ref a :: St)) := by
  obtain ⟨cl, A, -, S, N, H, -⟩ := V
  have hin := inb_of S hj
  exact own_lift (fun _ q => X.baloadBooleans hx (by rw [eT]; exact A.1) (State.isArrayOf_alike hZ.alike A.2.1) A.2.2 hin (H.at hin hv) (g := mkF m pc Ls (.int j :: .ref a :: St)) rfl rfl hd _ q) k
theorem own_caload (X : Stand p l e R s m args below meth c T locs cells slots) (hx : p.tables.exec = Jvm.exec) (hZ : Z.Warmed39 s.vm) (eT : T.heap = h) {a : Addr} {kA : ClassId} {n : Int32} {vs : List Value} {dv v : Value} (V : Arv Z h a kA .char n vs dv) {pc : Nat} {Ls : Array Slot} {St : List Value} {j : Int32} (hj : ¬ j < 0 ∧ j < n) (hv : vs.getD j.toNatClampNeg dv = v) (hd : decode c.code pc = .ok (.caload, 1))
    (k : own_R p e below s Q ck sk T (mkF m (pc + 1) Ls (v :: St))) : own_R p e below s Q ck sk T (mkF m pc Ls (.int j :: .ref a :: St)) := by
  obtain ⟨cl, A, -, S, N, H, -⟩ := V
  have hin := inb_of S hj
  exact own_lift (fun _ q => X.caload hx (by rw [eT]; exact A.1) (State.isArrayOf_alike hZ.alike A.2.1) A.2.2 hin (H.at hin hv) (g := mkF m pc Ls (.int j :: .ref a :: St)) rfl rfl hd _ q) k
theorem own_iaload (X : Stand p l e R s m args below meth c T locs cells slots) (hx : p.tables.exec = Jvm.exec) (hZ : Z.Warmed39 s.vm) (eT : T.heap = h) {a : Addr} {kA : ClassId} {n : Int32} {vs : List Value} {dv v : Value} (V : Arv Z h a kA .int n vs dv) {pc : Nat} {Ls : Array Slot} {St : List Value} {j : Int32} (hj : ¬ j < 0 ∧ j < n) (hv : vs.getD j.toNatClampNeg dv = v) (hd : decode c.code pc = .ok (.iaload, 1))
    (k : own_R p e below s Q ck sk T (mkF m (pc + 1) Ls (v :: St))) : own_R p e below s Q ck sk T (mkF m pc Ls (.int j :: .ref a :: St)) := by
  obtain ⟨cl, A, -, S, N, H, -⟩ := V
  have hin := inb_of S hj
  exact own_lift (fun _ q => X.iaload hx (by rw [eT]; exact A.1) (State.isArrayOf_alike hZ.alike A.2.1) A.2.2 hin (H.at hin hv) (g := mkF m pc Ls (.int j :: .ref a :: St)) rfl rfl hd _ q) k
theorem own_bastore (X : Stand p l e R s m args below meth c T locs cells slots) (hx : p.tables.exec = Jvm.exec) (hZ : Z.Warmed39 s.vm) (eT : T.heap = h) {a : Addr} {kA : ClassId} {n : Int32} {vs : List Value} {dv : Value} (V : Arv Z h a kA .byte n vs dv) {pc : Nat} {Ls : Array Slot} {St : List Value} {j x x' : Int32} (hn : nar .byte x = x') (hj : ¬ j < 0 ∧ j < n) (i : Nat) (hi : j.toNatClampNeg = i) (hl : i < vs.length) (hd : decode c.code pc = .ok (.bastore, 1))
    (k : ∀ T' h', Stand p l e R s m args below meth c T' (locs ++ [⟨a, j.toNatClampNeg⟩]) cells slots → T'.heap = h' → Wr h h' a j.toNatClampNeg (.int x') → Arv Z h' a kA .byte n (vs.set i (.int x')) dv → own_R p e below s Q ck sk T' (mkF m (pc + 1) Ls St)) : own_R p e below s Q ck sk T (mkF m pc Ls (.int x :: .int j :: .ref a :: St)) := by
  obtain ⟨cl, A, q1, S, N, H, G⟩ := V
  have hin := inb_of S hj
  obtain ⟨T', h', X', e', W, st⟩ := stB X hx hZ eT A hin (g := mkF m pc Ls (.int x :: .int j :: .ref a :: St)) rfl rfl hd
  subst hn
  exact own_lift st (k T' h' X' e' W (Arv.set A q1 S N H G (fits_nar_byte _) W i hi hl))
theorem own_zastore (X : Stand p l e R s m args below meth c T locs cells slots) (hx : p.tables.exec = Jvm.exec) (hZ : Z.Warmed39 s.vm) (eT : T.heap = h) {a : Addr} {kA : ClassId} {n : Int32} {vs : List Value} {dv : Value} (V : Arv Z h a kA .boolean n vs dv) {pc : Nat} {Ls : Array Slot} {St : List Value} {j x x' : Int32} (hn : nar .boolean x = x') (hj : ¬ j < 0 ∧ j < n) (i : Nat) (hi : j.toNatClampNeg = i) (hl : i < vs.length) (hd : decode c.code pc = .ok (.bastore, 1))
    (k : ∀ T' h', Stand p l e R s m args below meth c T' (locs ++ [⟨a, j.toNatClampNeg⟩]) cells slots → T'.heap = h' → Wr h h' a j.toNatClampNeg (.int x') → Arv Z h' a kA .boolean n (vs.set i (.int x')) dv → own_R p e below s Q ck sk T' (mkF m (pc + 1) Ls St)) : own_R p e below s Q ck sk T (mkF m pc Ls (.int x :: .int j :: .ref a :: St)) := by
  obtain ⟨cl, A, q1, S, N, H, G⟩ := V
  have hin := inb_of S hj
  obtain ⟨T', h', X', e', W, st⟩ := stZ X hx hZ eT A hin (g := mkF m pc Ls (.int x :: .int j :: .ref a :: St)) rfl rfl hd
  subst hn
  exact own_lift st (k T' h' X' e' W (Arv.set A q1 S N H G (fits_nar_bool _) W i hi hl))
theorem own_castore (X : Stand p l e R s m args below meth c T locs cells slots) (hx : p.tables.exec = Jvm.exec) (hZ : Z.Warmed39 s.vm) (eT : T.heap = h) {a : Addr} {kA : ClassId} {n : Int32} {vs : List Value} {dv : Value} (V : Arv Z h a kA .char n vs dv) {pc : Nat} {Ls : Array Slot} {St : List Value} {j x x' : Int32} (hn : nar .char x = x') (hj : ¬ j < 0 ∧ j < n) (i : Nat) (hi : j.toNatClampNeg = i) (hl : i < vs.length) (hd : decode c.code pc = .ok (.castore, 1))
    (k : ∀ T' h', Stand p l e R s m args below meth c T' (locs ++ [⟨a, j.toNatClampNeg⟩]) cells slots → T'.heap = h' → Wr h h' a j.toNatClampNeg (.int x') → Arv Z h' a kA .char n (vs.set i (.int x')) dv → own_R p e below s Q ck sk T' (mkF m (pc + 1) Ls St)) : own_R p e below s Q ck sk T (mkF m pc Ls (.int x :: .int j :: .ref a :: St)) := by
  obtain ⟨cl, A, q1, S, N, H, G⟩ := V
  have hin := inb_of S hj
  obtain ⟨T', h', X', e', W, st⟩ := stC X hx hZ eT A hin (g := mkF m pc Ls (.int x :: .int j :: .ref a :: St)) rfl rfl hd
  subst hn
  exact own_lift st (k T' h' X' e' W (Arv.set A q1 S N H G (fits_nar_char _) W i hi hl))
theorem own_iastore (X : Stand p l e R s m args below meth c T locs cells slots) (hx : p.tables.exec = Jvm.exec) (hZ : Z.Warmed39 s.vm) (eT : T.heap = h) {a : Addr} {kA : ClassId} {n : Int32} {vs : List Value} {dv : Value} (V : Arv Z h a kA .int n vs dv) {pc : Nat} {Ls : Array Slot} {St : List Value} {j x x' : Int32} (hn : x = x') (hj : ¬ j < 0 ∧ j < n) (i : Nat) (hi : j.toNatClampNeg = i) (hl : i < vs.length) (hd : decode c.code pc = .ok (.iastore, 1))
    (k : ∀ T' h', Stand p l e R s m args below meth c T' (locs ++ [⟨a, j.toNatClampNeg⟩]) cells slots → T'.heap = h' → Wr h h' a j.toNatClampNeg (.int x') → Arv Z h' a kA .int n (vs.set i (.int x')) dv → own_R p e below s Q ck sk T' (mkF m (pc + 1) Ls St)) : own_R p e below s Q ck sk T (mkF m pc Ls (.int x :: .int j :: .ref a :: St)) := by
  obtain ⟨cl, A, q1, S, N, H, G⟩ := V
  have hin := inb_of S hj
  obtain ⟨T', h', X', e', W, st⟩ := stI X hx hZ eT A hin (g := mkF m pc Ls (.int x :: .int j :: .ref a :: St)) rfl rfl hd
  subst hn
  exact own_lift st (k T' h' X' e' W (Arv.set A q1 S N H G rfl W i hi hl))
theorem own_initO (X : Stand p l e R s m args below meth c T locs cells slots) (hx : p.tables.exec = Jvm.exec) (hZ : Z.Warmed39 s.vm) {own : String} {idx : Nat} (hown : s.vm.findClass own = some m.cls) (w1 : (Cond.methodLink own idx Lib.objectInit).before a0 Z = true) (w2 : (Cond.instanceMethod Lib.objectInit).before a0 Z = true)
    (w3 : (Cond.code Lib.objectInit ⟨#[0xb1]⟩ 1 none).before a0 Z = true) (eT : T.heap = h) {pc : Nat} {Ls : Array Slot} {St : List Value} {a : Addr} (hsize : Ls.size = c.maxLocals) (hd : decode c.code pc = .ok (.invokespecial idx, 3)) (hf : 1 ≤ R.frames) {W : Nat} (hW : (St.map fun v => v.category).sum ≤ W) (hl : W + 12 ≤ R.locals)
    (k : ∀ T', Stand p l e R s m args below meth c T' locs cells slots → T'.heap = h → own_R p e below s Q ck sk T' (mkF m (pc + 3) Ls St)) : own_R p e below s Q ck sk T (mkF m pc Ls (.ref a :: St)) := by
  obtain ⟨T', X', e', st⟩ := initO X hx hZ hown w1 w2 w3 eT (g := mkF m pc Ls (.ref a :: St)) rfl hsize rfl hd hf (W := W) (by show 2 * 0 + _ ≤ _; omega) hl
  exact own_lift st (k T' X' e')
/-! calls by contract -/
theorem own_callS (X : Stand p l e R s m args below meth c T locs cells slots) (hx : p.tables.exec = Jvm.exec) (hZ : Z.Warmed39 s.vm) {own : String} {index : Nat} {y : MethodName} {bytes : ByteArray} {maxL : Nat} {ret : Option FieldType} {rm : Room} {as' : Array Value} {Q' : Option Value → Heap → List Loc → Prop}
    (hown : s.vm.findClass own = some m.cls) (w1 : (Cond.methodLink own index y).before a0 Z = true) (w2 : (Cond.static y).before a0 Z = true) (w3 : (Cond.initialized y.cls).before a0 Z = true) (w4 : (Cond.code y bytes maxL ret).before a0 Z = true) (hy : y.cls ≠ "java/lang/invoke/MethodHandle" ∧ y.cls ≠ "java/lang/invoke/VarHandle")
    (hM : MetFree l y (head1 [Cond.code y bytes maxL ret] rm) (fun a U => a = as' ∧ Z.Warmed39 U.vm ∧ U.heap = h) (fun _ _ _ _ _ => True) (fun _ U o U' => ∃ v L, o = .returned v ∧ Q' v U'.heap L ∧ FrameEnd U o U' L rm.cells rm.slots))
    (W : Nat) (hf : rm.frames + 1 ≤ R.frames) (hl : W + (maxL + 11) + rm.locals ≤ R.locals) (eT : T.heap = h) {pc : Nat} {Ls : Array Slot} {St : List Value} (hsize : Ls.size = c.maxLocals) (argsL rest : List Value) (has : as' = argsL.toArray) (hlen : ∀ sig, parseMethodDescriptor y.desc = some sig → argsL.length = sig.parameters.length) (hst : St = argsL.reverse ++ rest) (hW : (rest.map fun v => v.category).sum ≤ W)
    (hd : decode c.code pc = .ok (.invokestatic index, 3)) (hc : cells + rm.cells ≤ R.cells) (hs : slots + rm.slots ≤ R.slots)
    (k : ∀ T' v L, Stand p l e R s m args below meth c T' (locs ++ L) (cells + rm.cells) (slots + rm.slots) → Q' v T'.heap L → own_R p e below s Q ck sk T' (mkF m (pc + 3) Ls (v.toList ++ rest))) : own_R p e below s Q ck sk T (mkF m pc Ls St) := by
  obtain ⟨v, _, ⟨T', L', k', n'⟩, -, X', ⟨Lc, hQ, l', y', z'⟩, st⟩ := Jvm.LawKit.callS X hx (y := y) hown (mvT hZ w1) (mvT hZ w2) (mvT hZ w3) (mvT hZ w4) hy (backOf (W := W) hM hZ w4 w3 hf hl) (g := mkF m pc Ls St) rfl hsize (argsL := argsL) (rest := rest) hlen hst (by show 2 * 0 + _ ≤ _; omega) hd (fun _ _ => ⟨has.symm, eT, hc, hs⟩)
  dsimp only [Pt.U, Pt.locs, Pt.cells, Pt.slots] at X' l' y' z' st hQ
  subst l' y' z'
  exact own_lift st (k T' v Lc X' hQ)
theorem own_callI (X : Stand p l e R s m args below meth c T locs cells slots) (hx : p.tables.exec = Jvm.exec) (hZ : Z.Warmed39 s.vm) {own : String} {index : Nat} {y : MethodName} {bytes : ByteArray} {maxL : Nat} {rm : Room} {as' : Array Value} {Q' : Option Value → Heap → List Loc → Prop} (hy1 : y.name = "<init>")
    (hown : s.vm.findClass own = some m.cls) (w1 : (Cond.methodLink own index y).before a0 Z = true) (w2 : (Cond.instanceMethod y).before a0 Z = true) (w3 : (Cond.initialized y.cls).before a0 Z = true) (w4 : (Cond.code y bytes maxL none).before a0 Z = true) (hy : y.cls ≠ "java/lang/invoke/MethodHandle" ∧ y.cls ≠ "java/lang/invoke/VarHandle")
    (hM : MetFree l y (head1 [Cond.code y bytes maxL none] rm) (fun a U => a = as' ∧ Z.Warmed39 U.vm ∧ U.heap = h) (fun _ _ _ _ _ => True) (fun _ U o U' => ∃ v L, o = .returned v ∧ Q' v U'.heap L ∧ FrameEnd U o U' L rm.cells rm.slots))
    (W : Nat) (hf : rm.frames + 1 ≤ R.frames) (hl : W + (maxL + 11) + rm.locals ≤ R.locals) (eT : T.heap = h) {pc : Nat} {Ls : Array Slot} {St : List Value} (hsize : Ls.size = c.maxLocals) (a : Addr) (argsL rest : List Value) (has : as' = (.ref a :: argsL).toArray) (hlen : ∀ sig, parseMethodDescriptor y.desc = some sig → argsL.length = sig.parameters.length) (hst : St = argsL.reverse ++ .ref a :: rest) (hW : (rest.map fun v => v.category).sum ≤ W)
    (hd : decode c.code pc = .ok (.invokespecial index, 3)) (hc : cells + rm.cells ≤ R.cells) (hs : slots + rm.slots ≤ R.slots)
    (k : ∀ T' v L, Stand p l e R s m args below meth c T' (locs ++ L) (cells + rm.cells) (slots + rm.slots) → Q' v T'.heap L → own_R p e below s Q ck sk T' (mkF m (pc + 3) Ls (v.toList ++ rest))) : own_R p e below s Q ck sk T (mkF m pc Ls St) := by
  obtain ⟨v, _, ⟨T', L', k', n'⟩, -, X', ⟨Lc, hQ, l', y', z'⟩, st⟩ := X.specialBack hx (y := y) hy1 hown (mvT hZ w1) (mvT hZ w2) (mvT hZ w4) hy (backOf (W := W) hM hZ w4 w3 hf hl) (g := mkF m pc Ls St) rfl hsize (Steps.refl _) (a := a) (argsL := argsL) (rest := rest) hlen hst (by show 2 * 0 + _ ≤ _; omega) hd (fun _ _ => ⟨has.symm, eT, hc, hs⟩)
  dsimp only [Pt.U, Pt.locs, Pt.cells, Pt.slots] at X' l' y' z' st hQ
  subst l' y' z'
  exact own_lift (fun _ q => st.trans q) (k T' v Lc X' hQ)
theorem own_callV (X : Stand p l e R s m args below meth c T locs cells slots) (hx : p.tables.exec = Jvm.exec) (hZ : Z.Warmed39 s.vm) {own C : String} {index : Nat} {y z : MethodName} {bytes : ByteArray} {maxL : Nat} {ret : Option FieldType} {rm : Room} {as' : Array Value} {Q' : Option Value → Heap → List Loc → Prop}
    (hown : s.vm.findClass own = some m.cls) (w1 : (Cond.methodLink own index y).before a0 Z = true) (w2 : (Cond.declares y).before a0 Z = true) (nf : NotFace s y) (w5 : (Cond.selects C y z).before a0 Z = true) (w6 : (Cond.instanceMethod z).before a0 Z = true) (w3 : (Cond.initialized z.cls).before a0 Z = true) (w4 : (Cond.code z bytes maxL ret).before a0 Z = true) (hy : y.cls ≠ "java/lang/invoke/MethodHandle" ∧ y.cls ≠ "java/lang/invoke/VarHandle")
    (hM : MetFree l z (head1 [Cond.code z bytes maxL ret] rm) (fun a U => a = as' ∧ Z.Warmed39 U.vm ∧ U.heap = h) (fun _ _ _ _ _ => True) (fun _ U o U' => ∃ v L, o = .returned v ∧ Q' v U'.heap L ∧ FrameEnd U o U' L rm.cells rm.slots))
    (W : Nat) (hf : rm.frames + 1 ≤ R.frames) (hl : W + (maxL + 11) + rm.locals ≤ R.locals) (eT : T.heap = h) {pc : Nat} {Ls : Array Slot} {St : List Value} (hsize : Ls.size = c.maxLocals) (a : Addr) (E : Exa Z h a C) (argsL rest : List Value) (has : as' = (.ref a :: argsL).toArray) (hlen : ∀ sig, parseMethodDescriptor y.desc = some sig → argsL.length = sig.parameters.length) (hst : St = argsL.reverse ++ .ref a :: rest) (hW : (rest.map fun v => v.category).sum ≤ W)
    (hd : decode c.code pc = .ok (.invokevirtual index, 3)) (hc : cells + rm.cells ≤ R.cells) (hs : slots + rm.slots ≤ R.slots)
    (k : ∀ T' v L, Stand p l e R s m args below meth c T' (locs ++ L) (cells + rm.cells) (slots + rm.slots) → Q' v T'.heap L → own_R p e below s Q ck sk T' (mkF m (pc + 3) Ls (v.toList ++ rest))) : own_R p e below s Q ck sk T (mkF m pc Ls St) := by
  obtain ⟨cq, kq, qa, qb, qc⟩ := isOf hZ eT E
  obtain ⟨v, _, ⟨T', L', k', n'⟩, -, X', ⟨Lc, hQ, l', y', z'⟩, st⟩ := X.virtualBack hx (y := y) (z := z) hown (mvT hZ w1) (mvT hZ w2) nf (mvT hZ w5) (mvT hZ w6) hy (backOf (W := W) hM hZ w4 w3 hf hl) qa qc (g := mkF m pc Ls St) rfl hsize (Steps.refl _) (argsL := argsL) (rest := rest) hlen hst (by show 2 * 0 + _ ≤ _; omega) hd (fun _ _ => ⟨has.symm, eT, hc, hs⟩)
  dsimp only [Pt.U, Pt.locs, Pt.cells, Pt.slots] at X' l' y' z' st hQ
  subst l' y' z'
  exact own_lift (fun _ q => st.trans q) (k T' v Lc X' hQ)
end OwnKit

theorem pl_16 (t : Int32) (h0 : ¬ t < 0) (h1 : t < 16) : t = 0 ∨ t = 1 ∨ t = 2 ∨ t = 3 ∨ t = 4 ∨ t = 5 ∨ t = 6 ∨ t = 7 ∨ t = 8 ∨ t = 9 ∨ t = 10 ∨ t = 11 ∨ t = 12 ∨ t = 13 ∨ t = 14 ∨ t = 15 := by
  simp only [Int32.lt_iff_toInt_lt, ← Int32.toInt_inj, show (0 : Int32).toInt = 0 from by decide, show (1 : Int32).toInt = 1 from by decide, show (2 : Int32).toInt = 2 from by decide, show (3 : Int32).toInt = 3 from by decide, show (4 : Int32).toInt = 4 from by decide, show (5 : Int32).toInt = 5 from by decide, show (6 : Int32).toInt = 6 from by decide, show (7 : Int32).toInt = 7 from by decide, show (8 : Int32).toInt = 8 from by decide, show (9 : Int32).toInt = 9 from by decide, show (10 : Int32).toInt = 10 from by decide, show (11 : Int32).toInt = 11 from by decide, show (12 : Int32).toInt = 12 from by decide, show (13 : Int32).toInt = 13 from by decide, show (14 : Int32).toInt = 14 from by decide, show (15 : Int32).toInt = 15 from by decide, show (16 : Int32).toInt = 16 from by decide] at *
  omega

theorem d1_0 : decode prog_42_method_5_code 0 = .ok (.iload_n 0, 1) := by decide +kernel
theorem d1_1 : decode prog_42_method_5_code 1 = .ok (.iconst 1, 1) := by decide +kernel
theorem d1_2 : decode prog_42_method_5_code 2 = .ok (.if_icmp .eq 30, 3) := by decide +kernel
theorem d1_5 : decode prog_42_method_5_code 5 = .ok (.iload_n 0, 1) := by decide +kernel
theorem d1_6 : decode prog_42_method_5_code 6 = .ok (.iconst 3, 1) := by decide +kernel
theorem d1_7 : decode prog_42_method_5_code 7 = .ok (.if_icmp .eq 25, 3) := by decide +kernel
theorem d1_10 : decode prog_42_method_5_code 10 = .ok (.iload_n 0, 1) := by decide +kernel
theorem d1_11 : decode prog_42_method_5_code 11 = .ok (.bipush 8, 2) := by decide +kernel
theorem d1_13 : decode prog_42_method_5_code 13 = .ok (.if_icmp .eq 19, 3) := by decide +kernel
theorem d1_16 : decode prog_42_method_5_code 16 = .ok (.iload_n 0, 1) := by decide +kernel
theorem d1_17 : decode prog_42_method_5_code 17 = .ok (.bipush 7, 2) := by decide +kernel
theorem d1_19 : decode prog_42_method_5_code 19 = .ok (.if_icmp .eq 13, 3) := by decide +kernel
theorem d1_22 : decode prog_42_method_5_code 22 = .ok (.iload_n 0, 1) := by decide +kernel
theorem d1_23 : decode prog_42_method_5_code 23 = .ok (.iconst 4, 1) := by decide +kernel
theorem d1_24 : decode prog_42_method_5_code 24 = .ok (.if_icmp .eq 8, 3) := by decide +kernel
theorem d1_27 : decode prog_42_method_5_code 27 = .ok (.iload_n 0, 1) := by decide +kernel
theorem d1_28 : decode prog_42_method_5_code 28 = .ok (.iconst 5, 1) := by decide +kernel
theorem d1_29 : decode prog_42_method_5_code 29 = .ok (.if_icmp .ne 7, 3) := by decide +kernel
theorem d1_32 : decode prog_42_method_5_code 32 = .ok (.iconst 1, 1) := by decide +kernel
theorem d1_33 : decode prog_42_method_5_code 33 = .ok (.goto 4, 3) := by decide +kernel
theorem d1_36 : decode prog_42_method_5_code 36 = .ok (.iconst 0, 1) := by decide +kernel
theorem d1_37 : decode prog_42_method_5_code 37 = .ok (.ireturn, 1) := by decide +kernel
theorem pd_0 : parseMethodDescriptor "(S)Z" = some ⟨[.short], some .boolean⟩ := by decide +kernel
def pl_f (p1 : Int32) : Int32 := (if p1 = (1 : Int32) then (1 : Int32) else (if p1 = (3 : Int32) then (1 : Int32) else (if p1 = (8 : Int32) then (1 : Int32) else (if p1 = (7 : Int32) then (1 : Int32) else (if p1 = (4 : Int32) then (1 : Int32) else (if p1 = (5 : Int32) then (1 : Int32) else (0 : Int32)))))))
theorem pn_1 : plainFor (⟨"com/example/trim_tree/trimtree/DomParent", "holdsContent", "(S)Z"⟩ : MethodName) = true := by decide +kernel
theorem ef_1 (m : MethodId) (p1 : Int32) : entryFrame m #[(.int p1)] 1 = mkF m 0 #[.val (.int p1)] [] := by first | (simp [entryFrame, mkF, argsToLocals, Value.category]; done) | rfl
def Q1 (Z : State) (p1 : Int32) (h0 : Heap) (n0 : Nat) (v : Option Value) (h : Heap) (L : List Loc) : Prop := v = some (.int (pl_f p1)) ∧ Fr n0 L ∧ h = h0
set_option maxRecDepth 65536 in
set_option maxHeartbeats 40000000 in
theorem rm1 (l : Launch) (Z : State) (a0 : Array Value) (hw : ∀ d ∈ tables_1, d.before a0 Z = true) (ws : List Jvm.Cond) (p1 : Int32) (h0 : Heap) (n0 : Nat) (Z0 : n0 ≤ h0.size) :
    MetFree l (⟨"com/example/trim_tree/trimtree/DomParent", "holdsContent", "(S)Z"⟩ : MethodName) (head1 (Jvm.Cond.code (⟨"com/example/trim_tree/trimtree/DomParent", "holdsContent", "(S)Z"⟩ : MethodName) prog_42_method_5_code 1 (some .boolean) :: ws) ({ frames := 0, cells := 0, slots := 0, locals := 0 } : Room)) (fun a U => a = #[(.int p1)] ∧ Z.Warmed39 U.vm ∧ U.heap = h0) (fun _ _ _ _ _ => True) (fun _ U o U' => ∃ v L, o = .returned v ∧ Q1 Z p1 h0 n0 v U'.heap L ∧ FrameEnd U o U' L ({ frames := 0, cells := 0, slots := 0, locals := 0 } : Room).cells ({ frames := 0, cells := 0, slots := 0, locals := 0 } : Room).slots) := by
  refine MetFree.of_bodySF pn_1 hisR ?_
  intro p e s m args below meth c s₁ Bd hml0 hP hK
  obtain ⟨rfl, hZ, hh⟩ := hP
  have hx := Bd.exec
  have hby := Bd.bytes
  have hml : c.maxLocals = 1 := hml0
  have hown : s.vm.findClass "com/example/trim_tree/trimtree/DomParent" = some m.cls := findClass_of_methodNamed Bd.named
  have hnm := (name_of_methodNamed Bd.named Bd.method).1
  have hlk := BodyLoose.notSynchronized Bd
  have X0 : Stand p l e ({ frames := 0, cells := 0, slots := 0, locals := 0 } : Room) s m #[(.int p1)] below meth c s₁ [] 0 0 := Stand.of_body Bd
  have e0 : s₁.heap = h0 := by rw [← hh, Bd.state]; rfl
  have N0 := Fr.nil n0
  show own_R p e below s (Q1 Z p1 h0 n0) ({ frames := 0, cells := 0, slots := 0, locals := 0 } : Room).cells ({ frames := 0, cells := 0, slots := 0, locals := 0 } : Room).slots s₁ (entryFrame m #[(.int p1)] 1)
  refine own_cast (ef_1 m p1) ?_
  show own_R p e below s _ _ _ s₁ (mkF m 0 #[.val (.int p1)] [])
  refine own_iloadN X0 hx (hb hby d1_0) rfl ?_
  show own_R p e below s _ _ _ s₁ (mkF m 1 #[.val (.int p1)] [(.int p1)])
  refine own_iconst X0 hx (1 : Int32) (hb hby d1_1) rfl ?_
  show own_R p e below s _ _ _ s₁ (mkF m 2 #[.val (.int p1)] [(.int (1 : Int32)), (.int p1)])
  refine own_icmp X0 hx (hb hby d1_2) (pc' := 32) (by decide) (by decide) (fun hc => ?_) (fun hc => ?_)
  · have hc2 : p1 = (1 : Int32) := own_eq1 hc
    clear hc
    show own_R p e below s _ _ _ s₁ (mkF m 32 #[.val (.int p1)] [])
    refine own_iconst X0 hx (1 : Int32) (hb hby d1_32) rfl ?_
    show own_R p e below s _ _ _ s₁ (mkF m 33 #[.val (.int p1)] [(.int (1 : Int32))])
    refine own_goto X0 hx (hb hby d1_33) (pc' := 37) (by decide) (by decide) ?_
    show own_R p e below s _ _ _ s₁ (mkF m 37 #[.val (.int p1)] [(.int (1 : Int32))])
    refine own_retN X0 hx (t := .boolean) Bd.returns (by simp) hlk (hb hby d1_37) ?_ (by decide) (by decide)
    refine ⟨?_, N0, e0⟩
    show some (Value.int _) = some (Value.int (pl_f p1))
    rw [pl_f, if_pos hc2] <;> first | rfl | decide
  · have hc2 : ¬ p1 = (1 : Int32) := own_eq0 hc
    clear hc
    show own_R p e below s _ _ _ s₁ (mkF m 5 #[.val (.int p1)] [])
    refine own_iloadN X0 hx (hb hby d1_5) rfl ?_
    show own_R p e below s _ _ _ s₁ (mkF m 6 #[.val (.int p1)] [(.int p1)])
    refine own_iconst X0 hx (3 : Int32) (hb hby d1_6) rfl ?_
    show own_R p e below s _ _ _ s₁ (mkF m 7 #[.val (.int p1)] [(.int (3 : Int32)), (.int p1)])
    refine own_icmp X0 hx (hb hby d1_7) (pc' := 32) (by decide) (by decide) (fun hc => ?_) (fun hc => ?_)
    · have hc7 : p1 = (3 : Int32) := own_eq1 hc
      clear hc
      show own_R p e below s _ _ _ s₁ (mkF m 32 #[.val (.int p1)] [])
      refine own_iconst X0 hx (1 : Int32) (hb hby d1_32) rfl ?_
      show own_R p e below s _ _ _ s₁ (mkF m 33 #[.val (.int p1)] [(.int (1 : Int32))])
      refine own_goto X0 hx (hb hby d1_33) (pc' := 37) (by decide) (by decide) ?_
      show own_R p e below s _ _ _ s₁ (mkF m 37 #[.val (.int p1)] [(.int (1 : Int32))])
      refine own_retN X0 hx (t := .boolean) Bd.returns (by simp) hlk (hb hby d1_37) ?_ (by decide) (by decide)
      refine ⟨?_, N0, e0⟩
      show some (Value.int _) = some (Value.int (pl_f p1))
      rw [pl_f, if_neg hc2, if_pos hc7] <;> first | rfl | decide
    · have hc7 : ¬ p1 = (3 : Int32) := own_eq0 hc
      clear hc
      show own_R p e below s _ _ _ s₁ (mkF m 10 #[.val (.int p1)] [])
      refine own_iloadN X0 hx (hb hby d1_10) rfl ?_
      show own_R p e below s _ _ _ s₁ (mkF m 11 #[.val (.int p1)] [(.int p1)])
      refine own_bipush X0 hx (8 : Int32) (hb hby d1_11) rfl ?_
      show own_R p e below s _ _ _ s₁ (mkF m 13 #[.val (.int p1)] [(.int (8 : Int32)), (.int p1)])
      refine own_icmp X0 hx (hb hby d1_13) (pc' := 32) (by decide) (by decide) (fun hc => ?_) (fun hc => ?_)
      · have hc13 : p1 = (8 : Int32) := own_eq1 hc
        clear hc
        show own_R p e below s _ _ _ s₁ (mkF m 32 #[.val (.int p1)] [])
        refine own_iconst X0 hx (1 : Int32) (hb hby d1_32) rfl ?_
        show own_R p e below s _ _ _ s₁ (mkF m 33 #[.val (.int p1)] [(.int (1 : Int32))])
        refine own_goto X0 hx (hb hby d1_33) (pc' := 37) (by decide) (by decide) ?_
        show own_R p e below s _ _ _ s₁ (mkF m 37 #[.val (.int p1)] [(.int (1 : Int32))])
        refine own_retN X0 hx (t := .boolean) Bd.returns (by simp) hlk (hb hby d1_37) ?_ (by decide) (by decide)
        refine ⟨?_, N0, e0⟩
        show some (Value.int _) = some (Value.int (pl_f p1))
        rw [pl_f, if_neg hc2, if_neg hc7, if_pos hc13] <;> first | rfl | decide
      · have hc13 : ¬ p1 = (8 : Int32) := own_eq0 hc
        clear hc
        show own_R p e below s _ _ _ s₁ (mkF m 16 #[.val (.int p1)] [])
        refine own_iloadN X0 hx (hb hby d1_16) rfl ?_
        show own_R p e below s _ _ _ s₁ (mkF m 17 #[.val (.int p1)] [(.int p1)])
        refine own_bipush X0 hx (7 : Int32) (hb hby d1_17) rfl ?_
        show own_R p e below s _ _ _ s₁ (mkF m 19 #[.val (.int p1)] [(.int (7 : Int32)), (.int p1)])
        refine own_icmp X0 hx (hb hby d1_19) (pc' := 32) (by decide) (by decide) (fun hc => ?_) (fun hc => ?_)
        · have hc19 : p1 = (7 : Int32) := own_eq1 hc
          clear hc
          show own_R p e below s _ _ _ s₁ (mkF m 32 #[.val (.int p1)] [])
          refine own_iconst X0 hx (1 : Int32) (hb hby d1_32) rfl ?_
          show own_R p e below s _ _ _ s₁ (mkF m 33 #[.val (.int p1)] [(.int (1 : Int32))])
          refine own_goto X0 hx (hb hby d1_33) (pc' := 37) (by decide) (by decide) ?_
          show own_R p e below s _ _ _ s₁ (mkF m 37 #[.val (.int p1)] [(.int (1 : Int32))])
          refine own_retN X0 hx (t := .boolean) Bd.returns (by simp) hlk (hb hby d1_37) ?_ (by decide) (by decide)
          refine ⟨?_, N0, e0⟩
          show some (Value.int _) = some (Value.int (pl_f p1))
          rw [pl_f, if_neg hc2, if_neg hc7, if_neg hc13, if_pos hc19] <;> first | rfl | decide
        · have hc19 : ¬ p1 = (7 : Int32) := own_eq0 hc
          clear hc
          show own_R p e below s _ _ _ s₁ (mkF m 22 #[.val (.int p1)] [])
          refine own_iloadN X0 hx (hb hby d1_22) rfl ?_
          show own_R p e below s _ _ _ s₁ (mkF m 23 #[.val (.int p1)] [(.int p1)])
          refine own_iconst X0 hx (4 : Int32) (hb hby d1_23) rfl ?_
          show own_R p e below s _ _ _ s₁ (mkF m 24 #[.val (.int p1)] [(.int (4 : Int32)), (.int p1)])
          refine own_icmp X0 hx (hb hby d1_24) (pc' := 32) (by decide) (by decide) (fun hc => ?_) (fun hc => ?_)
          · have hc24 : p1 = (4 : Int32) := own_eq1 hc
            clear hc
            show own_R p e below s _ _ _ s₁ (mkF m 32 #[.val (.int p1)] [])
            refine own_iconst X0 hx (1 : Int32) (hb hby d1_32) rfl ?_
            show own_R p e below s _ _ _ s₁ (mkF m 33 #[.val (.int p1)] [(.int (1 : Int32))])
            refine own_goto X0 hx (hb hby d1_33) (pc' := 37) (by decide) (by decide) ?_
            show own_R p e below s _ _ _ s₁ (mkF m 37 #[.val (.int p1)] [(.int (1 : Int32))])
            refine own_retN X0 hx (t := .boolean) Bd.returns (by simp) hlk (hb hby d1_37) ?_ (by decide) (by decide)
            refine ⟨?_, N0, e0⟩
            show some (Value.int _) = some (Value.int (pl_f p1))
            rw [pl_f, if_neg hc2, if_neg hc7, if_neg hc13, if_neg hc19, if_pos hc24] <;> first | rfl | decide
          · have hc24 : ¬ p1 = (4 : Int32) := own_eq0 hc
            clear hc
            show own_R p e below s _ _ _ s₁ (mkF m 27 #[.val (.int p1)] [])
            refine own_iloadN X0 hx (hb hby d1_27) rfl ?_
            show own_R p e below s _ _ _ s₁ (mkF m 28 #[.val (.int p1)] [(.int p1)])
            refine own_iconst X0 hx (5 : Int32) (hb hby d1_28) rfl ?_
            show own_R p e below s _ _ _ s₁ (mkF m 29 #[.val (.int p1)] [(.int (5 : Int32)), (.int p1)])
            refine own_icmp X0 hx (hb hby d1_29) (pc' := 36) (by decide) (by decide) (fun hc => ?_) (fun hc => ?_)
            · have hc29 : ¬ p1 = (5 : Int32) := own_ne1 hc
              clear hc
              show own_R p e below s _ _ _ s₁ (mkF m 36 #[.val (.int p1)] [])
              refine own_iconst X0 hx (0 : Int32) (hb hby d1_36) rfl ?_
              show own_R p e below s _ _ _ s₁ (mkF m 37 #[.val (.int p1)] [(.int (0 : Int32))])
              refine own_retN X0 hx (t := .boolean) Bd.returns (by simp) hlk (hb hby d1_37) ?_ (by decide) (by decide)
              refine ⟨?_, N0, e0⟩
              show some (Value.int _) = some (Value.int (pl_f p1))
              rw [pl_f, if_neg hc2, if_neg hc7, if_neg hc13, if_neg hc19, if_neg hc24, if_neg hc29] <;> first | rfl | decide
            · have hc29 : p1 = (5 : Int32) := own_ne0 hc
              clear hc
              show own_R p e below s _ _ _ s₁ (mkF m 32 #[.val (.int p1)] [])
              refine own_iconst X0 hx (1 : Int32) (hb hby d1_32) rfl ?_
              show own_R p e below s _ _ _ s₁ (mkF m 33 #[.val (.int p1)] [(.int (1 : Int32))])
              refine own_goto X0 hx (hb hby d1_33) (pc' := 37) (by decide) (by decide) ?_
              show own_R p e below s _ _ _ s₁ (mkF m 37 #[.val (.int p1)] [(.int (1 : Int32))])
              refine own_retN X0 hx (t := .boolean) Bd.returns (by simp) hlk (hb hby d1_37) ?_ (by decide) (by decide)
              refine ⟨?_, N0, e0⟩
              show some (Value.int _) = some (Value.int (pl_f p1))
              rw [pl_f, if_neg hc2, if_neg hc7, if_neg hc13, if_neg hc19, if_neg hc24, if_pos hc29] <;> first | rfl | decide
theorem pl_out (t : Int32) (h : t < 0 ∨ ¬ t < 16) : pl_f t = 0 := by
  have q : ∀ k : Int32, ¬ k < 0 → k < 16 → ¬ t = k := fun k h0 h1 e => by subst e; exact h.elim (fun h => h0 h) (fun h => h h1)
  rw [pl_f, if_neg (q 1 (by decide) (by decide)), if_neg (q 3 (by decide) (by decide)), if_neg (q 8 (by decide) (by decide)), if_neg (q 7 (by decide) (by decide)), if_neg (q 4 (by decide) (by decide)), if_neg (q 5 (by decide) (by decide))]
theorem pl_in (t : Int32) (h0 : ¬ t < 0) (h1 : t < 16) : (((442 : Int32) >>> (t &&& 31)) &&& (1 : Int32) = 0 → pl_f t = 0) ∧ (¬ ((442 : Int32) >>> (t &&& 31)) &&& (1 : Int32) = 0 → pl_f t = 1) := by
  rcases pl_16 t h0 h1 with rfl | rfl | rfl | rfl | rfl | rfl | rfl | rfl | rfl | rfl | rfl | rfl | rfl | rfl | rfl | rfl <;> decide
theorem pn_0 : plainFor (⟨"com/example/trim_tree/trimtree/DomParentHoldsContentPinLaw", "law", "(II)Z"⟩ : MethodName) = true := by decide +kernel
theorem ef_0 (m : MethodId) (p0 : Int32) (p1 : Int32) : entryFrame m #[(.int p0), (.int p1)] maxLocals = mkF m 0 #[.val (.int p0), .val (.int p1), .unset, .unset] [] := by first | (simp [entryFrame, mkF, argsToLocals, Value.category, maxLocals]; done) | rfl
def Q0 (Z : State) (p0 : Int32) (p1 : Int32) (h0 : Heap) (n0 : Nat) (v : Option Value) (h : Heap) (L : List Loc) : Prop := v = some (.int 1) ∧ Fr n0 L
set_option maxRecDepth 65536 in
set_option maxHeartbeats 40000000 in
theorem rm0 (l : Launch) (Z : State) (a0 : Array Value) (hw : ∀ d ∈ tables_1, d.before a0 Z = true) (ws : List Jvm.Cond) (p0 : Int32) (p1 : Int32) (h0 : Heap) (n0 : Nat) (Z0 : n0 ≤ h0.size) :
    MetFree l x (head1 (Jvm.Cond.code x code maxLocals ret :: ws) room_1) (fun a U => a = #[(.int p0), (.int p1)] ∧ Z.Warmed39 U.vm ∧ U.heap = h0) (fun _ _ _ _ _ => True) (fun _ U o U' => ∃ v L, o = .returned v ∧ Q0 Z p0 p1 h0 n0 v U'.heap L ∧ FrameEnd U o U' L room_1.cells room_1.slots) := by
  refine MetFree.of_bodySF pn_0 hisR ?_
  intro p e s m args below meth c s₁ Bd hml0 hP hK
  obtain ⟨rfl, hZ, hh⟩ := hP
  have hx := Bd.exec
  have hby := Bd.bytes
  have hml : c.maxLocals = 4 := hml0
  have hown : s.vm.findClass "com/example/trim_tree/trimtree/DomParentHoldsContentPinLaw" = some m.cls := findClass_of_methodNamed Bd.named
  have hnm := (name_of_methodNamed Bd.named Bd.method).1
  have hlk := BodyLoose.notSynchronized Bd
  have X0 : Stand p l e room_1 s m #[(.int p0), (.int p1)] below meth c s₁ [] 0 0 := Stand.of_body Bd
  have e0 : s₁.heap = h0 := by rw [← hh, Bd.state]; rfl
  have N0 := Fr.nil n0
  show own_R p e below s (Q0 Z p0 p1 h0 n0) room_1.cells room_1.slots s₁ (entryFrame m #[(.int p0), (.int p1)] maxLocals)
  refine own_cast (ef_0 m p0 p1) ?_
  show own_R p e below s _ _ _ s₁ (mkF m 0 #[.val (.int p0), .val (.int p1), .unset, .unset] [])
  have J16 : ∀ (t : Int32), own_R p e below s (Q0 Z p0 p1 h0 n0) room_1.cells room_1.slots s₁ (mkF m 16 #[.val (.int p0), .val (.int p1), .unset, .unset] [(.int t)]) := by
    intro t
    refine own_istoreN X0 hx (hb hby at_16) (l' := #[.val (.int p0), .val (.int p1), .val (.int t), .unset]) rfl ?_
    show own_R p e below s _ _ _ s₁ (mkF m 17 #[.val (.int p0), .val (.int p1), .val (.int t), .unset] [])
    have J42 : ∀ (ex : Int32) (hex : pl_f t = ex), own_R p e below s (Q0 Z p0 p1 h0 n0) room_1.cells room_1.slots s₁ (mkF m 42 #[.val (.int p0), .val (.int p1), .val (.int t), .unset] [(.int ex)]) := by
      intro ex hex
      refine own_istoreN X0 hx (hb hby at_42) (l' := #[.val (.int p0), .val (.int p1), .val (.int t), .val (.int ex)]) rfl ?_
      show own_R p e below s _ _ _ s₁ (mkF m 43 #[.val (.int p0), .val (.int p1), .val (.int t), .val (.int ex)] [])
      refine own_iloadN X0 hx (hb hby at_43) rfl ?_
      show own_R p e below s _ _ _ s₁ (mkF m 44 #[.val (.int p0), .val (.int p1), .val (.int t), .val (.int ex)] [(.int t)])
      refine own_callS X0 hx hZ (y := (⟨"com/example/trim_tree/trimtree/DomParent", "holdsContent", "(S)Z"⟩ : MethodName)) hown (hw _ (List.mem_of_getElem? (i := 0) rfl)) (hw _ (List.mem_of_getElem? (i := 1) rfl)) (hw _ (List.mem_of_getElem? (i := 2) rfl)) (hw _ (List.mem_of_getElem? (i := 3) rfl)) (by decide) (rm1 l Z a0 hw [] t h0 n0 Z0) 0 (by decide) (by decide) e0 (by rw [hml]; rfl) [(.int t)] [] rfl (lenOf pd_0 rfl) rfl (Nat.le_of_eq rfl) (hb hby at_44) (by decide) (by decide) ?_
      rintro T1 _ L1 X1 ⟨rfl, N1q, e1⟩
      have N1 := Fr.app N0 N1q
      show own_R p e below s _ _ _ T1 (mkF m 47 #[.val (.int p0), .val (.int p1), .val (.int t), .val (.int ex)] [(.int (pl_f t))])
      refine own_iloadN X1 hx (hb hby at_47) rfl ?_
      show own_R p e below s _ _ _ T1 (mkF m 48 #[.val (.int p0), .val (.int p1), .val (.int t), .val (.int ex)] [(.int ex), (.int (pl_f t))])
      refine own_icmp X1 hx (hb hby at_48) (pc' := 55) (by decide) (by decide) (fun hc => ?_) (fun hc => ?_)
      · have hc48 : ¬ (pl_f t) = ex := own_ne1 hc
        exact absurd hex hc48
      · have hc48 : (pl_f t) = ex := own_ne0 hc
        clear hc
        show own_R p e below s _ _ _ T1 (mkF m 51 #[.val (.int p0), .val (.int p1), .val (.int t), .val (.int ex)] [])
        refine own_iconst X1 hx (1 : Int32) (hb hby at_51) rfl ?_
        show own_R p e below s _ _ _ T1 (mkF m 52 #[.val (.int p0), .val (.int p1), .val (.int t), .val (.int ex)] [(.int (1 : Int32))])
        refine own_goto X1 hx (hb hby at_52) (pc' := 56) (by decide) (by decide) ?_
        show own_R p e below s _ _ _ T1 (mkF m 56 #[.val (.int p0), .val (.int p1), .val (.int t), .val (.int ex)] [(.int (1 : Int32))])
        refine own_retN X1 hx (t := .boolean) Bd.returns (by simp) hlk (hb hby at_56) ?_ (by decide) (by decide)
        exact ⟨rfl, N1⟩
    refine own_iloadN X0 hx (hb hby at_17) rfl ?_
    show own_R p e below s _ _ _ s₁ (mkF m 18 #[.val (.int p0), .val (.int p1), .val (.int t), .unset] [(.int t)])
    refine own_if X0 hx (hb hby at_18) (pc' := 41) (by decide) (by decide) (fun hc => ?_) (fun hc => ?_)
    · have hc18 : t < (0 : Int32) := own_lt1 hc
      clear hc
      show own_R p e below s _ _ _ s₁ (mkF m 41 #[.val (.int p0), .val (.int p1), .val (.int t), .unset] [])
      refine own_iconst X0 hx (0 : Int32) (hb hby at_41) rfl ?_
      show own_R p e below s _ _ _ s₁ (mkF m 42 #[.val (.int p0), .val (.int p1), .val (.int t), .unset] [(.int (0 : Int32))])
      exact J42 _ (pl_out t (Or.inl hc18))
    · have hc18 : ¬ t < (0 : Int32) := own_lt0 hc
      clear hc
      show own_R p e below s _ _ _ s₁ (mkF m 21 #[.val (.int p0), .val (.int p1), .val (.int t), .unset] [])
      refine own_iloadN X0 hx (hb hby at_21) rfl ?_
      show own_R p e below s _ _ _ s₁ (mkF m 22 #[.val (.int p0), .val (.int p1), .val (.int t), .unset] [(.int t)])
      refine own_bipush X0 hx (16 : Int32) (hb hby at_22) rfl ?_
      show own_R p e below s _ _ _ s₁ (mkF m 24 #[.val (.int p0), .val (.int p1), .val (.int t), .unset] [(.int (16 : Int32)), (.int t)])
      refine own_icmp X0 hx (hb hby at_24) (pc' := 41) (by decide) (by decide) (fun hc => ?_) (fun hc => ?_)
      · have hc24 : ¬ t < (16 : Int32) := own_ge1 hc
        clear hc
        show own_R p e below s _ _ _ s₁ (mkF m 41 #[.val (.int p0), .val (.int p1), .val (.int t), .unset] [])
        refine own_iconst X0 hx (0 : Int32) (hb hby at_41) rfl ?_
        show own_R p e below s _ _ _ s₁ (mkF m 42 #[.val (.int p0), .val (.int p1), .val (.int t), .unset] [(.int (0 : Int32))])
        exact J42 _ (pl_out t (Or.inr hc24))
      · have hc24 : t < (16 : Int32) := own_ge0 hc
        clear hc
        show own_R p e below s _ _ _ s₁ (mkF m 27 #[.val (.int p0), .val (.int p1), .val (.int t), .unset] [])
        refine own_sipush X0 hx (442 : Int32) (hb hby at_27) rfl ?_
        show own_R p e below s _ _ _ s₁ (mkF m 30 #[.val (.int p0), .val (.int p1), .val (.int t), .unset] [(.int (442 : Int32))])
        refine own_iloadN X0 hx (hb hby at_30) rfl ?_
        show own_R p e below s _ _ _ s₁ (mkF m 31 #[.val (.int p0), .val (.int p1), .val (.int t), .unset] [(.int t), (.int (442 : Int32))])
        refine own_ishr X0 hx (hb hby at_31) ?_
        show own_R p e below s _ _ _ s₁ (mkF m 32 #[.val (.int p0), .val (.int p1), .val (.int t), .unset] [(.int ((442 : Int32) >>> (t &&& 31)))])
        refine own_iconst X0 hx (1 : Int32) (hb hby at_32) rfl ?_
        show own_R p e below s _ _ _ s₁ (mkF m 33 #[.val (.int p0), .val (.int p1), .val (.int t), .unset] [(.int (1 : Int32)), (.int ((442 : Int32) >>> (t &&& 31)))])
        refine own_iand X0 hx (hb hby at_33) ?_
        show own_R p e below s _ _ _ s₁ (mkF m 34 #[.val (.int p0), .val (.int p1), .val (.int t), .unset] [(.int (((442 : Int32) >>> (t &&& 31)) &&& (1 : Int32)))])
        refine own_if X0 hx (hb hby at_34) (pc' := 41) (by decide) (by decide) (fun hc => ?_) (fun hc => ?_)
        · have hc34 : (((442 : Int32) >>> (t &&& 31)) &&& (1 : Int32)) = (0 : Int32) := own_eq1 hc
          clear hc
          show own_R p e below s _ _ _ s₁ (mkF m 41 #[.val (.int p0), .val (.int p1), .val (.int t), .unset] [])
          refine own_iconst X0 hx (0 : Int32) (hb hby at_41) rfl ?_
          show own_R p e below s _ _ _ s₁ (mkF m 42 #[.val (.int p0), .val (.int p1), .val (.int t), .unset] [(.int (0 : Int32))])
          exact J42 _ ((pl_in t hc18 hc24).1 hc34)
        · have hc34 : ¬ (((442 : Int32) >>> (t &&& 31)) &&& (1 : Int32)) = (0 : Int32) := own_eq0 hc
          clear hc
          show own_R p e below s _ _ _ s₁ (mkF m 37 #[.val (.int p0), .val (.int p1), .val (.int t), .unset] [])
          refine own_iconst X0 hx (1 : Int32) (hb hby at_37) rfl ?_
          show own_R p e below s _ _ _ s₁ (mkF m 38 #[.val (.int p0), .val (.int p1), .val (.int t), .unset] [(.int (1 : Int32))])
          refine own_goto X0 hx (hb hby at_38) (pc' := 42) (by decide) (by decide) ?_
          show own_R p e below s _ _ _ s₁ (mkF m 42 #[.val (.int p0), .val (.int p1), .val (.int t), .unset] [(.int (1 : Int32))])
          exact J42 _ ((pl_in t hc18 hc24).2 hc34)
  refine own_iloadN X0 hx (hb hby at_0) rfl ?_
  show own_R p e below s _ _ _ s₁ (mkF m 1 #[.val (.int p0), .val (.int p1), .unset, .unset] [(.int p1)])
  refine own_iconst X0 hx (1 : Int32) (hb hby at_1) rfl ?_
  show own_R p e below s _ _ _ s₁ (mkF m 2 #[.val (.int p0), .val (.int p1), .unset, .unset] [(.int (1 : Int32)), (.int p1)])
  refine own_iand X0 hx (hb hby at_2) ?_
  show own_R p e below s _ _ _ s₁ (mkF m 3 #[.val (.int p0), .val (.int p1), .unset, .unset] [(.int (p1 &&& (1 : Int32)))])
  refine own_if X0 hx (hb hby at_3) (pc' := 11) (by decide) (by decide) (fun hc => ?_) (fun hc => ?_)
  · have hc3 : (p1 &&& (1 : Int32)) = (0 : Int32) := own_eq1 hc
    clear hc
    show own_R p e below s _ _ _ s₁ (mkF m 11 #[.val (.int p0), .val (.int p1), .unset, .unset] [])
    refine own_iloadN X0 hx (hb hby at_11) rfl ?_
    show own_R p e below s _ _ _ s₁ (mkF m 12 #[.val (.int p0), .val (.int p1), .unset, .unset] [(.int p0)])
    refine own_bipush X0 hx (15 : Int32) (hb hby at_12) rfl ?_
    show own_R p e below s _ _ _ s₁ (mkF m 14 #[.val (.int p0), .val (.int p1), .unset, .unset] [(.int (15 : Int32)), (.int p0)])
    refine own_iand X0 hx (hb hby at_14) ?_
    show own_R p e below s _ _ _ s₁ (mkF m 15 #[.val (.int p0), .val (.int p1), .unset, .unset] [(.int (p0 &&& (15 : Int32)))])
    refine own_i2s X0 hx (hb hby at_15) ?_
    show own_R p e below s _ _ _ s₁ (mkF m 16 #[.val (.int p0), .val (.int p1), .unset, .unset] [(.int ((p0 &&& (15 : Int32)).toInt16.toInt32))])
    exact J16 _
  · have hc3 : ¬ (p1 &&& (1 : Int32)) = (0 : Int32) := own_eq0 hc
    clear hc
    show own_R p e below s _ _ _ s₁ (mkF m 6 #[.val (.int p0), .val (.int p1), .unset, .unset] [])
    refine own_iloadN X0 hx (hb hby at_6) rfl ?_
    show own_R p e below s _ _ _ s₁ (mkF m 7 #[.val (.int p0), .val (.int p1), .unset, .unset] [(.int p0)])
    refine own_i2s X0 hx (hb hby at_7) ?_
    show own_R p e below s _ _ _ s₁ (mkF m 8 #[.val (.int p0), .val (.int p1), .unset, .unset] [(.int (p0.toInt16.toInt32))])
    refine own_goto X0 hx (hb hby at_8) (pc' := 16) (by decide) (by decide) ?_
    show own_R p e below s _ _ _ s₁ (mkF m 16 #[.val (.int p0), .val (.int p1), .unset, .unset] [(.int (p0.toInt16.toInt32))])
    exact J16 _
set_option maxRecDepth 65536 in
set_option maxHeartbeats 40000000 in
theorem comes_1 {Post : Tables → Env → Array Value → State → Outcome → State → Prop} (hpost : ∀ tb e args s v u, (limb_1_1.after args s (.returned v) u = true ∧ limb_1_2.after args s (.returned v) u = true) → FrameEnd s (.returned v) u (Jvm.fieldLocs frame_1_writes args s ++ Jvm.arrayLocs frame_1_arrays args s ++ Jvm.staticLocs frame_1_statics s) 0 0 → Post tb e args s (.returned v) u) :
    ArmFor flags0 classFile x code maxLocals ret World_1 tables_1 room_1 Calls_1 rest_1 Pre_1 Post := by
  intro l hfl _ _ p e ha hc hk s m args below hf hA hF happ hP
  obtain ⟨hcalls, hrest, hpre⟩ := hP
  obtain ⟨-, -, -, hnamed, -, -, -, hat⟩ := (Spec.applies_iff hf).mp happ
  obtain ⟨hg, hn⟩ := and_e (Cond.before_iff.mp (show (Jvm.Cond.and given_1 narrow_1).before args s = true from hpre))
  obtain ⟨g1, g2⟩ := and_e hg
  obtain ⟨g3, g4⟩ := and_e g2
  obtain ⟨w0, w1, rfl⟩ : ∃ w0 w1 : Value, args = #[w0, w1] := by
    have hs : args.size = 2 := by simpa [Cond.value, given_1] using g1
    obtain ⟨L⟩ := args
    match L, hs with
    | [w0, w1], _ => exact ⟨w0, w1, rfl⟩
  have hw := fun d (hd : d ∈ tables_1) => atoms_spec (ws := Jvm.Cond.code x code maxLocals ret :: tables_1) hat d (List.mem_cons_of_mem _ hd)
  obtain ⟨i0, ei0⟩ := is_v g3
  obtain rfl : w0 = (.int i0) := Option.some.inj ei0
  obtain ⟨i1, ei1⟩ := is_v g4
  obtain rfl : w1 = (.int i1) := Option.some.inj ei1
  obtain ⟨n, o, h1, h2, h3, _, L, rfl, ⟨rfl, N⟩, hq⟩ := rm0 l s _ hw tables_1 i0 i1 s.heap s.heap.size (Nat.le_refl _) p e ha hc hk s m _ below hf ((Spec.applies_iff_loose hf).mp happ).1 ⟨rfl, State.Warmed39.refl s, rfl⟩ trivial
  refine ⟨n, _, h1, h2, h3, hpost _ _ _ _ _ _ ⟨Cond.after_iff.mpr rfl, Cond.after_iff.mpr (eq_i res_at (Term.int_eval (1)) rfl)⟩ ⟨hq.1, hq.2.1, (hq.2.2.sift fun y hy => Or.inr (N y hy)).mono (by decide) (by decide)⟩⟩
theorem main_1_1 : Claimed_1_1 := comes_1 fun _ _ _ _ _ _ h hF => ⟨h.1, hF⟩
theorem main_1_2 : Claimed_1_2 := comes_1 fun _ _ _ _ _ _ h hF => ⟨h.2, hF⟩
end Jvm.Pilot.@@N@@
namespace Jvm.Pilot.@@N@@
open Jvm Jvm.ClassFile Sem Op Lib Jvm.Free Jvm.Stand Jvm.Pilot.@@N@@.Jvm.D
/-! MADE BY PROGRAM (witnessworld.py) out of the Statement's table words and the real class files: 12 classes; the members and pool entries that the words name. The judged class is class 1, her method 1. -/
namespace start1
open Jvm.ClassFile
def u (s : String) : CpInfo := .utf8 (stringToUtf16 s)
/-- a pool by its gaps: so many unusable entries, then the entry; so many at the end -/
def gap : Nat → List CpInfo → List CpInfo
  | 0, r => r
  | n + 1, r => .unusable :: gap n r
def poolList (es : List (Nat × CpInfo)) (last : Nat) : List CpInfo := es.foldr (fun e r => gap e.1 (e.2 :: r)) (gap last [])
def pool (es : List (Nat × CpInfo)) (last : Nat) : Array CpInfo := ⟨poolList es last⟩
def fileOf (pool : Array CpInfo) (this : Nat) (attrs : Array Attribute := #[]) (ms : Array MethodInfo := #[]) (fl : Nat := 33) (sup : Nat := 0) (ifs : Array Nat := #[]) (fds : Array FieldInfo := #[]) : ClassFile where
  minorVersion := 0
  majorVersion := 65
  constantPool := pool
  accessFlags := fl
  thisClass := this
  superClass := sup
  interfaces := ifs
  fields := fds
  methods := ms
  attributes := attrs
def plain (name : String) (sup : Option ClassId) : Class where
  name := name
  kind := .ordinary
  loader := none
  accessFlags := 33
  super := sup
  interfaces := #[]
  cf := none
  fields := #[]
  methods := #[]
  instanceTypes := #[]
  staticTypes := #[]
  resolved := #[]
  callSites := []
  init := .initialized
  statics := none
  mirror := none

def pool0 : Array CpInfo := pool [(5, u "<init>"), (0, u "()V"), (1, .class_ 10), (1, u "java/lang/Object")] 113

def k0m0 : Method := { name := "<init>", desc := "()V", sig := { parameters := [], returnType := none }, accessFlags := 1, code := none }
/-- java/lang/Object -/
def k0 : Class := { plain "java/lang/Object" none with
  accessFlags := 33
  interfaces := #[]
  cf := some (fileOf pool0 8 #[] #[{ accessFlags := 1, nameIndex := 5, descriptorIndex := 6, attributes := #[] }] 33 0 #[] #[])
  fields := #[]
  methods := #[k0m0]
  instanceTypes := #[]
  staticTypes := #[]
  resolved := Array.replicate 124 none
  statics := none }

def pool1 : Array CpInfo := pool [(2, .class_ 4), (1, u "java/lang/Object"), (0, u "<init>"), (0, u "()V"), (0, .methodref 8 9), (0, .class_ 10), (0, .nameAndType 11 12), (0, u "com/example/trim_tree/trimtree/DomParent"), (0, u "holdsContent"), (0, u "(S)Z"), (0, .class_ 14), (0, u "com/example/trim_tree/trimtree/DomParentHoldsContentPinLaw"), (2, u "law"), (0, u "(II)Z")] 3

def k1m0 : Method := { name := "<init>", desc := "()V", sig := { parameters := [], returnType := none }, accessFlags := 1, code := none }
def k1c1 : Code := { maxStack := 2, maxLocals := 4, code := code, exceptionTable := #[], attributes := #[] }
def k1m1 : Method := { name := "law", desc := "(II)Z", sig := { parameters := [.int, .int], returnType := some .boolean }, accessFlags := 9, code := some k1c1 }
/-- com/example/trim_tree/trimtree/DomParentHoldsContentPinLaw -/
def k1 : Class := { plain "com/example/trim_tree/trimtree/DomParentHoldsContentPinLaw" (some 0) with
  accessFlags := 49
  interfaces := #[]
  cf := some (fileOf pool1 13 #[] #[{ accessFlags := 1, nameIndex := 5, descriptorIndex := 6, attributes := #[] }, { accessFlags := 9, nameIndex := 17, descriptorIndex := 18, attributes := #[] }] 49 2 #[] #[])
  fields := #[]
  methods := #[k1m0, k1m1]
  instanceTypes := #[]
  staticTypes := #[]
  resolved := Array.replicate 22 none
  statics := none }

def pool2 : Array CpInfo := pool [(1, u "org/w3c/dom/Node"), (0, .class_ 1), (0, u "java/lang/Object"), (0, .class_ 3)] 0

/-- org/w3c/dom/Node -/
def k2 : Class := { plain "org/w3c/dom/Node" (some 0) with
  accessFlags := 1537
  interfaces := #[]
  cf := some (fileOf pool2 2 #[] #[] 1537 4 #[] #[])
  fields := #[]
  methods := #[]
  instanceTypes := #[]
  staticTypes := #[]
  resolved := Array.replicate 5 none
  statics := none }

def pool3 : Array CpInfo := pool [(1, u "org/w3c/dom/events/EventTarget"), (0, .class_ 1), (0, u "java/lang/Object"), (0, .class_ 3)] 0

/-- org/w3c/dom/events/EventTarget -/
def k3 : Class := { plain "org/w3c/dom/events/EventTarget" (some 0) with
  accessFlags := 1537
  interfaces := #[]
  cf := some (fileOf pool3 2 #[] #[] 1537 4 #[] #[])
  fields := #[]
  methods := #[]
  instanceTypes := #[]
  staticTypes := #[]
  resolved := Array.replicate 5 none
  statics := none }

def pool4 : Array CpInfo := pool [(2, .class_ 4), (1, u "java/lang/Object"), (3, .class_ 10), (1, u "com/example/trim_tree/trimtree/DomNode"), (0, u "up"), (0, u "Lcom/example/trim_tree/trimtree/DomNode;"), (2, u "previous"), (126, u "NO_NODES"), (0, u "Lorg/w3c/dom/NodeList;"), (5, u "next"), (112, .class_ 263), (0, u "org/w3c/dom/Node"), (165, .class_ 430), (0, u "com/example/trim_tree/trimtree/DomNode$UserData"), (57, .class_ 489), (0, u "com/example/trim_tree/trimtree/DomNode$1"), (1, .class_ 492), (0, u "org/w3c/dom/events/EventTarget")] 103

/-- com/example/trim_tree/trimtree/DomNode -/
def k4 : Class := { plain "com/example/trim_tree/trimtree/DomNode" (some 0) with
  accessFlags := 1056
  interfaces := #[2, 3]
  cf := some (fileOf pool4 8 #[.nestMembers #[429, 488]] #[] 1056 2 #[262, 491] #[{ accessFlags := 24, nameIndex := 142, descriptorIndex := 143, attributes := #[] }, { accessFlags := 0, nameIndex := 11, descriptorIndex := 12, attributes := #[] }, { accessFlags := 0, nameIndex := 15, descriptorIndex := 12, attributes := #[] }, { accessFlags := 0, nameIndex := 149, descriptorIndex := 12, attributes := #[] }])
  fields := #[{ name := "NO_NODES", type := (.object "org/w3c/dom/NodeList"), accessFlags := 24, slot := 0, constantValue := 0 }, { name := "up", type := (.object "com/example/trim_tree/trimtree/DomNode"), accessFlags := 0, slot := 0, constantValue := 0 }, { name := "previous", type := (.object "com/example/trim_tree/trimtree/DomNode"), accessFlags := 0, slot := 1, constantValue := 0 }, { name := "next", type := (.object "com/example/trim_tree/trimtree/DomNode"), accessFlags := 0, slot := 2, constantValue := 0 }]
  methods := #[]
  instanceTypes := #[(.object "com/example/trim_tree/trimtree/DomNode"), (.object "com/example/trim_tree/trimtree/DomNode"), (.object "com/example/trim_tree/trimtree/DomNode")]
  staticTypes := #[(.object "org/w3c/dom/NodeList")]
  resolved := Array.replicate 596 none
  statics := none }

def pool5 : Array CpInfo := pool [(2, .class_ 4), (1, u "com/example/trim_tree/trimtree/DomNode"), (3, .class_ 10), (1, u "com/example/trim_tree/trimtree/DomParent"), (0, u "document"), (0, u "Lcom/example/trim_tree/trimtree/DomDocument;"), (13, u "first"), (0, u "Lcom/example/trim_tree/trimtree/DomNode;"), (5, u "length"), (0, u "I"), (142, u "(S)Z"), (116, u "holdsContent")] 67

def k5c0 : Code := { maxStack := 2, maxLocals := 1, code := prog_42_method_5_code, exceptionTable := #[], attributes := #[] }
def k5m0 : Method := { name := "holdsContent", desc := "(S)Z", sig := { parameters := [.short], returnType := some .boolean }, accessFlags := 8, code := some k5c0 }
/-- com/example/trim_tree/trimtree/DomParent -/
def k5 : Class := { plain "com/example/trim_tree/trimtree/DomParent" (some 4) with
  accessFlags := 1056
  interfaces := #[]
  cf := some (fileOf pool5 8 #[] #[{ accessFlags := 8, nameIndex := 294, descriptorIndex := 177, attributes := #[] }] 1056 2 #[] #[{ accessFlags := 2, nameIndex := 11, descriptorIndex := 12, attributes := #[] }, { accessFlags := 2, nameIndex := 26, descriptorIndex := 27, attributes := #[] }, { accessFlags := 2, nameIndex := 33, descriptorIndex := 34, attributes := #[] }])
  fields := #[{ name := "document", type := (.object "com/example/trim_tree/trimtree/DomDocument"), accessFlags := 2, slot := 3, constantValue := 0 }, { name := "first", type := (.object "com/example/trim_tree/trimtree/DomNode"), accessFlags := 2, slot := 4, constantValue := 0 }, { name := "length", type := .int, accessFlags := 2, slot := 5, constantValue := 0 }]
  methods := #[k5m0]
  instanceTypes := #[(.object "com/example/trim_tree/trimtree/DomNode"), (.object "com/example/trim_tree/trimtree/DomNode"), (.object "com/example/trim_tree/trimtree/DomNode"), (.object "com/example/trim_tree/trimtree/DomDocument"), (.object "com/example/trim_tree/trimtree/DomNode"), .int]
  staticTypes := #[]
  resolved := Array.replicate 362 none
  statics := none }

def pool6 : Array CpInfo := pool [(1, u "java/lang/Cloneable"), (0, .class_ 1), (0, u "java/lang/Object"), (0, .class_ 3)] 3

/-- java/lang/Cloneable -/
def k6 : Class := { plain "java/lang/Cloneable" (some 0) with
  accessFlags := 1537
  interfaces := #[]
  cf := some (fileOf pool6 2 #[] #[] 1537 4 #[] #[])
  fields := #[]
  methods := #[]
  instanceTypes := #[]
  staticTypes := #[]
  resolved := Array.replicate 8 none
  statics := none }

def pool7 : Array CpInfo := pool [(1, u "java/io/Serializable"), (0, .class_ 1), (0, u "java/lang/Object"), (0, .class_ 3)] 3

/-- java/io/Serializable -/
def k7 : Class := { plain "java/io/Serializable" (some 0) with
  accessFlags := 1537
  interfaces := #[]
  cf := some (fileOf pool7 2 #[] #[] 1537 4 #[] #[])
  fields := #[]
  methods := #[]
  instanceTypes := #[]
  staticTypes := #[]
  resolved := Array.replicate 8 none
  statics := none }

/-- the primitive byte -/
def k8 : Class := { plain "byte" none with kind := .primitive 'B', accessFlags := 0x411 }
/-- [B -/
def k9 : Class := { plain "[B" (some 0) with kind := .array 8 .byte, interfaces := #[6, 7], accessFlags := 1041 }

/-- the primitive int -/
def k10 : Class := { plain "int" none with kind := .primitive 'I', accessFlags := 0x411 }
/-- [I -/
def k11 : Class := { plain "[I" (some 0) with kind := .array 10 .int, interfaces := #[6, 7], accessFlags := 1041 }

def heap : Heap := #[]
def classes : Array Class := #[k0, k1, k2, k3, k4, k5, k6, k7, k8, k9, k10, k11]
def interned : List (Array UInt16 × Addr) := []
def slotsUsed : Nat := 0
def theMethod : MethodId := ⟨1, 1⟩
def args0 : Array Value := #[.int 5, .int 7]
def aboutOver (below : List Frame) : State where
  vm := { classes := classes, interned := interned.toArray }
  heap := heap
  slotsUsed := slotsUsed
  threads := #[{ frames := .invoking theMethod args0 :: below }]
def below0 : List Frame := [.native { method := ⟨0, 0⟩, args := #[] }]
def about1 : State := aboutOver below0
def p0 : Program := .bare "" "" ""
def e0 : Env := launch0.env 0 0 0
theorem w_frames : about1.frames = Frame.invoking theMethod args0 :: below0 := rfl
set_option maxRecDepth 65536 in
theorem w_args : argsFit about1.vm theMethod args0 = true := by decide +kernel
set_option maxRecDepth 65536 in
theorem w_heap : heapFits about1 = true := by decide +kernel
set_option maxRecDepth 65536 in
theorem w_runnable : about1.curStatus? = some .runnable := by decide +kernel
set_option maxRecDepth 65536 in
theorem w_alone : about1.alone = true := by decide +kernel
set_option maxRecDepth 65536 in
theorem w_named : about1.methodNamed? x = some theMethod := by decide +kernel
set_option maxRecDepth 65536 in
theorem w_hears : about1.hears theMethod below0 = true := by decide +kernel
set_option maxRecDepth 65536 in
theorem w_ripe : about1.ripe theMethod args0 below0 = true := by decide +kernel
theorem w_running : about1.status = .running := rfl
set_option maxRecDepth 65536 in
theorem w_room : about1.hasRoom e0.platform room_1 = true :=
  launch0.hasRoom_least _ room_1 (by decide +kernel) (by decide +kernel) (by decide +kernel) (by decide +kernel) (by decide +kernel) (by decide +kernel)
theorem allAtoms_all (ts : List Jvm.Cond) (a : Array Jvm.Value) (st : Jvm.State) : (allAtoms ts).before a st = ts.all (fun c => c.before a st) := by
  induction ts with
  | nil => rfl
  | cons c t ih =>
    show (Jvm.Cond.and c (allAtoms t)).before a st = _
    rw [Jvm.Cond.before_and, ih, List.all_cons]
def words1 : List Jvm.Cond := Jvm.Cond.code x code maxLocals ret :: tables_1
/-- a 'code' word, met by the world's own term for the bytes: nothing is compared byte by byte -/
theorem code_word {y : MethodName} {bytes : ByteArray} {mx : Nat} {rt : Option FieldType} {a : Array Value} {s : State} {m : MethodId} {meth : Method} {c : Code} (h1 : s.methodNamed? y = some m) (h2 : s.vm.method? m = some meth) (h3 : meth.code = some c) (h4 : c.code = bytes)
    (h5 : (c.maxLocals == mx && c.exceptionTable.isEmpty && decide (c.maxStack ≤ mostOperands) && decide (meth.sig.returnType = rt) && !meth.locks && decide (parseMethodDescriptor y.desc = some meth.sig)) = true) : (Jvm.Cond.code y bytes mx rt).before a s = true := by
  simp only [Bool.and_eq_true, beq_iff_eq, Bool.not_eq_true', decide_eq_true_eq] at h5
  obtain ⟨⟨⟨⟨⟨g1, g2⟩, g3⟩, g4⟩, g5⟩, g6⟩ := h5
  simp [Cond.before, Cond.holds, Cond.value, h1, h2, h3, h4, g1, g2, g3, g4, g5, g6]
def isCode : Jvm.Cond → Bool
  | .code _ _ _ _ => true
  | _ => false
theorem all_split {L : List Jvm.Cond} {P : Jvm.Cond → Bool} (h1 : L.all (fun c => isCode c || P c) = true) (h2 : ∀ c ∈ L.filter isCode, P c = true) : L.all P = true := by
  refine List.all_eq_true.mpr fun c hc => ?_
  have h := List.all_eq_true.mp h1 c hc
  rcases Bool.eq_false_or_eq_true (isCode c) with hi | hi
  · exact h2 c (List.mem_filter.mpr ⟨hc, hi⟩)
  · simpa [hi] using h
set_option maxRecDepth 65536 in
theorem w_c0 : (Jvm.Cond.code x code maxLocals ret).before args0 about1 = true := code_word (m := ⟨1, 1⟩) (meth := k1m1) (c := k1c1) (by decide +kernel) rfl rfl rfl (by decide +kernel)
set_option maxRecDepth 65536 in
theorem w_c1 : (Jvm.Cond.code ({ cls := "com/example/trim_tree/trimtree/DomParent", name := "holdsContent", desc := "(S)Z" } : Jvm.MethodName) prog_42_method_5_code (1 : Nat) (Option.some Jvm.ClassFile.FieldType.boolean)).before args0 about1 = true := code_word (m := ⟨5, 0⟩) (meth := k5m0) (c := k5c0) (by decide +kernel) rfl rfl rfl (by decide +kernel)
def codes1 : List Jvm.Cond := [Jvm.Cond.code x code maxLocals ret, Jvm.Cond.code ({ cls := "com/example/trim_tree/trimtree/DomParent", name := "holdsContent", desc := "(S)Z" } : Jvm.MethodName) prog_42_method_5_code (1 : Nat) (Option.some Jvm.ClassFile.FieldType.boolean)]
set_option maxRecDepth 65536 in
theorem codes_eq : words1.filter isCode = codes1 := rfl
theorem w_codes : ∀ c ∈ words1.filter isCode, c.before args0 about1 = true := by
  rw [codes_eq]
  intro c hc
  simp only [codes1, List.mem_cons, List.not_mem_nil, or_false] at hc
  rcases hc with rfl | rfl
  · exact w_c0
  · exact w_c1
set_option maxRecDepth 65536 in
theorem w_t1 : words1.all (fun c => isCode c || c.before args0 about1) = true := by decide +kernel
theorem w_tables : (allAtoms (Jvm.Cond.code x code maxLocals ret :: tables_1)).before args0 about1 = true := by
  rw [allAtoms_all]
  show words1.all (fun c => c.before args0 about1) = true
  refine all_split ?_ w_codes
  rw [w_t1]
set_option maxRecDepth 65536 in
theorem w_case : (Jvm.Cond.and given_1 narrow_1).before args0 about1 = true := by decide +kernel
theorem w_applies : (headSpec (Jvm.Cond.code x code maxLocals ret :: tables_1) room_1).applies x e0.platform about1 = true :=
  (Spec.applies_iff w_frames).mpr ⟨w_running, w_runnable, w_alone, w_named, w_hears, w_ripe, w_room, w_tables⟩
theorem atStart : AtStart classFile x code maxLocals ret World_1 tables_1 room_1 Calls_1 rest_1 Pre_1 launch0 p0 e0 about1 theMethod args0 below0 :=
  ⟨lists_1, trivial, launch0.admits_env _ _ _, launch0.least_env, fairChoices_fair.cas, fairChoices_fair.clock, w_frames, w_args, w_heap, w_applies, trivial, trivial, w_case⟩
end start1
theorem witness_1 : WitnessClaimed_1 := ⟨start1.p0, start1.e0, start1.about1, start1.theMethod, start1.args0, start1.below0, start1.atStart⟩
end Jvm.Pilot.@@N@@
