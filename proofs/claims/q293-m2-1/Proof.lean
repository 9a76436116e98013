import JvmDerived
import JvmDerived.Pilot.@@N@@Statement
import JvmDerived.Pilot.@@N@@Code
set_option linter.unusedVariables false
set_option linter.unusedSimpArgs false
namespace Jvm.Pilot.@@N@@
open Jvm Jvm.ClassFile Sem Op Lib Jvm.Free Jvm.Stand Jvm.LawKit Jvm.RoadKit Bundle Jvm.Pilot.@@N@@.Jvm.D
section OwnKit
variable {p : Program} {l : Launch} {e : Env} {R : Room} {s : State} {m : MethodId} {args : Array Value} {below : List Frame} {meth : Method} {c : Code} {T : State} {locs : List Loc} {cells slots : Nat} {Z : State} {a0 : Array Value} {h : Heap} {Q : Option Value → Heap → List Loc → Prop} {ck sk : Nat}
/-- from the state T with the frame g on top the run comes to a return that answers Q -/
def own_R (p : Program) (e : Env) (below : List Frame) (s : State) (Q : Option Value → Heap → List Loc → Prop) (ck sk : Nat) (T : State) (g : JFrame) : Prop :=
  ∃ (t : State) (o : Outcome), Steps p.tables e below (T.setTop g) t ∧ t.status = .running ∧ Ended t below o ∧ ∃ v L, o = .returned v ∧ Q v t.heap L ∧ FrameEnd s o t L ck sk
theorem own_lift {T' : State} {g g' : JFrame} (h : ∀ target, Steps p.tables e below (T'.setTop g') target → Steps p.tables e below (T.setTop g) target) (k : own_R p e below s Q ck sk T' g') : own_R p e below s Q ck sk T g := by
  obtain ⟨t, o, h1, h2⟩ := k
  exact ⟨t, o, h _ h1, h2⟩
theorem own_cast {g g' : JFrame} (q : g = g') (k : own_R p e below s Q ck sk T g') : own_R p e below s Q ck sk T g := q ▸ k
theorem own_iadd (X : Stand p l e R s m args below meth c T locs cells slots) (hx : p.tables.exec = Jvm.exec) {pc : Nat} {Ls : Array Slot} {St : List Value} {x y : Int32} (hd : decode c.code pc = .ok (.iadd, 1)) (k : own_R p e below s Q ck sk T (mkF m (pc + 1) Ls (.int (x + y) :: St))) : own_R p e below s Q ck sk T (mkF m pc Ls (.int y :: .int x :: St)) :=
  own_lift (fun _ q => XS.iadd X.here hx rfl hd rfl q) k
theorem own_isub (X : Stand p l e R s m args below meth c T locs cells slots) (hx : p.tables.exec = Jvm.exec) {pc : Nat} {Ls : Array Slot} {St : List Value} {x y : Int32} (hd : decode c.code pc = .ok (.isub, 1)) (k : own_R p e below s Q ck sk T (mkF m (pc + 1) Ls (.int (x - y) :: St))) : own_R p e below s Q ck sk T (mkF m pc Ls (.int y :: .int x :: St)) :=
  own_lift (fun _ q => XS.isub X.here hx rfl hd rfl q) k
theorem own_imul (X : Stand p l e R s m args below meth c T locs cells slots) (hx : p.tables.exec = Jvm.exec) {pc : Nat} {Ls : Array Slot} {St : List Value} {x y : Int32} (hd : decode c.code pc = .ok (.imul, 1)) (k : own_R p e below s Q ck sk T (mkF m (pc + 1) Ls (.int (x * y) :: St))) : own_R p e below s Q ck sk T (mkF m pc Ls (.int y :: .int x :: St)) :=
  own_lift (fun _ q => XS.imul X.here hx rfl hd rfl q) k
theorem own_iand (X : Stand p l e R s m args below meth c T locs cells slots) (hx : p.tables.exec = Jvm.exec) {pc : Nat} {Ls : Array Slot} {St : List Value} {x y : Int32} (hd : decode c.code pc = .ok (.iand, 1)) (k : own_R p e below s Q ck sk T (mkF m (pc + 1) Ls (.int (x &&& y) :: St))) : own_R p e below s Q ck sk T (mkF m pc Ls (.int y :: .int x :: St)) :=
  own_lift (fun _ q => XS.iand X.here hx rfl hd rfl q) k
theorem own_ior (X : Stand p l e R s m args below meth c T locs cells slots) (hx : p.tables.exec = Jvm.exec) {pc : Nat} {Ls : Array Slot} {St : List Value} {x y : Int32} (hd : decode c.code pc = .ok (.ior, 1)) (k : own_R p e below s Q ck sk T (mkF m (pc + 1) Ls (.int (x ||| y) :: St))) : own_R p e below s Q ck sk T (mkF m pc Ls (.int y :: .int x :: St)) :=
  own_lift (fun _ q => XS.ior X.here hx rfl hd rfl q) k
theorem own_ixor (X : Stand p l e R s m args below meth c T locs cells slots) (hx : p.tables.exec = Jvm.exec) {pc : Nat} {Ls : Array Slot} {St : List Value} {x y : Int32} (hd : decode c.code pc = .ok (.ixor, 1)) (k : own_R p e below s Q ck sk T (mkF m (pc + 1) Ls (.int (x ^^^ y) :: St))) : own_R p e below s Q ck sk T (mkF m pc Ls (.int y :: .int x :: St)) :=
  own_lift (fun _ q => XS.ixor X.here hx rfl hd rfl q) k
theorem own_ishl (X : Stand p l e R s m args below meth c T locs cells slots) (hx : p.tables.exec = Jvm.exec) {pc : Nat} {Ls : Array Slot} {St : List Value} {x y : Int32} (hd : decode c.code pc = .ok (.ishl, 1)) (k : own_R p e below s Q ck sk T (mkF m (pc + 1) Ls (.int (x <<< (y &&& 31)) :: St))) : own_R p e below s Q ck sk T (mkF m pc Ls (.int y :: .int x :: St)) :=
  own_lift (fun _ q => XS.ishl X.here hx rfl hd rfl q) k
theorem own_ishr (X : Stand p l e R s m args below meth c T locs cells slots) (hx : p.tables.exec = Jvm.exec) {pc : Nat} {Ls : Array Slot} {St : List Value} {x y : Int32} (hd : decode c.code pc = .ok (.ishr, 1)) (k : own_R p e below s Q ck sk T (mkF m (pc + 1) Ls (.int (x >>> (y &&& 31)) :: St))) : own_R p e below s Q ck sk T (mkF m pc Ls (.int y :: .int x :: St)) :=
  own_lift (fun _ q => XS.ishr X.here hx rfl hd rfl q) k
theorem own_iushr (X : Stand p l e R s m args below meth c T locs cells slots) (hx : p.tables.exec = Jvm.exec) {pc : Nat} {Ls : Array Slot} {St : List Value} {x y : Int32} (hd : decode c.code pc = .ok (.iushr, 1)) (k : own_R p e below s Q ck sk T (mkF m (pc + 1) Ls (.int ((x.toUInt32 >>> (y &&& 31).toUInt32).toInt32) :: St))) : own_R p e below s Q ck sk T (mkF m pc Ls (.int y :: .int x :: St)) :=
  own_lift (fun _ q => XS.iushr X.here hx rfl hd rfl q) k
theorem own_ladd (X : Stand p l e R s m args below meth c T locs cells slots) (hx : p.tables.exec = Jvm.exec) {pc : Nat} {Ls : Array Slot} {St : List Value} {x y : Int64} (hd : decode c.code pc = .ok (.ladd, 1)) (k : own_R p e below s Q ck sk T (mkF m (pc + 1) Ls (.long (x + y) :: St))) : own_R p e below s Q ck sk T (mkF m pc Ls (.long y :: .long x :: St)) :=
  own_lift (fun _ q => XS.ladd X.here hx rfl hd rfl q) k
theorem own_lsub (X : Stand p l e R s m args below meth c T locs cells slots) (hx : p.tables.exec = Jvm.exec) {pc : Nat} {Ls : Array Slot} {St : List Value} {x y : Int64} (hd : decode c.code pc = .ok (.lsub, 1)) (k : own_R p e below s Q ck sk T (mkF m (pc + 1) Ls (.long (x - y) :: St))) : own_R p e below s Q ck sk T (mkF m pc Ls (.long y :: .long x :: St)) :=
  own_lift (fun _ q => XS.lsub X.here hx rfl hd rfl q) k
theorem own_lmul (X : Stand p l e R s m args below meth c T locs cells slots) (hx : p.tables.exec = Jvm.exec) {pc : Nat} {Ls : Array Slot} {St : List Value} {x y : Int64} (hd : decode c.code pc = .ok (.lmul, 1)) (k : own_R p e below s Q ck sk T (mkF m (pc + 1) Ls (.long (x * y) :: St))) : own_R p e below s Q ck sk T (mkF m pc Ls (.long y :: .long x :: St)) :=
  own_lift (fun _ q => XS.lmul X.here hx rfl hd rfl q) k
theorem own_land (X : Stand p l e R s m args below meth c T locs cells slots) (hx : p.tables.exec = Jvm.exec) {pc : Nat} {Ls : Array Slot} {St : List Value} {x y : Int64} (hd : decode c.code pc = .ok (.land, 1)) (k : own_R p e below s Q ck sk T (mkF m (pc + 1) Ls (.long (x &&& y) :: St))) : own_R p e below s Q ck sk T (mkF m pc Ls (.long y :: .long x :: St)) :=
  own_lift (fun _ q => XS.land X.here hx rfl hd rfl q) k
theorem own_lor (X : Stand p l e R s m args below meth c T locs cells slots) (hx : p.tables.exec = Jvm.exec) {pc : Nat} {Ls : Array Slot} {St : List Value} {x y : Int64} (hd : decode c.code pc = .ok (.lor, 1)) (k : own_R p e below s Q ck sk T (mkF m (pc + 1) Ls (.long (x ||| y) :: St))) : own_R p e below s Q ck sk T (mkF m pc Ls (.long y :: .long x :: St)) :=
  own_lift (fun _ q => XS.lor X.here hx rfl hd rfl q) k
theorem own_lshl (X : Stand p l e R s m args below meth c T locs cells slots) (hx : p.tables.exec = Jvm.exec) {pc : Nat} {Ls : Array Slot} {St : List Value} {x : Int64} {y : Int32} (hd : decode c.code pc = .ok (.lshl, 1)) (k : own_R p e below s Q ck sk T (mkF m (pc + 1) Ls (.long (x <<< (y &&& 0x3f).toInt64) :: St))) : own_R p e below s Q ck sk T (mkF m pc Ls (.int y :: .long x :: St)) :=
  own_lift (fun _ q => XS.lshl X.here hx rfl hd rfl q) k
theorem own_lshr (X : Stand p l e R s m args below meth c T locs cells slots) (hx : p.tables.exec = Jvm.exec) {pc : Nat} {Ls : Array Slot} {St : List Value} {x : Int64} {y : Int32} (hd : decode c.code pc = .ok (.lshr, 1)) (k : own_R p e below s Q ck sk T (mkF m (pc + 1) Ls (.long (x >>> (y &&& 0x3f).toInt64) :: St))) : own_R p e below s Q ck sk T (mkF m pc Ls (.int y :: .long x :: St)) :=
  own_lift (fun _ q => XS.lshr X.here hx rfl hd rfl q) k
theorem own_lushr (X : Stand p l e R s m args below meth c T locs cells slots) (hx : p.tables.exec = Jvm.exec) {pc : Nat} {Ls : Array Slot} {St : List Value} {x : Int64} {y : Int32} (hd : decode c.code pc = .ok (.lushr, 1)) (k : own_R p e below s Q ck sk T (mkF m (pc + 1) Ls (.long ((x.toUInt64 >>> (y &&& 0x3f).toInt64.toUInt64).toInt64) :: St))) : own_R p e below s Q ck sk T (mkF m pc Ls (.int y :: .long x :: St)) :=
  own_lift (fun _ q => XS.lushr X.here hx rfl hd rfl q) k
theorem own_i2b (X : Stand p l e R s m args below meth c T locs cells slots) (hx : p.tables.exec = Jvm.exec) {pc : Nat} {Ls : Array Slot} {St : List Value} {x : Int32} (hd : decode c.code pc = .ok (.i2b, 1)) (k : own_R p e below s Q ck sk T (mkF m (pc + 1) Ls (.int x.toInt8.toInt32 :: St))) : own_R p e below s Q ck sk T (mkF m pc Ls (.int x :: St)) :=
  own_lift (fun _ q => XS.i2b X.here hx rfl hd rfl q) k
theorem own_i2s (X : Stand p l e R s m args below meth c T locs cells slots) (hx : p.tables.exec = Jvm.exec) {pc : Nat} {Ls : Array Slot} {St : List Value} {x : Int32} (hd : decode c.code pc = .ok (.i2s, 1)) (k : own_R p e below s Q ck sk T (mkF m (pc + 1) Ls (.int x.toInt16.toInt32 :: St))) : own_R p e below s Q ck sk T (mkF m pc Ls (.int x :: St)) :=
  own_lift (fun _ q => XS.i2s X.here hx rfl hd rfl q) k
theorem own_i2c (X : Stand p l e R s m args below meth c T locs cells slots) (hx : p.tables.exec = Jvm.exec) {pc : Nat} {Ls : Array Slot} {St : List Value} {x : Int32} (hd : decode c.code pc = .ok (.i2c, 1)) (k : own_R p e below s Q ck sk T (mkF m (pc + 1) Ls (.int x.toUInt32.toUInt16.toUInt32.toInt32 :: St))) : own_R p e below s Q ck sk T (mkF m pc Ls (.int x :: St)) :=
  own_lift (fun _ q => XS.i2c X.here hx rfl hd rfl q) k
theorem own_i2l (X : Stand p l e R s m args below meth c T locs cells slots) (hx : p.tables.exec = Jvm.exec) {pc : Nat} {Ls : Array Slot} {St : List Value} {x : Int32} (hd : decode c.code pc = .ok (.i2l, 1)) (k : own_R p e below s Q ck sk T (mkF m (pc + 1) Ls (.long x.toInt64 :: St))) : own_R p e below s Q ck sk T (mkF m pc Ls (.int x :: St)) :=
  own_lift (fun _ q => XS.i2l X.here hx rfl hd rfl q) k
theorem own_l2i (X : Stand p l e R s m args below meth c T locs cells slots) (hx : p.tables.exec = Jvm.exec) {pc : Nat} {Ls : Array Slot} {St : List Value} {x : Int64} (hd : decode c.code pc = .ok (.l2i, 1)) (k : own_R p e below s Q ck sk T (mkF m (pc + 1) Ls (.int x.toInt32 :: St))) : own_R p e below s Q ck sk T (mkF m pc Ls (.long x :: St)) :=
  own_lift (fun _ q => XS.l2i X.here hx rfl hd rfl q) k
theorem own_ineg (X : Stand p l e R s m args below meth c T locs cells slots) (hx : p.tables.exec = Jvm.exec) {pc : Nat} {Ls : Array Slot} {St : List Value} {x : Int32} (hd : decode c.code pc = .ok (.ineg, 1)) (k : own_R p e below s Q ck sk T (mkF m (pc + 1) Ls (.int (-x) :: St))) : own_R p e below s Q ck sk T (mkF m pc Ls (.int x :: St)) :=
  own_lift (fun _ q => XS.ineg X.here hx rfl hd rfl q) k
theorem own_lneg (X : Stand p l e R s m args below meth c T locs cells slots) (hx : p.tables.exec = Jvm.exec) {pc : Nat} {Ls : Array Slot} {St : List Value} {x : Int64} (hd : decode c.code pc = .ok (.lneg, 1)) (k : own_R p e below s Q ck sk T (mkF m (pc + 1) Ls (.long (-x) :: St))) : own_R p e below s Q ck sk T (mkF m pc Ls (.long x :: St)) :=
  own_lift (fun _ q => XS.lneg X.here hx rfl hd rfl q) k
theorem own_iloadN (X : Stand p l e R s m args below meth c T locs cells slots) (hx : p.tables.exec = Jvm.exec) {pc : Nat} {Ls : Array Slot} {St : List Value} {i : Fin 4} {v : Int32} (hd : decode c.code pc = .ok (.iload_n i, 1)) (hl : Ls[i.val]? = some (.val (.int v))) (k : own_R p e below s Q ck sk T (mkF m (pc + 1) Ls (.int v :: St))) : own_R p e below s Q ck sk T (mkF m pc Ls St) :=
  own_lift (fun _ q => XS.iloadN X.here hx rfl hd hl q) k
theorem own_iload (X : Stand p l e R s m args below meth c T locs cells slots) (hx : p.tables.exec = Jvm.exec) {pc : Nat} {Ls : Array Slot} {St : List Value} {i : Nat} {v : Int32} (hd : decode c.code pc = .ok (.iload i, 2)) (hl : Ls[i]? = some (.val (.int v))) (k : own_R p e below s Q ck sk T (mkF m (pc + 2) Ls (.int v :: St))) : own_R p e below s Q ck sk T (mkF m pc Ls St) :=
  own_lift (fun _ q => XS.iload X.here hx rfl hd hl q) k
theorem own_istoreN (X : Stand p l e R s m args below meth c T locs cells slots) (hx : p.tables.exec = Jvm.exec) {pc : Nat} {Ls : Array Slot} {St : List Value} {i : Fin 4} {v : Int32} {l' : Array Slot} (hd : decode c.code pc = .ok (.istore_n i, 1)) (hl : storeLocals Ls i.val (.int v) = some l') (k : own_R p e below s Q ck sk T (mkF m (pc + 1) l' St)) : own_R p e below s Q ck sk T (mkF m pc Ls (.int v :: St)) :=
  own_lift (fun _ q => XS.istoreN X.here hx rfl hd rfl hl q) k
theorem own_istore (X : Stand p l e R s m args below meth c T locs cells slots) (hx : p.tables.exec = Jvm.exec) {pc : Nat} {Ls : Array Slot} {St : List Value} {i : Nat} {v : Int32} {l' : Array Slot} (hd : decode c.code pc = .ok (.istore i, 2)) (hl : storeLocals Ls i (.int v) = some l') (k : own_R p e below s Q ck sk T (mkF m (pc + 2) l' St)) : own_R p e below s Q ck sk T (mkF m pc Ls (.int v :: St)) :=
  own_lift (fun _ q => XS.istore X.here hx rfl hd rfl hl q) k
theorem own_lloadN (X : Stand p l e R s m args below meth c T locs cells slots) (hx : p.tables.exec = Jvm.exec) {pc : Nat} {Ls : Array Slot} {St : List Value} {i : Fin 4} {v : Int64} (hd : decode c.code pc = .ok (.lload_n i, 1)) (hl : Ls[i.val]? = some (.val (.long v))) (k : own_R p e below s Q ck sk T (mkF m (pc + 1) Ls (.long v :: St))) : own_R p e below s Q ck sk T (mkF m pc Ls St) :=
  own_lift (fun _ q => XS.lloadN X.here hx rfl hd hl q) k
theorem own_lload (X : Stand p l e R s m args below meth c T locs cells slots) (hx : p.tables.exec = Jvm.exec) {pc : Nat} {Ls : Array Slot} {St : List Value} {i : Nat} {v : Int64} (hd : decode c.code pc = .ok (.lload i, 2)) (hl : Ls[i]? = some (.val (.long v))) (k : own_R p e below s Q ck sk T (mkF m (pc + 2) Ls (.long v :: St))) : own_R p e below s Q ck sk T (mkF m pc Ls St) :=
  own_lift (fun _ q => XS.lload X.here hx rfl hd hl q) k
theorem own_lstoreN (X : Stand p l e R s m args below meth c T locs cells slots) (hx : p.tables.exec = Jvm.exec) {pc : Nat} {Ls : Array Slot} {St : List Value} {i : Fin 4} {v : Int64} {l' : Array Slot} (hd : decode c.code pc = .ok (.lstore_n i, 1)) (hl : storeLocals Ls i.val (.long v) = some l') (k : own_R p e below s Q ck sk T (mkF m (pc + 1) l' St)) : own_R p e below s Q ck sk T (mkF m pc Ls (.long v :: St)) :=
  own_lift (fun _ q => XS.lstoreN X.here hx rfl hd rfl hl q) k
theorem own_lstore (X : Stand p l e R s m args below meth c T locs cells slots) (hx : p.tables.exec = Jvm.exec) {pc : Nat} {Ls : Array Slot} {St : List Value} {i : Nat} {v : Int64} {l' : Array Slot} (hd : decode c.code pc = .ok (.lstore i, 2)) (hl : storeLocals Ls i (.long v) = some l') (k : own_R p e below s Q ck sk T (mkF m (pc + 2) l' St)) : own_R p e below s Q ck sk T (mkF m pc Ls (.long v :: St)) :=
  own_lift (fun _ q => XS.lstore X.here hx rfl hd rfl hl q) k
theorem own_aloadN (X : Stand p l e R s m args below meth c T locs cells slots) (hx : p.tables.exec = Jvm.exec) {pc : Nat} {Ls : Array Slot} {St : List Value} {i : Fin 4} {v : Value} (hd : decode c.code pc = .ok (.aload_n i, 1)) (hl : Ls[i.val]? = some (.val v)) (hv : v.isRef = true) (k : own_R p e below s Q ck sk T (mkF m (pc + 1) Ls (v :: St))) : own_R p e below s Q ck sk T (mkF m pc Ls St) :=
  own_lift (fun _ q => XS.aloadN X.here hx rfl hd hl hv q) k
theorem own_aload (X : Stand p l e R s m args below meth c T locs cells slots) (hx : p.tables.exec = Jvm.exec) {pc : Nat} {Ls : Array Slot} {St : List Value} {i : Nat} {v : Value} (hd : decode c.code pc = .ok (.aload i, 2)) (hl : Ls[i]? = some (.val v)) (hv : v.isRef = true) (k : own_R p e below s Q ck sk T (mkF m (pc + 2) Ls (v :: St))) : own_R p e below s Q ck sk T (mkF m pc Ls St) :=
  own_lift (fun _ q => XS.aload X.here hx rfl hd hl hv q) k
theorem own_astoreN (X : Stand p l e R s m args below meth c T locs cells slots) (hx : p.tables.exec = Jvm.exec) {pc : Nat} {Ls : Array Slot} {St : List Value} {i : Fin 4} {v : Value} {l' : Array Slot} (hd : decode c.code pc = .ok (.astore_n i, 1)) (hv : v.isRef = true) (hl : storeLocals Ls i.val v = some l') (k : own_R p e below s Q ck sk T (mkF m (pc + 1) l' St)) : own_R p e below s Q ck sk T (mkF m pc Ls (v :: St)) :=
  own_lift (fun _ q => XS.astoreN X.here hx rfl hd rfl hv hl q) k
theorem own_astore (X : Stand p l e R s m args below meth c T locs cells slots) (hx : p.tables.exec = Jvm.exec) {pc : Nat} {Ls : Array Slot} {St : List Value} {i : Nat} {v : Value} {l' : Array Slot} (hd : decode c.code pc = .ok (.astore i, 2)) (hv : v.isRef = true) (hl : storeLocals Ls i v = some l') (k : own_R p e below s Q ck sk T (mkF m (pc + 2) l' St)) : own_R p e below s Q ck sk T (mkF m pc Ls (v :: St)) :=
  own_lift (fun _ q => XS.astore X.here hx rfl hd rfl hv hl q) k
theorem own_iconst (X : Stand p l e R s m args below meth c T locs cells slots) (hx : p.tables.exec = Jvm.exec) {pc : Nat} {Ls : Array Slot} {St : List Value} {i : Int} (v : Int32) (hd : decode c.code pc = .ok (.iconst i, 1)) (hv : Int32.ofInt i = v) (k : own_R p e below s Q ck sk T (mkF m (pc + 1) Ls (.int v :: St))) : own_R p e below s Q ck sk T (mkF m pc Ls St) :=
  own_lift (fun _ q => XS.iconst X.here hx rfl hd (hv ▸ q)) k
theorem own_bipush (X : Stand p l e R s m args below meth c T locs cells slots) (hx : p.tables.exec = Jvm.exec) {pc : Nat} {Ls : Array Slot} {St : List Value} {i : Int} (v : Int32) (hd : decode c.code pc = .ok (.bipush i, 2)) (hv : (Int8.ofInt i).toInt32 = v) (k : own_R p e below s Q ck sk T (mkF m (pc + 2) Ls (.int v :: St))) : own_R p e below s Q ck sk T (mkF m pc Ls St) :=
  own_lift (fun _ q => XS.bipush X.here hx rfl hd (hv ▸ q)) k
theorem own_sipush (X : Stand p l e R s m args below meth c T locs cells slots) (hx : p.tables.exec = Jvm.exec) {pc : Nat} {Ls : Array Slot} {St : List Value} {i : Int} (v : Int32) (hd : decode c.code pc = .ok (.sipush i, 3)) (hv : (Int16.ofInt i).toInt32 = v) (k : own_R p e below s Q ck sk T (mkF m (pc + 3) Ls (.int v :: St))) : own_R p e below s Q ck sk T (mkF m pc Ls St) :=
  own_lift (fun _ q => XS.sipush X.here hx rfl hd (hv ▸ q)) k
theorem own_lconst (X : Stand p l e R s m args below meth c T locs cells slots) (hx : p.tables.exec = Jvm.exec) {pc : Nat} {Ls : Array Slot} {St : List Value} {i : Fin 2} (v : Int64) (hd : decode c.code pc = .ok (.lconst i, 1)) (hv : Int64.ofNat i = v) (k : own_R p e below s Q ck sk T (mkF m (pc + 1) Ls (.long v :: St))) : own_R p e below s Q ck sk T (mkF m pc Ls St) :=
  own_lift (fun _ q => XS.lconst X.here hx rfl hd (hv ▸ q)) k
theorem own_iinc (X : Stand p l e R s m args below meth c T locs cells slots) (hx : p.tables.exec = Jvm.exec) {pc : Nat} {Ls : Array Slot} {St : List Value} {i : Nat} {cst : Int} {x : Int32} (v : Int32) {l' : Array Slot} (hd : decode c.code pc = .ok (.iinc i cst, 3)) (hv : Int32.ofInt cst = v) (hl : Ls[i]? = some (.val (.int x))) (hl' : storeLocals Ls i (.int (x + v)) = some l') (k : own_R p e below s Q ck sk T (mkF m (pc + 3) l' St)) : own_R p e below s Q ck sk T (mkF m pc Ls St) :=
  own_lift (fun _ q => XS.iinc X.here hx rfl hd hl (hv ▸ hl') q) k
theorem own_aconst_null (X : Stand p l e R s m args below meth c T locs cells slots) (hx : p.tables.exec = Jvm.exec) {pc : Nat} {Ls : Array Slot} {St : List Value}  (hd : decode c.code pc = .ok (.aconst_null, 1)) (k : own_R p e below s Q ck sk T (mkF m (pc + 1) Ls (.null :: St))) : own_R p e below s Q ck sk T (mkF m pc Ls St) :=
  own_lift (fun _ q => XS.aconstNull X.here hx rfl hd q) k
theorem own_dup (X : Stand p l e R s m args below meth c T locs cells slots) (hx : p.tables.exec = Jvm.exec) {pc : Nat} {Ls : Array Slot} {St : List Value} {x : Value} (hd : decode c.code pc = .ok (.dup, 1)) (hc : x.category = 1) (k : own_R p e below s Q ck sk T (mkF m (pc + 1) Ls (x :: x :: St))) : own_R p e below s Q ck sk T (mkF m pc Ls (x :: St)) :=
  own_lift (fun _ q => XS.dup X.here hx rfl hd rfl hc q) k
theorem own_dup_x1 (X : Stand p l e R s m args below meth c T locs cells slots) (hx : p.tables.exec = Jvm.exec) {pc : Nat} {Ls : Array Slot} {St : List Value} {x y : Value} (hd : decode c.code pc = .ok (.dup_x1, 1)) (hc : x.category = 1) (hc2 : y.category = 1) (k : own_R p e below s Q ck sk T (mkF m (pc + 1) Ls (x :: y :: x :: St))) : own_R p e below s Q ck sk T (mkF m pc Ls (x :: y :: St)) :=
  own_lift (fun _ q => XS.dupX1 X.here hx rfl hd rfl hc hc2 q) k
theorem own_pop (X : Stand p l e R s m args below meth c T locs cells slots) (hx : p.tables.exec = Jvm.exec) {pc : Nat} {Ls : Array Slot} {St : List Value} {x : Value} (hd : decode c.code pc = .ok (.pop, 1)) (hc : x.category = 1) (k : own_R p e below s Q ck sk T (mkF m (pc + 1) Ls St)) : own_R p e below s Q ck sk T (mkF m pc Ls (x :: St)) :=
  own_lift (fun _ q => XS.pop X.here hx rfl hd rfl hc q) k
theorem own_goto (X : Stand p l e R s m args below meth c T locs cells slots) (hx : p.tables.exec = Jvm.exec) {pc : Nat} {Ls : Array Slot} {St : List Value} {o : Int} {pc' : Nat} (hd : decode c.code pc = .ok (.goto o, 3)) (ho : 0 ≤ (pc : Int) + o) (hp : ((pc : Int) + o).toNat = pc') (k : own_R p e below s Q ck sk T (mkF m pc' Ls St)) : own_R p e below s Q ck sk T (mkF m pc Ls St) :=
  own_lift (fun _ q => XS.goto X.here hx rfl (pc0 := pc) rfl hd ho hp q) k
theorem own_ifnullY (X : Stand p l e R s m args below meth c T locs cells slots) (hx : p.tables.exec = Jvm.exec) {pc : Nat} {Ls : Array Slot} {St : List Value} {o : Int} {pc' : Nat} (hd : decode c.code pc = .ok (.ifnull o, 3)) (ho : 0 ≤ (pc : Int) + o) (hp : ((pc : Int) + o).toNat = pc') (k : own_R p e below s Q ck sk T (mkF m pc' Ls St)) : own_R p e below s Q ck sk T (mkF m pc Ls (.null :: St)) :=
  own_lift (fun _ q => XS.ifnullYes X.here hx rfl (pc0 := pc) rfl hd rfl ho hp q) k
theorem own_ifnullN (X : Stand p l e R s m args below meth c T locs cells slots) (hx : p.tables.exec = Jvm.exec) {pc : Nat} {Ls : Array Slot} {St : List Value} {o : Int} {b : Addr} (hd : decode c.code pc = .ok (.ifnull o, 3)) (k : own_R p e below s Q ck sk T (mkF m (pc + 3) Ls St)) : own_R p e below s Q ck sk T (mkF m pc Ls (.ref b :: St)) :=
  own_lift (fun _ q => XS.ifnullNo X.here hx rfl hd rfl q) k
theorem own_ifnonnullY (X : Stand p l e R s m args below meth c T locs cells slots) (hx : p.tables.exec = Jvm.exec) {pc : Nat} {Ls : Array Slot} {St : List Value} {o : Int} {pc' : Nat} {b : Addr} (hd : decode c.code pc = .ok (.ifnonnull o, 3)) (ho : 0 ≤ (pc : Int) + o) (hp : ((pc : Int) + o).toNat = pc') (k : own_R p e below s Q ck sk T (mkF m pc' Ls St)) : own_R p e below s Q ck sk T (mkF m pc Ls (.ref b :: St)) :=
  own_lift (fun _ q => XS.ifnonnullYes X.here hx rfl (pc0 := pc) rfl hd rfl ho hp q) k
theorem own_ifnonnullN (X : Stand p l e R s m args below meth c T locs cells slots) (hx : p.tables.exec = Jvm.exec) {pc : Nat} {Ls : Array Slot} {St : List Value} {o : Int} (hd : decode c.code pc = .ok (.ifnonnull o, 3)) (k : own_R p e below s Q ck sk T (mkF m (pc + 3) Ls St)) : own_R p e below s Q ck sk T (mkF m pc Ls (.null :: St)) :=
  own_lift (fun _ q => XS.ifnonnullNo X.here hx rfl hd rfl q) k
theorem own_irem (X : Stand p l e R s m args below meth c T locs cells slots) (hx : p.tables.exec = Jvm.exec) {pc : Nat} {Ls : Array Slot} {St : List Value} {x y : Int32} (hd : decode c.code pc = .ok (.irem, 1)) (hy : y ≠ 0) (k : own_R p e below s Q ck sk T (mkF m (pc + 1) Ls (.int (x % y) :: St))) : own_R p e below s Q ck sk T (mkF m pc Ls (.int y :: .int x :: St)) :=
  own_lift (fun _ q => iremM X hx rfl hd rfl hy q) k
theorem own_ldc (X : Stand p l e R s m args below meth c T locs cells slots) (hx : p.tables.exec = Jvm.exec) (hZ : Z.Warmed39 s.vm) {own : String} {index : Nat} {v : Int32} (hown : s.vm.findClass own = some m.cls) (w : (Cond.constant own index v).before a0 Z = true) {pc : Nat} {Ls : Array Slot} {St : List Value} (hd : decode c.code pc = .ok (.ldc index, 2)) (k : own_R p e below s Q ck sk T (mkF m (pc + 2) Ls (.int v :: St))) : own_R p e below s Q ck sk T (mkF m pc Ls St) :=
  own_lift (fun _ q => X.ldcInt hx hown (mvT hZ w) (g := mkF m pc Ls St) rfl hd _ q) k
theorem own_ldc2 (X : Stand p l e R s m args below meth c T locs cells slots) (hx : p.tables.exec = Jvm.exec) (hZ : Z.Warmed39 s.vm) {own : String} {index : Nat} {v : Int64} (hown : s.vm.findClass own = some m.cls) (w : (Cond.constantLong own index v).before a0 Z = true) {pc : Nat} {Ls : Array Slot} {St : List Value} (hd : decode c.code pc = .ok (.ldc2_w index, 3)) (k : own_R p e below s Q ck sk T (mkF m (pc + 3) Ls (.long v :: St))) : own_R p e below s Q ck sk T (mkF m pc Ls St) :=
  own_lift (fun _ q => X.ldc2Long hx hown (mvT hZ w) (g := mkF m pc Ls St) rfl hd _ q) k
theorem own_dup2 (X : Stand p l e R s m args below meth c T locs cells slots) (hx : p.tables.exec = Jvm.exec) {pc : Nat} {Ls : Array Slot} {St : List Value} {x y : Value} (hd : decode c.code pc = .ok (.dup2, 1)) (h1 : x.category = 1) (h2 : y.category = 1) (k : own_R p e below s Q ck sk T (mkF m (pc + 1) Ls (x :: y :: x :: y :: St))) : own_R p e below s Q ck sk T (mkF m pc Ls (x :: y :: St)) :=
  own_lift (fun _ q => by
    show Steps p.tables e below (T.setTop { method := m, pc := pc, locals := Ls, stack := x :: y :: St, locked := none }) _
    jvm_step X.here [X.here.top, hx, hd, h1, h2]
    exact q) k
theorem own_pop2 (X : Stand p l e R s m args below meth c T locs cells slots) (hx : p.tables.exec = Jvm.exec) {pc : Nat} {Ls : Array Slot} {St : List Value} {x : Int64} (hd : decode c.code pc = .ok (.pop2, 1)) (k : own_R p e below s Q ck sk T (mkF m (pc + 1) Ls St)) : own_R p e below s Q ck sk T (mkF m pc Ls (.long x :: St)) :=
  own_lift (fun _ q => by
    show Steps p.tables e below (T.setTop { method := m, pc := pc, locals := Ls, stack := .long x :: St, locked := none }) _
    jvm_step X.here [X.here.top, hx, hd, Value.category]
    exact q) k
/-! branches: both ways -/
theorem own_icmp (X : Stand p l e R s m args below meth c T locs cells slots) (hx : p.tables.exec = Jvm.exec) {pc pc' : Nat} {Ls : Array Slot} {St : List Value} {x y : Int32} {cd : ClassFile.Cond} {o : Int} (hd : decode c.code pc = .ok (.if_icmp cd o, 3)) (ho : 0 ≤ (pc : Int) + o) (hp : ((pc : Int) + o).toNat = pc')
    (k1 : if_icmp.holds cd x y = true → own_R p e below s Q ck sk T (mkF m pc' Ls St)) (k2 : if_icmp.holds cd x y = false → own_R p e below s Q ck sk T (mkF m (pc + 3) Ls St)) : own_R p e below s Q ck sk T (mkF m pc Ls (.int y :: .int x :: St)) := by
  cases hc : if_icmp.holds cd x y
  · exact own_lift (fun _ q => XS.icmpNo X.here hx rfl hd rfl hc q) (k2 hc)
  · exact own_lift (fun _ q => XS.icmpYes X.here hx rfl (pc0 := pc) rfl hd rfl hc ho hp q) (k1 hc)
theorem own_if (X : Stand p l e R s m args below meth c T locs cells slots) (hx : p.tables.exec = Jvm.exec) {pc pc' : Nat} {Ls : Array Slot} {St : List Value} {x : Int32} {cd : ClassFile.Cond} {o : Int} (hd : decode c.code pc = .ok (.ifCond cd o, 3)) (ho : 0 ≤ (pc : Int) + o) (hp : ((pc : Int) + o).toNat = pc')
    (k1 : if_icmp.holds cd x 0 = true → own_R p e below s Q ck sk T (mkF m pc' Ls St)) (k2 : if_icmp.holds cd x 0 = false → own_R p e below s Q ck sk T (mkF m (pc + 3) Ls St)) : own_R p e below s Q ck sk T (mkF m pc Ls (.int x :: St)) := by
  cases hc : if_icmp.holds cd x 0
  · exact own_lift (fun _ q => XS.ifNo X.here hx rfl hd rfl ((if0 _ _).trans hc) q) (k2 hc)
  · exact own_lift (fun _ q => XS.ifYes X.here hx rfl (pc0 := pc) rfl hd rfl ((if0 _ _).trans hc) ho hp q) (k1 hc)
theorem own_lt1 {x y : Int32} (q : if_icmp.holds .lt x y = true) : x < y := by simpa [if_icmp.holds] using q
theorem own_lt0 {x y : Int32} (q : if_icmp.holds .lt x y = false) : ¬ x < y := by simpa [if_icmp.holds] using q
theorem own_ge1 {x y : Int32} (q : if_icmp.holds .ge x y = true) : ¬ x < y := by simpa [if_icmp.holds] using q
theorem own_ge0 {x y : Int32} (q : if_icmp.holds .ge x y = false) : x < y := by simpa [if_icmp.holds] using q
theorem own_gt1 {x y : Int32} (q : if_icmp.holds .gt x y = true) : y < x := by simpa [if_icmp.holds] using q
theorem own_gt0 {x y : Int32} (q : if_icmp.holds .gt x y = false) : ¬ y < x := by simpa [if_icmp.holds] using q
theorem own_le1 {x y : Int32} (q : if_icmp.holds .le x y = true) : ¬ y < x := by simpa [if_icmp.holds] using q
theorem own_le0 {x y : Int32} (q : if_icmp.holds .le x y = false) : y < x := by simpa [if_icmp.holds] using q
theorem own_eq1 {x y : Int32} (q : if_icmp.holds .eq x y = true) : x = y := by simpa [if_icmp.holds] using q
theorem own_eq0 {x y : Int32} (q : if_icmp.holds .eq x y = false) : ¬ x = y := by simpa [if_icmp.holds] using q
theorem own_ne1 {x y : Int32} (q : if_icmp.holds .ne x y = true) : ¬ x = y := by simpa [if_icmp.holds] using q
theorem own_ne0 {x y : Int32} (q : if_icmp.holds .ne x y = false) : x = y := by simpa [if_icmp.holds] using q
/-! lcmp and the branch behind it, in one -/
theorem own_lcmp (X : Stand p l e R s m args below meth c T locs cells slots) (hx : p.tables.exec = Jvm.exec) {pc pc' : Nat} {Ls : Array Slot} {St : List Value} {x y : Int64} {cd : ClassFile.Cond} {o : Int} (hd1 : decode c.code pc = .ok (.lcmp, 1)) (hd : decode c.code (pc + 1) = .ok (.ifCond cd o, 3)) (ho : 0 ≤ ((pc + 1 : Nat) : Int) + o) (hp : (((pc + 1 : Nat) : Int) + o).toNat = pc')
    (k1 : if_icmp.holds cd (lcmpW x y) 0 = true → own_R p e below s Q ck sk T (mkF m pc' Ls St)) (k2 : if_icmp.holds cd (lcmpW x y) 0 = false → own_R p e below s Q ck sk T (mkF m (pc + 4) Ls St)) : own_R p e below s Q ck sk T (mkF m pc Ls (.long y :: .long x :: St)) :=
  own_lift (fun _ q => XS.lcmp X.here hx rfl hd1 rfl q) (own_if X hx hd ho hp k1 k2)
theorem own_llt1 {x y : Int64} (q : if_icmp.holds .lt (lcmpW x y) 0 = true) : x < y := (lw_lt x y).mp (own_lt1 q)
theorem own_llt0 {x y : Int64} (q : if_icmp.holds .lt (lcmpW x y) 0 = false) : ¬ x < y := fun z => own_lt0 q ((lw_lt x y).mpr z)
theorem own_lge1 {x y : Int64} (q : if_icmp.holds .ge (lcmpW x y) 0 = true) : ¬ x < y := fun z => own_ge1 q ((lw_lt x y).mpr z)
theorem own_lge0 {x y : Int64} (q : if_icmp.holds .ge (lcmpW x y) 0 = false) : x < y := (lw_lt x y).mp (own_ge0 q)
theorem own_lgt1 {x y : Int64} (q : if_icmp.holds .gt (lcmpW x y) 0 = true) : y < x := (lw_gt x y).mp (own_gt1 q)
theorem own_lgt0 {x y : Int64} (q : if_icmp.holds .gt (lcmpW x y) 0 = false) : ¬ y < x := fun z => own_gt0 q ((lw_gt x y).mpr z)
theorem own_lle1 {x y : Int64} (q : if_icmp.holds .le (lcmpW x y) 0 = true) : ¬ y < x := fun z => own_le1 q ((lw_gt x y).mpr z)
theorem own_lle0 {x y : Int64} (q : if_icmp.holds .le (lcmpW x y) 0 = false) : y < x := (lw_gt x y).mp (own_le0 q)
theorem own_leq1 {x y : Int64} (q : if_icmp.holds .eq (lcmpW x y) 0 = true) : x = y := (lw_eq x y).mp (own_eq1 q)
theorem own_leq0 {x y : Int64} (q : if_icmp.holds .eq (lcmpW x y) 0 = false) : ¬ x = y := fun z => own_eq0 q ((lw_eq x y).mpr z)
theorem own_lne1 {x y : Int64} (q : if_icmp.holds .ne (lcmpW x y) 0 = true) : ¬ x = y := fun z => own_ne1 q ((lw_eq x y).mpr z)
theorem own_lne0 {x y : Int64} (q : if_icmp.holds .ne (lcmpW x y) 0 = false) : x = y := (lw_eq x y).mp (own_ne0 q)
/-! returns -/
theorem own_ret0 (X : Stand p l e R s m args below meth c T locs cells slots) (hx : p.tables.exec = Jvm.exec) {pc : Nat} {Ls : Array Slot} (hret : meth.sig.returnType = none) (hlk : meth.locks = false) (hd : decode c.code pc = .ok (.return_, 1)) (hQ : Q none T.heap locs) (hc : cells ≤ ck) (hs : slots ≤ sk) : own_R p e below s Q ck sk T (mkF m pc Ls []) := by
  obtain ⟨fs, hr, hrun, hended, hW, hsame⟩ := X.leave (v := none) (fun _ => rfl) hlk
  exact ⟨_, _, X.returnOut hx hret hd hr, hrun, hended, _, _, rfl, hQ, ⟨_, rfl⟩, hW, hsame.mono hc hs⟩
theorem own_retN (X : Stand p l e R s m args below meth c T locs cells slots) (hx : p.tables.exec = Jvm.exec) {pc : Nat} {Ls : Array Slot} {St : List Value} {z : Int32} {t : FieldType} (hret : meth.sig.returnType = some t) (ht : t = .boolean ∨ t = .byte ∨ t = .char ∨ t = .short) (hlk : meth.locks = false) (hd : decode c.code pc = .ok (.ireturn, 1)) (hQ : Q (some (.int (nar t z))) T.heap locs) (hc : cells ≤ ck) (hs : slots ≤ sk) : own_R p e below s Q ck sk T (mkF m pc Ls (.int z :: St)) := by
  obtain ⟨fs, hr, hrun, hended, hW, hsame⟩ := X.leave (v := some (.int (nar t z))) (fun h => by rw [hret] at h; cases h) hlk
  exact ⟨_, _, retN X hx hret ht hd hr, hrun, hended, _, _, rfl, hQ, ⟨_, rfl⟩, hW, hsame.mono hc hs⟩
theorem own_retV (X : Stand p l e R s m args below meth c T locs cells slots) (hx : p.tables.exec = Jvm.exec) {pc : Nat} {Ls : Array Slot} {St : List Value} {w : Value} {t : FieldType} {i : Instr} (hret : meth.sig.returnType = some t) (hn : narrow t w = w)
    (hi : (i = .ireturn ∧ (t = .int ∨ t = .boolean ∨ t = .byte ∨ t = .char ∨ t = .short) ∧ ∃ z, w = .int z) ∨ (i = .lreturn ∧ t = .long ∧ ∃ z, w = .long z) ∨ (i = .dreturn ∧ t = .double ∧ ∃ z, w = .double z) ∨ (i = .freturn ∧ t = .float ∧ ∃ z, w = .float z) ∨ (i = .areturn ∧ t.isReference = true ∧ w.isRef = true)) (hlk : meth.locks = false)
    (hd : decode c.code pc = .ok (i, 1)) (hQ : Q (some w) T.heap locs) (hc : cells ≤ ck) (hs : slots ≤ sk) : own_R p e below s Q ck sk T (mkF m pc Ls (w :: St)) := by
  obtain ⟨fs, hr, hrun, hended, hW, hsame⟩ := X.leave (v := some w) (fun h => by rw [hret] at h; cases h) hlk
  exact ⟨_, _, retOut X hx hret hn hi hd hr, hrun, hended, _, _, rfl, hQ, ⟨_, rfl⟩, hW, hsame.mono hc hs⟩
theorem own_retI (X : Stand p l e R s m args below meth c T locs cells slots) (hx : p.tables.exec = Jvm.exec) {pc : Nat} {Ls : Array Slot} {St : List Value} {z : Int32} (hret : meth.sig.returnType = some .int) (hlk : meth.locks = false) (hd : decode c.code pc = .ok (.ireturn, 1)) (hQ : Q (some (.int z)) T.heap locs) (hc : cells ≤ ck) (hs : slots ≤ sk) : own_R p e below s Q ck sk T (mkF m pc Ls (.int z :: St)) :=
  own_retV X hx hret rfl (Or.inl ⟨rfl, Or.inl rfl, _, rfl⟩) hlk hd hQ hc hs
theorem own_retJ (X : Stand p l e R s m args below meth c T locs cells slots) (hx : p.tables.exec = Jvm.exec) {pc : Nat} {Ls : Array Slot} {St : List Value} {z : Int64} (hret : meth.sig.returnType = some .long) (hlk : meth.locks = false) (hd : decode c.code pc = .ok (.lreturn, 1)) (hQ : Q (some (.long z)) T.heap locs) (hc : cells ≤ ck) (hs : slots ≤ sk) : own_R p e below s Q ck sk T (mkF m pc Ls (.long z :: St)) :=
  own_retV X hx hret rfl (Or.inr (Or.inl ⟨rfl, rfl, _, rfl⟩)) hlk hd hQ hc hs
theorem own_retA (X : Stand p l e R s m args below meth c T locs cells slots) (hx : p.tables.exec = Jvm.exec) {pc : Nat} {Ls : Array Slot} {St : List Value} {w : Value} {t : FieldType} (hret : meth.sig.returnType = some t) (ht : t.isReference = true) (hw : w.isRef = true) (hlk : meth.locks = false) (hd : decode c.code pc = .ok (.areturn, 1)) (hQ : Q (some w) T.heap locs) (hc : cells ≤ ck) (hs : slots ≤ sk) : own_R p e below s Q ck sk T (mkF m pc Ls (w :: St)) :=
  own_retV X hx hret (by rcases ref_cases hw with rfl | ⟨a, rfl⟩ <;> cases t <;> first | rfl | (cases ht)) (Or.inr (Or.inr (Or.inr (Or.inr ⟨rfl, ht, hw⟩)))) hlk hd hQ hc hs
/-! the heap -/
theorem own_getF (X : Stand p l e R s m args below meth c T locs cells slots) (hx : p.tables.exec = Jvm.exec) (hZ : Z.Warmed39 s.vm) {own R0 O n d host : String} {index : Nat} (hown : s.vm.findClass own = some m.cls) (w : (Cond.fieldLink own index R0 n d).before a0 Z = true ∨ (Cond.fieldLinkNest own index R0 n d host).before a0 Z = true) (via : Via Z R0 O n d) (eT : T.heap = h) {a : Addr} {v : Value} (F : Fld Z h a O n d v) {pc : Nat} {Ls : Array Slot} {St : List Value} (hd : decode c.code pc = .ok (.getfield index, 3))
    (k : ∀ T', Stand p l e R s m args below meth c T' locs cells slots → T'.heap = h → own_R p e below s Q ck sk T' (mkF m (pc + 3) Ls (v :: St))) : own_R p e below s Q ck sk T (mkF m pc Ls (.ref a :: St)) := by
  obtain ⟨T', X', e', st⟩ := getF X hx hZ hown w via eT F (g := mkF m pc Ls (.ref a :: St)) rfl rfl hd
  exact own_lift st (k T' X' e')
theorem own_putF (X : Stand p l e R s m args below meth c T locs cells slots) (hx : p.tables.exec = Jvm.exec) (hZ : Z.Warmed39 s.vm) {own R0 O n d host C : String} {index kk : Nat} {ty : FieldType} (hown : s.vm.findClass own = some m.cls) (w : (Cond.fieldLink own index R0 n d).before a0 Z = true ∨ (Cond.fieldLinkNest own index R0 n d host).before a0 Z = true) (via : Via Z R0 O n d)
    (eT : T.heap = h) {a : Addr} {v old : Value} (F : Fld Z h a O n d old) (E : Exa Z h a C) (L : (Cond.lays C O n d).before a0 Z = true ∨ ((Cond.laysFinal C O n d).before a0 Z = true ∧ own = O ∧ meth.name = "<init>")) (wi : (Cond.instantiable C kk).before a0 Z = true)
    (hty : parseFieldDescriptor d = some ty) (hn : narrow ty v = v) (hf : fits ty v = true) {pc : Nat} {Ls : Array Slot} {St : List Value} (hd : decode c.code pc = .ok (.putfield index, 3))
    (k : ∀ T' h', Stand p l e R s m args below meth c T' (locs ++ [⟨a, Jvm.RoadKit.slotOf Z O n d⟩]) cells slots → T'.heap = h' → Wr h h' a (Jvm.RoadKit.slotOf Z O n d) v → own_R p e below s Q ck sk T' (mkF m (pc + 3) Ls St)) : own_R p e below s Q ck sk T (mkF m pc Ls (v :: .ref a :: St)) := by
  obtain ⟨T', h', X', e', W, st⟩ := putF X hx hZ hown w via eT F E L wi hty hn hf (g := mkF m pc Ls (v :: .ref a :: St)) rfl rfl hd
  exact own_lift st (k T' h' X' e' W)
theorem own_putFN (X : Stand p l e R s m args below meth c T locs cells slots) (hx : p.tables.exec = Jvm.exec) (hZ : Z.Warmed39 s.vm) {own R0 O n d C : String} {index kk : Nat} {ty : FieldType} (hown : s.vm.findClass own = some m.cls) (w : (Cond.fieldLink own index R0 n d).before a0 Z = true) (via : Via Z R0 O n d)
    (eT : T.heap = h) {a : Addr} {v v' old : Value} (F : Fld Z h a O n d old) (E : Exa Z h a C) (L : (Cond.lays C O n d).before a0 Z = true ∨ ((Cond.laysFinal C O n d).before a0 Z = true ∧ own = O ∧ meth.name = "<init>")) (wi : (Cond.instantiable C kk).before a0 Z = true)
    (hty : parseFieldDescriptor d = some ty) (hn : narrow ty v = v') (hf : fits ty v' = true) {pc : Nat} {Ls : Array Slot} {St : List Value} (hd : decode c.code pc = .ok (.putfield index, 3))
    (k : ∀ T' h', Stand p l e R s m args below meth c T' (locs ++ [⟨a, Jvm.RoadKit.slotOf Z O n d⟩]) cells slots → T'.heap = h' → Wr h h' a (Jvm.RoadKit.slotOf Z O n d) v' → own_R p e below s Q ck sk T' (mkF m (pc + 3) Ls St)) : own_R p e below s Q ck sk T (mkF m pc Ls (v :: .ref a :: St)) := by
  obtain ⟨T', h', X', e', W, st⟩ := putFN X hx hZ hown w via eT F E L wi hty hn hf (g := mkF m pc Ls (v :: .ref a :: St)) rfl rfl hd
  exact own_lift st (k T' h' X' e' W)
theorem own_new (X : Stand p l e R s m args below meth c T locs cells slots) (hx : p.tables.exec = Jvm.exec) (hZ : Z.Warmed39 s.vm) {own C : String} {index n : Nat} (hown : s.vm.findClass own = some m.cls) (w : (Cond.classLink own index C).before a0 Z = true) (wi : (Cond.instantiable C n).before a0 Z = true) (wz : (Cond.initialized C).before a0 Z = true) (eT : T.heap = h) {pc : Nat} {Ls : Array Slot} {St : List Value} (hd : decode c.code pc = .ok (.new index, 3)) (hc : cells + 1 ≤ R.cells) (hl : slots + n ≤ R.slots)
    (k : ∀ T' h' b, b = h.size → Stand p l e R s m args below meth c T' locs (cells + 1) (slots + n) → T'.heap = h' → Ext h h' → Exa Z h' b C → (∀ {O nm d : String} {ty : FieldType}, Laid Z a0 C O nm d → parseFieldDescriptor d = some ty → Fld Z h' b O nm d (defaultValue ty)) → own_R p e below s Q ck sk T' (mkF m (pc + 3) Ls (.ref b :: St))) : own_R p e below s Q ck sk T (mkF m pc Ls St) := by
  obtain ⟨T', h', X', e', E, A, D, -, st⟩ := newO X hx hZ hown w wi wz eT (g := mkF m pc Ls St) rfl hd hc hl
  exact own_lift st (k T' h' _ rfl X' e' E A D)
theorem own_newA (X : Stand p l e R s m args below meth c T locs cells slots) (hx : p.tables.exec = Jvm.exec) (hZ : Z.Warmed39 s.vm) {aty : ArrayType} (w : (Cond.arrayClass (newarray.typeOf aty)).before a0 Z = true) (eT : T.heap = h) {pc : Nat} {Ls : Array Slot} {St : List Value} {n : Int32} (hd : decode c.code pc = .ok (.newarray aty, 2)) (hn : ¬ n < 0) (cap : Nat) (hcap : n.toNatClampNeg ≤ cap) (hb : cap * 8 ≤ 536870912) (hc : cells + 1 ≤ R.cells) (hl : slots + cap ≤ R.slots) {ad : String} (had : "[" ++ (newarray.typeOf aty).toString = ad) (N : Nat)
    (k : ∀ T' h' b kA, b = h.size → Stand p l e R s m args below meth c T' locs (cells + 1) (slots + cap) → T'.heap = h' → Ext h h' → Arv Z h' b kA (newarray.typeOf aty) n (List.replicate N (defaultValue (newarray.typeOf aty))) (defaultValue (newarray.typeOf aty)) → Exa Z h' b ad → own_R p e below s Q ck sk T' (mkF m (pc + 2) Ls (.ref b :: St))) : own_R p e below s Q ck sk T (mkF m pc Ls (.int n :: St)) := by
  obtain ⟨T', h', kA, X', e', E, A, EA, st⟩ := newPE X hx hZ w eT (g := mkF m pc Ls (.int n :: St)) rfl hd rfl hn hcap hb hc hl had
  have V := (Arv.new A hn).pad (vs' := List.replicate N (defaultValue (newarray.typeOf aty))) (fun i => pad_rep [] (defaultValue (newarray.typeOf aty)) N i)
  exact own_lift st (k T' h' _ kA rfl X' e' E V EA)
theorem own_len (X : Stand p l e R s m args below meth c T locs cells slots) (hx : p.tables.exec = Jvm.exec) (hZ : Z.Warmed39 s.vm) (eT : T.heap = h) {a : Addr} {kA : ClassId} {ty : FieldType} {n : Int32} {vs : List Value} {dv : Value} (V : Arv Z h a kA ty n vs dv) {pc : Nat} {Ls : Array Slot} {St : List Value} (hd : decode c.code pc = .ok (.arraylength, 1))
    (k : own_R p e below s Q ck sk T (mkF m (pc + 1) Ls (.int n :: St))) : own_R p e below s Q ck sk T (mkF m pc Ls (.ref a :: St)) := by
  obtain ⟨cl, A, -, S, N, -⟩ := V
  rw [← len_of S N] at k
  exact own_lift (fun _ q => X.arraylength hx (by rw [eT]; exact A.1) (State.isArrayOf_alike hZ.alike A.2.1) (g := mkF m pc Ls (.ref a :: St)) rfl rfl hd _ q) k
theorem own_baload (X : Stand p l e R s m args below meth c T locs cells slots) (hx : p.tables.exec = Jvm.exec) (hZ : Z.Warmed39 s.vm) (eT : T.heap = h) {a : Addr} {kA : ClassId} {n : Int32} {vs : List Value} {dv v : Value} (V : Arv Z h a kA .byte n vs dv) {pc : Nat} {Ls : Array Slot} {St : List Value} {j : Int32} (hj : ¬ j < 0 ∧ j < n) (hv : vs.getD j.toNatClampNeg dv = v) (hd : decode c.code pc = .ok (.baload, 1))
    (k : own_R p e below s Q ck sk T (mkF m (pc + 1) Ls (v :: St))) : own_R p e below s Q ck sk T (mkF m pc Ls (.int j :: .ref a :: St)) := by
  obtain ⟨cl, A, -, S, N, H, -⟩ := V
  have hin := inb_of S hj
  exact own_lift (fun _ q => X.baloadBytes hx (by rw [eT]; exact A.1) (State.isArrayOf_alike hZ.alike A.2.1) A.2.2 hin (H.at hin hv) (g := mkF m pc Ls (.int j :: .ref a :: St)) rfl rfl hd _ q) k
theorem own_zaload (X : Stand p l e R s m args below meth c T locs cells slots) (hx : p.tables.exec = Jvm.exec) (hZ : Z.Warmed39 s.vm) (eT : T.heap = h) {a : Addr} {kA : ClassId} {n : Int32} {vs : List Value} {dv v : Value} (V : Arv Z h a kA .boolean n vs dv) {pc : Nat} {Ls : Array Slot} {St : List Value} {j : Int32} (hj : ¬ j < 0 ∧ j < n) (hv : vs.getD j.toNatClampNeg dv = v) (hd : decode c.code pc = .ok (.baload, 1))
    (k : own_R p e below s Q ck sk T (mkF m (pc + 1) Ls (v :: St))) : own_R p e below s Q ck sk T (mkF m pc Ls (.int j :: .ref a :: St)) := by
  obtain ⟨cl, A, -, S, N, H, -⟩ := V
  have hin := inb_of S hj
  exact own_lift (fun _ q => X.baloadBooleans hx (by rw [eT]; exact A.1) (State.isArrayOf_alike hZ.alike A.2.1) A.2.2 hin (H.at hin hv) (g := mkF m pc Ls (.int j :: .ref a :: St)) rfl rfl hd _ q) k
theorem own_caload (X : Stand p l e R s m args below meth c T locs cells slots) (hx : p.tables.exec = Jvm.exec) (hZ : Z.Warmed39 s.vm) (eT : T.heap = h) {a : Addr} {kA : ClassId} {n : Int32} {vs : List Value} {dv v : Value} (V : Arv Z h a kA .char n vs dv) {pc : Nat} {Ls : Array Slot} {St : List Value} {j : Int32} (hj : ¬ j < 0 ∧ j < n) (hv : vs.getD j.toNatClampNeg dv = v) (hd : decode c.code pc = .ok (.caload, 1))
    (k : own_R p e below s Q ck sk T (mkF m (pc + 1) Ls (v :: St))) : own_R p e below s Q ck sk T (mkF m pc Ls (.int j :: .ref a :: St)) := by
  obtain ⟨cl, A, -, S, N, H, -⟩ := V
  have hin := inb_of S hj
  exact own_lift (fun _ q => X.caload hx (by rw [eT]; exact A.1) (State.isArrayOf_alike hZ.alike A.2.1) A.2.2 hin (H.at hin hv) (g := mkF m pc Ls (.int j :: .ref a :: St)) rfl rfl hd _ q) k
theorem own_iaload (X : Stand p l e R s m args below meth c T locs cells slots) (hx : p.tables.exec = Jvm.exec) (hZ : Z.Warmed39 s.vm) (eT : T.heap = h) {a : Addr} {kA : ClassId} {n : Int32} {vs : List Value} {dv v : Value} (V : Arv Z h a kA .int n vs dv) {pc : Nat} {Ls : Array Slot} {St : List Value} {j : Int32} (hj : ¬ j < 0 ∧ j < n) (hv : vs.getD j.toNatClampNeg dv = v) (hd : decode c.code pc = .ok (.iaload, 1))
    (k : own_R p e below s Q ck sk T (mkF m (pc + 1) Ls (v :: St))) : own_R p e below s Q ck sk T (mkF m pc Ls (.int j :: .ref a :: St)) := by
  obtain ⟨cl, A, -, S, N, H, -⟩ := V
  have hin := inb_of S hj
  exact own_lift (fun _ q => X.iaload hx (by rw [eT]; exact A.1) (State.isArrayOf_alike hZ.alike A.2.1) A.2.2 hin (H.at hin hv) (g := mkF m pc Ls (.int j :: .ref a :: St)) rfl rfl hd _ q) k
theorem own_bastore (X : Stand p l e R s m args below meth c T locs cells slots) (hx : p.tables.exec = Jvm.exec) (hZ : Z.Warmed39 s.vm) (eT : T.heap = h) {a : Addr} {kA : ClassId} {n : Int32} {vs : List Value} {dv : Value} (V : Arv Z h a kA .byte n vs dv) {pc : Nat} {Ls : Array Slot} {St : List Value} {j x x' : Int32} (hn : nar .byte x = x') (hj : ¬ j < 0 ∧ j < n) (i : Nat) (hi : j.toNatClampNeg = i) (hl : i < vs.length) (hd : decode c.code pc = .ok (.bastore, 1))
    (k : ∀ T' h', Stand p l e R s m args below meth c T' (locs ++ [⟨a, j.toNatClampNeg⟩]) cells slots → T'.heap = h' → Wr h h' a j.toNatClampNeg (.int x') → Arv Z h' a kA .byte n (vs.set i (.int x')) dv → own_R p e below s Q ck sk T' (mkF m (pc + 1) Ls St)) : own_R p e below s Q ck sk T (mkF m pc Ls (.int x :: .int j :: .ref a :: St)) := by
  obtain ⟨cl, A, q1, S, N, H, G⟩ := V
  have hin := inb_of S hj
  obtain ⟨T', h', X', e', W, st⟩ := stB X hx hZ eT A hin (g := mkF m pc Ls (.int x :: .int j :: .ref a :: St)) rfl rfl hd
  subst hn
  exact own_lift st (k T' h' X' e' W (Arv.set A q1 S N H G (fits_nar_byte _) W i hi hl))
theorem own_zastore (X : Stand p l e R s m args below meth c T locs cells slots) (hx : p.tables.exec = Jvm.exec) (hZ : Z.Warmed39 s.vm) (eT : T.heap = h) {a : Addr} {kA : ClassId} {n : Int32} {vs : List Value} {dv : Value} (V : Arv Z h a kA .boolean n vs dv) {pc : Nat} {Ls : Array Slot} {St : List Value} {j x x' : Int32} (hn : nar .boolean x = x') (hj : ¬ j < 0 ∧ j < n) (i : Nat) (hi : j.toNatClampNeg = i) (hl : i < vs.length) (hd : decode c.code pc = .ok (.bastore, 1))
    (k : ∀ T' h', Stand p l e R s m args below meth c T' (locs ++ [⟨a, j.toNatClampNeg⟩]) cells slots → T'.heap = h' → Wr h h' a j.toNatClampNeg (.int x') → Arv Z h' a kA .boolean n (vs.set i (.int x')) dv → own_R p e below s Q ck sk T' (mkF m (pc + 1) Ls St)) : own_R p e below s Q ck sk T (mkF m pc Ls (.int x :: .int j :: .ref a :: St)) := by
  obtain ⟨cl, A, q1, S, N, H, G⟩ := V
  have hin := inb_of S hj
  obtain ⟨T', h', X', e', W, st⟩ := stZ X hx hZ eT A hin (g := mkF m pc Ls (.int x :: .int j :: .ref a :: St)) rfl rfl hd
  subst hn
  exact own_lift st (k T' h' X' e' W (Arv.set A q1 S N H G (fits_nar_bool _) W i hi hl))
theorem own_castore (X : Stand p l e R s m args below meth c T locs cells slots) (hx : p.tables.exec = Jvm.exec) (hZ : Z.Warmed39 s.vm) (eT : T.heap = h) {a : Addr} {kA : ClassId} {n : Int32} {vs : List Value} {dv : Value} (V : Arv Z h a kA .char n vs dv) {pc : Nat} {Ls : Array Slot} {St : List Value} {j x x' : Int32} (hn : nar .char x = x') (hj : ¬ j < 0 ∧ j < n) (i : Nat) (hi : j.toNatClampNeg = i) (hl : i < vs.length) (hd : decode c.code pc = .ok (.castore, 1))
    (k : ∀ T' h', Stand p l e R s m args below meth c T' (locs ++ [⟨a, j.toNatClampNeg⟩]) cells slots → T'.heap = h' → Wr h h' a j.toNatClampNeg (.int x') → Arv Z h' a kA .char n (vs.set i (.int x')) dv → own_R p e below s Q ck sk T' (mkF m (pc + 1) Ls St)) : own_R p e below s Q ck sk T (mkF m pc Ls (.int x :: .int j :: .ref a :: St)) := by
  obtain ⟨cl, A, q1, S, N, H, G⟩ := V
  have hin := inb_of S hj
  obtain ⟨T', h', X', e', W, st⟩ := stC X hx hZ eT A hin (g := mkF m pc Ls (.int x :: .int j :: .ref a :: St)) rfl rfl hd
  subst hn
  exact own_lift st (k T' h' X' e' W (Arv.set A q1 S N H G (fits_nar_char _) W i hi hl))
theorem own_iastore (X : Stand p l e R s m args below meth c T locs cells slots) (hx : p.tables.exec = Jvm.exec) (hZ : Z.Warmed39 s.vm) (eT : T.heap = h) {a : Addr} {kA : ClassId} {n : Int32} {vs : List Value} {dv : Value} (V : Arv Z h a kA .int n vs dv) {pc : Nat} {Ls : Array Slot} {St : List Value} {j x x' : Int32} (hn : x = x') (hj : ¬ j < 0 ∧ j < n) (i : Nat) (hi : j.toNatClampNeg = i) (hl : i < vs.length) (hd : decode c.code pc = .ok (.iastore, 1))
    (k : ∀ T' h', Stand p l e R s m args below meth c T' (locs ++ [⟨a, j.toNatClampNeg⟩]) cells slots → T'.heap = h' → Wr h h' a j.toNatClampNeg (.int x') → Arv Z h' a kA .int n (vs.set i (.int x')) dv → own_R p e below s Q ck sk T' (mkF m (pc + 1) Ls St)) : own_R p e below s Q ck sk T (mkF m pc Ls (.int x :: .int j :: .ref a :: St)) := by
  obtain ⟨cl, A, q1, S, N, H, G⟩ := V
  have hin := inb_of S hj
  obtain ⟨T', h', X', e', W, st⟩ := stI X hx hZ eT A hin (g := mkF m pc Ls (.int x :: .int j :: .ref a :: St)) rfl rfl hd
  subst hn
  exact own_lift st (k T' h' X' e' W (Arv.set A q1 S N H G rfl W i hi hl))
theorem own_initO (X : Stand p l e R s m args below meth c T locs cells slots) (hx : p.tables.exec = Jvm.exec) (hZ : Z.Warmed39 s.vm) {own : String} {idx : Nat} (hown : s.vm.findClass own = some m.cls) (w1 : (Cond.methodLink own idx Lib.objectInit).before a0 Z = true) (w2 : (Cond.instanceMethod Lib.objectInit).before a0 Z = true)
    (w3 : (Cond.code Lib.objectInit ⟨#[0xb1]⟩ 1 none).before a0 Z = true) (eT : T.heap = h) {pc : Nat} {Ls : Array Slot} {St : List Value} {a : Addr} (hsize : Ls.size = c.maxLocals) (hd : decode c.code pc = .ok (.invokespecial idx, 3)) (hf : 1 ≤ R.frames) {W : Nat} (hW : (St.map fun v => v.category).sum ≤ W) (hl : W + 12 ≤ R.locals)
    (k : ∀ T', Stand p l e R s m args below meth c T' locs cells slots → T'.heap = h → own_R p e below s Q ck sk T' (mkF m (pc + 3) Ls St)) : own_R p e below s Q ck sk T (mkF m pc Ls (.ref a :: St)) := by
  obtain ⟨T', X', e', st⟩ := initO X hx hZ hown w1 w2 w3 eT (g := mkF m pc Ls (.ref a :: St)) rfl hsize rfl hd hf (W := W) (by show 2 * 0 + _ ≤ _; omega) hl
  exact own_lift st (k T' X' e')
/-! calls by contract -/
theorem own_callS (X : Stand p l e R s m args below meth c T locs cells slots) (hx : p.tables.exec = Jvm.exec) (hZ : Z.Warmed39 s.vm) {own : String} {index : Nat} {y : MethodName} {bytes : ByteArray} {maxL : Nat} {ret : Option FieldType} {rm : Room} {as' : Array Value} {Q' : Option Value → Heap → List Loc → Prop}
    (hown : s.vm.findClass own = some m.cls) (w1 : (Cond.methodLink own index y).before a0 Z = true) (w2 : (Cond.static y).before a0 Z = true) (w3 : (Cond.initialized y.cls).before a0 Z = true) (w4 : (Cond.code y bytes maxL ret).before a0 Z = true) (hy : y.cls ≠ "java/lang/invoke/MethodHandle" ∧ y.cls ≠ "java/lang/invoke/VarHandle")
    (hM : MetFree l y (head1 [Cond.code y bytes maxL ret] rm) (fun a U => a = as' ∧ Z.Warmed39 U.vm ∧ U.heap = h) (fun _ _ _ _ _ => True) (fun _ U o U' => ∃ v L, o = .returned v ∧ Q' v U'.heap L ∧ FrameEnd U o U' L rm.cells rm.slots))
    (W : Nat) (hf : rm.frames + 1 ≤ R.frames) (hl : W + (maxL + 11) + rm.locals ≤ R.locals) (eT : T.heap = h) {pc : Nat} {Ls : Array Slot} {St : List Value} (hsize : Ls.size = c.maxLocals) (argsL rest : List Value) (has : as' = argsL.toArray) (hlen : ∀ sig, parseMethodDescriptor y.desc = some sig → argsL.length = sig.parameters.length) (hst : St = argsL.reverse ++ rest) (hW : (rest.map fun v => v.category).sum ≤ W)
    (hd : decode c.code pc = .ok (.invokestatic index, 3)) (hc : cells + rm.cells ≤ R.cells) (hs : slots + rm.slots ≤ R.slots)
    (k : ∀ T' v L, Stand p l e R s m args below meth c T' (locs ++ L) (cells + rm.cells) (slots + rm.slots) → Q' v T'.heap L → own_R p e below s Q ck sk T' (mkF m (pc + 3) Ls (v.toList ++ rest))) : own_R p e below s Q ck sk T (mkF m pc Ls St) := by
  obtain ⟨v, _, ⟨T', L', k', n'⟩, -, X', ⟨Lc, hQ, l', y', z'⟩, st⟩ := Jvm.LawKit.callS X hx (y := y) hown (mvT hZ w1) (mvT hZ w2) (mvT hZ w3) (mvT hZ w4) hy (backOf (W := W) hM hZ w4 w3 hf hl) (g := mkF m pc Ls St) rfl hsize (argsL := argsL) (rest := rest) hlen hst (by show 2 * 0 + _ ≤ _; omega) hd (fun _ _ => ⟨has.symm, eT, hc, hs⟩)
  dsimp only [Pt.U, Pt.locs, Pt.cells, Pt.slots] at X' l' y' z' st hQ
  subst l' y' z'
  exact own_lift st (k T' v Lc X' hQ)
theorem own_callI (X : Stand p l e R s m args below meth c T locs cells slots) (hx : p.tables.exec = Jvm.exec) (hZ : Z.Warmed39 s.vm) {own : String} {index : Nat} {y : MethodName} {bytes : ByteArray} {maxL : Nat} {rm : Room} {as' : Array Value} {Q' : Option Value → Heap → List Loc → Prop} (hy1 : y.name = "<init>")
    (hown : s.vm.findClass own = some m.cls) (w1 : (Cond.methodLink own index y).before a0 Z = true) (w2 : (Cond.instanceMethod y).before a0 Z = true) (w3 : (Cond.initialized y.cls).before a0 Z = true) (w4 : (Cond.code y bytes maxL none).before a0 Z = true) (hy : y.cls ≠ "java/lang/invoke/MethodHandle" ∧ y.cls ≠ "java/lang/invoke/VarHandle")
    (hM : MetFree l y (head1 [Cond.code y bytes maxL none] rm) (fun a U => a = as' ∧ Z.Warmed39 U.vm ∧ U.heap = h) (fun _ _ _ _ _ => True) (fun _ U o U' => ∃ v L, o = .returned v ∧ Q' v U'.heap L ∧ FrameEnd U o U' L rm.cells rm.slots))
    (W : Nat) (hf : rm.frames + 1 ≤ R.frames) (hl : W + (maxL + 11) + rm.locals ≤ R.locals) (eT : T.heap = h) {pc : Nat} {Ls : Array Slot} {St : List Value} (hsize : Ls.size = c.maxLocals) (a : Addr) (argsL rest : List Value) (has : as' = (.ref a :: argsL).toArray) (hlen : ∀ sig, parseMethodDescriptor y.desc = some sig → argsL.length = sig.parameters.length) (hst : St = argsL.reverse ++ .ref a :: rest) (hW : (rest.map fun v => v.category).sum ≤ W)
    (hd : decode c.code pc = .ok (.invokespecial index, 3)) (hc : cells + rm.cells ≤ R.cells) (hs : slots + rm.slots ≤ R.slots)
    (k : ∀ T' v L, Stand p l e R s m args below meth c T' (locs ++ L) (cells + rm.cells) (slots + rm.slots) → Q' v T'.heap L → own_R p e below s Q ck sk T' (mkF m (pc + 3) Ls (v.toList ++ rest))) : own_R p e below s Q ck sk T (mkF m pc Ls St) := by
  obtain ⟨v, _, ⟨T', L', k', n'⟩, -, X', ⟨Lc, hQ, l', y', z'⟩, st⟩ := X.specialBack hx (y := y) hy1 hown (mvT hZ w1) (mvT hZ w2) (mvT hZ w4) hy (backOf (W := W) hM hZ w4 w3 hf hl) (g := mkF m pc Ls St) rfl hsize (Steps.refl _) (a := a) (argsL := argsL) (rest := rest) hlen hst (by show 2 * 0 + _ ≤ _; omega) hd (fun _ _ => ⟨has.symm, eT, hc, hs⟩)
  dsimp only [Pt.U, Pt.locs, Pt.cells, Pt.slots] at X' l' y' z' st hQ
  subst l' y' z'
  exact own_lift (fun _ q => st.trans q) (k T' v Lc X' hQ)
theorem own_callV (X : Stand p l e R s m args below meth c T locs cells slots) (hx : p.tables.exec = Jvm.exec) (hZ : Z.Warmed39 s.vm) {own C : String} {index : Nat} {y z : MethodName} {bytes : ByteArray} {maxL : Nat} {ret : Option FieldType} {rm : Room} {as' : Array Value} {Q' : Option Value → Heap → List Loc → Prop}
    (hown : s.vm.findClass own = some m.cls) (w1 : (Cond.methodLink own index y).before a0 Z = true) (w2 : (Cond.declares y).before a0 Z = true) (nf : NotFace s y) (w5 : (Cond.selects C y z).before a0 Z = true) (w6 : (Cond.instanceMethod z).before a0 Z = true) (w3 : (Cond.initialized z.cls).before a0 Z = true) (w4 : (Cond.code z bytes maxL ret).before a0 Z = true) (hy : y.cls ≠ "java/lang/invoke/MethodHandle" ∧ y.cls ≠ "java/lang/invoke/VarHandle")
    (hM : MetFree l z (head1 [Cond.code z bytes maxL ret] rm) (fun a U => a = as' ∧ Z.Warmed39 U.vm ∧ U.heap = h) (fun _ _ _ _ _ => True) (fun _ U o U' => ∃ v L, o = .returned v ∧ Q' v U'.heap L ∧ FrameEnd U o U' L rm.cells rm.slots))
    (W : Nat) (hf : rm.frames + 1 ≤ R.frames) (hl : W + (maxL + 11) + rm.locals ≤ R.locals) (eT : T.heap = h) {pc : Nat} {Ls : Array Slot} {St : List Value} (hsize : Ls.size = c.maxLocals) (a : Addr) (E : Exa Z h a C) (argsL rest : List Value) (has : as' = (.ref a :: argsL).toArray) (hlen : ∀ sig, parseMethodDescriptor y.desc = some sig → argsL.length = sig.parameters.length) (hst : St = argsL.reverse ++ .ref a :: rest) (hW : (rest.map fun v => v.category).sum ≤ W)
    (hd : decode c.code pc = .ok (.invokevirtual index, 3)) (hc : cells + rm.cells ≤ R.cells) (hs : slots + rm.slots ≤ R.slots)
    (k : ∀ T' v L, Stand p l e R s m args below meth c T' (locs ++ L) (cells + rm.cells) (slots + rm.slots) → Q' v T'.heap L → own_R p e below s Q ck sk T' (mkF m (pc + 3) Ls (v.toList ++ rest))) : own_R p e below s Q ck sk T (mkF m pc Ls St) := by
  obtain ⟨cq, kq, qa, qb, qc⟩ := isOf hZ eT E
  obtain ⟨v, _, ⟨T', L', k', n'⟩, -, X', ⟨Lc, hQ, l', y', z'⟩, st⟩ := X.virtualBack hx (y := y) (z := z) hown (mvT hZ w1) (mvT hZ w2) nf (mvT hZ w5) (mvT hZ w6) hy (backOf (W := W) hM hZ w4 w3 hf hl) qa qc (g := mkF m pc Ls St) rfl hsize (Steps.refl _) (argsL := argsL) (rest := rest) hlen hst (by show 2 * 0 + _ ≤ _; omega) hd (fun _ _ => ⟨has.symm, eT, hc, hs⟩)
  dsimp only [Pt.U, Pt.locs, Pt.cells, Pt.slots] at X' l' y' z' st hQ
  subst l' y' z'
  exact own_lift (fun _ q => st.trans q) (k T' v Lc X' hQ)
end OwnKit

section OwnKitS
variable {p : Program} {l : Launch} {e : Env} {R : Room} {s s0 : State} {vm0 : Vm} {k0 : Nat} {m : MethodId} {args : Array Value} {below : List Frame} {meth : Method} {c : Code} {T : State} {locs : List Loc} {cells slots : Nat} {Z : State} {a0 : Array Value} {h : Heap} {Q : Option Value → Heap → List Loc → Prop} {ck sk : Nat}
/-- as own_R; the run may have noted Strings since the start s0 -/
def ows_R (p : Program) (e : Env) (below : List Frame) (s0 : State) (Q : Option Value → Heap → List Loc → Prop) (ck sk : Nat) (T : State) (g : JFrame) : Prop :=
  ∃ (t : State) (o : Outcome), Steps p.tables e below (T.setTop g) t ∧ t.status = .running ∧ Ended t below o ∧ ∃ v L, o = .returned v ∧ Q v t.heap L ∧ ReturnedEndW s0 o t L ck sk
theorem ows_lift {T' : State} {g g' : JFrame} (h : ∀ target, Steps p.tables e below (T'.setTop g') target → Steps p.tables e below (T.setTop g) target) (k : ows_R p e below s0 Q ck sk T' g') : ows_R p e below s0 Q ck sk T g := by
  obtain ⟨t, o, h1, h2⟩ := k
  exact ⟨t, o, h _ h1, h2⟩
theorem ows_cast {g g' : JFrame} (q : g = g') (k : ows_R p e below s0 Q ck sk T g') : ows_R p e below s0 Q ck sk T g := q ▸ k
theorem ows_iadd (X : Stand p l e R s m args below meth c T locs cells slots) (hx : p.tables.exec = Jvm.exec) {pc : Nat} {Ls : Array Slot} {St : List Value} {x y : Int32} (hd : decode c.code pc = .ok (.iadd, 1)) (k : ows_R p e below s0 Q ck sk T (mkF m (pc + 1) Ls (.int (x + y) :: St))) : ows_R p e below s0 Q ck sk T (mkF m pc Ls (.int y :: .int x :: St)) :=
  ows_lift (fun _ q => XS.iadd X.here hx rfl hd rfl q) k
theorem ows_isub (X : Stand p l e R s m args below meth c T locs cells slots) (hx : p.tables.exec = Jvm.exec) {pc : Nat} {Ls : Array Slot} {St : List Value} {x y : Int32} (hd : decode c.code pc = .ok (.isub, 1)) (k : ows_R p e below s0 Q ck sk T (mkF m (pc + 1) Ls (.int (x - y) :: St))) : ows_R p e below s0 Q ck sk T (mkF m pc Ls (.int y :: .int x :: St)) :=
  ows_lift (fun _ q => XS.isub X.here hx rfl hd rfl q) k
theorem ows_imul (X : Stand p l e R s m args below meth c T locs cells slots) (hx : p.tables.exec = Jvm.exec) {pc : Nat} {Ls : Array Slot} {St : List Value} {x y : Int32} (hd : decode c.code pc = .ok (.imul, 1)) (k : ows_R p e below s0 Q ck sk T (mkF m (pc + 1) Ls (.int (x * y) :: St))) : ows_R p e below s0 Q ck sk T (mkF m pc Ls (.int y :: .int x :: St)) :=
  ows_lift (fun _ q => XS.imul X.here hx rfl hd rfl q) k
theorem ows_iand (X : Stand p l e R s m args below meth c T locs cells slots) (hx : p.tables.exec = Jvm.exec) {pc : Nat} {Ls : Array Slot} {St : List Value} {x y : Int32} (hd : decode c.code pc = .ok (.iand, 1)) (k : ows_R p e below s0 Q ck sk T (mkF m (pc + 1) Ls (.int (x &&& y) :: St))) : ows_R p e below s0 Q ck sk T (mkF m pc Ls (.int y :: .int x :: St)) :=
  ows_lift (fun _ q => XS.iand X.here hx rfl hd rfl q) k
theorem ows_ior (X : Stand p l e R s m args below meth c T locs cells slots) (hx : p.tables.exec = Jvm.exec) {pc : Nat} {Ls : Array Slot} {St : List Value} {x y : Int32} (hd : decode c.code pc = .ok (.ior, 1)) (k : ows_R p e below s0 Q ck sk T (mkF m (pc + 1) Ls (.int (x ||| y) :: St))) : ows_R p e below s0 Q ck sk T (mkF m pc Ls (.int y :: .int x :: St)) :=
  ows_lift (fun _ q => XS.ior X.here hx rfl hd rfl q) k
theorem ows_ixor (X : Stand p l e R s m args below meth c T locs cells slots) (hx : p.tables.exec = Jvm.exec) {pc : Nat} {Ls : Array Slot} {St : List Value} {x y : Int32} (hd : decode c.code pc = .ok (.ixor, 1)) (k : ows_R p e below s0 Q ck sk T (mkF m (pc + 1) Ls (.int (x ^^^ y) :: St))) : ows_R p e below s0 Q ck sk T (mkF m pc Ls (.int y :: .int x :: St)) :=
  ows_lift (fun _ q => XS.ixor X.here hx rfl hd rfl q) k
theorem ows_ishl (X : Stand p l e R s m args below meth c T locs cells slots) (hx : p.tables.exec = Jvm.exec) {pc : Nat} {Ls : Array Slot} {St : List Value} {x y : Int32} (hd : decode c.code pc = .ok (.ishl, 1)) (k : ows_R p e below s0 Q ck sk T (mkF m (pc + 1) Ls (.int (x <<< (y &&& 31)) :: St))) : ows_R p e below s0 Q ck sk T (mkF m pc Ls (.int y :: .int x :: St)) :=
  ows_lift (fun _ q => XS.ishl X.here hx rfl hd rfl q) k
theorem ows_ishr (X : Stand p l e R s m args below meth c T locs cells slots) (hx : p.tables.exec = Jvm.exec) {pc : Nat} {Ls : Array Slot} {St : List Value} {x y : Int32} (hd : decode c.code pc = .ok (.ishr, 1)) (k : ows_R p e below s0 Q ck sk T (mkF m (pc + 1) Ls (.int (x >>> (y &&& 31)) :: St))) : ows_R p e below s0 Q ck sk T (mkF m pc Ls (.int y :: .int x :: St)) :=
  ows_lift (fun _ q => XS.ishr X.here hx rfl hd rfl q) k
theorem ows_iushr (X : Stand p l e R s m args below meth c T locs cells slots) (hx : p.tables.exec = Jvm.exec) {pc : Nat} {Ls : Array Slot} {St : List Value} {x y : Int32} (hd : decode c.code pc = .ok (.iushr, 1)) (k : ows_R p e below s0 Q ck sk T (mkF m (pc + 1) Ls (.int ((x.toUInt32 >>> (y &&& 31).toUInt32).toInt32) :: St))) : ows_R p e below s0 Q ck sk T (mkF m pc Ls (.int y :: .int x :: St)) :=
  ows_lift (fun _ q => XS.iushr X.here hx rfl hd rfl q) k
theorem ows_ladd (X : Stand p l e R s m args below meth c T locs cells slots) (hx : p.tables.exec = Jvm.exec) {pc : Nat} {Ls : Array Slot} {St : List Value} {x y : Int64} (hd : decode c.code pc = .ok (.ladd, 1)) (k : ows_R p e below s0 Q ck sk T (mkF m (pc + 1) Ls (.long (x + y) :: St))) : ows_R p e below s0 Q ck sk T (mkF m pc Ls (.long y :: .long x :: St)) :=
  ows_lift (fun _ q => XS.ladd X.here hx rfl hd rfl q) k
theorem ows_lsub (X : Stand p l e R s m args below meth c T locs cells slots) (hx : p.tables.exec = Jvm.exec) {pc : Nat} {Ls : Array Slot} {St : List Value} {x y : Int64} (hd : decode c.code pc = .ok (.lsub, 1)) (k : ows_R p e below s0 Q ck sk T (mkF m (pc + 1) Ls (.long (x - y) :: St))) : ows_R p e below s0 Q ck sk T (mkF m pc Ls (.long y :: .long x :: St)) :=
  ows_lift (fun _ q => XS.lsub X.here hx rfl hd rfl q) k
theorem ows_lmul (X : Stand p l e R s m args below meth c T locs cells slots) (hx : p.tables.exec = Jvm.exec) {pc : Nat} {Ls : Array Slot} {St : List Value} {x y : Int64} (hd : decode c.code pc = .ok (.lmul, 1)) (k : ows_R p e below s0 Q ck sk T (mkF m (pc + 1) Ls (.long (x * y) :: St))) : ows_R p e below s0 Q ck sk T (mkF m pc Ls (.long y :: .long x :: St)) :=
  ows_lift (fun _ q => XS.lmul X.here hx rfl hd rfl q) k
theorem ows_land (X : Stand p l e R s m args below meth c T locs cells slots) (hx : p.tables.exec = Jvm.exec) {pc : Nat} {Ls : Array Slot} {St : List Value} {x y : Int64} (hd : decode c.code pc = .ok (.land, 1)) (k : ows_R p e below s0 Q ck sk T (mkF m (pc + 1) Ls (.long (x &&& y) :: St))) : ows_R p e below s0 Q ck sk T (mkF m pc Ls (.long y :: .long x :: St)) :=
  ows_lift (fun _ q => XS.land X.here hx rfl hd rfl q) k
theorem ows_lor (X : Stand p l e R s m args below meth c T locs cells slots) (hx : p.tables.exec = Jvm.exec) {pc : Nat} {Ls : Array Slot} {St : List Value} {x y : Int64} (hd : decode c.code pc = .ok (.lor, 1)) (k : ows_R p e below s0 Q ck sk T (mkF m (pc + 1) Ls (.long (x ||| y) :: St))) : ows_R p e below s0 Q ck sk T (mkF m pc Ls (.long y :: .long x :: St)) :=
  ows_lift (fun _ q => XS.lor X.here hx rfl hd rfl q) k
theorem ows_lshl (X : Stand p l e R s m args below meth c T locs cells slots) (hx : p.tables.exec = Jvm.exec) {pc : Nat} {Ls : Array Slot} {St : List Value} {x : Int64} {y : Int32} (hd : decode c.code pc = .ok (.lshl, 1)) (k : ows_R p e below s0 Q ck sk T (mkF m (pc + 1) Ls (.long (x <<< (y &&& 0x3f).toInt64) :: St))) : ows_R p e below s0 Q ck sk T (mkF m pc Ls (.int y :: .long x :: St)) :=
  ows_lift (fun _ q => XS.lshl X.here hx rfl hd rfl q) k
theorem ows_lshr (X : Stand p l e R s m args below meth c T locs cells slots) (hx : p.tables.exec = Jvm.exec) {pc : Nat} {Ls : Array Slot} {St : List Value} {x : Int64} {y : Int32} (hd : decode c.code pc = .ok (.lshr, 1)) (k : ows_R p e below s0 Q ck sk T (mkF m (pc + 1) Ls (.long (x >>> (y &&& 0x3f).toInt64) :: St))) : ows_R p e below s0 Q ck sk T (mkF m pc Ls (.int y :: .long x :: St)) :=
  ows_lift (fun _ q => XS.lshr X.here hx rfl hd rfl q) k
theorem ows_lushr (X : Stand p l e R s m args below meth c T locs cells slots) (hx : p.tables.exec = Jvm.exec) {pc : Nat} {Ls : Array Slot} {St : List Value} {x : Int64} {y : Int32} (hd : decode c.code pc = .ok (.lushr, 1)) (k : ows_R p e below s0 Q ck sk T (mkF m (pc + 1) Ls (.long ((x.toUInt64 >>> (y &&& 0x3f).toInt64.toUInt64).toInt64) :: St))) : ows_R p e below s0 Q ck sk T (mkF m pc Ls (.int y :: .long x :: St)) :=
  ows_lift (fun _ q => XS.lushr X.here hx rfl hd rfl q) k
theorem ows_i2b (X : Stand p l e R s m args below meth c T locs cells slots) (hx : p.tables.exec = Jvm.exec) {pc : Nat} {Ls : Array Slot} {St : List Value} {x : Int32} (hd : decode c.code pc = .ok (.i2b, 1)) (k : ows_R p e below s0 Q ck sk T (mkF m (pc + 1) Ls (.int x.toInt8.toInt32 :: St))) : ows_R p e below s0 Q ck sk T (mkF m pc Ls (.int x :: St)) :=
  ows_lift (fun _ q => XS.i2b X.here hx rfl hd rfl q) k
theorem ows_i2s (X : Stand p l e R s m args below meth c T locs cells slots) (hx : p.tables.exec = Jvm.exec) {pc : Nat} {Ls : Array Slot} {St : List Value} {x : Int32} (hd : decode c.code pc = .ok (.i2s, 1)) (k : ows_R p e below s0 Q ck sk T (mkF m (pc + 1) Ls (.int x.toInt16.toInt32 :: St))) : ows_R p e below s0 Q ck sk T (mkF m pc Ls (.int x :: St)) :=
  ows_lift (fun _ q => XS.i2s X.here hx rfl hd rfl q) k
theorem ows_i2c (X : Stand p l e R s m args below meth c T locs cells slots) (hx : p.tables.exec = Jvm.exec) {pc : Nat} {Ls : Array Slot} {St : List Value} {x : Int32} (hd : decode c.code pc = .ok (.i2c, 1)) (k : ows_R p e below s0 Q ck sk T (mkF m (pc + 1) Ls (.int x.toUInt32.toUInt16.toUInt32.toInt32 :: St))) : ows_R p e below s0 Q ck sk T (mkF m pc Ls (.int x :: St)) :=
  ows_lift (fun _ q => XS.i2c X.here hx rfl hd rfl q) k
theorem ows_i2l (X : Stand p l e R s m args below meth c T locs cells slots) (hx : p.tables.exec = Jvm.exec) {pc : Nat} {Ls : Array Slot} {St : List Value} {x : Int32} (hd : decode c.code pc = .ok (.i2l, 1)) (k : ows_R p e below s0 Q ck sk T (mkF m (pc + 1) Ls (.long x.toInt64 :: St))) : ows_R p e below s0 Q ck sk T (mkF m pc Ls (.int x :: St)) :=
  ows_lift (fun _ q => XS.i2l X.here hx rfl hd rfl q) k
theorem ows_l2i (X : Stand p l e R s m args below meth c T locs cells slots) (hx : p.tables.exec = Jvm.exec) {pc : Nat} {Ls : Array Slot} {St : List Value} {x : Int64} (hd : decode c.code pc = .ok (.l2i, 1)) (k : ows_R p e below s0 Q ck sk T (mkF m (pc + 1) Ls (.int x.toInt32 :: St))) : ows_R p e below s0 Q ck sk T (mkF m pc Ls (.long x :: St)) :=
  ows_lift (fun _ q => XS.l2i X.here hx rfl hd rfl q) k
theorem ows_ineg (X : Stand p l e R s m args below meth c T locs cells slots) (hx : p.tables.exec = Jvm.exec) {pc : Nat} {Ls : Array Slot} {St : List Value} {x : Int32} (hd : decode c.code pc = .ok (.ineg, 1)) (k : ows_R p e below s0 Q ck sk T (mkF m (pc + 1) Ls (.int (-x) :: St))) : ows_R p e below s0 Q ck sk T (mkF m pc Ls (.int x :: St)) :=
  ows_lift (fun _ q => XS.ineg X.here hx rfl hd rfl q) k
theorem ows_lneg (X : Stand p l e R s m args below meth c T locs cells slots) (hx : p.tables.exec = Jvm.exec) {pc : Nat} {Ls : Array Slot} {St : List Value} {x : Int64} (hd : decode c.code pc = .ok (.lneg, 1)) (k : ows_R p e below s0 Q ck sk T (mkF m (pc + 1) Ls (.long (-x) :: St))) : ows_R p e below s0 Q ck sk T (mkF m pc Ls (.long x :: St)) :=
  ows_lift (fun _ q => XS.lneg X.here hx rfl hd rfl q) k
theorem ows_iloadN (X : Stand p l e R s m args below meth c T locs cells slots) (hx : p.tables.exec = Jvm.exec) {pc : Nat} {Ls : Array Slot} {St : List Value} {i : Fin 4} {v : Int32} (hd : decode c.code pc = .ok (.iload_n i, 1)) (hl : Ls[i.val]? = some (.val (.int v))) (k : ows_R p e below s0 Q ck sk T (mkF m (pc + 1) Ls (.int v :: St))) : ows_R p e below s0 Q ck sk T (mkF m pc Ls St) :=
  ows_lift (fun _ q => XS.iloadN X.here hx rfl hd hl q) k
theorem ows_iload (X : Stand p l e R s m args below meth c T locs cells slots) (hx : p.tables.exec = Jvm.exec) {pc : Nat} {Ls : Array Slot} {St : List Value} {i : Nat} {v : Int32} (hd : decode c.code pc = .ok (.iload i, 2)) (hl : Ls[i]? = some (.val (.int v))) (k : ows_R p e below s0 Q ck sk T (mkF m (pc + 2) Ls (.int v :: St))) : ows_R p e below s0 Q ck sk T (mkF m pc Ls St) :=
  ows_lift (fun _ q => XS.iload X.here hx rfl hd hl q) k
theorem ows_istoreN (X : Stand p l e R s m args below meth c T locs cells slots) (hx : p.tables.exec = Jvm.exec) {pc : Nat} {Ls : Array Slot} {St : List Value} {i : Fin 4} {v : Int32} {l' : Array Slot} (hd : decode c.code pc = .ok (.istore_n i, 1)) (hl : storeLocals Ls i.val (.int v) = some l') (k : ows_R p e below s0 Q ck sk T (mkF m (pc + 1) l' St)) : ows_R p e below s0 Q ck sk T (mkF m pc Ls (.int v :: St)) :=
  ows_lift (fun _ q => XS.istoreN X.here hx rfl hd rfl hl q) k
theorem ows_istore (X : Stand p l e R s m args below meth c T locs cells slots) (hx : p.tables.exec = Jvm.exec) {pc : Nat} {Ls : Array Slot} {St : List Value} {i : Nat} {v : Int32} {l' : Array Slot} (hd : decode c.code pc = .ok (.istore i, 2)) (hl : storeLocals Ls i (.int v) = some l') (k : ows_R p e below s0 Q ck sk T (mkF m (pc + 2) l' St)) : ows_R p e below s0 Q ck sk T (mkF m pc Ls (.int v :: St)) :=
  ows_lift (fun _ q => XS.istore X.here hx rfl hd rfl hl q) k
theorem ows_lloadN (X : Stand p l e R s m args below meth c T locs cells slots) (hx : p.tables.exec = Jvm.exec) {pc : Nat} {Ls : Array Slot} {St : List Value} {i : Fin 4} {v : Int64} (hd : decode c.code pc = .ok (.lload_n i, 1)) (hl : Ls[i.val]? = some (.val (.long v))) (k : ows_R p e below s0 Q ck sk T (mkF m (pc + 1) Ls (.long v :: St))) : ows_R p e below s0 Q ck sk T (mkF m pc Ls St) :=
  ows_lift (fun _ q => XS.lloadN X.here hx rfl hd hl q) k
theorem ows_lload (X : Stand p l e R s m args below meth c T locs cells slots) (hx : p.tables.exec = Jvm.exec) {pc : Nat} {Ls : Array Slot} {St : List Value} {i : Nat} {v : Int64} (hd : decode c.code pc = .ok (.lload i, 2)) (hl : Ls[i]? = some (.val (.long v))) (k : ows_R p e below s0 Q ck sk T (mkF m (pc + 2) Ls (.long v :: St))) : ows_R p e below s0 Q ck sk T (mkF m pc Ls St) :=
  ows_lift (fun _ q => XS.lload X.here hx rfl hd hl q) k
theorem ows_lstoreN (X : Stand p l e R s m args below meth c T locs cells slots) (hx : p.tables.exec = Jvm.exec) {pc : Nat} {Ls : Array Slot} {St : List Value} {i : Fin 4} {v : Int64} {l' : Array Slot} (hd : decode c.code pc = .ok (.lstore_n i, 1)) (hl : storeLocals Ls i.val (.long v) = some l') (k : ows_R p e below s0 Q ck sk T (mkF m (pc + 1) l' St)) : ows_R p e below s0 Q ck sk T (mkF m pc Ls (.long v :: St)) :=
  ows_lift (fun _ q => XS.lstoreN X.here hx rfl hd rfl hl q) k
theorem ows_lstore (X : Stand p l e R s m args below meth c T locs cells slots) (hx : p.tables.exec = Jvm.exec) {pc : Nat} {Ls : Array Slot} {St : List Value} {i : Nat} {v : Int64} {l' : Array Slot} (hd : decode c.code pc = .ok (.lstore i, 2)) (hl : storeLocals Ls i (.long v) = some l') (k : ows_R p e below s0 Q ck sk T (mkF m (pc + 2) l' St)) : ows_R p e below s0 Q ck sk T (mkF m pc Ls (.long v :: St)) :=
  ows_lift (fun _ q => XS.lstore X.here hx rfl hd rfl hl q) k
theorem ows_aloadN (X : Stand p l e R s m args below meth c T locs cells slots) (hx : p.tables.exec = Jvm.exec) {pc : Nat} {Ls : Array Slot} {St : List Value} {i : Fin 4} {v : Value} (hd : decode c.code pc = .ok (.aload_n i, 1)) (hl : Ls[i.val]? = some (.val v)) (hv : v.isRef = true) (k : ows_R p e below s0 Q ck sk T (mkF m (pc + 1) Ls (v :: St))) : ows_R p e below s0 Q ck sk T (mkF m pc Ls St) :=
  ows_lift (fun _ q => XS.aloadN X.here hx rfl hd hl hv q) k
theorem ows_aload (X : Stand p l e R s m args below meth c T locs cells slots) (hx : p.tables.exec = Jvm.exec) {pc : Nat} {Ls : Array Slot} {St : List Value} {i : Nat} {v : Value} (hd : decode c.code pc = .ok (.aload i, 2)) (hl : Ls[i]? = some (.val v)) (hv : v.isRef = true) (k : ows_R p e below s0 Q ck sk T (mkF m (pc + 2) Ls (v :: St))) : ows_R p e below s0 Q ck sk T (mkF m pc Ls St) :=
  ows_lift (fun _ q => XS.aload X.here hx rfl hd hl hv q) k
theorem ows_astoreN (X : Stand p l e R s m args below meth c T locs cells slots) (hx : p.tables.exec = Jvm.exec) {pc : Nat} {Ls : Array Slot} {St : List Value} {i : Fin 4} {v : Value} {l' : Array Slot} (hd : decode c.code pc = .ok (.astore_n i, 1)) (hv : v.isRef = true) (hl : storeLocals Ls i.val v = some l') (k : ows_R p e below s0 Q ck sk T (mkF m (pc + 1) l' St)) : ows_R p e below s0 Q ck sk T (mkF m pc Ls (v :: St)) :=
  ows_lift (fun _ q => XS.astoreN X.here hx rfl hd rfl hv hl q) k
theorem ows_astore (X : Stand p l e R s m args below meth c T locs cells slots) (hx : p.tables.exec = Jvm.exec) {pc : Nat} {Ls : Array Slot} {St : List Value} {i : Nat} {v : Value} {l' : Array Slot} (hd : decode c.code pc = .ok (.astore i, 2)) (hv : v.isRef = true) (hl : storeLocals Ls i v = some l') (k : ows_R p e below s0 Q ck sk T (mkF m (pc + 2) l' St)) : ows_R p e below s0 Q ck sk T (mkF m pc Ls (v :: St)) :=
  ows_lift (fun _ q => XS.astore X.here hx rfl hd rfl hv hl q) k
theorem ows_iconst (X : Stand p l e R s m args below meth c T locs cells slots) (hx : p.tables.exec = Jvm.exec) {pc : Nat} {Ls : Array Slot} {St : List Value} {i : Int} (v : Int32) (hd : decode c.code pc = .ok (.iconst i, 1)) (hv : Int32.ofInt i = v) (k : ows_R p e below s0 Q ck sk T (mkF m (pc + 1) Ls (.int v :: St))) : ows_R p e below s0 Q ck sk T (mkF m pc Ls St) :=
  ows_lift (fun _ q => XS.iconst X.here hx rfl hd (hv ▸ q)) k
theorem ows_bipush (X : Stand p l e R s m args below meth c T locs cells slots) (hx : p.tables.exec = Jvm.exec) {pc : Nat} {Ls : Array Slot} {St : List Value} {i : Int} (v : Int32) (hd : decode c.code pc = .ok (.bipush i, 2)) (hv : (Int8.ofInt i).toInt32 = v) (k : ows_R p e below s0 Q ck sk T (mkF m (pc + 2) Ls (.int v :: St))) : ows_R p e below s0 Q ck sk T (mkF m pc Ls St) :=
  ows_lift (fun _ q => XS.bipush X.here hx rfl hd (hv ▸ q)) k
theorem ows_sipush (X : Stand p l e R s m args below meth c T locs cells slots) (hx : p.tables.exec = Jvm.exec) {pc : Nat} {Ls : Array Slot} {St : List Value} {i : Int} (v : Int32) (hd : decode c.code pc = .ok (.sipush i, 3)) (hv : (Int16.ofInt i).toInt32 = v) (k : ows_R p e below s0 Q ck sk T (mkF m (pc + 3) Ls (.int v :: St))) : ows_R p e below s0 Q ck sk T (mkF m pc Ls St) :=
  ows_lift (fun _ q => XS.sipush X.here hx rfl hd (hv ▸ q)) k
theorem ows_lconst (X : Stand p l e R s m args below meth c T locs cells slots) (hx : p.tables.exec = Jvm.exec) {pc : Nat} {Ls : Array Slot} {St : List Value} {i : Fin 2} (v : Int64) (hd : decode c.code pc = .ok (.lconst i, 1)) (hv : Int64.ofNat i = v) (k : ows_R p e below s0 Q ck sk T (mkF m (pc + 1) Ls (.long v :: St))) : ows_R p e below s0 Q ck sk T (mkF m pc Ls St) :=
  ows_lift (fun _ q => XS.lconst X.here hx rfl hd (hv ▸ q)) k
theorem ows_iinc (X : Stand p l e R s m args below meth c T locs cells slots) (hx : p.tables.exec = Jvm.exec) {pc : Nat} {Ls : Array Slot} {St : List Value} {i : Nat} {cst : Int} {x : Int32} (v : Int32) {l' : Array Slot} (hd : decode c.code pc = .ok (.iinc i cst, 3)) (hv : Int32.ofInt cst = v) (hl : Ls[i]? = some (.val (.int x))) (hl' : storeLocals Ls i (.int (x + v)) = some l') (k : ows_R p e below s0 Q ck sk T (mkF m (pc + 3) l' St)) : ows_R p e below s0 Q ck sk T (mkF m pc Ls St) :=
  ows_lift (fun _ q => XS.iinc X.here hx rfl hd hl (hv ▸ hl') q) k
theorem ows_aconst_null (X : Stand p l e R s m args below meth c T locs cells slots) (hx : p.tables.exec = Jvm.exec) {pc : Nat} {Ls : Array Slot} {St : List Value}  (hd : decode c.code pc = .ok (.aconst_null, 1)) (k : ows_R p e below s0 Q ck sk T (mkF m (pc + 1) Ls (.null :: St))) : ows_R p e below s0 Q ck sk T (mkF m pc Ls St) :=
  ows_lift (fun _ q => XS.aconstNull X.here hx rfl hd q) k
theorem ows_dup (X : Stand p l e R s m args below meth c T locs cells slots) (hx : p.tables.exec = Jvm.exec) {pc : Nat} {Ls : Array Slot} {St : List Value} {x : Value} (hd : decode c.code pc = .ok (.dup, 1)) (hc : x.category = 1) (k : ows_R p e below s0 Q ck sk T (mkF m (pc + 1) Ls (x :: x :: St))) : ows_R p e below s0 Q ck sk T (mkF m pc Ls (x :: St)) :=
  ows_lift (fun _ q => XS.dup X.here hx rfl hd rfl hc q) k
theorem ows_dup_x1 (X : Stand p l e R s m args below meth c T locs cells slots) (hx : p.tables.exec = Jvm.exec) {pc : Nat} {Ls : Array Slot} {St : List Value} {x y : Value} (hd : decode c.code pc = .ok (.dup_x1, 1)) (hc : x.category = 1) (hc2 : y.category = 1) (k : ows_R p e below s0 Q ck sk T (mkF m (pc + 1) Ls (x :: y :: x :: St))) : ows_R p e below s0 Q ck sk T (mkF m pc Ls (x :: y :: St)) :=
  ows_lift (fun _ q => XS.dupX1 X.here hx rfl hd rfl hc hc2 q) k
theorem ows_pop (X : Stand p l e R s m args below meth c T locs cells slots) (hx : p.tables.exec = Jvm.exec) {pc : Nat} {Ls : Array Slot} {St : List Value} {x : Value} (hd : decode c.code pc = .ok (.pop, 1)) (hc : x.category = 1) (k : ows_R p e below s0 Q ck sk T (mkF m (pc + 1) Ls St)) : ows_R p e below s0 Q ck sk T (mkF m pc Ls (x :: St)) :=
  ows_lift (fun _ q => XS.pop X.here hx rfl hd rfl hc q) k
theorem ows_goto (X : Stand p l e R s m args below meth c T locs cells slots) (hx : p.tables.exec = Jvm.exec) {pc : Nat} {Ls : Array Slot} {St : List Value} {o : Int} {pc' : Nat} (hd : decode c.code pc = .ok (.goto o, 3)) (ho : 0 ≤ (pc : Int) + o) (hp : ((pc : Int) + o).toNat = pc') (k : ows_R p e below s0 Q ck sk T (mkF m pc' Ls St)) : ows_R p e below s0 Q ck sk T (mkF m pc Ls St) :=
  ows_lift (fun _ q => XS.goto X.here hx rfl (pc0 := pc) rfl hd ho hp q) k
theorem ows_ifnullY (X : Stand p l e R s m args below meth c T locs cells slots) (hx : p.tables.exec = Jvm.exec) {pc : Nat} {Ls : Array Slot} {St : List Value} {o : Int} {pc' : Nat} (hd : decode c.code pc = .ok (.ifnull o, 3)) (ho : 0 ≤ (pc : Int) + o) (hp : ((pc : Int) + o).toNat = pc') (k : ows_R p e below s0 Q ck sk T (mkF m pc' Ls St)) : ows_R p e below s0 Q ck sk T (mkF m pc Ls (.null :: St)) :=
  ows_lift (fun _ q => XS.ifnullYes X.here hx rfl (pc0 := pc) rfl hd rfl ho hp q) k
theorem ows_ifnullN (X : Stand p l e R s m args below meth c T locs cells slots) (hx : p.tables.exec = Jvm.exec) {pc : Nat} {Ls : Array Slot} {St : List Value} {o : Int} {b : Addr} (hd : decode c.code pc = .ok (.ifnull o, 3)) (k : ows_R p e below s0 Q ck sk T (mkF m (pc + 3) Ls St)) : ows_R p e below s0 Q ck sk T (mkF m pc Ls (.ref b :: St)) :=
  ows_lift (fun _ q => XS.ifnullNo X.here hx rfl hd rfl q) k
theorem ows_ifnonnullY (X : Stand p l e R s m args below meth c T locs cells slots) (hx : p.tables.exec = Jvm.exec) {pc : Nat} {Ls : Array Slot} {St : List Value} {o : Int} {pc' : Nat} {b : Addr} (hd : decode c.code pc = .ok (.ifnonnull o, 3)) (ho : 0 ≤ (pc : Int) + o) (hp : ((pc : Int) + o).toNat = pc') (k : ows_R p e below s0 Q ck sk T (mkF m pc' Ls St)) : ows_R p e below s0 Q ck sk T (mkF m pc Ls (.ref b :: St)) :=
  ows_lift (fun _ q => XS.ifnonnullYes X.here hx rfl (pc0 := pc) rfl hd rfl ho hp q) k
theorem ows_ifnonnullN (X : Stand p l e R s m args below meth c T locs cells slots) (hx : p.tables.exec = Jvm.exec) {pc : Nat} {Ls : Array Slot} {St : List Value} {o : Int} (hd : decode c.code pc = .ok (.ifnonnull o, 3)) (k : ows_R p e below s0 Q ck sk T (mkF m (pc + 3) Ls St)) : ows_R p e below s0 Q ck sk T (mkF m pc Ls (.null :: St)) :=
  ows_lift (fun _ q => XS.ifnonnullNo X.here hx rfl hd rfl q) k
theorem ows_irem (X : Stand p l e R s m args below meth c T locs cells slots) (hx : p.tables.exec = Jvm.exec) {pc : Nat} {Ls : Array Slot} {St : List Value} {x y : Int32} (hd : decode c.code pc = .ok (.irem, 1)) (hy : y ≠ 0) (k : ows_R p e below s0 Q ck sk T (mkF m (pc + 1) Ls (.int (x % y) :: St))) : ows_R p e below s0 Q ck sk T (mkF m pc Ls (.int y :: .int x :: St)) :=
  ows_lift (fun _ q => iremM X hx rfl hd rfl hy q) k
theorem ows_ldc (X : Stand p l e R s m args below meth c T locs cells slots) (hx : p.tables.exec = Jvm.exec) (hZ : Z.Warmed39 s.vm) {own : String} {index : Nat} {v : Int32} (hown : s.vm.findClass own = some m.cls) (w : (Cond.constant own index v).before a0 Z = true) {pc : Nat} {Ls : Array Slot} {St : List Value} (hd : decode c.code pc = .ok (.ldc index, 2)) (k : ows_R p e below s0 Q ck sk T (mkF m (pc + 2) Ls (.int v :: St))) : ows_R p e below s0 Q ck sk T (mkF m pc Ls St) :=
  ows_lift (fun _ q => X.ldcInt hx hown (mvT hZ w) (g := mkF m pc Ls St) rfl hd _ q) k
theorem ows_ldc2 (X : Stand p l e R s m args below meth c T locs cells slots) (hx : p.tables.exec = Jvm.exec) (hZ : Z.Warmed39 s.vm) {own : String} {index : Nat} {v : Int64} (hown : s.vm.findClass own = some m.cls) (w : (Cond.constantLong own index v).before a0 Z = true) {pc : Nat} {Ls : Array Slot} {St : List Value} (hd : decode c.code pc = .ok (.ldc2_w index, 3)) (k : ows_R p e below s0 Q ck sk T (mkF m (pc + 3) Ls (.long v :: St))) : ows_R p e below s0 Q ck sk T (mkF m pc Ls St) :=
  ows_lift (fun _ q => X.ldc2Long hx hown (mvT hZ w) (g := mkF m pc Ls St) rfl hd _ q) k
theorem ows_dup2 (X : Stand p l e R s m args below meth c T locs cells slots) (hx : p.tables.exec = Jvm.exec) {pc : Nat} {Ls : Array Slot} {St : List Value} {x y : Value} (hd : decode c.code pc = .ok (.dup2, 1)) (h1 : x.category = 1) (h2 : y.category = 1) (k : ows_R p e below s0 Q ck sk T (mkF m (pc + 1) Ls (x :: y :: x :: y :: St))) : ows_R p e below s0 Q ck sk T (mkF m pc Ls (x :: y :: St)) :=
  ows_lift (fun _ q => by
    show Steps p.tables e below (T.setTop { method := m, pc := pc, locals := Ls, stack := x :: y :: St, locked := none }) _
    jvm_step X.here [X.here.top, hx, hd, h1, h2]
    exact q) k
theorem ows_pop2 (X : Stand p l e R s m args below meth c T locs cells slots) (hx : p.tables.exec = Jvm.exec) {pc : Nat} {Ls : Array Slot} {St : List Value} {x : Int64} (hd : decode c.code pc = .ok (.pop2, 1)) (k : ows_R p e below s0 Q ck sk T (mkF m (pc + 1) Ls St)) : ows_R p e below s0 Q ck sk T (mkF m pc Ls (.long x :: St)) :=
  ows_lift (fun _ q => by
    show Steps p.tables e below (T.setTop { method := m, pc := pc, locals := Ls, stack := .long x :: St, locked := none }) _
    jvm_step X.here [X.here.top, hx, hd, Value.category]
    exact q) k
theorem ows_icmp (X : Stand p l e R s m args below meth c T locs cells slots) (hx : p.tables.exec = Jvm.exec) {pc pc' : Nat} {Ls : Array Slot} {St : List Value} {x y : Int32} {cd : ClassFile.Cond} {o : Int} (hd : decode c.code pc = .ok (.if_icmp cd o, 3)) (ho : 0 ≤ (pc : Int) + o) (hp : ((pc : Int) + o).toNat = pc')
    (k1 : if_icmp.holds cd x y = true → ows_R p e below s0 Q ck sk T (mkF m pc' Ls St)) (k2 : if_icmp.holds cd x y = false → ows_R p e below s0 Q ck sk T (mkF m (pc + 3) Ls St)) : ows_R p e below s0 Q ck sk T (mkF m pc Ls (.int y :: .int x :: St)) := by
  cases hc : if_icmp.holds cd x y
  · exact ows_lift (fun _ q => XS.icmpNo X.here hx rfl hd rfl hc q) (k2 hc)
  · exact ows_lift (fun _ q => XS.icmpYes X.here hx rfl (pc0 := pc) rfl hd rfl hc ho hp q) (k1 hc)
theorem ows_if (X : Stand p l e R s m args below meth c T locs cells slots) (hx : p.tables.exec = Jvm.exec) {pc pc' : Nat} {Ls : Array Slot} {St : List Value} {x : Int32} {cd : ClassFile.Cond} {o : Int} (hd : decode c.code pc = .ok (.ifCond cd o, 3)) (ho : 0 ≤ (pc : Int) + o) (hp : ((pc : Int) + o).toNat = pc')
    (k1 : if_icmp.holds cd x 0 = true → ows_R p e below s0 Q ck sk T (mkF m pc' Ls St)) (k2 : if_icmp.holds cd x 0 = false → ows_R p e below s0 Q ck sk T (mkF m (pc + 3) Ls St)) : ows_R p e below s0 Q ck sk T (mkF m pc Ls (.int x :: St)) := by
  cases hc : if_icmp.holds cd x 0
  · exact ows_lift (fun _ q => XS.ifNo X.here hx rfl hd rfl ((if0 _ _).trans hc) q) (k2 hc)
  · exact ows_lift (fun _ q => XS.ifYes X.here hx rfl (pc0 := pc) rfl hd rfl ((if0 _ _).trans hc) ho hp q) (k1 hc)
theorem ows_lcmp (X : Stand p l e R s m args below meth c T locs cells slots) (hx : p.tables.exec = Jvm.exec) {pc pc' : Nat} {Ls : Array Slot} {St : List Value} {x y : Int64} {cd : ClassFile.Cond} {o : Int} (hd1 : decode c.code pc = .ok (.lcmp, 1)) (hd : decode c.code (pc + 1) = .ok (.ifCond cd o, 3)) (ho : 0 ≤ ((pc + 1 : Nat) : Int) + o) (hp : (((pc + 1 : Nat) : Int) + o).toNat = pc')
    (k1 : if_icmp.holds cd (lcmpW x y) 0 = true → ows_R p e below s0 Q ck sk T (mkF m pc' Ls St)) (k2 : if_icmp.holds cd (lcmpW x y) 0 = false → ows_R p e below s0 Q ck sk T (mkF m (pc + 4) Ls St)) : ows_R p e below s0 Q ck sk T (mkF m pc Ls (.long y :: .long x :: St)) :=
  ows_lift (fun _ q => XS.lcmp X.here hx rfl hd1 rfl q) (ows_if X hx hd ho hp k1 k2)
theorem ows_getF (X : Stand p l e R s m args below meth c T locs cells slots) (hx : p.tables.exec = Jvm.exec) (hZ : Z.Warmed39 s.vm) {own R0 O n d host : String} {index : Nat} (hown : s.vm.findClass own = some m.cls) (w : (Cond.fieldLink own index R0 n d).before a0 Z = true ∨ (Cond.fieldLinkNest own index R0 n d host).before a0 Z = true) (via : Via Z R0 O n d) (eT : T.heap = h) {a : Addr} {v : Value} (F : Fld Z h a O n d v) {pc : Nat} {Ls : Array Slot} {St : List Value} (hd : decode c.code pc = .ok (.getfield index, 3))
    (k : ∀ T', Stand p l e R s m args below meth c T' locs cells slots → T'.heap = h → ows_R p e below s0 Q ck sk T' (mkF m (pc + 3) Ls (v :: St))) : ows_R p e below s0 Q ck sk T (mkF m pc Ls (.ref a :: St)) := by
  obtain ⟨T', X', e', st⟩ := getF X hx hZ hown w via eT F (g := mkF m pc Ls (.ref a :: St)) rfl rfl hd
  exact ows_lift st (k T' X' e')
theorem ows_putF (X : Stand p l e R s m args below meth c T locs cells slots) (hx : p.tables.exec = Jvm.exec) (hZ : Z.Warmed39 s.vm) {own R0 O n d host C : String} {index kk : Nat} {ty : FieldType} (hown : s.vm.findClass own = some m.cls) (w : (Cond.fieldLink own index R0 n d).before a0 Z = true ∨ (Cond.fieldLinkNest own index R0 n d host).before a0 Z = true) (via : Via Z R0 O n d)
    (eT : T.heap = h) {a : Addr} {v old : Value} (F : Fld Z h a O n d old) (E : Exa Z h a C) (L : (Cond.lays C O n d).before a0 Z = true ∨ ((Cond.laysFinal C O n d).before a0 Z = true ∧ own = O ∧ meth.name = "<init>")) (wi : (Cond.instantiable C kk).before a0 Z = true)
    (hty : parseFieldDescriptor d = some ty) (hn : narrow ty v = v) (hf : fits ty v = true) {pc : Nat} {Ls : Array Slot} {St : List Value} (hd : decode c.code pc = .ok (.putfield index, 3))
    (k : ∀ T' h', Stand p l e R s m args below meth c T' (locs ++ [⟨a, Jvm.RoadKit.slotOf Z O n d⟩]) cells slots → T'.heap = h' → Wr h h' a (Jvm.RoadKit.slotOf Z O n d) v → ows_R p e below s0 Q ck sk T' (mkF m (pc + 3) Ls St)) : ows_R p e below s0 Q ck sk T (mkF m pc Ls (v :: .ref a :: St)) := by
  obtain ⟨T', h', X', e', W, st⟩ := putF X hx hZ hown w via eT F E L wi hty hn hf (g := mkF m pc Ls (v :: .ref a :: St)) rfl rfl hd
  exact ows_lift st (k T' h' X' e' W)
theorem ows_putFN (X : Stand p l e R s m args below meth c T locs cells slots) (hx : p.tables.exec = Jvm.exec) (hZ : Z.Warmed39 s.vm) {own R0 O n d C : String} {index kk : Nat} {ty : FieldType} (hown : s.vm.findClass own = some m.cls) (w : (Cond.fieldLink own index R0 n d).before a0 Z = true) (via : Via Z R0 O n d)
    (eT : T.heap = h) {a : Addr} {v v' old : Value} (F : Fld Z h a O n d old) (E : Exa Z h a C) (L : (Cond.lays C O n d).before a0 Z = true ∨ ((Cond.laysFinal C O n d).before a0 Z = true ∧ own = O ∧ meth.name = "<init>")) (wi : (Cond.instantiable C kk).before a0 Z = true)
    (hty : parseFieldDescriptor d = some ty) (hn : narrow ty v = v') (hf : fits ty v' = true) {pc : Nat} {Ls : Array Slot} {St : List Value} (hd : decode c.code pc = .ok (.putfield index, 3))
    (k : ∀ T' h', Stand p l e R s m args below meth c T' (locs ++ [⟨a, Jvm.RoadKit.slotOf Z O n d⟩]) cells slots → T'.heap = h' → Wr h h' a (Jvm.RoadKit.slotOf Z O n d) v' → ows_R p e below s0 Q ck sk T' (mkF m (pc + 3) Ls St)) : ows_R p e below s0 Q ck sk T (mkF m pc Ls (v :: .ref a :: St)) := by
  obtain ⟨T', h', X', e', W, st⟩ := putFN X hx hZ hown w via eT F E L wi hty hn hf (g := mkF m pc Ls (v :: .ref a :: St)) rfl rfl hd
  exact ows_lift st (k T' h' X' e' W)
theorem ows_new (X : Stand p l e R s m args below meth c T locs cells slots) (hx : p.tables.exec = Jvm.exec) (hZ : Z.Warmed39 s.vm) {own C : String} {index n : Nat} (hown : s.vm.findClass own = some m.cls) (w : (Cond.classLink own index C).before a0 Z = true) (wi : (Cond.instantiable C n).before a0 Z = true) (wz : (Cond.initialized C).before a0 Z = true) (eT : T.heap = h) {pc : Nat} {Ls : Array Slot} {St : List Value} (hd : decode c.code pc = .ok (.new index, 3)) (hc : cells + 1 ≤ R.cells) (hl : slots + n ≤ R.slots)
    (k : ∀ T' h' b, b = h.size → Stand p l e R s m args below meth c T' locs (cells + 1) (slots + n) → T'.heap = h' → Ext h h' → Exa Z h' b C → (∀ {O nm d : String} {ty : FieldType}, Laid Z a0 C O nm d → parseFieldDescriptor d = some ty → Fld Z h' b O nm d (defaultValue ty)) → ows_R p e below s0 Q ck sk T' (mkF m (pc + 3) Ls (.ref b :: St))) : ows_R p e below s0 Q ck sk T (mkF m pc Ls St) := by
  obtain ⟨T', h', X', e', E, A, D, -, st⟩ := newO X hx hZ hown w wi wz eT (g := mkF m pc Ls St) rfl hd hc hl
  exact ows_lift st (k T' h' _ rfl X' e' E A D)
theorem ows_newA (X : Stand p l e R s m args below meth c T locs cells slots) (hx : p.tables.exec = Jvm.exec) (hZ : Z.Warmed39 s.vm) {aty : ArrayType} (w : (Cond.arrayClass (newarray.typeOf aty)).before a0 Z = true) (eT : T.heap = h) {pc : Nat} {Ls : Array Slot} {St : List Value} {n : Int32} (hd : decode c.code pc = .ok (.newarray aty, 2)) (hn : ¬ n < 0) (cap : Nat) (hcap : n.toNatClampNeg ≤ cap) (hb : cap * 8 ≤ 536870912) (hc : cells + 1 ≤ R.cells) (hl : slots + cap ≤ R.slots) {ad : String} (had : "[" ++ (newarray.typeOf aty).toString = ad) (N : Nat)
    (k : ∀ T' h' b kA, b = h.size → Stand p l e R s m args below meth c T' locs (cells + 1) (slots + cap) → T'.heap = h' → Ext h h' → Arv Z h' b kA (newarray.typeOf aty) n (List.replicate N (defaultValue (newarray.typeOf aty))) (defaultValue (newarray.typeOf aty)) → Exa Z h' b ad → ows_R p e below s0 Q ck sk T' (mkF m (pc + 2) Ls (.ref b :: St))) : ows_R p e below s0 Q ck sk T (mkF m pc Ls (.int n :: St)) := by
  obtain ⟨T', h', kA, X', e', E, A, EA, st⟩ := newPE X hx hZ w eT (g := mkF m pc Ls (.int n :: St)) rfl hd rfl hn hcap hb hc hl had
  have V := (Arv.new A hn).pad (vs' := List.replicate N (defaultValue (newarray.typeOf aty))) (fun i => pad_rep [] (defaultValue (newarray.typeOf aty)) N i)
  exact ows_lift st (k T' h' _ kA rfl X' e' E V EA)
theorem ows_len (X : Stand p l e R s m args below meth c T locs cells slots) (hx : p.tables.exec = Jvm.exec) (hZ : Z.Warmed39 s.vm) (eT : T.heap = h) {a : Addr} {kA : ClassId} {ty : FieldType} {n : Int32} {vs : List Value} {dv : Value} (V : Arv Z h a kA ty n vs dv) {pc : Nat} {Ls : Array Slot} {St : List Value} (hd : decode c.code pc = .ok (.arraylength, 1))
    (k : ows_R p e below s0 Q ck sk T (mkF m (pc + 1) Ls (.int n :: St))) : ows_R p e below s0 Q ck sk T (mkF m pc Ls (.ref a :: St)) := by
  obtain ⟨cl, A, -, S, N, -⟩ := V
  rw [← len_of S N] at k
  exact ows_lift (fun _ q => X.arraylength hx (by rw [eT]; exact A.1) (State.isArrayOf_alike hZ.alike A.2.1) (g := mkF m pc Ls (.ref a :: St)) rfl rfl hd _ q) k
theorem ows_baload (X : Stand p l e R s m args below meth c T locs cells slots) (hx : p.tables.exec = Jvm.exec) (hZ : Z.Warmed39 s.vm) (eT : T.heap = h) {a : Addr} {kA : ClassId} {n : Int32} {vs : List Value} {dv v : Value} (V : Arv Z h a kA .byte n vs dv) {pc : Nat} {Ls : Array Slot} {St : List Value} {j : Int32} (hj : ¬ j < 0 ∧ j < n) (hv : vs.getD j.toNatClampNeg dv = v) (hd : decode c.code pc = .ok (.baload, 1))
    (k : ows_R p e below s0 Q ck sk T (mkF m (pc + 1) Ls (v :: St))) : ows_R p e below s0 Q ck sk T (mkF m pc Ls (.int j :: .ref a :: St)) := by
  obtain ⟨cl, A, -, S, N, H, -⟩ := V
  have hin := inb_of S hj
  exact ows_lift (fun _ q => X.baloadBytes hx (by rw [eT]; exact A.1) (State.isArrayOf_alike hZ.alike A.2.1) A.2.2 hin (H.at hin hv) (g := mkF m pc Ls (.int j :: .ref a :: St)) rfl rfl hd _ q) k
theorem ows_zaload (X : Stand p l e R s m args below meth c T locs cells slots) (hx : p.tables.exec = Jvm.exec) (hZ : Z.Warmed39 s.vm) (eT : T.heap = h) {a : Addr} {kA : ClassId} {n : Int32} {vs : List Value} {dv v : Value} (V : Arv Z h a kA .boolean n vs dv) {pc : Nat} {Ls : Array Slot} {St : List Value} {j : Int32} (hj : ¬ j < 0 ∧ j < n) (hv : vs.getD j.toNatClampNeg dv = v) (hd : decode c.code pc = .ok (.baload, 1))
    (k : ows_R p e below s0 Q ck sk T (mkF m (pc + 1) Ls (v :: St))) : ows_R p e below s0 Q ck sk T (mkF m pc Ls (.int j :: .ref a :: St)) := by
  obtain ⟨cl, A, -, S, N, H, -⟩ := V
  have hin := inb_of S hj
  exact ows_lift (fun _ q => X.baloadBooleans hx (by rw [eT]; exact A.1) (State.isArrayOf_alike hZ.alike A.2.1) A.2.2 hin (H.at hin hv) (g := mkF m pc Ls (.int j :: .ref a :: St)) rfl rfl hd _ q) k
theorem ows_caload (X : Stand p l e R s m args below meth c T locs cells slots) (hx : p.tables.exec = Jvm.exec) (hZ : Z.Warmed39 s.vm) (eT : T.heap = h) {a : Addr} {kA : ClassId} {n : Int32} {vs : List Value} {dv v : Value} (V : Arv Z h a kA .char n vs dv) {pc : Nat} {Ls : Array Slot} {St : List Value} {j : Int32} (hj : ¬ j < 0 ∧ j < n) (hv : vs.getD j.toNatClampNeg dv = v) (hd : decode c.code pc = .ok (.caload, 1))
    (k : ows_R p e below s0 Q ck sk T (mkF m (pc + 1) Ls (v :: St))) : ows_R p e below s0 Q ck sk T (mkF m pc Ls (.int j :: .ref a :: St)) := by
  obtain ⟨cl, A, -, S, N, H, -⟩ := V
  have hin := inb_of S hj
  exact ows_lift (fun _ q => X.caload hx (by rw [eT]; exact A.1) (State.isArrayOf_alike hZ.alike A.2.1) A.2.2 hin (H.at hin hv) (g := mkF m pc Ls (.int j :: .ref a :: St)) rfl rfl hd _ q) k
theorem ows_iaload (X : Stand p l e R s m args below meth c T locs cells slots) (hx : p.tables.exec = Jvm.exec) (hZ : Z.Warmed39 s.vm) (eT : T.heap = h) {a : Addr} {kA : ClassId} {n : Int32} {vs : List Value} {dv v : Value} (V : Arv Z h a kA .int n vs dv) {pc : Nat} {Ls : Array Slot} {St : List Value} {j : Int32} (hj : ¬ j < 0 ∧ j < n) (hv : vs.getD j.toNatClampNeg dv = v) (hd : decode c.code pc = .ok (.iaload, 1))
    (k : ows_R p e below s0 Q ck sk T (mkF m (pc + 1) Ls (v :: St))) : ows_R p e below s0 Q ck sk T (mkF m pc Ls (.int j :: .ref a :: St)) := by
  obtain ⟨cl, A, -, S, N, H, -⟩ := V
  have hin := inb_of S hj
  exact ows_lift (fun _ q => X.iaload hx (by rw [eT]; exact A.1) (State.isArrayOf_alike hZ.alike A.2.1) A.2.2 hin (H.at hin hv) (g := mkF m pc Ls (.int j :: .ref a :: St)) rfl rfl hd _ q) k
theorem ows_bastore (X : Stand p l e R s m args below meth c T locs cells slots) (hx : p.tables.exec = Jvm.exec) (hZ : Z.Warmed39 s.vm) (eT : T.heap = h) {a : Addr} {kA : ClassId} {n : Int32} {vs : List Value} {dv : Value} (V : Arv Z h a kA .byte n vs dv) {pc : Nat} {Ls : Array Slot} {St : List Value} {j x x' : Int32} (hn : nar .byte x = x') (hj : ¬ j < 0 ∧ j < n) (i : Nat) (hi : j.toNatClampNeg = i) (hl : i < vs.length) (hd : decode c.code pc = .ok (.bastore, 1))
    (k : ∀ T' h', Stand p l e R s m args below meth c T' (locs ++ [⟨a, j.toNatClampNeg⟩]) cells slots → T'.heap = h' → Wr h h' a j.toNatClampNeg (.int x') → Arv Z h' a kA .byte n (vs.set i (.int x')) dv → ows_R p e below s0 Q ck sk T' (mkF m (pc + 1) Ls St)) : ows_R p e below s0 Q ck sk T (mkF m pc Ls (.int x :: .int j :: .ref a :: St)) := by
  obtain ⟨cl, A, q1, S, N, H, G⟩ := V
  have hin := inb_of S hj
  obtain ⟨T', h', X', e', W, st⟩ := stB X hx hZ eT A hin (g := mkF m pc Ls (.int x :: .int j :: .ref a :: St)) rfl rfl hd
  subst hn
  exact ows_lift st (k T' h' X' e' W (Arv.set A q1 S N H G (fits_nar_byte _) W i hi hl))
theorem ows_zastore (X : Stand p l e R s m args below meth c T locs cells slots) (hx : p.tables.exec = Jvm.exec) (hZ : Z.Warmed39 s.vm) (eT : T.heap = h) {a : Addr} {kA : ClassId} {n : Int32} {vs : List Value} {dv : Value} (V : Arv Z h a kA .boolean n vs dv) {pc : Nat} {Ls : Array Slot} {St : List Value} {j x x' : Int32} (hn : nar .boolean x = x') (hj : ¬ j < 0 ∧ j < n) (i : Nat) (hi : j.toNatClampNeg = i) (hl : i < vs.length) (hd : decode c.code pc = .ok (.bastore, 1))
    (k : ∀ T' h', Stand p l e R s m args below meth c T' (locs ++ [⟨a, j.toNatClampNeg⟩]) cells slots → T'.heap = h' → Wr h h' a j.toNatClampNeg (.int x') → Arv Z h' a kA .boolean n (vs.set i (.int x')) dv → ows_R p e below s0 Q ck sk T' (mkF m (pc + 1) Ls St)) : ows_R p e below s0 Q ck sk T (mkF m pc Ls (.int x :: .int j :: .ref a :: St)) := by
  obtain ⟨cl, A, q1, S, N, H, G⟩ := V
  have hin := inb_of S hj
  obtain ⟨T', h', X', e', W, st⟩ := stZ X hx hZ eT A hin (g := mkF m pc Ls (.int x :: .int j :: .ref a :: St)) rfl rfl hd
  subst hn
  exact ows_lift st (k T' h' X' e' W (Arv.set A q1 S N H G (fits_nar_bool _) W i hi hl))
theorem ows_castore (X : Stand p l e R s m args below meth c T locs cells slots) (hx : p.tables.exec = Jvm.exec) (hZ : Z.Warmed39 s.vm) (eT : T.heap = h) {a : Addr} {kA : ClassId} {n : Int32} {vs : List Value} {dv : Value} (V : Arv Z h a kA .char n vs dv) {pc : Nat} {Ls : Array Slot} {St : List Value} {j x x' : Int32} (hn : nar .char x = x') (hj : ¬ j < 0 ∧ j < n) (i : Nat) (hi : j.toNatClampNeg = i) (hl : i < vs.length) (hd : decode c.code pc = .ok (.castore, 1))
    (k : ∀ T' h', Stand p l e R s m args below meth c T' (locs ++ [⟨a, j.toNatClampNeg⟩]) cells slots → T'.heap = h' → Wr h h' a j.toNatClampNeg (.int x') → Arv Z h' a kA .char n (vs.set i (.int x')) dv → ows_R p e below s0 Q ck sk T' (mkF m (pc + 1) Ls St)) : ows_R p e below s0 Q ck sk T (mkF m pc Ls (.int x :: .int j :: .ref a :: St)) := by
  obtain ⟨cl, A, q1, S, N, H, G⟩ := V
  have hin := inb_of S hj
  obtain ⟨T', h', X', e', W, st⟩ := stC X hx hZ eT A hin (g := mkF m pc Ls (.int x :: .int j :: .ref a :: St)) rfl rfl hd
  subst hn
  exact ows_lift st (k T' h' X' e' W (Arv.set A q1 S N H G (fits_nar_char _) W i hi hl))
theorem ows_iastore (X : Stand p l e R s m args below meth c T locs cells slots) (hx : p.tables.exec = Jvm.exec) (hZ : Z.Warmed39 s.vm) (eT : T.heap = h) {a : Addr} {kA : ClassId} {n : Int32} {vs : List Value} {dv : Value} (V : Arv Z h a kA .int n vs dv) {pc : Nat} {Ls : Array Slot} {St : List Value} {j x x' : Int32} (hn : x = x') (hj : ¬ j < 0 ∧ j < n) (i : Nat) (hi : j.toNatClampNeg = i) (hl : i < vs.length) (hd : decode c.code pc = .ok (.iastore, 1))
    (k : ∀ T' h', Stand p l e R s m args below meth c T' (locs ++ [⟨a, j.toNatClampNeg⟩]) cells slots → T'.heap = h' → Wr h h' a j.toNatClampNeg (.int x') → Arv Z h' a kA .int n (vs.set i (.int x')) dv → ows_R p e below s0 Q ck sk T' (mkF m (pc + 1) Ls St)) : ows_R p e below s0 Q ck sk T (mkF m pc Ls (.int x :: .int j :: .ref a :: St)) := by
  obtain ⟨cl, A, q1, S, N, H, G⟩ := V
  have hin := inb_of S hj
  obtain ⟨T', h', X', e', W, st⟩ := stI X hx hZ eT A hin (g := mkF m pc Ls (.int x :: .int j :: .ref a :: St)) rfl rfl hd
  subst hn
  exact ows_lift st (k T' h' X' e' W (Arv.set A q1 S N H G rfl W i hi hl))
theorem ows_initO (X : Stand p l e R s m args below meth c T locs cells slots) (hx : p.tables.exec = Jvm.exec) (hZ : Z.Warmed39 s.vm) {own : String} {idx : Nat} (hown : s.vm.findClass own = some m.cls) (w1 : (Cond.methodLink own idx Lib.objectInit).before a0 Z = true) (w2 : (Cond.instanceMethod Lib.objectInit).before a0 Z = true)
    (w3 : (Cond.code Lib.objectInit ⟨#[0xb1]⟩ 1 none).before a0 Z = true) (eT : T.heap = h) {pc : Nat} {Ls : Array Slot} {St : List Value} {a : Addr} (hsize : Ls.size = c.maxLocals) (hd : decode c.code pc = .ok (.invokespecial idx, 3)) (hf : 1 ≤ R.frames) {W : Nat} (hW : (St.map fun v => v.category).sum ≤ W) (hl : W + 12 ≤ R.locals)
    (k : ∀ T', Stand p l e R s m args below meth c T' locs cells slots → T'.heap = h → ows_R p e below s0 Q ck sk T' (mkF m (pc + 3) Ls St)) : ows_R p e below s0 Q ck sk T (mkF m pc Ls (.ref a :: St)) := by
  obtain ⟨T', X', e', st⟩ := initO X hx hZ hown w1 w2 w3 eT (g := mkF m pc Ls (.ref a :: St)) rfl hsize rfl hd hf (W := W) (by show 2 * 0 + _ ≤ _; omega) hl
  exact ows_lift st (k T' X' e')
theorem ows_callS (X : Stand p l e R s m args below meth c T locs cells slots) (hx : p.tables.exec = Jvm.exec) (hZ : Z.Warmed39 s.vm) {own : String} {index : Nat} {y : MethodName} {bytes : ByteArray} {maxL : Nat} {ret : Option FieldType} {rm : Room} {as' : Array Value} {Q' : Option Value → Heap → List Loc → Prop}
    (hown : s.vm.findClass own = some m.cls) (w1 : (Cond.methodLink own index y).before a0 Z = true) (w2 : (Cond.static y).before a0 Z = true) (w3 : (Cond.initialized y.cls).before a0 Z = true) (w4 : (Cond.code y bytes maxL ret).before a0 Z = true) (hy : y.cls ≠ "java/lang/invoke/MethodHandle" ∧ y.cls ≠ "java/lang/invoke/VarHandle")
    (hM : MetFree l y (head1 [Cond.code y bytes maxL ret] rm) (fun a U => a = as' ∧ Z.Warmed39 U.vm ∧ U.heap = h) (fun _ _ _ _ _ => True) (fun _ U o U' => ∃ v L, o = .returned v ∧ Q' v U'.heap L ∧ FrameEnd U o U' L rm.cells rm.slots))
    (W : Nat) (hf : rm.frames + 1 ≤ R.frames) (hl : W + (maxL + 11) + rm.locals ≤ R.locals) (eT : T.heap = h) {pc : Nat} {Ls : Array Slot} {St : List Value} (hsize : Ls.size = c.maxLocals) (argsL rest : List Value) (has : as' = argsL.toArray) (hlen : ∀ sig, parseMethodDescriptor y.desc = some sig → argsL.length = sig.parameters.length) (hst : St = argsL.reverse ++ rest) (hW : (rest.map fun v => v.category).sum ≤ W)
    (hd : decode c.code pc = .ok (.invokestatic index, 3)) (hc : cells + rm.cells ≤ R.cells) (hs : slots + rm.slots ≤ R.slots)
    (k : ∀ T' v L, Stand p l e R s m args below meth c T' (locs ++ L) (cells + rm.cells) (slots + rm.slots) → Q' v T'.heap L → ows_R p e below s0 Q ck sk T' (mkF m (pc + 3) Ls (v.toList ++ rest))) : ows_R p e below s0 Q ck sk T (mkF m pc Ls St) := by
  obtain ⟨v, _, ⟨T', L', k', n'⟩, -, X', ⟨Lc, hQ, l', y', z'⟩, st⟩ := Jvm.LawKit.callS X hx (y := y) hown (mvT hZ w1) (mvT hZ w2) (mvT hZ w3) (mvT hZ w4) hy (backOf (W := W) hM hZ w4 w3 hf hl) (g := mkF m pc Ls St) rfl hsize (argsL := argsL) (rest := rest) hlen hst (by show 2 * 0 + _ ≤ _; omega) hd (fun _ _ => ⟨has.symm, eT, hc, hs⟩)
  dsimp only [Pt.U, Pt.locs, Pt.cells, Pt.slots] at X' l' y' z' st hQ
  subst l' y' z'
  exact ows_lift st (k T' v Lc X' hQ)
theorem ows_callI (X : Stand p l e R s m args below meth c T locs cells slots) (hx : p.tables.exec = Jvm.exec) (hZ : Z.Warmed39 s.vm) {own : String} {index : Nat} {y : MethodName} {bytes : ByteArray} {maxL : Nat} {rm : Room} {as' : Array Value} {Q' : Option Value → Heap → List Loc → Prop} (hy1 : y.name = "<init>")
    (hown : s.vm.findClass own = some m.cls) (w1 : (Cond.methodLink own index y).before a0 Z = true) (w2 : (Cond.instanceMethod y).before a0 Z = true) (w3 : (Cond.initialized y.cls).before a0 Z = true) (w4 : (Cond.code y bytes maxL none).before a0 Z = true) (hy : y.cls ≠ "java/lang/invoke/MethodHandle" ∧ y.cls ≠ "java/lang/invoke/VarHandle")
    (hM : MetFree l y (head1 [Cond.code y bytes maxL none] rm) (fun a U => a = as' ∧ Z.Warmed39 U.vm ∧ U.heap = h) (fun _ _ _ _ _ => True) (fun _ U o U' => ∃ v L, o = .returned v ∧ Q' v U'.heap L ∧ FrameEnd U o U' L rm.cells rm.slots))
    (W : Nat) (hf : rm.frames + 1 ≤ R.frames) (hl : W + (maxL + 11) + rm.locals ≤ R.locals) (eT : T.heap = h) {pc : Nat} {Ls : Array Slot} {St : List Value} (hsize : Ls.size = c.maxLocals) (a : Addr) (argsL rest : List Value) (has : as' = (.ref a :: argsL).toArray) (hlen : ∀ sig, parseMethodDescriptor y.desc = some sig → argsL.length = sig.parameters.length) (hst : St = argsL.reverse ++ .ref a :: rest) (hW : (rest.map fun v => v.category).sum ≤ W)
    (hd : decode c.code pc = .ok (.invokespecial index, 3)) (hc : cells + rm.cells ≤ R.cells) (hs : slots + rm.slots ≤ R.slots)
    (k : ∀ T' v L, Stand p l e R s m args below meth c T' (locs ++ L) (cells + rm.cells) (slots + rm.slots) → Q' v T'.heap L → ows_R p e below s0 Q ck sk T' (mkF m (pc + 3) Ls (v.toList ++ rest))) : ows_R p e below s0 Q ck sk T (mkF m pc Ls St) := by
  obtain ⟨v, _, ⟨T', L', k', n'⟩, -, X', ⟨Lc, hQ, l', y', z'⟩, st⟩ := X.specialBack hx (y := y) hy1 hown (mvT hZ w1) (mvT hZ w2) (mvT hZ w4) hy (backOf (W := W) hM hZ w4 w3 hf hl) (g := mkF m pc Ls St) rfl hsize (Steps.refl _) (a := a) (argsL := argsL) (rest := rest) hlen hst (by show 2 * 0 + _ ≤ _; omega) hd (fun _ _ => ⟨has.symm, eT, hc, hs⟩)
  dsimp only [Pt.U, Pt.locs, Pt.cells, Pt.slots] at X' l' y' z' st hQ
  subst l' y' z'
  exact ows_lift (fun _ q => st.trans q) (k T' v Lc X' hQ)
theorem ows_callV (X : Stand p l e R s m args below meth c T locs cells slots) (hx : p.tables.exec = Jvm.exec) (hZ : Z.Warmed39 s.vm) {own C : String} {index : Nat} {y z : MethodName} {bytes : ByteArray} {maxL : Nat} {ret : Option FieldType} {rm : Room} {as' : Array Value} {Q' : Option Value → Heap → List Loc → Prop}
    (hown : s.vm.findClass own = some m.cls) (w1 : (Cond.methodLink own index y).before a0 Z = true) (w2 : (Cond.declares y).before a0 Z = true) (nf : NotFace s y) (w5 : (Cond.selects C y z).before a0 Z = true) (w6 : (Cond.instanceMethod z).before a0 Z = true) (w3 : (Cond.initialized z.cls).before a0 Z = true) (w4 : (Cond.code z bytes maxL ret).before a0 Z = true) (hy : y.cls ≠ "java/lang/invoke/MethodHandle" ∧ y.cls ≠ "java/lang/invoke/VarHandle")
    (hM : MetFree l z (head1 [Cond.code z bytes maxL ret] rm) (fun a U => a = as' ∧ Z.Warmed39 U.vm ∧ U.heap = h) (fun _ _ _ _ _ => True) (fun _ U o U' => ∃ v L, o = .returned v ∧ Q' v U'.heap L ∧ FrameEnd U o U' L rm.cells rm.slots))
    (W : Nat) (hf : rm.frames + 1 ≤ R.frames) (hl : W + (maxL + 11) + rm.locals ≤ R.locals) (eT : T.heap = h) {pc : Nat} {Ls : Array Slot} {St : List Value} (hsize : Ls.size = c.maxLocals) (a : Addr) (E : Exa Z h a C) (argsL rest : List Value) (has : as' = (.ref a :: argsL).toArray) (hlen : ∀ sig, parseMethodDescriptor y.desc = some sig → argsL.length = sig.parameters.length) (hst : St = argsL.reverse ++ .ref a :: rest) (hW : (rest.map fun v => v.category).sum ≤ W)
    (hd : decode c.code pc = .ok (.invokevirtual index, 3)) (hc : cells + rm.cells ≤ R.cells) (hs : slots + rm.slots ≤ R.slots)
    (k : ∀ T' v L, Stand p l e R s m args below meth c T' (locs ++ L) (cells + rm.cells) (slots + rm.slots) → Q' v T'.heap L → ows_R p e below s0 Q ck sk T' (mkF m (pc + 3) Ls (v.toList ++ rest))) : ows_R p e below s0 Q ck sk T (mkF m pc Ls St) := by
  obtain ⟨cq, kq, qa, qb, qc⟩ := isOf hZ eT E
  obtain ⟨v, _, ⟨T', L', k', n'⟩, -, X', ⟨Lc, hQ, l', y', z'⟩, st⟩ := X.virtualBack hx (y := y) (z := z) hown (mvT hZ w1) (mvT hZ w2) nf (mvT hZ w5) (mvT hZ w6) hy (backOf (W := W) hM hZ w4 w3 hf hl) qa qc (g := mkF m pc Ls St) rfl hsize (Steps.refl _) (argsL := argsL) (rest := rest) hlen hst (by show 2 * 0 + _ ≤ _; omega) hd (fun _ _ => ⟨has.symm, eT, hc, hs⟩)
  dsimp only [Pt.U, Pt.locs, Pt.cells, Pt.slots] at X' l' y' z' st hQ
  subst l' y' z'
  exact ows_lift (fun _ q => st.trans q) (k T' v Lc X' hQ)
theorem ows_mono {o : Outcome} {t : State} {L : List Loc} (q : ReturnedEndW s0 o t L cells slots) (hc : cells ≤ ck) (hs : slots ≤ sk) : ReturnedEndW s0 o t L ck sk := ⟨q.1, q.2.1, q.2.2.1, q.2.2.2.mono hc hs⟩
theorem ows_ret0 (X : Stand p l e R (s0.setVm vm0) m args below meth c T locs cells slots) (hS : s0.Since vm0 k0) (hk : k0 ≤ T.heap.size) (hx : p.tables.exec = Jvm.exec) {pc : Nat} {Ls : Array Slot} (hret : meth.sig.returnType = none) (hlk : meth.locks = false) (hd : decode c.code pc = .ok (.return_, 1)) (hQ : Q none T.heap locs) (hc : cells ≤ ck) (hs : slots ≤ sk) : ows_R p e below s0 Q ck sk T (mkF m pc Ls []) := by
  obtain ⟨fs, hr, hrun, hended, hE⟩ := X.leaveW hS hk (v := none) (fun _ => rfl) hlk
  exact ⟨_, _, X.returnOut hx hret hd hr, hrun, hended, _, _, rfl, hQ, ows_mono hE hc hs⟩
theorem ows_retN (X : Stand p l e R (s0.setVm vm0) m args below meth c T locs cells slots) (hS : s0.Since vm0 k0) (hk : k0 ≤ T.heap.size) (hx : p.tables.exec = Jvm.exec) {pc : Nat} {Ls : Array Slot} {St : List Value} {z : Int32} {t : FieldType} (hret : meth.sig.returnType = some t) (ht : t = .boolean ∨ t = .byte ∨ t = .char ∨ t = .short) (hlk : meth.locks = false) (hd : decode c.code pc = .ok (.ireturn, 1)) (hQ : Q (some (.int (nar t z))) T.heap locs) (hc : cells ≤ ck) (hs : slots ≤ sk) : ows_R p e below s0 Q ck sk T (mkF m pc Ls (.int z :: St)) := by
  obtain ⟨fs, hr, hrun, hended, hE⟩ := X.leaveW hS hk (v := some (.int (nar t z))) (fun h => by rw [hret] at h; cases h) hlk
  exact ⟨_, _, retN X hx hret ht hd hr, hrun, hended, _, _, rfl, hQ, ows_mono hE hc hs⟩
theorem ows_retV (X : Stand p l e R (s0.setVm vm0) m args below meth c T locs cells slots) (hS : s0.Since vm0 k0) (hk : k0 ≤ T.heap.size) (hx : p.tables.exec = Jvm.exec) {pc : Nat} {Ls : Array Slot} {St : List Value} {w : Value} {t : FieldType} {i : Instr} (hret : meth.sig.returnType = some t) (hn : narrow t w = w)
    (hi : (i = .ireturn ∧ (t = .int ∨ t = .boolean ∨ t = .byte ∨ t = .char ∨ t = .short) ∧ ∃ z, w = .int z) ∨ (i = .lreturn ∧ t = .long ∧ ∃ z, w = .long z) ∨ (i = .dreturn ∧ t = .double ∧ ∃ z, w = .double z) ∨ (i = .freturn ∧ t = .float ∧ ∃ z, w = .float z) ∨ (i = .areturn ∧ t.isReference = true ∧ w.isRef = true)) (hlk : meth.locks = false)
    (hd : decode c.code pc = .ok (i, 1)) (hQ : Q (some w) T.heap locs) (hc : cells ≤ ck) (hs : slots ≤ sk) : ows_R p e below s0 Q ck sk T (mkF m pc Ls (w :: St)) := by
  obtain ⟨fs, hr, hrun, hended, hE⟩ := X.leaveW hS hk (v := some w) (fun h => by rw [hret] at h; cases h) hlk
  exact ⟨_, _, retOut X hx hret hn hi hd hr, hrun, hended, _, _, rfl, hQ, ows_mono hE hc hs⟩
theorem ows_retI (X : Stand p l e R (s0.setVm vm0) m args below meth c T locs cells slots) (hS : s0.Since vm0 k0) (hk : k0 ≤ T.heap.size) (hx : p.tables.exec = Jvm.exec) {pc : Nat} {Ls : Array Slot} {St : List Value} {z : Int32} (hret : meth.sig.returnType = some .int) (hlk : meth.locks = false) (hd : decode c.code pc = .ok (.ireturn, 1)) (hQ : Q (some (.int z)) T.heap locs) (hc : cells ≤ ck) (hs : slots ≤ sk) : ows_R p e below s0 Q ck sk T (mkF m pc Ls (.int z :: St)) :=
  ows_retV X hS hk hx hret rfl (Or.inl ⟨rfl, Or.inl rfl, _, rfl⟩) hlk hd hQ hc hs
theorem ows_retJ (X : Stand p l e R (s0.setVm vm0) m args below meth c T locs cells slots) (hS : s0.Since vm0 k0) (hk : k0 ≤ T.heap.size) (hx : p.tables.exec = Jvm.exec) {pc : Nat} {Ls : Array Slot} {St : List Value} {z : Int64} (hret : meth.sig.returnType = some .long) (hlk : meth.locks = false) (hd : decode c.code pc = .ok (.lreturn, 1)) (hQ : Q (some (.long z)) T.heap locs) (hc : cells ≤ ck) (hs : slots ≤ sk) : ows_R p e below s0 Q ck sk T (mkF m pc Ls (.long z :: St)) :=
  ows_retV X hS hk hx hret rfl (Or.inr (Or.inl ⟨rfl, rfl, _, rfl⟩)) hlk hd hQ hc hs
theorem ows_retA (X : Stand p l e R (s0.setVm vm0) m args below meth c T locs cells slots) (hS : s0.Since vm0 k0) (hk : k0 ≤ T.heap.size) (hx : p.tables.exec = Jvm.exec) {pc : Nat} {Ls : Array Slot} {St : List Value} {w : Value} {t : FieldType} (hret : meth.sig.returnType = some t) (ht : t.isReference = true) (hw : w.isRef = true) (hlk : meth.locks = false) (hd : decode c.code pc = .ok (.areturn, 1)) (hQ : Q (some w) T.heap locs) (hc : cells ≤ ck) (hs : slots ≤ sk) : ows_R p e below s0 Q ck sk T (mkF m pc Ls (w :: St)) :=
  ows_retV X hS hk hx hret (by rcases ref_cases hw with rfl | ⟨a, rfl⟩ <;> cases t <;> first | rfl | (cases ht)) (Or.inr (Or.inr (Or.inr (Or.inr ⟨rfl, ht, hw⟩)))) hlk hd hQ hc hs
/-! a String constant -/
theorem ows_ldcS (X : Stand p l e R (s0.setVm vm0) m args below meth c T locs cells slots) (hx : p.tables.exec = Jvm.exec) (hZ : Z.Warmed39 (s0.setVm vm0).vm) {own text : String} {index : Nat} (hown : (s0.setVm vm0).vm.findClass own = some m.cls) (w : (Cond.stringLink own index text).before a0 Z = true) (wS : ∀ a ∈ Bundle.stringAtoms, a.before a0 Z = true)
    (eT : T.heap = h) (hS : s0.Since vm0 k0) (hk : k0 ≤ h.size) {pc : Nat} {Ls : Array Slot} {St : List Value} (hd : decode c.code pc = .ok (.ldc index, 2)) (n : Nat) (hn : 4 * text.toList.length ≤ n) (hbig : n ≤ 536870912) (hc : cells + 2 ≤ R.cells) (hl : slots + (n + 4) ≤ R.slots)
    (k : ∀ a T' h' k1, Stand p l e R (s0.setVm T'.vm) m args below meth c T' locs (cells + 2) (slots + (n + 4)) → T'.heap = h' → Ext h h' → s0.Since T'.vm k1 → k1 ≤ h'.size → Z.Warmed39 (s0.setVm T'.vm).vm → (s0.setVm T'.vm).vm.findClass own = some m.cls → ows_R p e below s0 Q ck sk T' (mkF m (pc + 2) Ls (.ref a :: St))) : ows_R p e below s0 Q ck sk T (mkF m pc Ls St) := by
  obtain ⟨a, T', h', k1, X', e', E, hS', hk', hZ', ho', st⟩ := ldcS X hx hZ hown w wS eT hS hk (g := mkF m pc Ls St) rfl hd hn hbig hc hl
  exact ows_lift st (k a T' h' k1 X' e' E hS' hk' hZ' ho')
/-! calls: of a private method; of methods that may note Strings -/
theorem ows_self {y : MethodName} {kk : Nat} (hZ : Z.Warmed39 s.vm) (wi : (Cond.instantiable y.cls kk).before a0 Z = true) (wp : (Cond.privateMethod y).before a0 Z = true) (w2 : (Cond.instanceMethod y).before a0 Z = true) (hy : y.cls ≠ "java/lang/invoke/MethodHandle" ∧ y.cls ≠ "java/lang/invoke/VarHandle") : (Cond.selects y.cls y y).before args s = true := by
  have wi' : (Cond.instantiable y.cls kk).before args s = true := mvT hZ wi
  obtain ⟨cc, kc, i1, i2, -, i4, -⟩ := Cond.instantiable_spec wi'
  have i5 : kc.isInterface = false := by
    cases hq : kc.isInterface
    · rfl
    · rw [hq] at i4; cases i4
  exact selects_self_of_private i1 i2 i5 (Cond.privateMethod_at (mvP hZ wp (args := args))) (mvT hZ w2) hy
theorem ows_callP (X : Stand p l e R s m args below meth c T locs cells slots) (hx : p.tables.exec = Jvm.exec) (hZ : Z.Warmed39 s.vm) {own : String} {index kk : Nat} {y : MethodName} {bytes : ByteArray} {maxL : Nat} {ret : Option FieldType} {rm : Room} {as' : Array Value} {Q' : Option Value → Heap → List Loc → Prop}
    (hown : s.vm.findClass own = some m.cls) (w1 : (Cond.methodLink own index y).before a0 Z = true) (w2 : (Cond.instanceMethod y).before a0 Z = true) (wi : (Cond.instantiable y.cls kk).before a0 Z = true) (wp : (Cond.privateMethod y).before a0 Z = true) (w3 : (Cond.initialized y.cls).before a0 Z = true) (w4 : (Cond.code y bytes maxL ret).before a0 Z = true) (hy : y.cls ≠ "java/lang/invoke/MethodHandle" ∧ y.cls ≠ "java/lang/invoke/VarHandle")
    (hM : MetFree l y (head1 [Cond.code y bytes maxL ret] rm) (fun a U => a = as' ∧ Z.Warmed39 U.vm ∧ U.heap = h) (fun _ _ _ _ _ => True) (fun _ U o U' => ∃ v L, o = .returned v ∧ Q' v U'.heap L ∧ FrameEnd U o U' L rm.cells rm.slots))
    (W : Nat) (hf : rm.frames + 1 ≤ R.frames) (hl : W + (maxL + 11) + rm.locals ≤ R.locals) (eT : T.heap = h) {pc : Nat} {Ls : Array Slot} {St : List Value} (hsize : Ls.size = c.maxLocals) (a : Addr) {C : String} (E : Exa Z h a C) (argsL rest : List Value) (has : as' = (.ref a :: argsL).toArray) (hlen : ∀ sig, parseMethodDescriptor y.desc = some sig → argsL.length = sig.parameters.length) (hst : St = argsL.reverse ++ .ref a :: rest) (hW : (rest.map fun v => v.category).sum ≤ W)
    (hd : decode c.code pc = .ok (.invokevirtual index, 3)) (hc : cells + rm.cells ≤ R.cells) (hs : slots + rm.slots ≤ R.slots)
    (k : ∀ T' v L, Stand p l e R s m args below meth c T' (locs ++ L) (cells + rm.cells) (slots + rm.slots) → Q' v T'.heap L → ows_R p e below s0 Q ck sk T' (mkF m (pc + 3) Ls (v.toList ++ rest))) : ows_R p e below s0 Q ck sk T (mkF m pc Ls St) := by
  obtain ⟨cq, q1, q2⟩ := E.cell
  obtain ⟨v, _, ⟨T', L', k', n'⟩, -, X', ⟨Lc, hQ, l', y', z'⟩, st⟩ := X.privateBack hx (y := y) hown (mvT hZ w1) (mvT hZ w2) (ows_self hZ wi wp w2 hy) (Cond.privateMethod_at (mvP hZ wp (args := #[]))) (mvT hZ w4) hy (backOf (W := W) hM hZ w4 w3 hf hl) (g := mkF m pc Ls St) rfl hsize (Steps.refl _) (a := a) (cell := cq) (by rw [eT]; exact q1) q2 (argsL := argsL) (rest := rest) hlen hst (by show 2 * 0 + _ ≤ _; omega) hd (fun _ _ => ⟨has.symm, eT, hc, hs⟩)
  dsimp only [Pt.U, Pt.locs, Pt.cells, Pt.slots] at X' l' y' z' st hQ
  subst l' y' z'
  exact ows_lift (fun _ q => st.trans q) (k T' v Lc X' hQ)
theorem ows_callPS (X : Stand p l e R (s0.setVm vm0) m args below meth c T locs cells slots) (hx : p.tables.exec = Jvm.exec) (hZ : Z.Warmed39 (s0.setVm vm0).vm) {own : String} {index kk : Nat} {y : MethodName} {bytes : ByteArray} {maxL : Nat} {ret : Option FieldType} {rm : Room} {as' : Array Value} {Q' : Option Value → Heap → List Loc → Prop}
    (hown : (s0.setVm vm0).vm.findClass own = some m.cls) (hS : s0.Since vm0 k0) (hk : k0 ≤ h.size) (w1 : (Cond.methodLink own index y).before a0 Z = true) (w2 : (Cond.instanceMethod y).before a0 Z = true) (wi : (Cond.instantiable y.cls kk).before a0 Z = true) (wp : (Cond.privateMethod y).before a0 Z = true) (w3 : (Cond.initialized y.cls).before a0 Z = true) (w4 : (Cond.code y bytes maxL ret).before a0 Z = true) (hy : y.cls ≠ "java/lang/invoke/MethodHandle" ∧ y.cls ≠ "java/lang/invoke/VarHandle")
    (hM : MetFree l y (head1 [Cond.code y bytes maxL ret] rm) (fun a U => a = as' ∧ Z.Warmed39 U.vm ∧ U.heap = h) (fun _ _ _ _ _ => True) (fun _ U o U' => ∃ v L, o = .returned v ∧ Q' v U'.heap L ∧ ReturnedEndW U o U' L rm.cells rm.slots))
    (W : Nat) (hf : rm.frames + 1 ≤ R.frames) (hl : W + (maxL + 11) + rm.locals ≤ R.locals) (eT : T.heap = h) {pc : Nat} {Ls : Array Slot} {St : List Value} (hsize : Ls.size = c.maxLocals) (a : Addr) {C : String} (E : Exa Z h a C) (argsL rest : List Value) (has : as' = (.ref a :: argsL).toArray) (hlen : ∀ sig, parseMethodDescriptor y.desc = some sig → argsL.length = sig.parameters.length) (hst : St = argsL.reverse ++ .ref a :: rest) (hW : (rest.map fun v => v.category).sum ≤ W)
    (hd : decode c.code pc = .ok (.invokevirtual index, 3)) (hc : cells + rm.cells ≤ R.cells) (hs : slots + rm.slots ≤ R.slots)
    (k : ∀ T' v L, Stand p l e R (s0.setVm T'.vm) m args below meth c T' (locs ++ L) (cells + rm.cells) (slots + rm.slots) → s0.Since T'.vm T'.heap.size → Z.Warmed39 (s0.setVm T'.vm).vm → (s0.setVm T'.vm).vm.findClass own = some m.cls → Q' v T'.heap L → ows_R p e below s0 Q ck sk T' (mkF m (pc + 3) Ls (v.toList ++ rest))) : ows_R p e below s0 Q ck sk T (mkF m pc Ls St) := by
  obtain ⟨cq, q1, q2⟩ := E.cell
  obtain ⟨v, _, ⟨T', L', k', n'⟩, -, X', h2, g2, ⟨Lc, hQ, l', y', z'⟩, st⟩ := X.privateBackS hx (y := y) hown (mvT hZ w1) (mvT hZ w2) (ows_self hZ wi wp w2 hy) (Cond.privateMethod_at (mvP hZ wp (args := #[]))) (mvT hZ w4) hy (backOfS (W := W) hM hZ w4 w3 hf hl) (g := mkF m pc Ls St) rfl hsize (Steps.refl _) (a := a) (cell := cq) (by rw [eT]; exact q1) q2 (argsL := argsL) (rest := rest) hlen hst (by show 2 * 0 + _ ≤ _; omega) hd (fun _ _ => ⟨has.symm, eT, hc, hs⟩)
  dsimp only [Pt.U, Pt.locs, Pt.cells, Pt.slots] at X' l' y' z' st hQ h2 g2
  subst l' y' z'
  obtain ⟨X2, hS2, hZ2, ho2⟩ := rebS hS (n1 := T.heap.size) (by rw [eT]; exact hk) X' h2 g2 hZ hown
  exact ows_lift (fun _ q => st.trans q) (k T' v Lc X2 hS2 hZ2 ho2 hQ)
theorem ows_callVS (X : Stand p l e R (s0.setVm vm0) m args below meth c T locs cells slots) (hx : p.tables.exec = Jvm.exec) (hZ : Z.Warmed39 (s0.setVm vm0).vm) {own C : String} {index : Nat} {y z : MethodName} {bytes : ByteArray} {maxL : Nat} {ret : Option FieldType} {rm : Room} {as' : Array Value} {Q' : Option Value → Heap → List Loc → Prop}
    (hown : (s0.setVm vm0).vm.findClass own = some m.cls) (hS : s0.Since vm0 k0) (hk : k0 ≤ h.size) (w1 : (Cond.methodLink own index y).before a0 Z = true) (w2 : (Cond.declares y).before a0 Z = true) (nf : NotFace (s0.setVm vm0) y) (w5 : (Cond.selects C y z).before a0 Z = true) (w6 : (Cond.instanceMethod z).before a0 Z = true) (w3 : (Cond.initialized z.cls).before a0 Z = true) (w4 : (Cond.code z bytes maxL ret).before a0 Z = true) (hy : y.cls ≠ "java/lang/invoke/MethodHandle" ∧ y.cls ≠ "java/lang/invoke/VarHandle")
    (hM : MetFree l z (head1 [Cond.code z bytes maxL ret] rm) (fun a U => a = as' ∧ Z.Warmed39 U.vm ∧ U.heap = h) (fun _ _ _ _ _ => True) (fun _ U o U' => ∃ v L, o = .returned v ∧ Q' v U'.heap L ∧ ReturnedEndW U o U' L rm.cells rm.slots))
    (W : Nat) (hf : rm.frames + 1 ≤ R.frames) (hl : W + (maxL + 11) + rm.locals ≤ R.locals) (eT : T.heap = h) {pc : Nat} {Ls : Array Slot} {St : List Value} (hsize : Ls.size = c.maxLocals) (a : Addr) (E : Exa Z h a C) (argsL rest : List Value) (has : as' = (.ref a :: argsL).toArray) (hlen : ∀ sig, parseMethodDescriptor y.desc = some sig → argsL.length = sig.parameters.length) (hst : St = argsL.reverse ++ .ref a :: rest) (hW : (rest.map fun v => v.category).sum ≤ W)
    (hd : decode c.code pc = .ok (.invokevirtual index, 3)) (hc : cells + rm.cells ≤ R.cells) (hs : slots + rm.slots ≤ R.slots)
    (k : ∀ T' v L, Stand p l e R (s0.setVm T'.vm) m args below meth c T' (locs ++ L) (cells + rm.cells) (slots + rm.slots) → s0.Since T'.vm T'.heap.size → Z.Warmed39 (s0.setVm T'.vm).vm → (s0.setVm T'.vm).vm.findClass own = some m.cls → Q' v T'.heap L → ows_R p e below s0 Q ck sk T' (mkF m (pc + 3) Ls (v.toList ++ rest))) : ows_R p e below s0 Q ck sk T (mkF m pc Ls St) := by
  obtain ⟨cq, kq, qa, qb, qc⟩ := isOf hZ eT E
  obtain ⟨v, _, ⟨T', L', k', n'⟩, -, X', h2, g2, ⟨Lc, hQ, l', y', z'⟩, st⟩ := X.virtualBackS hx (y := y) (z := z) hown (mvT hZ w1) (mvT hZ w2) nf (mvT hZ w5) (mvT hZ w6) hy (backOfS (W := W) hM hZ w4 w3 hf hl) qa qc (g := mkF m pc Ls St) rfl hsize (Steps.refl _) (argsL := argsL) (rest := rest) hlen hst (by show 2 * 0 + _ ≤ _; omega) hd (fun _ _ => ⟨has.symm, eT, hc, hs⟩)
  dsimp only [Pt.U, Pt.locs, Pt.cells, Pt.slots] at X' l' y' z' st hQ h2 g2
  subst l' y' z'
  obtain ⟨X2, hS2, hZ2, ho2⟩ := rebS hS (n1 := T.heap.size) (by rw [eT]; exact hk) X' h2 g2 hZ hown
  exact ows_lift (fun _ q => st.trans q) (k T' v Lc X2 hS2 hZ2 ho2 hQ)
end OwnKitS

theorem strAtoms {Z : State} {a0 : Array Value} (hw : ∀ d ∈ tables_1, d.before a0 Z = true) : ∀ a ∈ Bundle.stringAtoms, a.before a0 Z = true := by
  intro a ha
  simp only [Bundle.stringAtoms, List.mem_cons, List.not_mem_nil, or_false] at ha
  rcases ha with rfl | rfl | rfl | rfl | rfl | rfl | rfl
  · exact hw _ (List.mem_of_getElem? (i := 25) rfl)
  · exact hw _ (List.mem_of_getElem? (i := 26) rfl)
  · exact hw _ (List.mem_of_getElem? (i := 3) rfl)
  · exact hw _ (List.mem_of_getElem? (i := 27) rfl)
  · exact hw _ (List.mem_of_getElem? (i := 28) rfl)
  · exact hw _ (List.mem_of_getElem? (i := 29) rfl)
  · exact hw _ (List.mem_of_getElem? (i := 30) rfl)
def pl_sh (v : Int64) (x : Int32) : Int64 := (v <<< ((8 : Int32) &&& 0x3f).toInt64) ||| ((x &&& (255 : Int32)).toInt64)
def pl_u (x0 x1 x2 x3 : Int32) : Int64 := pl_sh (pl_sh (pl_sh (pl_sh 0 x0) x1) x2) x3
theorem pl_4 (x : Int32) : (x &&& (3 : Int32)) = 0 ∨ (x &&& (3 : Int32)) = 1 ∨ (x &&& (3 : Int32)) = 2 ∨ (x &&& (3 : Int32)) = 3 := by
  have h := c_mask x (3 : Int32) 2 (by decide) (by decide)
  simp only [← Int32.toInt_inj, show (0 : Int32).toInt = 0 from by decide, show (1 : Int32).toInt = 1 from by decide, show (2 : Int32).toInt = 2 from by decide, show (3 : Int32).toInt = 3 from by decide]
  omega
theorem pl_nb (x : Int32) : nar .byte x.toInt8.toInt32 = x.toInt8.toInt32 := by
  show x.toInt8.toInt32.toInt8.toInt32 = x.toInt8.toInt32
  apply Int32.toInt_inj.mp
  have := c_i2b x
  have := c_i2b x.toInt8.toInt32
  omega

theorem d1_0 : decode prog_23_method_1_code 0 = .ok (.aload_n 0, 1) := by decide +kernel
theorem d1_1 : decode prog_23_method_1_code 1 = .ok (.invokespecial 1, 3) := by decide +kernel
theorem d1_4 : decode prog_23_method_1_code 4 = .ok (.aload_n 0, 1) := by decide +kernel
theorem d1_5 : decode prog_23_method_1_code 5 = .ok (.aload_n 1, 1) := by decide +kernel
theorem d1_6 : decode prog_23_method_1_code 6 = .ok (.putfield 7, 3) := by decide +kernel
theorem d1_9 : decode prog_23_method_1_code 9 = .ok (.return_, 1) := by decide +kernel
theorem d3_0 : decode prog_23_method_8_code 0 = .ok (.aload_n 0, 1) := by decide +kernel
theorem d3_1 : decode prog_23_method_8_code 1 = .ok (.getfield 19, 3) := by decide +kernel
theorem d3_4 : decode prog_23_method_8_code 4 = .ok (.aload_n 0, 1) := by decide +kernel
theorem d3_5 : decode prog_23_method_8_code 5 = .ok (.getfield 7, 3) := by decide +kernel
theorem d3_8 : decode prog_23_method_8_code 8 = .ok (.arraylength, 1) := by decide +kernel
theorem d3_9 : decode prog_23_method_8_code 9 = .ok (.if_icmp .eq 26, 3) := by decide +kernel
theorem d3_35 : decode prog_23_method_8_code 35 = .ok (.return_, 1) := by decide +kernel
theorem d4_0 : decode prog_23_method_2_code 0 = .ok (.aload_n 0, 1) := by decide +kernel
theorem d4_1 : decode prog_23_method_2_code 1 = .ok (.iconst 1, 1) := by decide +kernel
theorem d4_2 : decode prog_23_method_2_code 2 = .ok (.ldc 13, 2) := by decide +kernel
theorem d4_4 : decode prog_23_method_2_code 4 = .ok (.invokevirtual 15, 3) := by decide +kernel
theorem d4_7 : decode prog_23_method_2_code 7 = .ok (.aload_n 0, 1) := by decide +kernel
theorem d4_8 : decode prog_23_method_2_code 8 = .ok (.getfield 7, 3) := by decide +kernel
theorem d4_11 : decode prog_23_method_2_code 11 = .ok (.aload_n 0, 1) := by decide +kernel
theorem d4_12 : decode prog_23_method_2_code 12 = .ok (.dup, 1) := by decide +kernel
theorem d4_13 : decode prog_23_method_2_code 13 = .ok (.getfield 19, 3) := by decide +kernel
theorem d4_16 : decode prog_23_method_2_code 16 = .ok (.dup_x1, 1) := by decide +kernel
theorem d4_17 : decode prog_23_method_2_code 17 = .ok (.iconst 1, 1) := by decide +kernel
theorem d4_18 : decode prog_23_method_2_code 18 = .ok (.iadd, 1) := by decide +kernel
theorem d4_19 : decode prog_23_method_2_code 19 = .ok (.putfield 19, 3) := by decide +kernel
theorem d4_22 : decode prog_23_method_2_code 22 = .ok (.baload, 1) := by decide +kernel
theorem d4_23 : decode prog_23_method_2_code 23 = .ok (.ifCond .eq 7, 3) := by decide +kernel
theorem d4_26 : decode prog_23_method_2_code 26 = .ok (.iconst 1, 1) := by decide +kernel
theorem d4_27 : decode prog_23_method_2_code 27 = .ok (.goto 4, 3) := by decide +kernel
theorem d4_30 : decode prog_23_method_2_code 30 = .ok (.iconst 0, 1) := by decide +kernel
theorem d4_31 : decode prog_23_method_2_code 31 = .ok (.ireturn, 1) := by decide +kernel
theorem d5_0 : decode prog_23_method_10_code 0 = .ok (.aload_n 0, 1) := by decide +kernel
theorem d5_1 : decode prog_23_method_10_code 1 = .ok (.getfield 7, 3) := by decide +kernel
theorem d5_4 : decode prog_23_method_10_code 4 = .ok (.arraylength, 1) := by decide +kernel
theorem d5_5 : decode prog_23_method_10_code 5 = .ok (.aload_n 0, 1) := by decide +kernel
theorem d5_6 : decode prog_23_method_10_code 6 = .ok (.getfield 19, 3) := by decide +kernel
theorem d5_9 : decode prog_23_method_10_code 9 = .ok (.isub, 1) := by decide +kernel
theorem d5_10 : decode prog_23_method_10_code 10 = .ok (.iload_n 1, 1) := by decide +kernel
theorem d5_11 : decode prog_23_method_10_code 11 = .ok (.if_icmp .ge 17, 3) := by decide +kernel
theorem d5_28 : decode prog_23_method_10_code 28 = .ok (.return_, 1) := by decide +kernel
theorem d6_0 : decode prog_23_method_7_code 0 = .ok (.aload_n 0, 1) := by decide +kernel
theorem d6_1 : decode prog_23_method_7_code 1 = .ok (.invokevirtual 25, 3) := by decide +kernel
theorem d6_4 : decode prog_23_method_7_code 4 = .ok (.istore_n 1, 1) := by decide +kernel
theorem d6_5 : decode prog_23_method_7_code 5 = .ok (.aload_n 0, 1) := by decide +kernel
theorem d6_6 : decode prog_23_method_7_code 6 = .ok (.dup, 1) := by decide +kernel
theorem d6_7 : decode prog_23_method_7_code 7 = .ok (.getfield 19, 3) := by decide +kernel
theorem d6_10 : decode prog_23_method_7_code 10 = .ok (.iload_n 1, 1) := by decide +kernel
theorem d6_11 : decode prog_23_method_7_code 11 = .ok (.iadd, 1) := by decide +kernel
theorem d6_12 : decode prog_23_method_7_code 12 = .ok (.putfield 19, 3) := by decide +kernel
theorem d6_15 : decode prog_23_method_7_code 15 = .ok (.return_, 1) := by decide +kernel
theorem d7_0 : decode prog_23_method_9_code 0 = .ok (.aload_n 0, 1) := by decide +kernel
theorem d7_1 : decode prog_23_method_9_code 1 = .ok (.invokevirtual 104, 3) := by decide +kernel
theorem d7_4 : decode prog_23_method_9_code 4 = .ok (.lstore_n 1, 1) := by decide +kernel
theorem d7_5 : decode prog_23_method_9_code 5 = .ok (.lload_n 1, 1) := by decide +kernel
theorem d7_6 : decode prog_23_method_9_code 6 = .ok (.aload_n 0, 1) := by decide +kernel
theorem d7_7 : decode prog_23_method_9_code 7 = .ok (.getfield 7, 3) := by decide +kernel
theorem d7_10 : decode prog_23_method_9_code 10 = .ok (.arraylength, 1) := by decide +kernel
theorem d7_11 : decode prog_23_method_9_code 11 = .ok (.aload_n 0, 1) := by decide +kernel
theorem d7_12 : decode prog_23_method_9_code 12 = .ok (.getfield 19, 3) := by decide +kernel
theorem d7_15 : decode prog_23_method_9_code 15 = .ok (.isub, 1) := by decide +kernel
theorem d7_16 : decode prog_23_method_9_code 16 = .ok (.i2l, 1) := by decide +kernel
theorem d7_17 : decode prog_23_method_9_code 17 = .ok (.lcmp, 1) := by decide +kernel
theorem d7_18 : decode prog_23_method_9_code 18 = .ok (.ifCond .le 17, 3) := by decide +kernel
theorem d7_35 : decode prog_23_method_9_code 35 = .ok (.lload_n 1, 1) := by decide +kernel
theorem d7_36 : decode prog_23_method_9_code 36 = .ok (.l2i, 1) := by decide +kernel
theorem d7_37 : decode prog_23_method_9_code 37 = .ok (.ireturn, 1) := by decide +kernel
theorem d8_0 : decode prog_23_method_3_code 0 = .ok (.aload_n 0, 1) := by decide +kernel
theorem d8_1 : decode prog_23_method_3_code 1 = .ok (.iconst 4, 1) := by decide +kernel
theorem d8_2 : decode prog_23_method_3_code 2 = .ok (.ldc 23, 2) := by decide +kernel
theorem d8_4 : decode prog_23_method_3_code 4 = .ok (.invokevirtual 15, 3) := by decide +kernel
theorem d8_7 : decode prog_23_method_3_code 7 = .ok (.lconst 0, 1) := by decide +kernel
theorem d8_8 : decode prog_23_method_3_code 8 = .ok (.lstore_n 1, 1) := by decide +kernel
theorem d8_9 : decode prog_23_method_3_code 9 = .ok (.iconst 0, 1) := by decide +kernel
theorem d8_10 : decode prog_23_method_3_code 10 = .ok (.istore_n 3, 1) := by decide +kernel
theorem d8_11 : decode prog_23_method_3_code 11 = .ok (.iload_n 3, 1) := by decide +kernel
theorem d8_12 : decode prog_23_method_3_code 12 = .ok (.iconst 4, 1) := by decide +kernel
theorem d8_13 : decode prog_23_method_3_code 13 = .ok (.if_icmp .ge 36, 3) := by decide +kernel
theorem d8_16 : decode prog_23_method_3_code 16 = .ok (.lload_n 1, 1) := by decide +kernel
theorem d8_17 : decode prog_23_method_3_code 17 = .ok (.bipush 8, 2) := by decide +kernel
theorem d8_19 : decode prog_23_method_3_code 19 = .ok (.lshl, 1) := by decide +kernel
theorem d8_20 : decode prog_23_method_3_code 20 = .ok (.aload_n 0, 1) := by decide +kernel
theorem d8_21 : decode prog_23_method_3_code 21 = .ok (.getfield 7, 3) := by decide +kernel
theorem d8_24 : decode prog_23_method_3_code 24 = .ok (.aload_n 0, 1) := by decide +kernel
theorem d8_25 : decode prog_23_method_3_code 25 = .ok (.dup, 1) := by decide +kernel
theorem d8_26 : decode prog_23_method_3_code 26 = .ok (.getfield 19, 3) := by decide +kernel
theorem d8_29 : decode prog_23_method_3_code 29 = .ok (.dup_x1, 1) := by decide +kernel
theorem d8_30 : decode prog_23_method_3_code 30 = .ok (.iconst 1, 1) := by decide +kernel
theorem d8_31 : decode prog_23_method_3_code 31 = .ok (.iadd, 1) := by decide +kernel
theorem d8_32 : decode prog_23_method_3_code 32 = .ok (.putfield 19, 3) := by decide +kernel
theorem d8_35 : decode prog_23_method_3_code 35 = .ok (.baload, 1) := by decide +kernel
theorem d8_36 : decode prog_23_method_3_code 36 = .ok (.sipush 255, 3) := by decide +kernel
theorem d8_39 : decode prog_23_method_3_code 39 = .ok (.iand, 1) := by decide +kernel
theorem d8_40 : decode prog_23_method_3_code 40 = .ok (.i2l, 1) := by decide +kernel
theorem d8_41 : decode prog_23_method_3_code 41 = .ok (.lor, 1) := by decide +kernel
theorem d8_42 : decode prog_23_method_3_code 42 = .ok (.lstore_n 1, 1) := by decide +kernel
theorem d8_43 : decode prog_23_method_3_code 43 = .ok (.iinc 3 1, 3) := by decide +kernel
theorem d8_46 : decode prog_23_method_3_code 46 = .ok (.goto (-35), 3) := by decide +kernel
theorem d8_49 : decode prog_23_method_3_code 49 = .ok (.lload_n 1, 1) := by decide +kernel
theorem d8_50 : decode prog_23_method_3_code 50 = .ok (.lreturn, 1) := by decide +kernel
theorem d9_0 : decode prog_23_method_4_code 0 = .ok (.aload_n 0, 1) := by decide +kernel
theorem d9_1 : decode prog_23_method_4_code 1 = .ok (.invokevirtual 25, 3) := by decide +kernel
theorem d9_4 : decode prog_23_method_4_code 4 = .ok (.istore_n 1, 1) := by decide +kernel
theorem d9_5 : decode prog_23_method_4_code 5 = .ok (.aload_n 0, 1) := by decide +kernel
theorem d9_6 : decode prog_23_method_4_code 6 = .ok (.getfield 7, 3) := by decide +kernel
theorem d9_9 : decode prog_23_method_4_code 9 = .ok (.aload_n 0, 1) := by decide +kernel
theorem d9_10 : decode prog_23_method_4_code 10 = .ok (.getfield 19, 3) := by decide +kernel
theorem d9_13 : decode prog_23_method_4_code 13 = .ok (.aload_n 0, 1) := by decide +kernel
theorem d9_14 : decode prog_23_method_4_code 14 = .ok (.getfield 19, 3) := by decide +kernel
theorem d9_17 : decode prog_23_method_4_code 17 = .ok (.iload_n 1, 1) := by decide +kernel
theorem d9_18 : decode prog_23_method_4_code 18 = .ok (.iadd, 1) := by decide +kernel
theorem d9_19 : decode prog_23_method_4_code 19 = .ok (.invokestatic 29, 3) := by decide +kernel
theorem d9_22 : decode prog_23_method_4_code 22 = .ok (.astore_n 2, 1) := by decide +kernel
theorem d9_23 : decode prog_23_method_4_code 23 = .ok (.aload_n 0, 1) := by decide +kernel
theorem d9_24 : decode prog_23_method_4_code 24 = .ok (.dup, 1) := by decide +kernel
theorem d9_25 : decode prog_23_method_4_code 25 = .ok (.getfield 19, 3) := by decide +kernel
theorem d9_28 : decode prog_23_method_4_code 28 = .ok (.iload_n 1, 1) := by decide +kernel
theorem d9_29 : decode prog_23_method_4_code 29 = .ok (.iadd, 1) := by decide +kernel
theorem d9_30 : decode prog_23_method_4_code 30 = .ok (.putfield 19, 3) := by decide +kernel
theorem d9_33 : decode prog_23_method_4_code 33 = .ok (.aload_n 2, 1) := by decide +kernel
theorem d9_34 : decode prog_23_method_4_code 34 = .ok (.areturn, 1) := by decide +kernel
theorem d10_0 : decode jdk_65_method_132_code 0 = .ok (.iload_n 1, 1) := by decide +kernel
theorem d10_1 : decode jdk_65_method_132_code 1 = .ok (.ifCond .ne 9, 3) := by decide +kernel
theorem d10_10 : decode jdk_65_method_132_code 10 = .ok (.aload_n 0, 1) := by decide +kernel
theorem d10_11 : decode jdk_65_method_132_code 11 = .ok (.iload_n 1, 1) := by decide +kernel
theorem d10_12 : decode jdk_65_method_132_code 12 = .ok (.iload_n 2, 1) := by decide +kernel
theorem d10_13 : decode jdk_65_method_132_code 13 = .ok (.invokestatic 339, 3) := by decide +kernel
theorem d10_16 : decode jdk_65_method_132_code 16 = .ok (.areturn, 1) := by decide +kernel
theorem d11_0 : decode jdk_65_method_133_code 0 = .ok (.iload_n 1, 1) := by decide +kernel
theorem d11_1 : decode jdk_65_method_133_code 1 = .ok (.iload_n 2, 1) := by decide +kernel
theorem d11_2 : decode jdk_65_method_133_code 2 = .ok (.invokestatic 343, 3) := by decide +kernel
theorem d11_5 : decode jdk_65_method_133_code 5 = .ok (.iload_n 2, 1) := by decide +kernel
theorem d11_6 : decode jdk_65_method_133_code 6 = .ok (.iload_n 1, 1) := by decide +kernel
theorem d11_7 : decode jdk_65_method_133_code 7 = .ok (.isub, 1) := by decide +kernel
theorem d11_8 : decode jdk_65_method_133_code 8 = .ok (.istore_n 3, 1) := by decide +kernel
theorem d11_9 : decode jdk_65_method_133_code 9 = .ok (.iload_n 3, 1) := by decide +kernel
theorem d11_10 : decode jdk_65_method_133_code 10 = .ok (.newarray .byte, 2) := by decide +kernel
theorem d11_12 : decode jdk_65_method_133_code 12 = .ok (.astore 4, 2) := by decide +kernel
theorem d11_14 : decode jdk_65_method_133_code 14 = .ok (.aload_n 0, 1) := by decide +kernel
theorem d11_15 : decode jdk_65_method_133_code 15 = .ok (.iload_n 1, 1) := by decide +kernel
theorem d11_16 : decode jdk_65_method_133_code 16 = .ok (.aload 4, 2) := by decide +kernel
theorem d11_18 : decode jdk_65_method_133_code 18 = .ok (.iconst 0, 1) := by decide +kernel
theorem d11_19 : decode jdk_65_method_133_code 19 = .ok (.aload_n 0, 1) := by decide +kernel
theorem d11_20 : decode jdk_65_method_133_code 20 = .ok (.arraylength, 1) := by decide +kernel
theorem d11_21 : decode jdk_65_method_133_code 21 = .ok (.iload_n 1, 1) := by decide +kernel
theorem d11_22 : decode jdk_65_method_133_code 22 = .ok (.isub, 1) := by decide +kernel
theorem d11_23 : decode jdk_65_method_133_code 23 = .ok (.iload_n 3, 1) := by decide +kernel
theorem d11_24 : decode jdk_65_method_133_code 24 = .ok (.invokestatic 304, 3) := by decide +kernel
theorem d11_27 : decode jdk_65_method_133_code 27 = .ok (.invokestatic 150, 3) := by decide +kernel
theorem d11_30 : decode jdk_65_method_133_code 30 = .ok (.aload 4, 2) := by decide +kernel
theorem d11_32 : decode jdk_65_method_133_code 32 = .ok (.areturn, 1) := by decide +kernel
theorem d12_0 : decode jdk_65_method_131_code 0 = .ok (.iload_n 1, 1) := by decide +kernel
theorem d12_1 : decode jdk_65_method_131_code 1 = .ok (.iload_n 0, 1) := by decide +kernel
theorem d12_2 : decode jdk_65_method_131_code 2 = .ok (.if_icmp .ge 35, 3) := by decide +kernel
theorem d12_37 : decode jdk_65_method_131_code 37 = .ok (.return_, 1) := by decide +kernel
theorem d13_0 : decode jdk_29_method_69_code 0 = .ok (.iload_n 0, 1) := by decide +kernel
theorem d13_1 : decode jdk_29_method_69_code 1 = .ok (.iload_n 1, 1) := by decide +kernel
theorem d13_2 : decode jdk_29_method_69_code 2 = .ok (.if_icmp .gt 7, 3) := by decide +kernel
theorem d13_5 : decode jdk_29_method_69_code 5 = .ok (.iload_n 0, 1) := by decide +kernel
theorem d13_6 : decode jdk_29_method_69_code 6 = .ok (.goto 4, 3) := by decide +kernel
theorem d13_9 : decode jdk_29_method_69_code 9 = .ok (.iload_n 1, 1) := by decide +kernel
theorem d13_10 : decode jdk_29_method_69_code 10 = .ok (.ireturn, 1) := by decide +kernel
theorem pd_0 : parseMethodDescriptor "(ILjava/lang/String;)V" = some ⟨[.int, (.object "java/lang/String")], none⟩ := by decide +kernel
theorem pd_1 : parseMethodDescriptor "()J" = some ⟨[], some .long⟩ := by decide +kernel
theorem pd_2 : parseMethodDescriptor "()I" = some ⟨[], some .int⟩ := by decide +kernel
theorem pd_3 : parseMethodDescriptor "(II)V" = some ⟨[.int, .int], none⟩ := by decide +kernel
theorem pd_4 : parseMethodDescriptor "(II)I" = some ⟨[.int, .int], some .int⟩ := by decide +kernel
theorem pd_5 : parseMethodDescriptor "([BII)[B" = some ⟨[(.array .byte), .int, .int], some (.array .byte)⟩ := by decide +kernel
theorem pd_6 : parseMethodDescriptor "([B)V" = some ⟨[(.array .byte)], none⟩ := by decide +kernel
theorem pd_7 : parseMethodDescriptor "()V" = some ⟨[], none⟩ := by decide +kernel
theorem pd_8 : parseMethodDescriptor "()Z" = some ⟨[], some .boolean⟩ := by decide +kernel
theorem pd_9 : parseMethodDescriptor "()[B" = some ⟨[], some (.array .byte)⟩ := by decide +kernel
theorem pn_1 : plainFor (⟨"com/example/authwright/authwright/engine/MessageReader", "<init>", "([B)V"⟩ : MethodName) = true := by decide +kernel
theorem ef_1 (m : MethodId) (a1 : Addr) (a2 : Addr) : entryFrame m #[(.ref a1), (.ref a2)] 2 = mkF m 0 #[.val (.ref a1), .val (.ref a2)] [] := by first | (simp [entryFrame, mkF, argsToLocals, Value.category]; done) | rfl
def Q1 (Z : State) (a1 : Addr) (a2 : Addr) (h0 : Heap) (n0 : Nat) (v : Option Value) (h : Heap) (L : List Loc) : Prop := v = none ∧ Fr n0 L ∧ Keep h0 h [a1] ∧ Exa Z h a1 "com/example/authwright/authwright/engine/MessageReader" ∧ Fld Z h a1 "com/example/authwright/authwright/engine/MessageReader" "message" "[B" (.ref a2) ∧ Fld Z h a1 "com/example/authwright/authwright/engine/MessageReader" "position" "I" (.int (0 : Int32))
set_option maxRecDepth 65536 in
set_option maxHeartbeats 40000000 in
theorem rm1 (l : Launch) (Z : State) (a0 : Array Value) (hw : ∀ d ∈ tables_1, d.before a0 Z = true) (ws : List Jvm.Cond) (a1 : Addr) (a2 : Addr) (h0 : Heap) (n0 : Nat) (Z0 : n0 ≤ h0.size) (hE : Exa Z h0 a1 "com/example/authwright/authwright/engine/MessageReader") (hn0 : n0 ≤ a1) (hm : Fld Z h0 a1 "com/example/authwright/authwright/engine/MessageReader" "message" "[B" .null) (hp : Fld Z h0 a1 "com/example/authwright/authwright/engine/MessageReader" "position" "I" (.int (0 : Int32))) :
    MetFree l (⟨"com/example/authwright/authwright/engine/MessageReader", "<init>", "([B)V"⟩ : MethodName) (head1 (Jvm.Cond.code (⟨"com/example/authwright/authwright/engine/MessageReader", "<init>", "([B)V"⟩ : MethodName) prog_23_method_1_code 2 none :: ws) ({ frames := 1, cells := 0, slots := 0, locals := 12 } : Room)) (fun a U => a = #[(.ref a1), (.ref a2)] ∧ Z.Warmed39 U.vm ∧ U.heap = h0) (fun _ _ _ _ _ => True) (fun _ U o U' => ∃ v L, o = .returned v ∧ Q1 Z a1 a2 h0 n0 v U'.heap L ∧ FrameEnd U o U' L ({ frames := 1, cells := 0, slots := 0, locals := 12 } : Room).cells ({ frames := 1, cells := 0, slots := 0, locals := 12 } : Room).slots) := by
  refine MetFree.of_bodySF pn_1 hisR ?_
  intro p e s m args below meth c s₁ Bd hml0 hP hK
  obtain ⟨rfl, hZ, hh⟩ := hP
  have hx := Bd.exec
  have hby := Bd.bytes
  have hml : c.maxLocals = 2 := hml0
  have hown : s.vm.findClass "com/example/authwright/authwright/engine/MessageReader" = some m.cls := findClass_of_methodNamed Bd.named
  have hnm := (name_of_methodNamed Bd.named Bd.method).1
  have hlk := BodyLoose.notSynchronized Bd
  have X0 : Stand p l e ({ frames := 1, cells := 0, slots := 0, locals := 12 } : Room) s m #[(.ref a1), (.ref a2)] below meth c s₁ [] 0 0 := Stand.of_body Bd
  have e0 : s₁.heap = h0 := by rw [← hh, Bd.state]; rfl
  have N0 := Fr.nil n0
  show own_R p e below s (Q1 Z a1 a2 h0 n0) ({ frames := 1, cells := 0, slots := 0, locals := 12 } : Room).cells ({ frames := 1, cells := 0, slots := 0, locals := 12 } : Room).slots s₁ (entryFrame m #[(.ref a1), (.ref a2)] 2)
  refine own_cast (ef_1 m a1 a2) ?_
  show own_R p e below s _ _ _ s₁ (mkF m 0 #[.val (.ref a1), .val (.ref a2)] [])
  have K0 := Keep.refl h0 ([a1] : List Addr)
  have n0_a1 := hn0
  refine own_aloadN X0 hx (hb hby d1_0) rfl rfl ?_
  show own_R p e below s _ _ _ s₁ (mkF m 1 #[.val (.ref a1), .val (.ref a2)] [(.ref a1)])
  refine own_initO X0 hx hZ hown (hw _ (List.mem_of_getElem? (i := 7) rfl)) (hw _ (List.mem_of_getElem? (i := 8) rfl)) (hw _ (List.mem_of_getElem? (i := 9) rfl)) e0 (by rw [hml]; rfl) (hb hby d1_1) (by decide) (W := 0) (Nat.le_of_eq rfl) (by decide) ?_
  intro T1 X1 e1
  show own_R p e below s _ _ _ T1 (mkF m 4 #[.val (.ref a1), .val (.ref a2)] [])
  refine own_aloadN X1 hx (hb hby d1_4) rfl rfl ?_
  show own_R p e below s _ _ _ T1 (mkF m 5 #[.val (.ref a1), .val (.ref a2)] [(.ref a1)])
  refine own_aloadN X1 hx (hb hby d1_5) rfl rfl ?_
  show own_R p e below s _ _ _ T1 (mkF m 6 #[.val (.ref a1), .val (.ref a2)] [(.ref a2), (.ref a1)])
  refine own_putF X1 hx hZ hown (host := "") (Or.inl (hw _ (List.mem_of_getElem? (i := 10) rfl))) Via.refl e1 hm hE (Or.inr ⟨(hw _ (List.mem_of_getElem? (i := 11) rfl)), rfl, hnm⟩) (hw _ (List.mem_of_getElem? (i := 1) rfl)) (ty := (.array .byte)) (by decide) rfl rfl (hb hby d1_6) ?_
  intro T2 h2 X2 e2 W2
  have K2 := K0.wr W2 (Or.inl (List.mem_of_getElem? (i := 0) rfl))
  have N2 := Fr.snoc X2 N0 n0_a1
  have Fw2 := Fld.same W2 hm
  show own_R p e below s _ _ _ T2 (mkF m 9 #[.val (.ref a1), .val (.ref a2)] [])
  have f3 := (Exa.wr W2 hE)
  have f4 := (Fld.other W2 hp (Or.inr (slot_ne (Or.inl (hw _ (List.mem_of_getElem? (i := 18) rfl))) (Or.inr (hw _ (List.mem_of_getElem? (i := 11) rfl))) (by decide) (t := .int) (t' := (.array .byte)) (by decide) (by decide))))
  refine own_ret0 X2 hx Bd.returns hlk (hb hby d1_9) ?_ (by decide) (by decide)
  rw [e2]
  exact ⟨rfl, N2, K2, f3, Fw2, f4⟩
theorem pn_5 : plainFor (⟨"com/example/authwright/authwright/engine/MessageReader", "require", "(ILjava/lang/String;)V"⟩ : MethodName) = true := by decide +kernel
theorem ef_5 (m : MethodId) (a1 : Addr) (p1 : Int32) (a3 : Addr) : entryFrame m #[(.ref a1), (.int p1), (.ref a3)] 3 = mkF m 0 #[.val (.ref a1), .val (.int p1), .val (.ref a3)] [] := by first | (simp [entryFrame, mkF, argsToLocals, Value.category]; done) | rfl
def Q5 (Z : State) (a1 : Addr) (p1 : Int32) (a3 : Addr) (am : Addr) (km : ClassId) (z : Int32) (vs : List Value) (dv : Value) (ps : Int32) (h0 : Heap) (n0 : Nat) (v : Option Value) (h : Heap) (L : List Loc) : Prop := v = none ∧ Fr n0 L ∧ h = h0
set_option maxRecDepth 65536 in
set_option maxHeartbeats 40000000 in
theorem rm5 (l : Launch) (Z : State) (a0 : Array Value) (hw : ∀ d ∈ tables_1, d.before a0 Z = true) (ws : List Jvm.Cond) (a1 : Addr) (p1 : Int32) (a3 : Addr) (am : Addr) (km : ClassId) (z : Int32) (vs : List Value) (dv : Value) (ps : Int32) (h0 : Heap) (n0 : Nat) (Z0 : n0 ≤ h0.size) (hm : Fld Z h0 a1 "com/example/authwright/authwright/engine/MessageReader" "message" "[B" (.ref am)) (hp : Fld Z h0 a1 "com/example/authwright/authwright/engine/MessageReader" "position" "I" (.int ps)) (hV : Arv Z h0 am km .byte z vs dv) (hr : ¬ (z - ps) < p1) :
    MetFree l (⟨"com/example/authwright/authwright/engine/MessageReader", "require", "(ILjava/lang/String;)V"⟩ : MethodName) (head1 (Jvm.Cond.code (⟨"com/example/authwright/authwright/engine/MessageReader", "require", "(ILjava/lang/String;)V"⟩ : MethodName) prog_23_method_10_code 3 none :: ws) ({ frames := 0, cells := 0, slots := 0, locals := 0 } : Room)) (fun a U => a = #[(.ref a1), (.int p1), (.ref a3)] ∧ Z.Warmed39 U.vm ∧ U.heap = h0) (fun _ _ _ _ _ => True) (fun _ U o U' => ∃ v L, o = .returned v ∧ Q5 Z a1 p1 a3 am km z vs dv ps h0 n0 v U'.heap L ∧ FrameEnd U o U' L ({ frames := 0, cells := 0, slots := 0, locals := 0 } : Room).cells ({ frames := 0, cells := 0, slots := 0, locals := 0 } : Room).slots) := by
  refine MetFree.of_bodySF pn_5 hisR ?_
  intro p e s m args below meth c s₁ Bd hml0 hP hK
  obtain ⟨rfl, hZ, hh⟩ := hP
  have hx := Bd.exec
  have hby := Bd.bytes
  have hml : c.maxLocals = 3 := hml0
  have hown : s.vm.findClass "com/example/authwright/authwright/engine/MessageReader" = some m.cls := findClass_of_methodNamed Bd.named
  have hnm := (name_of_methodNamed Bd.named Bd.method).1
  have hlk := BodyLoose.notSynchronized Bd
  have X0 : Stand p l e ({ frames := 0, cells := 0, slots := 0, locals := 0 } : Room) s m #[(.ref a1), (.int p1), (.ref a3)] below meth c s₁ [] 0 0 := Stand.of_body Bd
  have e0 : s₁.heap = h0 := by rw [← hh, Bd.state]; rfl
  have N0 := Fr.nil n0
  show own_R p e below s (Q5 Z a1 p1 a3 am km z vs dv ps h0 n0) ({ frames := 0, cells := 0, slots := 0, locals := 0 } : Room).cells ({ frames := 0, cells := 0, slots := 0, locals := 0 } : Room).slots s₁ (entryFrame m #[(.ref a1), (.int p1), (.ref a3)] 3)
  refine own_cast (ef_5 m a1 p1 a3) ?_
  show own_R p e below s _ _ _ s₁ (mkF m 0 #[.val (.ref a1), .val (.int p1), .val (.ref a3)] [])
  have K0 := Keep.refl h0 ([] : List Addr)
  refine own_aloadN X0 hx (hb hby d5_0) rfl rfl ?_
  show own_R p e below s _ _ _ s₁ (mkF m 1 #[.val (.ref a1), .val (.int p1), .val (.ref a3)] [(.ref a1)])
  refine own_getF X0 hx hZ hown (host := "") (Or.inl (hw _ (List.mem_of_getElem? (i := 10) rfl))) Via.refl e0 hm (hb hby d5_1) ?_
  intro T5 X5 e5
  show own_R p e below s _ _ _ T5 (mkF m 4 #[.val (.ref a1), .val (.int p1), .val (.ref a3)] [(.ref am)])
  refine own_len X5 hx hZ e5 hV (hb hby d5_4) ?_
  show own_R p e below s _ _ _ T5 (mkF m 5 #[.val (.ref a1), .val (.int p1), .val (.ref a3)] [(.int z)])
  refine own_aloadN X5 hx (hb hby d5_5) rfl rfl ?_
  show own_R p e below s _ _ _ T5 (mkF m 6 #[.val (.ref a1), .val (.int p1), .val (.ref a3)] [(.ref a1), (.int z)])
  refine own_getF X5 hx hZ hown (host := "") (Or.inl (hw _ (List.mem_of_getElem? (i := 17) rfl))) Via.refl e5 hp (hb hby d5_6) ?_
  intro T6 X6 e6
  show own_R p e below s _ _ _ T6 (mkF m 9 #[.val (.ref a1), .val (.int p1), .val (.ref a3)] [(.int ps), (.int z)])
  refine own_isub X6 hx (hb hby d5_9) ?_
  show own_R p e below s _ _ _ T6 (mkF m 10 #[.val (.ref a1), .val (.int p1), .val (.ref a3)] [(.int (z - ps))])
  refine own_iloadN X6 hx (hb hby d5_10) rfl ?_
  show own_R p e below s _ _ _ T6 (mkF m 11 #[.val (.ref a1), .val (.int p1), .val (.ref a3)] [(.int p1), (.int (z - ps))])
  refine own_icmp X6 hx (hb hby d5_11) (pc' := 28) (by decide) (by decide) (fun hc => ?_) (fun hc => ?_)
  · have hc11 : ¬ (z - ps) < p1 := own_ge1 hc
    clear hc
    show own_R p e below s _ _ _ T6 (mkF m 28 #[.val (.ref a1), .val (.int p1), .val (.ref a3)] [])
    refine own_ret0 X6 hx Bd.returns hlk (hb hby d5_28) ?_ (by decide) (by decide)
    exact ⟨rfl, N0, e6⟩
  · have hc11 : (z - ps) < p1 := own_ge0 hc
    exact absurd hc11 hr
theorem pn_3 : plainFor (⟨"com/example/authwright/authwright/engine/MessageReader", "expectEnd", "()V"⟩ : MethodName) = true := by decide +kernel
theorem ef_3 (m : MethodId) (a1 : Addr) : entryFrame m #[(.ref a1)] 1 = mkF m 0 #[.val (.ref a1)] [] := by first | (simp [entryFrame, mkF, argsToLocals, Value.category]; done) | rfl
def Q3 (Z : State) (a1 : Addr) (am : Addr) (km : ClassId) (z : Int32) (vs : List Value) (dv : Value) (h0 : Heap) (n0 : Nat) (v : Option Value) (h : Heap) (L : List Loc) : Prop := v = none ∧ Fr n0 L ∧ h = h0
set_option maxRecDepth 65536 in
set_option maxHeartbeats 40000000 in
theorem rm3 (l : Launch) (Z : State) (a0 : Array Value) (hw : ∀ d ∈ tables_1, d.before a0 Z = true) (ws : List Jvm.Cond) (a1 : Addr) (am : Addr) (km : ClassId) (z : Int32) (vs : List Value) (dv : Value) (h0 : Heap) (n0 : Nat) (Z0 : n0 ≤ h0.size) (hm : Fld Z h0 a1 "com/example/authwright/authwright/engine/MessageReader" "message" "[B" (.ref am)) (hp : Fld Z h0 a1 "com/example/authwright/authwright/engine/MessageReader" "position" "I" (.int z)) (hV : Arv Z h0 am km .byte z vs dv) :
    MetFree l (⟨"com/example/authwright/authwright/engine/MessageReader", "expectEnd", "()V"⟩ : MethodName) (head1 (Jvm.Cond.code (⟨"com/example/authwright/authwright/engine/MessageReader", "expectEnd", "()V"⟩ : MethodName) prog_23_method_8_code 1 none :: ws) ({ frames := 0, cells := 0, slots := 0, locals := 0 } : Room)) (fun a U => a = #[(.ref a1)] ∧ Z.Warmed39 U.vm ∧ U.heap = h0) (fun _ _ _ _ _ => True) (fun _ U o U' => ∃ v L, o = .returned v ∧ Q3 Z a1 am km z vs dv h0 n0 v U'.heap L ∧ FrameEnd U o U' L ({ frames := 0, cells := 0, slots := 0, locals := 0 } : Room).cells ({ frames := 0, cells := 0, slots := 0, locals := 0 } : Room).slots) := by
  refine MetFree.of_bodySF pn_3 hisR ?_
  intro p e s m args below meth c s₁ Bd hml0 hP hK
  obtain ⟨rfl, hZ, hh⟩ := hP
  have hx := Bd.exec
  have hby := Bd.bytes
  have hml : c.maxLocals = 1 := hml0
  have hown : s.vm.findClass "com/example/authwright/authwright/engine/MessageReader" = some m.cls := findClass_of_methodNamed Bd.named
  have hnm := (name_of_methodNamed Bd.named Bd.method).1
  have hlk := BodyLoose.notSynchronized Bd
  have X0 : Stand p l e ({ frames := 0, cells := 0, slots := 0, locals := 0 } : Room) s m #[(.ref a1)] below meth c s₁ [] 0 0 := Stand.of_body Bd
  have e0 : s₁.heap = h0 := by rw [← hh, Bd.state]; rfl
  have N0 := Fr.nil n0
  show own_R p e below s (Q3 Z a1 am km z vs dv h0 n0) ({ frames := 0, cells := 0, slots := 0, locals := 0 } : Room).cells ({ frames := 0, cells := 0, slots := 0, locals := 0 } : Room).slots s₁ (entryFrame m #[(.ref a1)] 1)
  refine own_cast (ef_3 m a1) ?_
  show own_R p e below s _ _ _ s₁ (mkF m 0 #[.val (.ref a1)] [])
  have K0 := Keep.refl h0 ([] : List Addr)
  refine own_aloadN X0 hx (hb hby d3_0) rfl rfl ?_
  show own_R p e below s _ _ _ s₁ (mkF m 1 #[.val (.ref a1)] [(.ref a1)])
  refine own_getF X0 hx hZ hown (host := "") (Or.inl (hw _ (List.mem_of_getElem? (i := 17) rfl))) Via.refl e0 hp (hb hby d3_1) ?_
  intro T7 X7 e7
  show own_R p e below s _ _ _ T7 (mkF m 4 #[.val (.ref a1)] [(.int z)])
  refine own_aloadN X7 hx (hb hby d3_4) rfl rfl ?_
  show own_R p e below s _ _ _ T7 (mkF m 5 #[.val (.ref a1)] [(.ref a1), (.int z)])
  refine own_getF X7 hx hZ hown (host := "") (Or.inl (hw _ (List.mem_of_getElem? (i := 10) rfl))) Via.refl e7 hm (hb hby d3_5) ?_
  intro T8 X8 e8
  show own_R p e below s _ _ _ T8 (mkF m 8 #[.val (.ref a1)] [(.ref am), (.int z)])
  refine own_len X8 hx hZ e8 hV (hb hby d3_8) ?_
  show own_R p e below s _ _ _ T8 (mkF m 9 #[.val (.ref a1)] [(.int z), (.int z)])
  refine own_icmp X8 hx (hb hby d3_9) (pc' := 35) (by decide) (by decide) (fun hc => ?_) (fun hc => ?_)
  · have hc9 : z = z := own_eq1 hc
    clear hc
    show own_R p e below s _ _ _ T8 (mkF m 35 #[.val (.ref a1)] [])
    refine own_ret0 X8 hx Bd.returns hlk (hb hby d3_35) ?_ (by decide) (by decide)
    exact ⟨rfl, N0, e8⟩
  · have hc9 : ¬ z = z := own_eq0 hc
    exact absurd rfl hc9
theorem pn_4 : plainFor (⟨"com/example/authwright/authwright/engine/MessageReader", "readBoolean", "()Z"⟩ : MethodName) = true := by decide +kernel
theorem ef_4 (m : MethodId) (a1 : Addr) : entryFrame m #[(.ref a1)] 1 = mkF m 0 #[.val (.ref a1)] [] := by first | (simp [entryFrame, mkF, argsToLocals, Value.category]; done) | rfl
def Q4 (Z : State) (a1 : Addr) (am : Addr) (km : ClassId) (z : Int32) (vs : List Value) (dv : Value) (ps : Int32) (bb : Int32) (h0 : Heap) (n0 : Nat) (v : Option Value) (h : Heap) (L : List Loc) : Prop := ∃ bo : Int32, v = some (.int bo) ∧ Fr n0 L ∧ Keep h0 h [a1] ∧ Exa Z h a1 "com/example/authwright/authwright/engine/MessageReader" ∧ Fld Z h a1 "com/example/authwright/authwright/engine/MessageReader" "message" "[B" (.ref am) ∧ Fld Z h a1 "com/example/authwright/authwright/engine/MessageReader" "position" "I" (.int (ps + (1 : Int32)))
set_option maxRecDepth 65536 in
set_option maxHeartbeats 40000000 in
theorem rm4 (l : Launch) (Z : State) (a0 : Array Value) (hw : ∀ d ∈ tables_1, d.before a0 Z = true) (ws : List Jvm.Cond) (a1 : Addr) (am : Addr) (km : ClassId) (z : Int32) (vs : List Value) (dv : Value) (ps : Int32) (bb : Int32) (h0 : Heap) (n0 : Nat) (Z0 : n0 ≤ h0.size) (hm : Fld Z h0 a1 "com/example/authwright/authwright/engine/MessageReader" "message" "[B" (.ref am)) (hp : Fld Z h0 a1 "com/example/authwright/authwright/engine/MessageReader" "position" "I" (.int ps)) (hV : Arv Z h0 am km .byte z vs dv) (hE : Exa Z h0 a1 "com/example/authwright/authwright/engine/MessageReader") (hn0 : n0 ≤ a1) (hne : a1 ≠ am) (hr : ¬ (z - ps) < (1 : Int32)) (hj : ¬ ps < 0 ∧ ps < z) (hbb : vs.getD ps.toNatClampNeg dv = .int bb) :
    MetFree l (⟨"com/example/authwright/authwright/engine/MessageReader", "readBoolean", "()Z"⟩ : MethodName) (head1 (Jvm.Cond.code (⟨"com/example/authwright/authwright/engine/MessageReader", "readBoolean", "()Z"⟩ : MethodName) prog_23_method_2_code 1 (some .boolean) :: ws) ({ frames := 1, cells := 2, slots := 32, locals := 14 } : Room)) (fun a U => a = #[(.ref a1)] ∧ Z.Warmed39 U.vm ∧ U.heap = h0) (fun _ _ _ _ _ => True) (fun _ U o U' => ∃ v L, o = .returned v ∧ Q4 Z a1 am km z vs dv ps bb h0 n0 v U'.heap L ∧ ReturnedEndW U o U' L ({ frames := 1, cells := 2, slots := 32, locals := 14 } : Room).cells ({ frames := 1, cells := 2, slots := 32, locals := 14 } : Room).slots) := by
  refine MetFree.of_bodySF pn_4 hisR ?_
  intro p e s m args below meth c s₁ Bd hml0 hP hK
  obtain ⟨rfl, hZ, hh⟩ := hP
  have hx := Bd.exec
  have hby := Bd.bytes
  have hml : c.maxLocals = 1 := hml0
  have hown : s.vm.findClass "com/example/authwright/authwright/engine/MessageReader" = some m.cls := findClass_of_methodNamed Bd.named
  have hnm := (name_of_methodNamed Bd.named Bd.method).1
  have hlk := BodyLoose.notSynchronized Bd
  have X0 : Stand p l e ({ frames := 1, cells := 2, slots := 32, locals := 14 } : Room) (s.setVm s.vm) m #[(.ref a1)] below meth c s₁ [] 0 0 := Stand.of_body Bd
  have hS0 : s.Since s.vm 0 := (State.WarmedH.refl s).since 0
  have hk0 : 0 ≤ h0.size := Nat.zero_le _
  have hZ0 : Z.Warmed39 (s.setVm s.vm).vm := hZ
  have hown0 : (s.setVm s.vm).vm.findClass "com/example/authwright/authwright/engine/MessageReader" = some m.cls := hown
  have e0 : s₁.heap = h0 := by rw [← hh, Bd.state]; rfl
  have N0 := Fr.nil n0
  show ows_R p e below s (Q4 Z a1 am km z vs dv ps bb h0 n0) ({ frames := 1, cells := 2, slots := 32, locals := 14 } : Room).cells ({ frames := 1, cells := 2, slots := 32, locals := 14 } : Room).slots s₁ (entryFrame m #[(.ref a1)] 1)
  refine ows_cast (ef_4 m a1) ?_
  show ows_R p e below s _ _ _ s₁ (mkF m 0 #[.val (.ref a1)] [])
  have K0 := Keep.refl h0 ([a1] : List Addr)
  have n0_a1 := hn0
  refine ows_aloadN X0 hx (hb hby d4_0) rfl rfl ?_
  show ows_R p e below s _ _ _ s₁ (mkF m 1 #[.val (.ref a1)] [(.ref a1)])
  refine ows_iconst X0 hx (1 : Int32) (hb hby d4_1) rfl ?_
  show ows_R p e below s _ _ _ s₁ (mkF m 2 #[.val (.ref a1)] [(.int (1 : Int32)), (.ref a1)])
  refine ows_ldcS X0 hx hZ0 hown0 (hw _ (List.mem_of_getElem? (i := 24) rfl)) (strAtoms hw) e0 hS0 hk0 (hb hby d4_2) 28 (by decide) (by decide) (by decide) (by decide) ?_
  intro b9 T9 h9 kk9 X9 e9 E9 hS9 hk9 hZ9 hown9
  have K9 := K0.ext E9
  show ows_R p e below s _ _ _ T9 (mkF m 4 #[.val (.ref a1)] [(.ref b9), (.int (1 : Int32)), (.ref a1)])
  have f10 := (Fld.ext E9 hm)
  have f11 := (Fld.ext E9 hp)
  have f12 := (hV.ext E9)
  have f14 := (Exa.ext E9 hE)
  refine ows_callP X9 hx hZ9 (y := (⟨"com/example/authwright/authwright/engine/MessageReader", "require", "(ILjava/lang/String;)V"⟩ : MethodName)) hown9 (hw _ (List.mem_of_getElem? (i := 31) rfl)) (hw _ (List.mem_of_getElem? (i := 32) rfl)) (hw _ (List.mem_of_getElem? (i := 1) rfl)) (hw _ (List.mem_of_getElem? (i := 33) rfl)) (hw _ (List.mem_of_getElem? (i := 2) rfl)) (hw _ (List.mem_of_getElem? (i := 34) rfl)) (by decide) (rm5 l Z a0 hw [] a1 (1 : Int32) b9 am km z vs dv ps h9 n0 (Nat.le_trans Z0 K9.1) f10 f11 f12 hr) 0 (by decide) (by decide) e9 (by rw [hml]; rfl) a1 f14 [(.int (1 : Int32)), (.ref b9)] [] rfl (lenOf pd_0 rfl) rfl (Nat.le_of_eq rfl) (hb hby d4_4) (by decide) (by decide) ?_
  rintro T13 _ L13 X13 ⟨rfl, N13q, e13⟩
  have N13 := Fr.app N0 N13q
  show ows_R p e below s _ _ _ T13 (mkF m 7 #[.val (.ref a1)] [])
  refine ows_aloadN X13 hx (hb hby d4_7) rfl rfl ?_
  show ows_R p e below s _ _ _ T13 (mkF m 8 #[.val (.ref a1)] [(.ref a1)])
  refine ows_getF X13 hx hZ9 hown9 (host := "") (Or.inl (hw _ (List.mem_of_getElem? (i := 10) rfl))) Via.refl e13 f10 (hb hby d4_8) ?_
  intro T15 X15 e15
  show ows_R p e below s _ _ _ T15 (mkF m 11 #[.val (.ref a1)] [(.ref am)])
  refine ows_aloadN X15 hx (hb hby d4_11) rfl rfl ?_
  show ows_R p e below s _ _ _ T15 (mkF m 12 #[.val (.ref a1)] [(.ref a1), (.ref am)])
  refine ows_dup X15 hx (hb hby d4_12) rfl ?_
  show ows_R p e below s _ _ _ T15 (mkF m 13 #[.val (.ref a1)] [(.ref a1), (.ref a1), (.ref am)])
  refine ows_getF X15 hx hZ9 hown9 (host := "") (Or.inl (hw _ (List.mem_of_getElem? (i := 17) rfl))) Via.refl e15 f11 (hb hby d4_13) ?_
  intro T16 X16 e16
  show ows_R p e below s _ _ _ T16 (mkF m 16 #[.val (.ref a1)] [(.int ps), (.ref a1), (.ref am)])
  refine ows_dup_x1 X16 hx (hb hby d4_16) rfl rfl ?_
  show ows_R p e below s _ _ _ T16 (mkF m 17 #[.val (.ref a1)] [(.int ps), (.ref a1), (.int ps), (.ref am)])
  refine ows_iconst X16 hx (1 : Int32) (hb hby d4_17) rfl ?_
  show ows_R p e below s _ _ _ T16 (mkF m 18 #[.val (.ref a1)] [(.int (1 : Int32)), (.int ps), (.ref a1), (.int ps), (.ref am)])
  refine ows_iadd X16 hx (hb hby d4_18) ?_
  show ows_R p e below s _ _ _ T16 (mkF m 19 #[.val (.ref a1)] [(.int (ps + (1 : Int32))), (.ref a1), (.int ps), (.ref am)])
  refine ows_putF X16 hx hZ9 hown9 (host := "") (Or.inl (hw _ (List.mem_of_getElem? (i := 17) rfl))) Via.refl e16 f11 f14 (Or.inl (hw _ (List.mem_of_getElem? (i := 18) rfl))) (hw _ (List.mem_of_getElem? (i := 1) rfl)) (ty := .int) (by decide) rfl rfl (hb hby d4_19) ?_
  intro T17 h17 X17 e17 W17
  have hk17 := Nat.le_trans hk9 (Keep.of_wr W17).1
  have K17 := K9.wr W17 (Or.inl (List.mem_of_getElem? (i := 0) rfl))
  have N17 := Fr.snoc X17 N13 n0_a1
  have Fw17 := Fld.same W17 f11
  show ows_R p e below s _ _ _ T17 (mkF m 22 #[.val (.ref a1)] [(.int ps), (.ref am)])
  have f18 := (f12.other W17 (Ne.symm hne))
  refine ows_baload X17 hx hZ9 e17 f18 (v := .int bb) hj hbb (hb hby d4_22) ?_
  show ows_R p e below s _ _ _ T17 (mkF m 23 #[.val (.ref a1)] [(.int bb)])
  refine ows_if X17 hx (hb hby d4_23) (pc' := 30) (by decide) (by decide) (fun hc => ?_) (fun hc => ?_)
  · have hc23 : bb = (0 : Int32) := own_eq1 hc
    clear hc
    show ows_R p e below s _ _ _ T17 (mkF m 30 #[.val (.ref a1)] [])
    refine ows_iconst X17 hx (0 : Int32) (hb hby d4_30) rfl ?_
    show ows_R p e below s _ _ _ T17 (mkF m 31 #[.val (.ref a1)] [(.int (0 : Int32))])
    have f19 := (Exa.wr W17 f14)
    have f20 := (Fld.other W17 f10 (Or.inr (slot_ne (Or.inr (hw _ (List.mem_of_getElem? (i := 11) rfl))) (Or.inl (hw _ (List.mem_of_getElem? (i := 18) rfl))) (by decide) (t := (.array .byte)) (t' := .int) (by decide) (by decide))))
    refine ows_retN X17 hS9 (by rw [e17]; exact hk17) hx (t := .boolean) Bd.returns (by simp) hlk (hb hby d4_31) ?_ (by decide) (by decide)
    rw [e17]
    exact ⟨_, rfl, N17, K17, f19, f20, Fw17⟩
  · have hc23 : ¬ bb = (0 : Int32) := own_eq0 hc
    clear hc
    show ows_R p e below s _ _ _ T17 (mkF m 26 #[.val (.ref a1)] [])
    refine ows_iconst X17 hx (1 : Int32) (hb hby d4_26) rfl ?_
    show ows_R p e below s _ _ _ T17 (mkF m 27 #[.val (.ref a1)] [(.int (1 : Int32))])
    refine ows_goto X17 hx (hb hby d4_27) (pc' := 31) (by decide) (by decide) ?_
    show ows_R p e below s _ _ _ T17 (mkF m 31 #[.val (.ref a1)] [(.int (1 : Int32))])
    have f21 := (Exa.wr W17 f14)
    have f22 := (Fld.other W17 f10 (Or.inr (slot_ne (Or.inr (hw _ (List.mem_of_getElem? (i := 11) rfl))) (Or.inl (hw _ (List.mem_of_getElem? (i := 18) rfl))) (by decide) (t := (.array .byte)) (t' := .int) (by decide) (by decide))))
    refine ows_retN X17 hS9 (by rw [e17]; exact hk17) hx (t := .boolean) Bd.returns (by simp) hlk (hb hby d4_31) ?_ (by decide) (by decide)
    rw [e17]
    exact ⟨_, rfl, N17, K17, f21, f22, Fw17⟩
theorem pn_8 : plainFor (⟨"com/example/authwright/authwright/engine/MessageReader", "readUint32", "()J"⟩ : MethodName) = true := by decide +kernel
theorem ef_8 (m : MethodId) (a1 : Addr) : entryFrame m #[(.ref a1)] 4 = mkF m 0 #[.val (.ref a1), .unset, .unset, .unset] [] := by first | (simp [entryFrame, mkF, argsToLocals, Value.category]; done) | rfl
def Q8 (Z : State) (a1 : Addr) (am : Addr) (km : ClassId) (z : Int32) (vs : List Value) (dv : Value) (x0 : Int32) (x1 : Int32) (x2 : Int32) (x3 : Int32) (h0 : Heap) (n0 : Nat) (v : Option Value) (h : Heap) (L : List Loc) : Prop := v = some (.long (pl_u x0 x1 x2 x3)) ∧ Fr n0 L ∧ Keep h0 h [a1] ∧ Exa Z h a1 "com/example/authwright/authwright/engine/MessageReader" ∧ Fld Z h a1 "com/example/authwright/authwright/engine/MessageReader" "message" "[B" (.ref am) ∧ Fld Z h a1 "com/example/authwright/authwright/engine/MessageReader" "position" "I" (.int (4 : Int32))
set_option maxRecDepth 65536 in
set_option maxHeartbeats 40000000 in
theorem rm8 (l : Launch) (Z : State) (a0 : Array Value) (hw : ∀ d ∈ tables_1, d.before a0 Z = true) (ws : List Jvm.Cond) (a1 : Addr) (am : Addr) (km : ClassId) (z : Int32) (vs : List Value) (dv : Value) (x0 : Int32) (x1 : Int32) (x2 : Int32) (x3 : Int32) (h0 : Heap) (n0 : Nat) (Z0 : n0 ≤ h0.size) (hm : Fld Z h0 a1 "com/example/authwright/authwright/engine/MessageReader" "message" "[B" (.ref am)) (hp : Fld Z h0 a1 "com/example/authwright/authwright/engine/MessageReader" "position" "I" (.int (0 : Int32))) (hV : Arv Z h0 am km .byte z vs dv) (hE : Exa Z h0 a1 "com/example/authwright/authwright/engine/MessageReader") (hn0 : n0 ≤ a1) (hne : a1 ≠ am) (hj0 : ¬ (0 : Int32) < 0 ∧ (0 : Int32) < z) (hb0 : vs.getD (0 : Int32).toNatClampNeg dv = .int x0) (hj1 : ¬ (1 : Int32) < 0 ∧ (1 : Int32) < z) (hb1 : vs.getD (1 : Int32).toNatClampNeg dv = .int x1) (hj2 : ¬ (2 : Int32) < 0 ∧ (2 : Int32) < z) (hb2 : vs.getD (2 : Int32).toNatClampNeg dv = .int x2) (hj3 : ¬ (3 : Int32) < 0 ∧ (3 : Int32) < z) (hb3 : vs.getD (3 : Int32).toNatClampNeg dv = .int x3) (hr : ¬ (z - (0 : Int32)) < (4 : Int32)) :
    MetFree l (⟨"com/example/authwright/authwright/engine/MessageReader", "readUint32", "()J"⟩ : MethodName) (head1 (Jvm.Cond.code (⟨"com/example/authwright/authwright/engine/MessageReader", "readUint32", "()J"⟩ : MethodName) prog_23_method_3_code 4 (some .long) :: ws) ({ frames := 1, cells := 2, slots := 28, locals := 14 } : Room)) (fun a U => a = #[(.ref a1)] ∧ Z.Warmed39 U.vm ∧ U.heap = h0) (fun _ _ _ _ _ => True) (fun _ U o U' => ∃ v L, o = .returned v ∧ Q8 Z a1 am km z vs dv x0 x1 x2 x3 h0 n0 v U'.heap L ∧ ReturnedEndW U o U' L ({ frames := 1, cells := 2, slots := 28, locals := 14 } : Room).cells ({ frames := 1, cells := 2, slots := 28, locals := 14 } : Room).slots) := by
  refine MetFree.of_bodySF pn_8 hisR ?_
  intro p e s m args below meth c s₁ Bd hml0 hP hK
  obtain ⟨rfl, hZ, hh⟩ := hP
  have hx := Bd.exec
  have hby := Bd.bytes
  have hml : c.maxLocals = 4 := hml0
  have hown : s.vm.findClass "com/example/authwright/authwright/engine/MessageReader" = some m.cls := findClass_of_methodNamed Bd.named
  have hnm := (name_of_methodNamed Bd.named Bd.method).1
  have hlk := BodyLoose.notSynchronized Bd
  have X0 : Stand p l e ({ frames := 1, cells := 2, slots := 28, locals := 14 } : Room) (s.setVm s.vm) m #[(.ref a1)] below meth c s₁ [] 0 0 := Stand.of_body Bd
  have hS0 : s.Since s.vm 0 := (State.WarmedH.refl s).since 0
  have hk0 : 0 ≤ h0.size := Nat.zero_le _
  have hZ0 : Z.Warmed39 (s.setVm s.vm).vm := hZ
  have hown0 : (s.setVm s.vm).vm.findClass "com/example/authwright/authwright/engine/MessageReader" = some m.cls := hown
  have e0 : s₁.heap = h0 := by rw [← hh, Bd.state]; rfl
  have N0 := Fr.nil n0
  show ows_R p e below s (Q8 Z a1 am km z vs dv x0 x1 x2 x3 h0 n0) ({ frames := 1, cells := 2, slots := 28, locals := 14 } : Room).cells ({ frames := 1, cells := 2, slots := 28, locals := 14 } : Room).slots s₁ (entryFrame m #[(.ref a1)] 4)
  refine ows_cast (ef_8 m a1) ?_
  show ows_R p e below s _ _ _ s₁ (mkF m 0 #[.val (.ref a1), .unset, .unset, .unset] [])
  have K0 := Keep.refl h0 ([a1] : List Addr)
  have n0_a1 := hn0
  refine ows_aloadN X0 hx (hb hby d8_0) rfl rfl ?_
  show ows_R p e below s _ _ _ s₁ (mkF m 1 #[.val (.ref a1), .unset, .unset, .unset] [(.ref a1)])
  refine ows_iconst X0 hx (4 : Int32) (hb hby d8_1) rfl ?_
  show ows_R p e below s _ _ _ s₁ (mkF m 2 #[.val (.ref a1), .unset, .unset, .unset] [(.int (4 : Int32)), (.ref a1)])
  refine ows_ldcS X0 hx hZ0 hown0 (hw _ (List.mem_of_getElem? (i := 49) rfl)) (strAtoms hw) e0 hS0 hk0 (hb hby d8_2) 24 (by decide) (by decide) (by decide) (by decide) ?_
  intro b23 T23 h23 kk23 X23 e23 E23 hS23 hk23 hZ23 hown23
  have K23 := K0.ext E23
  show ows_R p e below s _ _ _ T23 (mkF m 4 #[.val (.ref a1), .unset, .unset, .unset] [(.ref b23), (.int (4 : Int32)), (.ref a1)])
  have f24 := (Fld.ext E23 hm)
  have f25 := (Fld.ext E23 hp)
  have f26 := (hV.ext E23)
  have f28 := (Exa.ext E23 hE)
  refine ows_callP X23 hx hZ23 (y := (⟨"com/example/authwright/authwright/engine/MessageReader", "require", "(ILjava/lang/String;)V"⟩ : MethodName)) hown23 (hw _ (List.mem_of_getElem? (i := 31) rfl)) (hw _ (List.mem_of_getElem? (i := 32) rfl)) (hw _ (List.mem_of_getElem? (i := 1) rfl)) (hw _ (List.mem_of_getElem? (i := 33) rfl)) (hw _ (List.mem_of_getElem? (i := 2) rfl)) (hw _ (List.mem_of_getElem? (i := 34) rfl)) (by decide) (rm5 l Z a0 hw [] a1 (4 : Int32) b23 am km z vs dv (0 : Int32) h23 n0 (Nat.le_trans Z0 K23.1) f24 f25 f26 hr) 0 (by decide) (by decide) e23 (by rw [hml]; rfl) a1 f28 [(.int (4 : Int32)), (.ref b23)] [] rfl (lenOf pd_0 rfl) rfl (Nat.le_of_eq rfl) (hb hby d8_4) (by decide) (by decide) ?_
  rintro T27 _ L27 X27 ⟨rfl, N27q, e27⟩
  have N27 := Fr.app N0 N27q
  show ows_R p e below s _ _ _ T27 (mkF m 7 #[.val (.ref a1), .unset, .unset, .unset] [])
  refine ows_lconst X27 hx (0 : Int64) (hb hby d8_7) rfl ?_
  show ows_R p e below s _ _ _ T27 (mkF m 8 #[.val (.ref a1), .unset, .unset, .unset] [(.long (0 : Int64))])
  refine ows_lstoreN X27 hx (hb hby d8_8) (l' := #[.val (.ref a1), .val (.long (0 : Int64)), .second, .unset]) rfl ?_
  show ows_R p e below s _ _ _ T27 (mkF m 9 #[.val (.ref a1), .val (.long (0 : Int64)), .second, .unset] [])
  refine ows_iconst X27 hx (0 : Int32) (hb hby d8_9) rfl ?_
  show ows_R p e below s _ _ _ T27 (mkF m 10 #[.val (.ref a1), .val (.long (0 : Int64)), .second, .unset] [(.int (0 : Int32))])
  refine ows_istoreN X27 hx (hb hby d8_10) (l' := #[.val (.ref a1), .val (.long (0 : Int64)), .second, .val (.int (0 : Int32))]) rfl ?_
  show ows_R p e below s _ _ _ T27 (mkF m 11 #[.val (.ref a1), .val (.long (0 : Int64)), .second, .val (.int (0 : Int32))] [])
  refine ows_iloadN X27 hx (hb hby d8_11) rfl ?_
  show ows_R p e below s _ _ _ T27 (mkF m 12 #[.val (.ref a1), .val (.long (0 : Int64)), .second, .val (.int (0 : Int32))] [(.int (0 : Int32))])
  refine ows_iconst X27 hx (4 : Int32) (hb hby d8_12) rfl ?_
  show ows_R p e below s _ _ _ T27 (mkF m 13 #[.val (.ref a1), .val (.long (0 : Int64)), .second, .val (.int (0 : Int32))] [(.int (4 : Int32)), (.int (0 : Int32))])
  refine ows_icmp X27 hx (hb hby d8_13) (pc' := 49) (by decide) (by decide) (fun hc => ?_) (fun hc => ?_)
  · have hc13 : ¬ (0 : Int32) < (4 : Int32) := own_ge1 hc
    exact absurd (by decide) hc13
  · have hc13 : (0 : Int32) < (4 : Int32) := own_ge0 hc
    clear hc
    show ows_R p e below s _ _ _ T27 (mkF m 16 #[.val (.ref a1), .val (.long (0 : Int64)), .second, .val (.int (0 : Int32))] [])
    refine ows_lloadN X27 hx (hb hby d8_16) rfl ?_
    show ows_R p e below s _ _ _ T27 (mkF m 17 #[.val (.ref a1), .val (.long (0 : Int64)), .second, .val (.int (0 : Int32))] [(.long (0 : Int64))])
    refine ows_bipush X27 hx (8 : Int32) (hb hby d8_17) rfl ?_
    show ows_R p e below s _ _ _ T27 (mkF m 19 #[.val (.ref a1), .val (.long (0 : Int64)), .second, .val (.int (0 : Int32))] [(.int (8 : Int32)), (.long (0 : Int64))])
    refine ows_lshl X27 hx (hb hby d8_19) ?_
    show ows_R p e below s _ _ _ T27 (mkF m 20 #[.val (.ref a1), .val (.long (0 : Int64)), .second, .val (.int (0 : Int32))] [(.long ((0 : Int64) <<< ((8 : Int32) &&& 0x3f).toInt64))])
    refine ows_aloadN X27 hx (hb hby d8_20) rfl rfl ?_
    show ows_R p e below s _ _ _ T27 (mkF m 21 #[.val (.ref a1), .val (.long (0 : Int64)), .second, .val (.int (0 : Int32))] [(.ref a1), (.long ((0 : Int64) <<< ((8 : Int32) &&& 0x3f).toInt64))])
    refine ows_getF X27 hx hZ23 hown23 (host := "") (Or.inl (hw _ (List.mem_of_getElem? (i := 10) rfl))) Via.refl e27 f24 (hb hby d8_21) ?_
    intro T29 X29 e29
    show ows_R p e below s _ _ _ T29 (mkF m 24 #[.val (.ref a1), .val (.long (0 : Int64)), .second, .val (.int (0 : Int32))] [(.ref am), (.long ((0 : Int64) <<< ((8 : Int32) &&& 0x3f).toInt64))])
    refine ows_aloadN X29 hx (hb hby d8_24) rfl rfl ?_
    show ows_R p e below s _ _ _ T29 (mkF m 25 #[.val (.ref a1), .val (.long (0 : Int64)), .second, .val (.int (0 : Int32))] [(.ref a1), (.ref am), (.long ((0 : Int64) <<< ((8 : Int32) &&& 0x3f).toInt64))])
    refine ows_dup X29 hx (hb hby d8_25) rfl ?_
    show ows_R p e below s _ _ _ T29 (mkF m 26 #[.val (.ref a1), .val (.long (0 : Int64)), .second, .val (.int (0 : Int32))] [(.ref a1), (.ref a1), (.ref am), (.long ((0 : Int64) <<< ((8 : Int32) &&& 0x3f).toInt64))])
    refine ows_getF X29 hx hZ23 hown23 (host := "") (Or.inl (hw _ (List.mem_of_getElem? (i := 17) rfl))) Via.refl e29 f25 (hb hby d8_26) ?_
    intro T30 X30 e30
    show ows_R p e below s _ _ _ T30 (mkF m 29 #[.val (.ref a1), .val (.long (0 : Int64)), .second, .val (.int (0 : Int32))] [(.int (0 : Int32)), (.ref a1), (.ref am), (.long ((0 : Int64) <<< ((8 : Int32) &&& 0x3f).toInt64))])
    refine ows_dup_x1 X30 hx (hb hby d8_29) rfl rfl ?_
    show ows_R p e below s _ _ _ T30 (mkF m 30 #[.val (.ref a1), .val (.long (0 : Int64)), .second, .val (.int (0 : Int32))] [(.int (0 : Int32)), (.ref a1), (.int (0 : Int32)), (.ref am), (.long ((0 : Int64) <<< ((8 : Int32) &&& 0x3f).toInt64))])
    refine ows_iconst X30 hx (1 : Int32) (hb hby d8_30) rfl ?_
    show ows_R p e below s _ _ _ T30 (mkF m 31 #[.val (.ref a1), .val (.long (0 : Int64)), .second, .val (.int (0 : Int32))] [(.int (1 : Int32)), (.int (0 : Int32)), (.ref a1), (.int (0 : Int32)), (.ref am), (.long ((0 : Int64) <<< ((8 : Int32) &&& 0x3f).toInt64))])
    refine ows_iadd X30 hx (hb hby d8_31) ?_
    show ows_R p e below s _ _ _ T30 (mkF m 32 #[.val (.ref a1), .val (.long (0 : Int64)), .second, .val (.int (0 : Int32))] [(.int (1 : Int32)), (.ref a1), (.int (0 : Int32)), (.ref am), (.long ((0 : Int64) <<< ((8 : Int32) &&& 0x3f).toInt64))])
    refine ows_putF X30 hx hZ23 hown23 (host := "") (Or.inl (hw _ (List.mem_of_getElem? (i := 17) rfl))) Via.refl e30 f25 f28 (Or.inl (hw _ (List.mem_of_getElem? (i := 18) rfl))) (hw _ (List.mem_of_getElem? (i := 1) rfl)) (ty := .int) (by decide) rfl rfl (hb hby d8_32) ?_
    intro T31 h31 X31 e31 W31
    have hk31 := Nat.le_trans hk23 (Keep.of_wr W31).1
    have K31 := K23.wr W31 (Or.inl (List.mem_of_getElem? (i := 0) rfl))
    have N31 := Fr.snoc X31 N27 n0_a1
    have Fw31 := Fld.same W31 f25
    show ows_R p e below s _ _ _ T31 (mkF m 35 #[.val (.ref a1), .val (.long (0 : Int64)), .second, .val (.int (0 : Int32))] [(.int (0 : Int32)), (.ref am), (.long ((0 : Int64) <<< ((8 : Int32) &&& 0x3f).toInt64))])
    have f32 := (f26.other W31 (Ne.symm hne))
    refine ows_baload X31 hx hZ23 e31 f32 (v := .int x0) hj0 hb0 (hb hby d8_35) ?_
    show ows_R p e below s _ _ _ T31 (mkF m 36 #[.val (.ref a1), .val (.long (0 : Int64)), .second, .val (.int (0 : Int32))] [(.int x0), (.long ((0 : Int64) <<< ((8 : Int32) &&& 0x3f).toInt64))])
    refine ows_sipush X31 hx (255 : Int32) (hb hby d8_36) rfl ?_
    show ows_R p e below s _ _ _ T31 (mkF m 39 #[.val (.ref a1), .val (.long (0 : Int64)), .second, .val (.int (0 : Int32))] [(.int (255 : Int32)), (.int x0), (.long ((0 : Int64) <<< ((8 : Int32) &&& 0x3f).toInt64))])
    refine ows_iand X31 hx (hb hby d8_39) ?_
    show ows_R p e below s _ _ _ T31 (mkF m 40 #[.val (.ref a1), .val (.long (0 : Int64)), .second, .val (.int (0 : Int32))] [(.int (x0 &&& (255 : Int32))), (.long ((0 : Int64) <<< ((8 : Int32) &&& 0x3f).toInt64))])
    refine ows_i2l X31 hx (hb hby d8_40) ?_
    show ows_R p e below s _ _ _ T31 (mkF m 41 #[.val (.ref a1), .val (.long (0 : Int64)), .second, .val (.int (0 : Int32))] [(.long ((x0 &&& (255 : Int32)).toInt64)), (.long ((0 : Int64) <<< ((8 : Int32) &&& 0x3f).toInt64))])
    refine ows_lor X31 hx (hb hby d8_41) ?_
    show ows_R p e below s _ _ _ T31 (mkF m 42 #[.val (.ref a1), .val (.long (0 : Int64)), .second, .val (.int (0 : Int32))] [(.long (((0 : Int64) <<< ((8 : Int32) &&& 0x3f).toInt64) ||| ((x0 &&& (255 : Int32)).toInt64)))])
    refine ows_lstoreN X31 hx (hb hby d8_42) (l' := #[.val (.ref a1), .val (.long (((0 : Int64) <<< ((8 : Int32) &&& 0x3f).toInt64) ||| ((x0 &&& (255 : Int32)).toInt64))), .second, .val (.int (0 : Int32))]) rfl ?_
    show ows_R p e below s _ _ _ T31 (mkF m 43 #[.val (.ref a1), .val (.long (((0 : Int64) <<< ((8 : Int32) &&& 0x3f).toInt64) ||| ((x0 &&& (255 : Int32)).toInt64))), .second, .val (.int (0 : Int32))] [])
    refine ows_iinc X31 hx (1 : Int32) (hb hby d8_43) rfl rfl (l' := #[.val (.ref a1), .val (.long (((0 : Int64) <<< ((8 : Int32) &&& 0x3f).toInt64) ||| ((x0 &&& (255 : Int32)).toInt64))), .second, .val (.int (1 : Int32))]) rfl ?_
    show ows_R p e below s _ _ _ T31 (mkF m 46 #[.val (.ref a1), .val (.long (((0 : Int64) <<< ((8 : Int32) &&& 0x3f).toInt64) ||| ((x0 &&& (255 : Int32)).toInt64))), .second, .val (.int (1 : Int32))] [])
    refine ows_goto X31 hx (hb hby d8_46) (pc' := 11) (by decide) (by decide) ?_
    show ows_R p e below s _ _ _ T31 (mkF m 11 #[.val (.ref a1), .val (.long (((0 : Int64) <<< ((8 : Int32) &&& 0x3f).toInt64) ||| ((x0 &&& (255 : Int32)).toInt64))), .second, .val (.int (1 : Int32))] [])
    refine ows_iloadN X31 hx (hb hby d8_11) rfl ?_
    show ows_R p e below s _ _ _ T31 (mkF m 12 #[.val (.ref a1), .val (.long (((0 : Int64) <<< ((8 : Int32) &&& 0x3f).toInt64) ||| ((x0 &&& (255 : Int32)).toInt64))), .second, .val (.int (1 : Int32))] [(.int (1 : Int32))])
    refine ows_iconst X31 hx (4 : Int32) (hb hby d8_12) rfl ?_
    show ows_R p e below s _ _ _ T31 (mkF m 13 #[.val (.ref a1), .val (.long (((0 : Int64) <<< ((8 : Int32) &&& 0x3f).toInt64) ||| ((x0 &&& (255 : Int32)).toInt64))), .second, .val (.int (1 : Int32))] [(.int (4 : Int32)), (.int (1 : Int32))])
    refine ows_icmp X31 hx (hb hby d8_13) (pc' := 49) (by decide) (by decide) (fun hc => ?_) (fun hc => ?_)
    · have hc13 : ¬ (1 : Int32) < (4 : Int32) := own_ge1 hc
      exact absurd (by decide) hc13
    · have hc13 : (1 : Int32) < (4 : Int32) := own_ge0 hc
      clear hc
      show ows_R p e below s _ _ _ T31 (mkF m 16 #[.val (.ref a1), .val (.long (((0 : Int64) <<< ((8 : Int32) &&& 0x3f).toInt64) ||| ((x0 &&& (255 : Int32)).toInt64))), .second, .val (.int (1 : Int32))] [])
      refine ows_lloadN X31 hx (hb hby d8_16) rfl ?_
      show ows_R p e below s _ _ _ T31 (mkF m 17 #[.val (.ref a1), .val (.long (((0 : Int64) <<< ((8 : Int32) &&& 0x3f).toInt64) ||| ((x0 &&& (255 : Int32)).toInt64))), .second, .val (.int (1 : Int32))] [(.long (((0 : Int64) <<< ((8 : Int32) &&& 0x3f).toInt64) ||| ((x0 &&& (255 : Int32)).toInt64)))])
      refine ows_bipush X31 hx (8 : Int32) (hb hby d8_17) rfl ?_
      show ows_R p e below s _ _ _ T31 (mkF m 19 #[.val (.ref a1), .val (.long (((0 : Int64) <<< ((8 : Int32) &&& 0x3f).toInt64) ||| ((x0 &&& (255 : Int32)).toInt64))), .second, .val (.int (1 : Int32))] [(.int (8 : Int32)), (.long (((0 : Int64) <<< ((8 : Int32) &&& 0x3f).toInt64) ||| ((x0 &&& (255 : Int32)).toInt64)))])
      refine ows_lshl X31 hx (hb hby d8_19) ?_
      show ows_R p e below s _ _ _ T31 (mkF m 20 #[.val (.ref a1), .val (.long (((0 : Int64) <<< ((8 : Int32) &&& 0x3f).toInt64) ||| ((x0 &&& (255 : Int32)).toInt64))), .second, .val (.int (1 : Int32))] [(.long ((((0 : Int64) <<< ((8 : Int32) &&& 0x3f).toInt64) ||| ((x0 &&& (255 : Int32)).toInt64)) <<< ((8 : Int32) &&& 0x3f).toInt64))])
      refine ows_aloadN X31 hx (hb hby d8_20) rfl rfl ?_
      show ows_R p e below s _ _ _ T31 (mkF m 21 #[.val (.ref a1), .val (.long (((0 : Int64) <<< ((8 : Int32) &&& 0x3f).toInt64) ||| ((x0 &&& (255 : Int32)).toInt64))), .second, .val (.int (1 : Int32))] [(.ref a1), (.long ((((0 : Int64) <<< ((8 : Int32) &&& 0x3f).toInt64) ||| ((x0 &&& (255 : Int32)).toInt64)) <<< ((8 : Int32) &&& 0x3f).toInt64))])
      have f33 := (Fld.other W31 f24 (Or.inr (slot_ne (Or.inr (hw _ (List.mem_of_getElem? (i := 11) rfl))) (Or.inl (hw _ (List.mem_of_getElem? (i := 18) rfl))) (by decide) (t := (.array .byte)) (t' := .int) (by decide) (by decide))))
      refine ows_getF X31 hx hZ23 hown23 (host := "") (Or.inl (hw _ (List.mem_of_getElem? (i := 10) rfl))) Via.refl e31 f33 (hb hby d8_21) ?_
      intro T34 X34 e34
      show ows_R p e below s _ _ _ T34 (mkF m 24 #[.val (.ref a1), .val (.long (((0 : Int64) <<< ((8 : Int32) &&& 0x3f).toInt64) ||| ((x0 &&& (255 : Int32)).toInt64))), .second, .val (.int (1 : Int32))] [(.ref am), (.long ((((0 : Int64) <<< ((8 : Int32) &&& 0x3f).toInt64) ||| ((x0 &&& (255 : Int32)).toInt64)) <<< ((8 : Int32) &&& 0x3f).toInt64))])
      refine ows_aloadN X34 hx (hb hby d8_24) rfl rfl ?_
      show ows_R p e below s _ _ _ T34 (mkF m 25 #[.val (.ref a1), .val (.long (((0 : Int64) <<< ((8 : Int32) &&& 0x3f).toInt64) ||| ((x0 &&& (255 : Int32)).toInt64))), .second, .val (.int (1 : Int32))] [(.ref a1), (.ref am), (.long ((((0 : Int64) <<< ((8 : Int32) &&& 0x3f).toInt64) ||| ((x0 &&& (255 : Int32)).toInt64)) <<< ((8 : Int32) &&& 0x3f).toInt64))])
      refine ows_dup X34 hx (hb hby d8_25) rfl ?_
      show ows_R p e below s _ _ _ T34 (mkF m 26 #[.val (.ref a1), .val (.long (((0 : Int64) <<< ((8 : Int32) &&& 0x3f).toInt64) ||| ((x0 &&& (255 : Int32)).toInt64))), .second, .val (.int (1 : Int32))] [(.ref a1), (.ref a1), (.ref am), (.long ((((0 : Int64) <<< ((8 : Int32) &&& 0x3f).toInt64) ||| ((x0 &&& (255 : Int32)).toInt64)) <<< ((8 : Int32) &&& 0x3f).toInt64))])
      refine ows_getF X34 hx hZ23 hown23 (host := "") (Or.inl (hw _ (List.mem_of_getElem? (i := 17) rfl))) Via.refl e34 Fw31 (hb hby d8_26) ?_
      intro T35 X35 e35
      show ows_R p e below s _ _ _ T35 (mkF m 29 #[.val (.ref a1), .val (.long (((0 : Int64) <<< ((8 : Int32) &&& 0x3f).toInt64) ||| ((x0 &&& (255 : Int32)).toInt64))), .second, .val (.int (1 : Int32))] [(.int (1 : Int32)), (.ref a1), (.ref am), (.long ((((0 : Int64) <<< ((8 : Int32) &&& 0x3f).toInt64) ||| ((x0 &&& (255 : Int32)).toInt64)) <<< ((8 : Int32) &&& 0x3f).toInt64))])
      refine ows_dup_x1 X35 hx (hb hby d8_29) rfl rfl ?_
      show ows_R p e below s _ _ _ T35 (mkF m 30 #[.val (.ref a1), .val (.long (((0 : Int64) <<< ((8 : Int32) &&& 0x3f).toInt64) ||| ((x0 &&& (255 : Int32)).toInt64))), .second, .val (.int (1 : Int32))] [(.int (1 : Int32)), (.ref a1), (.int (1 : Int32)), (.ref am), (.long ((((0 : Int64) <<< ((8 : Int32) &&& 0x3f).toInt64) ||| ((x0 &&& (255 : Int32)).toInt64)) <<< ((8 : Int32) &&& 0x3f).toInt64))])
      refine ows_iconst X35 hx (1 : Int32) (hb hby d8_30) rfl ?_
      show ows_R p e below s _ _ _ T35 (mkF m 31 #[.val (.ref a1), .val (.long (((0 : Int64) <<< ((8 : Int32) &&& 0x3f).toInt64) ||| ((x0 &&& (255 : Int32)).toInt64))), .second, .val (.int (1 : Int32))] [(.int (1 : Int32)), (.int (1 : Int32)), (.ref a1), (.int (1 : Int32)), (.ref am), (.long ((((0 : Int64) <<< ((8 : Int32) &&& 0x3f).toInt64) ||| ((x0 &&& (255 : Int32)).toInt64)) <<< ((8 : Int32) &&& 0x3f).toInt64))])
      refine ows_iadd X35 hx (hb hby d8_31) ?_
      show ows_R p e below s _ _ _ T35 (mkF m 32 #[.val (.ref a1), .val (.long (((0 : Int64) <<< ((8 : Int32) &&& 0x3f).toInt64) ||| ((x0 &&& (255 : Int32)).toInt64))), .second, .val (.int (1 : Int32))] [(.int (2 : Int32)), (.ref a1), (.int (1 : Int32)), (.ref am), (.long ((((0 : Int64) <<< ((8 : Int32) &&& 0x3f).toInt64) ||| ((x0 &&& (255 : Int32)).toInt64)) <<< ((8 : Int32) &&& 0x3f).toInt64))])
      have f36 := (Exa.wr W31 f28)
      refine ows_putF X35 hx hZ23 hown23 (host := "") (Or.inl (hw _ (List.mem_of_getElem? (i := 17) rfl))) Via.refl e35 Fw31 f36 (Or.inl (hw _ (List.mem_of_getElem? (i := 18) rfl))) (hw _ (List.mem_of_getElem? (i := 1) rfl)) (ty := .int) (by decide) rfl rfl (hb hby d8_32) ?_
      intro T37 h37 X37 e37 W37
      have hk37 := Nat.le_trans hk31 (Keep.of_wr W37).1
      have K37 := K31.wr W37 (Or.inl (List.mem_of_getElem? (i := 0) rfl))
      have N37 := Fr.snoc X37 N31 n0_a1
      have Fw37 := Fld.same W37 Fw31
      show ows_R p e below s _ _ _ T37 (mkF m 35 #[.val (.ref a1), .val (.long (((0 : Int64) <<< ((8 : Int32) &&& 0x3f).toInt64) ||| ((x0 &&& (255 : Int32)).toInt64))), .second, .val (.int (1 : Int32))] [(.int (1 : Int32)), (.ref am), (.long ((((0 : Int64) <<< ((8 : Int32) &&& 0x3f).toInt64) ||| ((x0 &&& (255 : Int32)).toInt64)) <<< ((8 : Int32) &&& 0x3f).toInt64))])
      have f38 := (f32.other W37 (Ne.symm hne))
      refine ows_baload X37 hx hZ23 e37 f38 (v := .int x1) hj1 hb1 (hb hby d8_35) ?_
      show ows_R p e below s _ _ _ T37 (mkF m 36 #[.val (.ref a1), .val (.long (((0 : Int64) <<< ((8 : Int32) &&& 0x3f).toInt64) ||| ((x0 &&& (255 : Int32)).toInt64))), .second, .val (.int (1 : Int32))] [(.int x1), (.long ((((0 : Int64) <<< ((8 : Int32) &&& 0x3f).toInt64) ||| ((x0 &&& (255 : Int32)).toInt64)) <<< ((8 : Int32) &&& 0x3f).toInt64))])
      refine ows_sipush X37 hx (255 : Int32) (hb hby d8_36) rfl ?_
      show ows_R p e below s _ _ _ T37 (mkF m 39 #[.val (.ref a1), .val (.long (((0 : Int64) <<< ((8 : Int32) &&& 0x3f).toInt64) ||| ((x0 &&& (255 : Int32)).toInt64))), .second, .val (.int (1 : Int32))] [(.int (255 : Int32)), (.int x1), (.long ((((0 : Int64) <<< ((8 : Int32) &&& 0x3f).toInt64) ||| ((x0 &&& (255 : Int32)).toInt64)) <<< ((8 : Int32) &&& 0x3f).toInt64))])
      refine ows_iand X37 hx (hb hby d8_39) ?_
      show ows_R p e below s _ _ _ T37 (mkF m 40 #[.val (.ref a1), .val (.long (((0 : Int64) <<< ((8 : Int32) &&& 0x3f).toInt64) ||| ((x0 &&& (255 : Int32)).toInt64))), .second, .val (.int (1 : Int32))] [(.int (x1 &&& (255 : Int32))), (.long ((((0 : Int64) <<< ((8 : Int32) &&& 0x3f).toInt64) ||| ((x0 &&& (255 : Int32)).toInt64)) <<< ((8 : Int32) &&& 0x3f).toInt64))])
      refine ows_i2l X37 hx (hb hby d8_40) ?_
      show ows_R p e below s _ _ _ T37 (mkF m 41 #[.val (.ref a1), .val (.long (((0 : Int64) <<< ((8 : Int32) &&& 0x3f).toInt64) ||| ((x0 &&& (255 : Int32)).toInt64))), .second, .val (.int (1 : Int32))] [(.long ((x1 &&& (255 : Int32)).toInt64)), (.long ((((0 : Int64) <<< ((8 : Int32) &&& 0x3f).toInt64) ||| ((x0 &&& (255 : Int32)).toInt64)) <<< ((8 : Int32) &&& 0x3f).toInt64))])
      refine ows_lor X37 hx (hb hby d8_41) ?_
      show ows_R p e below s _ _ _ T37 (mkF m 42 #[.val (.ref a1), .val (.long (((0 : Int64) <<< ((8 : Int32) &&& 0x3f).toInt64) ||| ((x0 &&& (255 : Int32)).toInt64))), .second, .val (.int (1 : Int32))] [(.long (((((0 : Int64) <<< ((8 : Int32) &&& 0x3f).toInt64) ||| ((x0 &&& (255 : Int32)).toInt64)) <<< ((8 : Int32) &&& 0x3f).toInt64) ||| ((x1 &&& (255 : Int32)).toInt64)))])
      refine ows_lstoreN X37 hx (hb hby d8_42) (l' := #[.val (.ref a1), .val (.long (((((0 : Int64) <<< ((8 : Int32) &&& 0x3f).toInt64) ||| ((x0 &&& (255 : Int32)).toInt64)) <<< ((8 : Int32) &&& 0x3f).toInt64) ||| ((x1 &&& (255 : Int32)).toInt64))), .second, .val (.int (1 : Int32))]) rfl ?_
      show ows_R p e below s _ _ _ T37 (mkF m 43 #[.val (.ref a1), .val (.long (((((0 : Int64) <<< ((8 : Int32) &&& 0x3f).toInt64) ||| ((x0 &&& (255 : Int32)).toInt64)) <<< ((8 : Int32) &&& 0x3f).toInt64) ||| ((x1 &&& (255 : Int32)).toInt64))), .second, .val (.int (1 : Int32))] [])
      refine ows_iinc X37 hx (1 : Int32) (hb hby d8_43) rfl rfl (l' := #[.val (.ref a1), .val (.long (((((0 : Int64) <<< ((8 : Int32) &&& 0x3f).toInt64) ||| ((x0 &&& (255 : Int32)).toInt64)) <<< ((8 : Int32) &&& 0x3f).toInt64) ||| ((x1 &&& (255 : Int32)).toInt64))), .second, .val (.int (2 : Int32))]) rfl ?_
      show ows_R p e below s _ _ _ T37 (mkF m 46 #[.val (.ref a1), .val (.long (((((0 : Int64) <<< ((8 : Int32) &&& 0x3f).toInt64) ||| ((x0 &&& (255 : Int32)).toInt64)) <<< ((8 : Int32) &&& 0x3f).toInt64) ||| ((x1 &&& (255 : Int32)).toInt64))), .second, .val (.int (2 : Int32))] [])
      refine ows_goto X37 hx (hb hby d8_46) (pc' := 11) (by decide) (by decide) ?_
      show ows_R p e below s _ _ _ T37 (mkF m 11 #[.val (.ref a1), .val (.long (((((0 : Int64) <<< ((8 : Int32) &&& 0x3f).toInt64) ||| ((x0 &&& (255 : Int32)).toInt64)) <<< ((8 : Int32) &&& 0x3f).toInt64) ||| ((x1 &&& (255 : Int32)).toInt64))), .second, .val (.int (2 : Int32))] [])
      refine ows_iloadN X37 hx (hb hby d8_11) rfl ?_
      show ows_R p e below s _ _ _ T37 (mkF m 12 #[.val (.ref a1), .val (.long (((((0 : Int64) <<< ((8 : Int32) &&& 0x3f).toInt64) ||| ((x0 &&& (255 : Int32)).toInt64)) <<< ((8 : Int32) &&& 0x3f).toInt64) ||| ((x1 &&& (255 : Int32)).toInt64))), .second, .val (.int (2 : Int32))] [(.int (2 : Int32))])
      refine ows_iconst X37 hx (4 : Int32) (hb hby d8_12) rfl ?_
      show ows_R p e below s _ _ _ T37 (mkF m 13 #[.val (.ref a1), .val (.long (((((0 : Int64) <<< ((8 : Int32) &&& 0x3f).toInt64) ||| ((x0 &&& (255 : Int32)).toInt64)) <<< ((8 : Int32) &&& 0x3f).toInt64) ||| ((x1 &&& (255 : Int32)).toInt64))), .second, .val (.int (2 : Int32))] [(.int (4 : Int32)), (.int (2 : Int32))])
      refine ows_icmp X37 hx (hb hby d8_13) (pc' := 49) (by decide) (by decide) (fun hc => ?_) (fun hc => ?_)
      · have hc13 : ¬ (2 : Int32) < (4 : Int32) := own_ge1 hc
        exact absurd (by decide) hc13
      · have hc13 : (2 : Int32) < (4 : Int32) := own_ge0 hc
        clear hc
        show ows_R p e below s _ _ _ T37 (mkF m 16 #[.val (.ref a1), .val (.long (((((0 : Int64) <<< ((8 : Int32) &&& 0x3f).toInt64) ||| ((x0 &&& (255 : Int32)).toInt64)) <<< ((8 : Int32) &&& 0x3f).toInt64) ||| ((x1 &&& (255 : Int32)).toInt64))), .second, .val (.int (2 : Int32))] [])
        refine ows_lloadN X37 hx (hb hby d8_16) rfl ?_
        show ows_R p e below s _ _ _ T37 (mkF m 17 #[.val (.ref a1), .val (.long (((((0 : Int64) <<< ((8 : Int32) &&& 0x3f).toInt64) ||| ((x0 &&& (255 : Int32)).toInt64)) <<< ((8 : Int32) &&& 0x3f).toInt64) ||| ((x1 &&& (255 : Int32)).toInt64))), .second, .val (.int (2 : Int32))] [(.long (((((0 : Int64) <<< ((8 : Int32) &&& 0x3f).toInt64) ||| ((x0 &&& (255 : Int32)).toInt64)) <<< ((8 : Int32) &&& 0x3f).toInt64) ||| ((x1 &&& (255 : Int32)).toInt64)))])
        refine ows_bipush X37 hx (8 : Int32) (hb hby d8_17) rfl ?_
        show ows_R p e below s _ _ _ T37 (mkF m 19 #[.val (.ref a1), .val (.long (((((0 : Int64) <<< ((8 : Int32) &&& 0x3f).toInt64) ||| ((x0 &&& (255 : Int32)).toInt64)) <<< ((8 : Int32) &&& 0x3f).toInt64) ||| ((x1 &&& (255 : Int32)).toInt64))), .second, .val (.int (2 : Int32))] [(.int (8 : Int32)), (.long (((((0 : Int64) <<< ((8 : Int32) &&& 0x3f).toInt64) ||| ((x0 &&& (255 : Int32)).toInt64)) <<< ((8 : Int32) &&& 0x3f).toInt64) ||| ((x1 &&& (255 : Int32)).toInt64)))])
        refine ows_lshl X37 hx (hb hby d8_19) ?_
        show ows_R p e below s _ _ _ T37 (mkF m 20 #[.val (.ref a1), .val (.long (((((0 : Int64) <<< ((8 : Int32) &&& 0x3f).toInt64) ||| ((x0 &&& (255 : Int32)).toInt64)) <<< ((8 : Int32) &&& 0x3f).toInt64) ||| ((x1 &&& (255 : Int32)).toInt64))), .second, .val (.int (2 : Int32))] [(.long ((((((0 : Int64) <<< ((8 : Int32) &&& 0x3f).toInt64) ||| ((x0 &&& (255 : Int32)).toInt64)) <<< ((8 : Int32) &&& 0x3f).toInt64) ||| ((x1 &&& (255 : Int32)).toInt64)) <<< ((8 : Int32) &&& 0x3f).toInt64))])
        refine ows_aloadN X37 hx (hb hby d8_20) rfl rfl ?_
        show ows_R p e below s _ _ _ T37 (mkF m 21 #[.val (.ref a1), .val (.long (((((0 : Int64) <<< ((8 : Int32) &&& 0x3f).toInt64) ||| ((x0 &&& (255 : Int32)).toInt64)) <<< ((8 : Int32) &&& 0x3f).toInt64) ||| ((x1 &&& (255 : Int32)).toInt64))), .second, .val (.int (2 : Int32))] [(.ref a1), (.long ((((((0 : Int64) <<< ((8 : Int32) &&& 0x3f).toInt64) ||| ((x0 &&& (255 : Int32)).toInt64)) <<< ((8 : Int32) &&& 0x3f).toInt64) ||| ((x1 &&& (255 : Int32)).toInt64)) <<< ((8 : Int32) &&& 0x3f).toInt64))])
        have f39 := (Fld.other W37 f33 (Or.inr (slot_ne (Or.inr (hw _ (List.mem_of_getElem? (i := 11) rfl))) (Or.inl (hw _ (List.mem_of_getElem? (i := 18) rfl))) (by decide) (t := (.array .byte)) (t' := .int) (by decide) (by decide))))
        refine ows_getF X37 hx hZ23 hown23 (host := "") (Or.inl (hw _ (List.mem_of_getElem? (i := 10) rfl))) Via.refl e37 f39 (hb hby d8_21) ?_
        intro T40 X40 e40
        show ows_R p e below s _ _ _ T40 (mkF m 24 #[.val (.ref a1), .val (.long (((((0 : Int64) <<< ((8 : Int32) &&& 0x3f).toInt64) ||| ((x0 &&& (255 : Int32)).toInt64)) <<< ((8 : Int32) &&& 0x3f).toInt64) ||| ((x1 &&& (255 : Int32)).toInt64))), .second, .val (.int (2 : Int32))] [(.ref am), (.long ((((((0 : Int64) <<< ((8 : Int32) &&& 0x3f).toInt64) ||| ((x0 &&& (255 : Int32)).toInt64)) <<< ((8 : Int32) &&& 0x3f).toInt64) ||| ((x1 &&& (255 : Int32)).toInt64)) <<< ((8 : Int32) &&& 0x3f).toInt64))])
        refine ows_aloadN X40 hx (hb hby d8_24) rfl rfl ?_
        show ows_R p e below s _ _ _ T40 (mkF m 25 #[.val (.ref a1), .val (.long (((((0 : Int64) <<< ((8 : Int32) &&& 0x3f).toInt64) ||| ((x0 &&& (255 : Int32)).toInt64)) <<< ((8 : Int32) &&& 0x3f).toInt64) ||| ((x1 &&& (255 : Int32)).toInt64))), .second, .val (.int (2 : Int32))] [(.ref a1), (.ref am), (.long ((((((0 : Int64) <<< ((8 : Int32) &&& 0x3f).toInt64) ||| ((x0 &&& (255 : Int32)).toInt64)) <<< ((8 : Int32) &&& 0x3f).toInt64) ||| ((x1 &&& (255 : Int32)).toInt64)) <<< ((8 : Int32) &&& 0x3f).toInt64))])
        refine ows_dup X40 hx (hb hby d8_25) rfl ?_
        show ows_R p e below s _ _ _ T40 (mkF m 26 #[.val (.ref a1), .val (.long (((((0 : Int64) <<< ((8 : Int32) &&& 0x3f).toInt64) ||| ((x0 &&& (255 : Int32)).toInt64)) <<< ((8 : Int32) &&& 0x3f).toInt64) ||| ((x1 &&& (255 : Int32)).toInt64))), .second, .val (.int (2 : Int32))] [(.ref a1), (.ref a1), (.ref am), (.long ((((((0 : Int64) <<< ((8 : Int32) &&& 0x3f).toInt64) ||| ((x0 &&& (255 : Int32)).toInt64)) <<< ((8 : Int32) &&& 0x3f).toInt64) ||| ((x1 &&& (255 : Int32)).toInt64)) <<< ((8 : Int32) &&& 0x3f).toInt64))])
        refine ows_getF X40 hx hZ23 hown23 (host := "") (Or.inl (hw _ (List.mem_of_getElem? (i := 17) rfl))) Via.refl e40 Fw37 (hb hby d8_26) ?_
        intro T41 X41 e41
        show ows_R p e below s _ _ _ T41 (mkF m 29 #[.val (.ref a1), .val (.long (((((0 : Int64) <<< ((8 : Int32) &&& 0x3f).toInt64) ||| ((x0 &&& (255 : Int32)).toInt64)) <<< ((8 : Int32) &&& 0x3f).toInt64) ||| ((x1 &&& (255 : Int32)).toInt64))), .second, .val (.int (2 : Int32))] [(.int (2 : Int32)), (.ref a1), (.ref am), (.long ((((((0 : Int64) <<< ((8 : Int32) &&& 0x3f).toInt64) ||| ((x0 &&& (255 : Int32)).toInt64)) <<< ((8 : Int32) &&& 0x3f).toInt64) ||| ((x1 &&& (255 : Int32)).toInt64)) <<< ((8 : Int32) &&& 0x3f).toInt64))])
        refine ows_dup_x1 X41 hx (hb hby d8_29) rfl rfl ?_
        show ows_R p e below s _ _ _ T41 (mkF m 30 #[.val (.ref a1), .val (.long (((((0 : Int64) <<< ((8 : Int32) &&& 0x3f).toInt64) ||| ((x0 &&& (255 : Int32)).toInt64)) <<< ((8 : Int32) &&& 0x3f).toInt64) ||| ((x1 &&& (255 : Int32)).toInt64))), .second, .val (.int (2 : Int32))] [(.int (2 : Int32)), (.ref a1), (.int (2 : Int32)), (.ref am), (.long ((((((0 : Int64) <<< ((8 : Int32) &&& 0x3f).toInt64) ||| ((x0 &&& (255 : Int32)).toInt64)) <<< ((8 : Int32) &&& 0x3f).toInt64) ||| ((x1 &&& (255 : Int32)).toInt64)) <<< ((8 : Int32) &&& 0x3f).toInt64))])
        refine ows_iconst X41 hx (1 : Int32) (hb hby d8_30) rfl ?_
        show ows_R p e below s _ _ _ T41 (mkF m 31 #[.val (.ref a1), .val (.long (((((0 : Int64) <<< ((8 : Int32) &&& 0x3f).toInt64) ||| ((x0 &&& (255 : Int32)).toInt64)) <<< ((8 : Int32) &&& 0x3f).toInt64) ||| ((x1 &&& (255 : Int32)).toInt64))), .second, .val (.int (2 : Int32))] [(.int (1 : Int32)), (.int (2 : Int32)), (.ref a1), (.int (2 : Int32)), (.ref am), (.long ((((((0 : Int64) <<< ((8 : Int32) &&& 0x3f).toInt64) ||| ((x0 &&& (255 : Int32)).toInt64)) <<< ((8 : Int32) &&& 0x3f).toInt64) ||| ((x1 &&& (255 : Int32)).toInt64)) <<< ((8 : Int32) &&& 0x3f).toInt64))])
        refine ows_iadd X41 hx (hb hby d8_31) ?_
        show ows_R p e below s _ _ _ T41 (mkF m 32 #[.val (.ref a1), .val (.long (((((0 : Int64) <<< ((8 : Int32) &&& 0x3f).toInt64) ||| ((x0 &&& (255 : Int32)).toInt64)) <<< ((8 : Int32) &&& 0x3f).toInt64) ||| ((x1 &&& (255 : Int32)).toInt64))), .second, .val (.int (2 : Int32))] [(.int (3 : Int32)), (.ref a1), (.int (2 : Int32)), (.ref am), (.long ((((((0 : Int64) <<< ((8 : Int32) &&& 0x3f).toInt64) ||| ((x0 &&& (255 : Int32)).toInt64)) <<< ((8 : Int32) &&& 0x3f).toInt64) ||| ((x1 &&& (255 : Int32)).toInt64)) <<< ((8 : Int32) &&& 0x3f).toInt64))])
        have f42 := (Exa.wr W37 f36)
        refine ows_putF X41 hx hZ23 hown23 (host := "") (Or.inl (hw _ (List.mem_of_getElem? (i := 17) rfl))) Via.refl e41 Fw37 f42 (Or.inl (hw _ (List.mem_of_getElem? (i := 18) rfl))) (hw _ (List.mem_of_getElem? (i := 1) rfl)) (ty := .int) (by decide) rfl rfl (hb hby d8_32) ?_
        intro T43 h43 X43 e43 W43
        have hk43 := Nat.le_trans hk37 (Keep.of_wr W43).1
        have K43 := K37.wr W43 (Or.inl (List.mem_of_getElem? (i := 0) rfl))
        have N43 := Fr.snoc X43 N37 n0_a1
        have Fw43 := Fld.same W43 Fw37
        show ows_R p e below s _ _ _ T43 (mkF m 35 #[.val (.ref a1), .val (.long (((((0 : Int64) <<< ((8 : Int32) &&& 0x3f).toInt64) ||| ((x0 &&& (255 : Int32)).toInt64)) <<< ((8 : Int32) &&& 0x3f).toInt64) ||| ((x1 &&& (255 : Int32)).toInt64))), .second, .val (.int (2 : Int32))] [(.int (2 : Int32)), (.ref am), (.long ((((((0 : Int64) <<< ((8 : Int32) &&& 0x3f).toInt64) ||| ((x0 &&& (255 : Int32)).toInt64)) <<< ((8 : Int32) &&& 0x3f).toInt64) ||| ((x1 &&& (255 : Int32)).toInt64)) <<< ((8 : Int32) &&& 0x3f).toInt64))])
        have f44 := (f38.other W43 (Ne.symm hne))
        refine ows_baload X43 hx hZ23 e43 f44 (v := .int x2) hj2 hb2 (hb hby d8_35) ?_
        show ows_R p e below s _ _ _ T43 (mkF m 36 #[.val (.ref a1), .val (.long (((((0 : Int64) <<< ((8 : Int32) &&& 0x3f).toInt64) ||| ((x0 &&& (255 : Int32)).toInt64)) <<< ((8 : Int32) &&& 0x3f).toInt64) ||| ((x1 &&& (255 : Int32)).toInt64))), .second, .val (.int (2 : Int32))] [(.int x2), (.long ((((((0 : Int64) <<< ((8 : Int32) &&& 0x3f).toInt64) ||| ((x0 &&& (255 : Int32)).toInt64)) <<< ((8 : Int32) &&& 0x3f).toInt64) ||| ((x1 &&& (255 : Int32)).toInt64)) <<< ((8 : Int32) &&& 0x3f).toInt64))])
        refine ows_sipush X43 hx (255 : Int32) (hb hby d8_36) rfl ?_
        show ows_R p e below s _ _ _ T43 (mkF m 39 #[.val (.ref a1), .val (.long (((((0 : Int64) <<< ((8 : Int32) &&& 0x3f).toInt64) ||| ((x0 &&& (255 : Int32)).toInt64)) <<< ((8 : Int32) &&& 0x3f).toInt64) ||| ((x1 &&& (255 : Int32)).toInt64))), .second, .val (.int (2 : Int32))] [(.int (255 : Int32)), (.int x2), (.long ((((((0 : Int64) <<< ((8 : Int32) &&& 0x3f).toInt64) ||| ((x0 &&& (255 : Int32)).toInt64)) <<< ((8 : Int32) &&& 0x3f).toInt64) ||| ((x1 &&& (255 : Int32)).toInt64)) <<< ((8 : Int32) &&& 0x3f).toInt64))])
        refine ows_iand X43 hx (hb hby d8_39) ?_
        show ows_R p e below s _ _ _ T43 (mkF m 40 #[.val (.ref a1), .val (.long (((((0 : Int64) <<< ((8 : Int32) &&& 0x3f).toInt64) ||| ((x0 &&& (255 : Int32)).toInt64)) <<< ((8 : Int32) &&& 0x3f).toInt64) ||| ((x1 &&& (255 : Int32)).toInt64))), .second, .val (.int (2 : Int32))] [(.int (x2 &&& (255 : Int32))), (.long ((((((0 : Int64) <<< ((8 : Int32) &&& 0x3f).toInt64) ||| ((x0 &&& (255 : Int32)).toInt64)) <<< ((8 : Int32) &&& 0x3f).toInt64) ||| ((x1 &&& (255 : Int32)).toInt64)) <<< ((8 : Int32) &&& 0x3f).toInt64))])
        refine ows_i2l X43 hx (hb hby d8_40) ?_
        show ows_R p e below s _ _ _ T43 (mkF m 41 #[.val (.ref a1), .val (.long (((((0 : Int64) <<< ((8 : Int32) &&& 0x3f).toInt64) ||| ((x0 &&& (255 : Int32)).toInt64)) <<< ((8 : Int32) &&& 0x3f).toInt64) ||| ((x1 &&& (255 : Int32)).toInt64))), .second, .val (.int (2 : Int32))] [(.long ((x2 &&& (255 : Int32)).toInt64)), (.long ((((((0 : Int64) <<< ((8 : Int32) &&& 0x3f).toInt64) ||| ((x0 &&& (255 : Int32)).toInt64)) <<< ((8 : Int32) &&& 0x3f).toInt64) ||| ((x1 &&& (255 : Int32)).toInt64)) <<< ((8 : Int32) &&& 0x3f).toInt64))])
        refine ows_lor X43 hx (hb hby d8_41) ?_
        show ows_R p e below s _ _ _ T43 (mkF m 42 #[.val (.ref a1), .val (.long (((((0 : Int64) <<< ((8 : Int32) &&& 0x3f).toInt64) ||| ((x0 &&& (255 : Int32)).toInt64)) <<< ((8 : Int32) &&& 0x3f).toInt64) ||| ((x1 &&& (255 : Int32)).toInt64))), .second, .val (.int (2 : Int32))] [(.long (((((((0 : Int64) <<< ((8 : Int32) &&& 0x3f).toInt64) ||| ((x0 &&& (255 : Int32)).toInt64)) <<< ((8 : Int32) &&& 0x3f).toInt64) ||| ((x1 &&& (255 : Int32)).toInt64)) <<< ((8 : Int32) &&& 0x3f).toInt64) ||| ((x2 &&& (255 : Int32)).toInt64)))])
        refine ows_lstoreN X43 hx (hb hby d8_42) (l' := #[.val (.ref a1), .val (.long (((((((0 : Int64) <<< ((8 : Int32) &&& 0x3f).toInt64) ||| ((x0 &&& (255 : Int32)).toInt64)) <<< ((8 : Int32) &&& 0x3f).toInt64) ||| ((x1 &&& (255 : Int32)).toInt64)) <<< ((8 : Int32) &&& 0x3f).toInt64) ||| ((x2 &&& (255 : Int32)).toInt64))), .second, .val (.int (2 : Int32))]) rfl ?_
        show ows_R p e below s _ _ _ T43 (mkF m 43 #[.val (.ref a1), .val (.long (((((((0 : Int64) <<< ((8 : Int32) &&& 0x3f).toInt64) ||| ((x0 &&& (255 : Int32)).toInt64)) <<< ((8 : Int32) &&& 0x3f).toInt64) ||| ((x1 &&& (255 : Int32)).toInt64)) <<< ((8 : Int32) &&& 0x3f).toInt64) ||| ((x2 &&& (255 : Int32)).toInt64))), .second, .val (.int (2 : Int32))] [])
        refine ows_iinc X43 hx (1 : Int32) (hb hby d8_43) rfl rfl (l' := #[.val (.ref a1), .val (.long (((((((0 : Int64) <<< ((8 : Int32) &&& 0x3f).toInt64) ||| ((x0 &&& (255 : Int32)).toInt64)) <<< ((8 : Int32) &&& 0x3f).toInt64) ||| ((x1 &&& (255 : Int32)).toInt64)) <<< ((8 : Int32) &&& 0x3f).toInt64) ||| ((x2 &&& (255 : Int32)).toInt64))), .second, .val (.int (3 : Int32))]) rfl ?_
        show ows_R p e below s _ _ _ T43 (mkF m 46 #[.val (.ref a1), .val (.long (((((((0 : Int64) <<< ((8 : Int32) &&& 0x3f).toInt64) ||| ((x0 &&& (255 : Int32)).toInt64)) <<< ((8 : Int32) &&& 0x3f).toInt64) ||| ((x1 &&& (255 : Int32)).toInt64)) <<< ((8 : Int32) &&& 0x3f).toInt64) ||| ((x2 &&& (255 : Int32)).toInt64))), .second, .val (.int (3 : Int32))] [])
        refine ows_goto X43 hx (hb hby d8_46) (pc' := 11) (by decide) (by decide) ?_
        show ows_R p e below s _ _ _ T43 (mkF m 11 #[.val (.ref a1), .val (.long (((((((0 : Int64) <<< ((8 : Int32) &&& 0x3f).toInt64) ||| ((x0 &&& (255 : Int32)).toInt64)) <<< ((8 : Int32) &&& 0x3f).toInt64) ||| ((x1 &&& (255 : Int32)).toInt64)) <<< ((8 : Int32) &&& 0x3f).toInt64) ||| ((x2 &&& (255 : Int32)).toInt64))), .second, .val (.int (3 : Int32))] [])
        refine ows_iloadN X43 hx (hb hby d8_11) rfl ?_
        show ows_R p e below s _ _ _ T43 (mkF m 12 #[.val (.ref a1), .val (.long (((((((0 : Int64) <<< ((8 : Int32) &&& 0x3f).toInt64) ||| ((x0 &&& (255 : Int32)).toInt64)) <<< ((8 : Int32) &&& 0x3f).toInt64) ||| ((x1 &&& (255 : Int32)).toInt64)) <<< ((8 : Int32) &&& 0x3f).toInt64) ||| ((x2 &&& (255 : Int32)).toInt64))), .second, .val (.int (3 : Int32))] [(.int (3 : Int32))])
        refine ows_iconst X43 hx (4 : Int32) (hb hby d8_12) rfl ?_
        show ows_R p e below s _ _ _ T43 (mkF m 13 #[.val (.ref a1), .val (.long (((((((0 : Int64) <<< ((8 : Int32) &&& 0x3f).toInt64) ||| ((x0 &&& (255 : Int32)).toInt64)) <<< ((8 : Int32) &&& 0x3f).toInt64) ||| ((x1 &&& (255 : Int32)).toInt64)) <<< ((8 : Int32) &&& 0x3f).toInt64) ||| ((x2 &&& (255 : Int32)).toInt64))), .second, .val (.int (3 : Int32))] [(.int (4 : Int32)), (.int (3 : Int32))])
        refine ows_icmp X43 hx (hb hby d8_13) (pc' := 49) (by decide) (by decide) (fun hc => ?_) (fun hc => ?_)
        · have hc13 : ¬ (3 : Int32) < (4 : Int32) := own_ge1 hc
          exact absurd (by decide) hc13
        · have hc13 : (3 : Int32) < (4 : Int32) := own_ge0 hc
          clear hc
          show ows_R p e below s _ _ _ T43 (mkF m 16 #[.val (.ref a1), .val (.long (((((((0 : Int64) <<< ((8 : Int32) &&& 0x3f).toInt64) ||| ((x0 &&& (255 : Int32)).toInt64)) <<< ((8 : Int32) &&& 0x3f).toInt64) ||| ((x1 &&& (255 : Int32)).toInt64)) <<< ((8 : Int32) &&& 0x3f).toInt64) ||| ((x2 &&& (255 : Int32)).toInt64))), .second, .val (.int (3 : Int32))] [])
          refine ows_lloadN X43 hx (hb hby d8_16) rfl ?_
          show ows_R p e below s _ _ _ T43 (mkF m 17 #[.val (.ref a1), .val (.long (((((((0 : Int64) <<< ((8 : Int32) &&& 0x3f).toInt64) ||| ((x0 &&& (255 : Int32)).toInt64)) <<< ((8 : Int32) &&& 0x3f).toInt64) ||| ((x1 &&& (255 : Int32)).toInt64)) <<< ((8 : Int32) &&& 0x3f).toInt64) ||| ((x2 &&& (255 : Int32)).toInt64))), .second, .val (.int (3 : Int32))] [(.long (((((((0 : Int64) <<< ((8 : Int32) &&& 0x3f).toInt64) ||| ((x0 &&& (255 : Int32)).toInt64)) <<< ((8 : Int32) &&& 0x3f).toInt64) ||| ((x1 &&& (255 : Int32)).toInt64)) <<< ((8 : Int32) &&& 0x3f).toInt64) ||| ((x2 &&& (255 : Int32)).toInt64)))])
          refine ows_bipush X43 hx (8 : Int32) (hb hby d8_17) rfl ?_
          show ows_R p e below s _ _ _ T43 (mkF m 19 #[.val (.ref a1), .val (.long (((((((0 : Int64) <<< ((8 : Int32) &&& 0x3f).toInt64) ||| ((x0 &&& (255 : Int32)).toInt64)) <<< ((8 : Int32) &&& 0x3f).toInt64) ||| ((x1 &&& (255 : Int32)).toInt64)) <<< ((8 : Int32) &&& 0x3f).toInt64) ||| ((x2 &&& (255 : Int32)).toInt64))), .second, .val (.int (3 : Int32))] [(.int (8 : Int32)), (.long (((((((0 : Int64) <<< ((8 : Int32) &&& 0x3f).toInt64) ||| ((x0 &&& (255 : Int32)).toInt64)) <<< ((8 : Int32) &&& 0x3f).toInt64) ||| ((x1 &&& (255 : Int32)).toInt64)) <<< ((8 : Int32) &&& 0x3f).toInt64) ||| ((x2 &&& (255 : Int32)).toInt64)))])
          refine ows_lshl X43 hx (hb hby d8_19) ?_
          show ows_R p e below s _ _ _ T43 (mkF m 20 #[.val (.ref a1), .val (.long (((((((0 : Int64) <<< ((8 : Int32) &&& 0x3f).toInt64) ||| ((x0 &&& (255 : Int32)).toInt64)) <<< ((8 : Int32) &&& 0x3f).toInt64) ||| ((x1 &&& (255 : Int32)).toInt64)) <<< ((8 : Int32) &&& 0x3f).toInt64) ||| ((x2 &&& (255 : Int32)).toInt64))), .second, .val (.int (3 : Int32))] [(.long ((((((((0 : Int64) <<< ((8 : Int32) &&& 0x3f).toInt64) ||| ((x0 &&& (255 : Int32)).toInt64)) <<< ((8 : Int32) &&& 0x3f).toInt64) ||| ((x1 &&& (255 : Int32)).toInt64)) <<< ((8 : Int32) &&& 0x3f).toInt64) ||| ((x2 &&& (255 : Int32)).toInt64)) <<< ((8 : Int32) &&& 0x3f).toInt64))])
          refine ows_aloadN X43 hx (hb hby d8_20) rfl rfl ?_
          show ows_R p e below s _ _ _ T43 (mkF m 21 #[.val (.ref a1), .val (.long (((((((0 : Int64) <<< ((8 : Int32) &&& 0x3f).toInt64) ||| ((x0 &&& (255 : Int32)).toInt64)) <<< ((8 : Int32) &&& 0x3f).toInt64) ||| ((x1 &&& (255 : Int32)).toInt64)) <<< ((8 : Int32) &&& 0x3f).toInt64) ||| ((x2 &&& (255 : Int32)).toInt64))), .second, .val (.int (3 : Int32))] [(.ref a1), (.long ((((((((0 : Int64) <<< ((8 : Int32) &&& 0x3f).toInt64) ||| ((x0 &&& (255 : Int32)).toInt64)) <<< ((8 : Int32) &&& 0x3f).toInt64) ||| ((x1 &&& (255 : Int32)).toInt64)) <<< ((8 : Int32) &&& 0x3f).toInt64) ||| ((x2 &&& (255 : Int32)).toInt64)) <<< ((8 : Int32) &&& 0x3f).toInt64))])
          have f45 := (Fld.other W43 f39 (Or.inr (slot_ne (Or.inr (hw _ (List.mem_of_getElem? (i := 11) rfl))) (Or.inl (hw _ (List.mem_of_getElem? (i := 18) rfl))) (by decide) (t := (.array .byte)) (t' := .int) (by decide) (by decide))))
          refine ows_getF X43 hx hZ23 hown23 (host := "") (Or.inl (hw _ (List.mem_of_getElem? (i := 10) rfl))) Via.refl e43 f45 (hb hby d8_21) ?_
          intro T46 X46 e46
          show ows_R p e below s _ _ _ T46 (mkF m 24 #[.val (.ref a1), .val (.long (((((((0 : Int64) <<< ((8 : Int32) &&& 0x3f).toInt64) ||| ((x0 &&& (255 : Int32)).toInt64)) <<< ((8 : Int32) &&& 0x3f).toInt64) ||| ((x1 &&& (255 : Int32)).toInt64)) <<< ((8 : Int32) &&& 0x3f).toInt64) ||| ((x2 &&& (255 : Int32)).toInt64))), .second, .val (.int (3 : Int32))] [(.ref am), (.long ((((((((0 : Int64) <<< ((8 : Int32) &&& 0x3f).toInt64) ||| ((x0 &&& (255 : Int32)).toInt64)) <<< ((8 : Int32) &&& 0x3f).toInt64) ||| ((x1 &&& (255 : Int32)).toInt64)) <<< ((8 : Int32) &&& 0x3f).toInt64) ||| ((x2 &&& (255 : Int32)).toInt64)) <<< ((8 : Int32) &&& 0x3f).toInt64))])
          refine ows_aloadN X46 hx (hb hby d8_24) rfl rfl ?_
          show ows_R p e below s _ _ _ T46 (mkF m 25 #[.val (.ref a1), .val (.long (((((((0 : Int64) <<< ((8 : Int32) &&& 0x3f).toInt64) ||| ((x0 &&& (255 : Int32)).toInt64)) <<< ((8 : Int32) &&& 0x3f).toInt64) ||| ((x1 &&& (255 : Int32)).toInt64)) <<< ((8 : Int32) &&& 0x3f).toInt64) ||| ((x2 &&& (255 : Int32)).toInt64))), .second, .val (.int (3 : Int32))] [(.ref a1), (.ref am), (.long ((((((((0 : Int64) <<< ((8 : Int32) &&& 0x3f).toInt64) ||| ((x0 &&& (255 : Int32)).toInt64)) <<< ((8 : Int32) &&& 0x3f).toInt64) ||| ((x1 &&& (255 : Int32)).toInt64)) <<< ((8 : Int32) &&& 0x3f).toInt64) ||| ((x2 &&& (255 : Int32)).toInt64)) <<< ((8 : Int32) &&& 0x3f).toInt64))])
          refine ows_dup X46 hx (hb hby d8_25) rfl ?_
          show ows_R p e below s _ _ _ T46 (mkF m 26 #[.val (.ref a1), .val (.long (((((((0 : Int64) <<< ((8 : Int32) &&& 0x3f).toInt64) ||| ((x0 &&& (255 : Int32)).toInt64)) <<< ((8 : Int32) &&& 0x3f).toInt64) ||| ((x1 &&& (255 : Int32)).toInt64)) <<< ((8 : Int32) &&& 0x3f).toInt64) ||| ((x2 &&& (255 : Int32)).toInt64))), .second, .val (.int (3 : Int32))] [(.ref a1), (.ref a1), (.ref am), (.long ((((((((0 : Int64) <<< ((8 : Int32) &&& 0x3f).toInt64) ||| ((x0 &&& (255 : Int32)).toInt64)) <<< ((8 : Int32) &&& 0x3f).toInt64) ||| ((x1 &&& (255 : Int32)).toInt64)) <<< ((8 : Int32) &&& 0x3f).toInt64) ||| ((x2 &&& (255 : Int32)).toInt64)) <<< ((8 : Int32) &&& 0x3f).toInt64))])
          refine ows_getF X46 hx hZ23 hown23 (host := "") (Or.inl (hw _ (List.mem_of_getElem? (i := 17) rfl))) Via.refl e46 Fw43 (hb hby d8_26) ?_
          intro T47 X47 e47
          show ows_R p e below s _ _ _ T47 (mkF m 29 #[.val (.ref a1), .val (.long (((((((0 : Int64) <<< ((8 : Int32) &&& 0x3f).toInt64) ||| ((x0 &&& (255 : Int32)).toInt64)) <<< ((8 : Int32) &&& 0x3f).toInt64) ||| ((x1 &&& (255 : Int32)).toInt64)) <<< ((8 : Int32) &&& 0x3f).toInt64) ||| ((x2 &&& (255 : Int32)).toInt64))), .second, .val (.int (3 : Int32))] [(.int (3 : Int32)), (.ref a1), (.ref am), (.long ((((((((0 : Int64) <<< ((8 : Int32) &&& 0x3f).toInt64) ||| ((x0 &&& (255 : Int32)).toInt64)) <<< ((8 : Int32) &&& 0x3f).toInt64) ||| ((x1 &&& (255 : Int32)).toInt64)) <<< ((8 : Int32) &&& 0x3f).toInt64) ||| ((x2 &&& (255 : Int32)).toInt64)) <<< ((8 : Int32) &&& 0x3f).toInt64))])
          refine ows_dup_x1 X47 hx (hb hby d8_29) rfl rfl ?_
          show ows_R p e below s _ _ _ T47 (mkF m 30 #[.val (.ref a1), .val (.long (((((((0 : Int64) <<< ((8 : Int32) &&& 0x3f).toInt64) ||| ((x0 &&& (255 : Int32)).toInt64)) <<< ((8 : Int32) &&& 0x3f).toInt64) ||| ((x1 &&& (255 : Int32)).toInt64)) <<< ((8 : Int32) &&& 0x3f).toInt64) ||| ((x2 &&& (255 : Int32)).toInt64))), .second, .val (.int (3 : Int32))] [(.int (3 : Int32)), (.ref a1), (.int (3 : Int32)), (.ref am), (.long ((((((((0 : Int64) <<< ((8 : Int32) &&& 0x3f).toInt64) ||| ((x0 &&& (255 : Int32)).toInt64)) <<< ((8 : Int32) &&& 0x3f).toInt64) ||| ((x1 &&& (255 : Int32)).toInt64)) <<< ((8 : Int32) &&& 0x3f).toInt64) ||| ((x2 &&& (255 : Int32)).toInt64)) <<< ((8 : Int32) &&& 0x3f).toInt64))])
          refine ows_iconst X47 hx (1 : Int32) (hb hby d8_30) rfl ?_
          show ows_R p e below s _ _ _ T47 (mkF m 31 #[.val (.ref a1), .val (.long (((((((0 : Int64) <<< ((8 : Int32) &&& 0x3f).toInt64) ||| ((x0 &&& (255 : Int32)).toInt64)) <<< ((8 : Int32) &&& 0x3f).toInt64) ||| ((x1 &&& (255 : Int32)).toInt64)) <<< ((8 : Int32) &&& 0x3f).toInt64) ||| ((x2 &&& (255 : Int32)).toInt64))), .second, .val (.int (3 : Int32))] [(.int (1 : Int32)), (.int (3 : Int32)), (.ref a1), (.int (3 : Int32)), (.ref am), (.long ((((((((0 : Int64) <<< ((8 : Int32) &&& 0x3f).toInt64) ||| ((x0 &&& (255 : Int32)).toInt64)) <<< ((8 : Int32) &&& 0x3f).toInt64) ||| ((x1 &&& (255 : Int32)).toInt64)) <<< ((8 : Int32) &&& 0x3f).toInt64) ||| ((x2 &&& (255 : Int32)).toInt64)) <<< ((8 : Int32) &&& 0x3f).toInt64))])
          refine ows_iadd X47 hx (hb hby d8_31) ?_
          show ows_R p e below s _ _ _ T47 (mkF m 32 #[.val (.ref a1), .val (.long (((((((0 : Int64) <<< ((8 : Int32) &&& 0x3f).toInt64) ||| ((x0 &&& (255 : Int32)).toInt64)) <<< ((8 : Int32) &&& 0x3f).toInt64) ||| ((x1 &&& (255 : Int32)).toInt64)) <<< ((8 : Int32) &&& 0x3f).toInt64) ||| ((x2 &&& (255 : Int32)).toInt64))), .second, .val (.int (3 : Int32))] [(.int (4 : Int32)), (.ref a1), (.int (3 : Int32)), (.ref am), (.long ((((((((0 : Int64) <<< ((8 : Int32) &&& 0x3f).toInt64) ||| ((x0 &&& (255 : Int32)).toInt64)) <<< ((8 : Int32) &&& 0x3f).toInt64) ||| ((x1 &&& (255 : Int32)).toInt64)) <<< ((8 : Int32) &&& 0x3f).toInt64) ||| ((x2 &&& (255 : Int32)).toInt64)) <<< ((8 : Int32) &&& 0x3f).toInt64))])
          have f48 := (Exa.wr W43 f42)
          refine ows_putF X47 hx hZ23 hown23 (host := "") (Or.inl (hw _ (List.mem_of_getElem? (i := 17) rfl))) Via.refl e47 Fw43 f48 (Or.inl (hw _ (List.mem_of_getElem? (i := 18) rfl))) (hw _ (List.mem_of_getElem? (i := 1) rfl)) (ty := .int) (by decide) rfl rfl (hb hby d8_32) ?_
          intro T49 h49 X49 e49 W49
          have hk49 := Nat.le_trans hk43 (Keep.of_wr W49).1
          have K49 := K43.wr W49 (Or.inl (List.mem_of_getElem? (i := 0) rfl))
          have N49 := Fr.snoc X49 N43 n0_a1
          have Fw49 := Fld.same W49 Fw43
          show ows_R p e below s _ _ _ T49 (mkF m 35 #[.val (.ref a1), .val (.long (((((((0 : Int64) <<< ((8 : Int32) &&& 0x3f).toInt64) ||| ((x0 &&& (255 : Int32)).toInt64)) <<< ((8 : Int32) &&& 0x3f).toInt64) ||| ((x1 &&& (255 : Int32)).toInt64)) <<< ((8 : Int32) &&& 0x3f).toInt64) ||| ((x2 &&& (255 : Int32)).toInt64))), .second, .val (.int (3 : Int32))] [(.int (3 : Int32)), (.ref am), (.long ((((((((0 : Int64) <<< ((8 : Int32) &&& 0x3f).toInt64) ||| ((x0 &&& (255 : Int32)).toInt64)) <<< ((8 : Int32) &&& 0x3f).toInt64) ||| ((x1 &&& (255 : Int32)).toInt64)) <<< ((8 : Int32) &&& 0x3f).toInt64) ||| ((x2 &&& (255 : Int32)).toInt64)) <<< ((8 : Int32) &&& 0x3f).toInt64))])
          have f50 := (f44.other W49 (Ne.symm hne))
          refine ows_baload X49 hx hZ23 e49 f50 (v := .int x3) hj3 hb3 (hb hby d8_35) ?_
          show ows_R p e below s _ _ _ T49 (mkF m 36 #[.val (.ref a1), .val (.long (((((((0 : Int64) <<< ((8 : Int32) &&& 0x3f).toInt64) ||| ((x0 &&& (255 : Int32)).toInt64)) <<< ((8 : Int32) &&& 0x3f).toInt64) ||| ((x1 &&& (255 : Int32)).toInt64)) <<< ((8 : Int32) &&& 0x3f).toInt64) ||| ((x2 &&& (255 : Int32)).toInt64))), .second, .val (.int (3 : Int32))] [(.int x3), (.long ((((((((0 : Int64) <<< ((8 : Int32) &&& 0x3f).toInt64) ||| ((x0 &&& (255 : Int32)).toInt64)) <<< ((8 : Int32) &&& 0x3f).toInt64) ||| ((x1 &&& (255 : Int32)).toInt64)) <<< ((8 : Int32) &&& 0x3f).toInt64) ||| ((x2 &&& (255 : Int32)).toInt64)) <<< ((8 : Int32) &&& 0x3f).toInt64))])
          refine ows_sipush X49 hx (255 : Int32) (hb hby d8_36) rfl ?_
          show ows_R p e below s _ _ _ T49 (mkF m 39 #[.val (.ref a1), .val (.long (((((((0 : Int64) <<< ((8 : Int32) &&& 0x3f).toInt64) ||| ((x0 &&& (255 : Int32)).toInt64)) <<< ((8 : Int32) &&& 0x3f).toInt64) ||| ((x1 &&& (255 : Int32)).toInt64)) <<< ((8 : Int32) &&& 0x3f).toInt64) ||| ((x2 &&& (255 : Int32)).toInt64))), .second, .val (.int (3 : Int32))] [(.int (255 : Int32)), (.int x3), (.long ((((((((0 : Int64) <<< ((8 : Int32) &&& 0x3f).toInt64) ||| ((x0 &&& (255 : Int32)).toInt64)) <<< ((8 : Int32) &&& 0x3f).toInt64) ||| ((x1 &&& (255 : Int32)).toInt64)) <<< ((8 : Int32) &&& 0x3f).toInt64) ||| ((x2 &&& (255 : Int32)).toInt64)) <<< ((8 : Int32) &&& 0x3f).toInt64))])
          refine ows_iand X49 hx (hb hby d8_39) ?_
          show ows_R p e below s _ _ _ T49 (mkF m 40 #[.val (.ref a1), .val (.long (((((((0 : Int64) <<< ((8 : Int32) &&& 0x3f).toInt64) ||| ((x0 &&& (255 : Int32)).toInt64)) <<< ((8 : Int32) &&& 0x3f).toInt64) ||| ((x1 &&& (255 : Int32)).toInt64)) <<< ((8 : Int32) &&& 0x3f).toInt64) ||| ((x2 &&& (255 : Int32)).toInt64))), .second, .val (.int (3 : Int32))] [(.int (x3 &&& (255 : Int32))), (.long ((((((((0 : Int64) <<< ((8 : Int32) &&& 0x3f).toInt64) ||| ((x0 &&& (255 : Int32)).toInt64)) <<< ((8 : Int32) &&& 0x3f).toInt64) ||| ((x1 &&& (255 : Int32)).toInt64)) <<< ((8 : Int32) &&& 0x3f).toInt64) ||| ((x2 &&& (255 : Int32)).toInt64)) <<< ((8 : Int32) &&& 0x3f).toInt64))])
          refine ows_i2l X49 hx (hb hby d8_40) ?_
          show ows_R p e below s _ _ _ T49 (mkF m 41 #[.val (.ref a1), .val (.long (((((((0 : Int64) <<< ((8 : Int32) &&& 0x3f).toInt64) ||| ((x0 &&& (255 : Int32)).toInt64)) <<< ((8 : Int32) &&& 0x3f).toInt64) ||| ((x1 &&& (255 : Int32)).toInt64)) <<< ((8 : Int32) &&& 0x3f).toInt64) ||| ((x2 &&& (255 : Int32)).toInt64))), .second, .val (.int (3 : Int32))] [(.long ((x3 &&& (255 : Int32)).toInt64)), (.long ((((((((0 : Int64) <<< ((8 : Int32) &&& 0x3f).toInt64) ||| ((x0 &&& (255 : Int32)).toInt64)) <<< ((8 : Int32) &&& 0x3f).toInt64) ||| ((x1 &&& (255 : Int32)).toInt64)) <<< ((8 : Int32) &&& 0x3f).toInt64) ||| ((x2 &&& (255 : Int32)).toInt64)) <<< ((8 : Int32) &&& 0x3f).toInt64))])
          refine ows_lor X49 hx (hb hby d8_41) ?_
          show ows_R p e below s _ _ _ T49 (mkF m 42 #[.val (.ref a1), .val (.long (((((((0 : Int64) <<< ((8 : Int32) &&& 0x3f).toInt64) ||| ((x0 &&& (255 : Int32)).toInt64)) <<< ((8 : Int32) &&& 0x3f).toInt64) ||| ((x1 &&& (255 : Int32)).toInt64)) <<< ((8 : Int32) &&& 0x3f).toInt64) ||| ((x2 &&& (255 : Int32)).toInt64))), .second, .val (.int (3 : Int32))] [(.long (((((((((0 : Int64) <<< ((8 : Int32) &&& 0x3f).toInt64) ||| ((x0 &&& (255 : Int32)).toInt64)) <<< ((8 : Int32) &&& 0x3f).toInt64) ||| ((x1 &&& (255 : Int32)).toInt64)) <<< ((8 : Int32) &&& 0x3f).toInt64) ||| ((x2 &&& (255 : Int32)).toInt64)) <<< ((8 : Int32) &&& 0x3f).toInt64) ||| ((x3 &&& (255 : Int32)).toInt64)))])
          refine ows_lstoreN X49 hx (hb hby d8_42) (l' := #[.val (.ref a1), .val (.long (((((((((0 : Int64) <<< ((8 : Int32) &&& 0x3f).toInt64) ||| ((x0 &&& (255 : Int32)).toInt64)) <<< ((8 : Int32) &&& 0x3f).toInt64) ||| ((x1 &&& (255 : Int32)).toInt64)) <<< ((8 : Int32) &&& 0x3f).toInt64) ||| ((x2 &&& (255 : Int32)).toInt64)) <<< ((8 : Int32) &&& 0x3f).toInt64) ||| ((x3 &&& (255 : Int32)).toInt64))), .second, .val (.int (3 : Int32))]) rfl ?_
          show ows_R p e below s _ _ _ T49 (mkF m 43 #[.val (.ref a1), .val (.long (((((((((0 : Int64) <<< ((8 : Int32) &&& 0x3f).toInt64) ||| ((x0 &&& (255 : Int32)).toInt64)) <<< ((8 : Int32) &&& 0x3f).toInt64) ||| ((x1 &&& (255 : Int32)).toInt64)) <<< ((8 : Int32) &&& 0x3f).toInt64) ||| ((x2 &&& (255 : Int32)).toInt64)) <<< ((8 : Int32) &&& 0x3f).toInt64) ||| ((x3 &&& (255 : Int32)).toInt64))), .second, .val (.int (3 : Int32))] [])
          refine ows_iinc X49 hx (1 : Int32) (hb hby d8_43) rfl rfl (l' := #[.val (.ref a1), .val (.long (((((((((0 : Int64) <<< ((8 : Int32) &&& 0x3f).toInt64) ||| ((x0 &&& (255 : Int32)).toInt64)) <<< ((8 : Int32) &&& 0x3f).toInt64) ||| ((x1 &&& (255 : Int32)).toInt64)) <<< ((8 : Int32) &&& 0x3f).toInt64) ||| ((x2 &&& (255 : Int32)).toInt64)) <<< ((8 : Int32) &&& 0x3f).toInt64) ||| ((x3 &&& (255 : Int32)).toInt64))), .second, .val (.int (4 : Int32))]) rfl ?_
          show ows_R p e below s _ _ _ T49 (mkF m 46 #[.val (.ref a1), .val (.long (((((((((0 : Int64) <<< ((8 : Int32) &&& 0x3f).toInt64) ||| ((x0 &&& (255 : Int32)).toInt64)) <<< ((8 : Int32) &&& 0x3f).toInt64) ||| ((x1 &&& (255 : Int32)).toInt64)) <<< ((8 : Int32) &&& 0x3f).toInt64) ||| ((x2 &&& (255 : Int32)).toInt64)) <<< ((8 : Int32) &&& 0x3f).toInt64) ||| ((x3 &&& (255 : Int32)).toInt64))), .second, .val (.int (4 : Int32))] [])
          refine ows_goto X49 hx (hb hby d8_46) (pc' := 11) (by decide) (by decide) ?_
          show ows_R p e below s _ _ _ T49 (mkF m 11 #[.val (.ref a1), .val (.long (((((((((0 : Int64) <<< ((8 : Int32) &&& 0x3f).toInt64) ||| ((x0 &&& (255 : Int32)).toInt64)) <<< ((8 : Int32) &&& 0x3f).toInt64) ||| ((x1 &&& (255 : Int32)).toInt64)) <<< ((8 : Int32) &&& 0x3f).toInt64) ||| ((x2 &&& (255 : Int32)).toInt64)) <<< ((8 : Int32) &&& 0x3f).toInt64) ||| ((x3 &&& (255 : Int32)).toInt64))), .second, .val (.int (4 : Int32))] [])
          refine ows_iloadN X49 hx (hb hby d8_11) rfl ?_
          show ows_R p e below s _ _ _ T49 (mkF m 12 #[.val (.ref a1), .val (.long (((((((((0 : Int64) <<< ((8 : Int32) &&& 0x3f).toInt64) ||| ((x0 &&& (255 : Int32)).toInt64)) <<< ((8 : Int32) &&& 0x3f).toInt64) ||| ((x1 &&& (255 : Int32)).toInt64)) <<< ((8 : Int32) &&& 0x3f).toInt64) ||| ((x2 &&& (255 : Int32)).toInt64)) <<< ((8 : Int32) &&& 0x3f).toInt64) ||| ((x3 &&& (255 : Int32)).toInt64))), .second, .val (.int (4 : Int32))] [(.int (4 : Int32))])
          refine ows_iconst X49 hx (4 : Int32) (hb hby d8_12) rfl ?_
          show ows_R p e below s _ _ _ T49 (mkF m 13 #[.val (.ref a1), .val (.long (((((((((0 : Int64) <<< ((8 : Int32) &&& 0x3f).toInt64) ||| ((x0 &&& (255 : Int32)).toInt64)) <<< ((8 : Int32) &&& 0x3f).toInt64) ||| ((x1 &&& (255 : Int32)).toInt64)) <<< ((8 : Int32) &&& 0x3f).toInt64) ||| ((x2 &&& (255 : Int32)).toInt64)) <<< ((8 : Int32) &&& 0x3f).toInt64) ||| ((x3 &&& (255 : Int32)).toInt64))), .second, .val (.int (4 : Int32))] [(.int (4 : Int32)), (.int (4 : Int32))])
          refine ows_icmp X49 hx (hb hby d8_13) (pc' := 49) (by decide) (by decide) (fun hc => ?_) (fun hc => ?_)
          · have hc13 : ¬ (4 : Int32) < (4 : Int32) := own_ge1 hc
            clear hc
            show ows_R p e below s _ _ _ T49 (mkF m 49 #[.val (.ref a1), .val (.long (((((((((0 : Int64) <<< ((8 : Int32) &&& 0x3f).toInt64) ||| ((x0 &&& (255 : Int32)).toInt64)) <<< ((8 : Int32) &&& 0x3f).toInt64) ||| ((x1 &&& (255 : Int32)).toInt64)) <<< ((8 : Int32) &&& 0x3f).toInt64) ||| ((x2 &&& (255 : Int32)).toInt64)) <<< ((8 : Int32) &&& 0x3f).toInt64) ||| ((x3 &&& (255 : Int32)).toInt64))), .second, .val (.int (4 : Int32))] [])
            refine ows_lloadN X49 hx (hb hby d8_49) rfl ?_
            show ows_R p e below s _ _ _ T49 (mkF m 50 #[.val (.ref a1), .val (.long (((((((((0 : Int64) <<< ((8 : Int32) &&& 0x3f).toInt64) ||| ((x0 &&& (255 : Int32)).toInt64)) <<< ((8 : Int32) &&& 0x3f).toInt64) ||| ((x1 &&& (255 : Int32)).toInt64)) <<< ((8 : Int32) &&& 0x3f).toInt64) ||| ((x2 &&& (255 : Int32)).toInt64)) <<< ((8 : Int32) &&& 0x3f).toInt64) ||| ((x3 &&& (255 : Int32)).toInt64))), .second, .val (.int (4 : Int32))] [(.long (((((((((0 : Int64) <<< ((8 : Int32) &&& 0x3f).toInt64) ||| ((x0 &&& (255 : Int32)).toInt64)) <<< ((8 : Int32) &&& 0x3f).toInt64) ||| ((x1 &&& (255 : Int32)).toInt64)) <<< ((8 : Int32) &&& 0x3f).toInt64) ||| ((x2 &&& (255 : Int32)).toInt64)) <<< ((8 : Int32) &&& 0x3f).toInt64) ||| ((x3 &&& (255 : Int32)).toInt64)))])
            have f51 := (Exa.wr W49 f48)
            have f52 := (Fld.other W49 f45 (Or.inr (slot_ne (Or.inr (hw _ (List.mem_of_getElem? (i := 11) rfl))) (Or.inl (hw _ (List.mem_of_getElem? (i := 18) rfl))) (by decide) (t := (.array .byte)) (t' := .int) (by decide) (by decide))))
            refine ows_retJ X49 hS23 (by rw [e49]; exact hk49) hx Bd.returns hlk (hb hby d8_50) ?_ (by decide) (by decide)
            rw [e49]
            exact ⟨rfl, N49, K49, f51, f52, Fw49⟩
          · have hc13 : (4 : Int32) < (4 : Int32) := own_ge0 hc
            exact absurd hc13 (by decide)
theorem pn_7 : plainFor (⟨"com/example/authwright/authwright/engine/MessageReader", "readLength", "()I"⟩ : MethodName) = true := by decide +kernel
theorem ef_7 (m : MethodId) (a1 : Addr) : entryFrame m #[(.ref a1)] 3 = mkF m 0 #[.val (.ref a1), .unset, .unset] [] := by first | (simp [entryFrame, mkF, argsToLocals, Value.category]; done) | rfl
def Q7 (Z : State) (a1 : Addr) (am : Addr) (km : ClassId) (z : Int32) (vs : List Value) (dv : Value) (x0 : Int32) (x1 : Int32) (x2 : Int32) (x3 : Int32) (ln : Int32) (h0 : Heap) (n0 : Nat) (v : Option Value) (h : Heap) (L : List Loc) : Prop := v = some (.int ln) ∧ Fr n0 L ∧ Keep h0 h [a1] ∧ Exa Z h a1 "com/example/authwright/authwright/engine/MessageReader" ∧ Fld Z h a1 "com/example/authwright/authwright/engine/MessageReader" "message" "[B" (.ref am) ∧ Fld Z h a1 "com/example/authwright/authwright/engine/MessageReader" "position" "I" (.int (4 : Int32))
set_option maxRecDepth 65536 in
set_option maxHeartbeats 40000000 in
theorem rm7 (l : Launch) (Z : State) (a0 : Array Value) (hw : ∀ d ∈ tables_1, d.before a0 Z = true) (ws : List Jvm.Cond) (a1 : Addr) (am : Addr) (km : ClassId) (z : Int32) (vs : List Value) (dv : Value) (x0 : Int32) (x1 : Int32) (x2 : Int32) (x3 : Int32) (ln : Int32) (h0 : Heap) (n0 : Nat) (Z0 : n0 ≤ h0.size) (hm : Fld Z h0 a1 "com/example/authwright/authwright/engine/MessageReader" "message" "[B" (.ref am)) (hp : Fld Z h0 a1 "com/example/authwright/authwright/engine/MessageReader" "position" "I" (.int (0 : Int32))) (hV : Arv Z h0 am km .byte z vs dv) (hE : Exa Z h0 a1 "com/example/authwright/authwright/engine/MessageReader") (hn0 : n0 ≤ a1) (hne : a1 ≠ am) (hj0 : ¬ (0 : Int32) < 0 ∧ (0 : Int32) < z) (hb0 : vs.getD (0 : Int32).toNatClampNeg dv = .int x0) (hj1 : ¬ (1 : Int32) < 0 ∧ (1 : Int32) < z) (hb1 : vs.getD (1 : Int32).toNatClampNeg dv = .int x1) (hj2 : ¬ (2 : Int32) < 0 ∧ (2 : Int32) < z) (hb2 : vs.getD (2 : Int32).toNatClampNeg dv = .int x2) (hj3 : ¬ (3 : Int32) < 0 ∧ (3 : Int32) < z) (hb3 : vs.getD (3 : Int32).toNatClampNeg dv = .int x3) (hr : ¬ (z - (0 : Int32)) < (4 : Int32)) (hln : (pl_u x0 x1 x2 x3).toInt32 = ln) (hle : ¬ (z - (4 : Int32)).toInt64 < pl_u x0 x1 x2 x3) :
    MetFree l (⟨"com/example/authwright/authwright/engine/MessageReader", "readLength", "()I"⟩ : MethodName) (head1 (Jvm.Cond.code (⟨"com/example/authwright/authwright/engine/MessageReader", "readLength", "()I"⟩ : MethodName) prog_23_method_9_code 3 (some .int) :: ws) ({ frames := 2, cells := 2, slots := 28, locals := 29 } : Room)) (fun a U => a = #[(.ref a1)] ∧ Z.Warmed39 U.vm ∧ U.heap = h0) (fun _ _ _ _ _ => True) (fun _ U o U' => ∃ v L, o = .returned v ∧ Q7 Z a1 am km z vs dv x0 x1 x2 x3 ln h0 n0 v U'.heap L ∧ ReturnedEndW U o U' L ({ frames := 2, cells := 2, slots := 28, locals := 29 } : Room).cells ({ frames := 2, cells := 2, slots := 28, locals := 29 } : Room).slots) := by
  refine MetFree.of_bodySF pn_7 hisR ?_
  intro p e s m args below meth c s₁ Bd hml0 hP hK
  obtain ⟨rfl, hZ, hh⟩ := hP
  have hx := Bd.exec
  have hby := Bd.bytes
  have hml : c.maxLocals = 3 := hml0
  have hown : s.vm.findClass "com/example/authwright/authwright/engine/MessageReader" = some m.cls := findClass_of_methodNamed Bd.named
  have hnm := (name_of_methodNamed Bd.named Bd.method).1
  have hlk := BodyLoose.notSynchronized Bd
  have X0 : Stand p l e ({ frames := 2, cells := 2, slots := 28, locals := 29 } : Room) (s.setVm s.vm) m #[(.ref a1)] below meth c s₁ [] 0 0 := Stand.of_body Bd
  have hS0 : s.Since s.vm 0 := (State.WarmedH.refl s).since 0
  have hk0 : 0 ≤ h0.size := Nat.zero_le _
  have hZ0 : Z.Warmed39 (s.setVm s.vm).vm := hZ
  have hown0 : (s.setVm s.vm).vm.findClass "com/example/authwright/authwright/engine/MessageReader" = some m.cls := hown
  have e0 : s₁.heap = h0 := by rw [← hh, Bd.state]; rfl
  have N0 := Fr.nil n0
  show ows_R p e below s (Q7 Z a1 am km z vs dv x0 x1 x2 x3 ln h0 n0) ({ frames := 2, cells := 2, slots := 28, locals := 29 } : Room).cells ({ frames := 2, cells := 2, slots := 28, locals := 29 } : Room).slots s₁ (entryFrame m #[(.ref a1)] 3)
  refine ows_cast (ef_7 m a1) ?_
  show ows_R p e below s _ _ _ s₁ (mkF m 0 #[.val (.ref a1), .unset, .unset] [])
  have K0 := Keep.refl h0 ([a1] : List Addr)
  have n0_a1 := hn0
  refine ows_aloadN X0 hx (hb hby d7_0) rfl rfl ?_
  show ows_R p e below s _ _ _ s₁ (mkF m 1 #[.val (.ref a1), .unset, .unset] [(.ref a1)])
  refine ows_callVS X0 hx hZ0 (y := (⟨"com/example/authwright/authwright/engine/MessageReader", "readUint32", "()J"⟩ : MethodName)) (z := (⟨"com/example/authwright/authwright/engine/MessageReader", "readUint32", "()J"⟩ : MethodName)) hown0 hS0 hk0 (hw _ (List.mem_of_getElem? (i := 44) rfl)) (hw _ (List.mem_of_getElem? (i := 45) rfl)) (notFace_of_selects (args := #[]) (mvT hZ0 (hw _ (List.mem_of_getElem? (i := 47) rfl)))) (hw _ (List.mem_of_getElem? (i := 47) rfl)) (hw _ (List.mem_of_getElem? (i := 46) rfl)) (hw _ (List.mem_of_getElem? (i := 2) rfl)) (hw _ (List.mem_of_getElem? (i := 48) rfl)) (by decide) (rm8 l Z a0 hw [] a1 am km z vs dv x0 x1 x2 x3 h0 n0 Z0 hm hp hV hE hn0 hne hj0 hb0 hj1 hb1 hj2 hb2 hj3 hb3 hr) 0 (by decide) (by decide) e0 (by rw [hml]; rfl) a1 hE [] [] rfl (lenOf pd_1 rfl) rfl (Nat.le_of_eq rfl) (hb hby d7_1) (by decide) (by decide) ?_
  rintro T53 _ L53 X53 hS53 hZ53 hown53 ⟨rfl, N53q, Kc53, Ec53, Fm53, Fp53⟩
  have N53 := Fr.app N0 N53q
  have hk53 := Nat.le_refl T53.heap.size
  have K53 := K0.trans Kc53 (allS (P := fun x => x ∈ ([a1] : List Addr) ∨ h0.size ≤ x) (Or.inl (List.mem_of_getElem? (i := 0) rfl)) all0)
  show ows_R p e below s _ _ _ T53 (mkF m 4 #[.val (.ref a1), .unset, .unset] [(.long (pl_u x0 x1 x2 x3))])
  have Fq53 : Fld Z T53.heap a1 "com/example/authwright/authwright/engine/MessageReader" "position" "I" (.int (4 : Int32)) := Fp53
  refine ows_lstoreN X53 hx (hb hby d7_4) (l' := #[.val (.ref a1), .val (.long (pl_u x0 x1 x2 x3)), .second]) rfl ?_
  show ows_R p e below s _ _ _ T53 (mkF m 5 #[.val (.ref a1), .val (.long (pl_u x0 x1 x2 x3)), .second] [])
  refine ows_lloadN X53 hx (hb hby d7_5) rfl ?_
  show ows_R p e below s _ _ _ T53 (mkF m 6 #[.val (.ref a1), .val (.long (pl_u x0 x1 x2 x3)), .second] [(.long (pl_u x0 x1 x2 x3))])
  refine ows_aloadN X53 hx (hb hby d7_6) rfl rfl ?_
  show ows_R p e below s _ _ _ T53 (mkF m 7 #[.val (.ref a1), .val (.long (pl_u x0 x1 x2 x3)), .second] [(.ref a1), (.long (pl_u x0 x1 x2 x3))])
  refine ows_getF X53 hx hZ53 hown53 (host := "") (Or.inl (hw _ (List.mem_of_getElem? (i := 10) rfl))) Via.refl rfl Fm53 (hb hby d7_7) ?_
  intro T54 X54 e54
  show ows_R p e below s _ _ _ T54 (mkF m 10 #[.val (.ref a1), .val (.long (pl_u x0 x1 x2 x3)), .second] [(.ref am), (.long (pl_u x0 x1 x2 x3))])
  have f55 := (hV.keep Kc53 (ninS (Ne.symm hne) nin0))
  refine ows_len X54 hx hZ53 e54 f55 (hb hby d7_10) ?_
  show ows_R p e below s _ _ _ T54 (mkF m 11 #[.val (.ref a1), .val (.long (pl_u x0 x1 x2 x3)), .second] [(.int z), (.long (pl_u x0 x1 x2 x3))])
  refine ows_aloadN X54 hx (hb hby d7_11) rfl rfl ?_
  show ows_R p e below s _ _ _ T54 (mkF m 12 #[.val (.ref a1), .val (.long (pl_u x0 x1 x2 x3)), .second] [(.ref a1), (.int z), (.long (pl_u x0 x1 x2 x3))])
  refine ows_getF X54 hx hZ53 hown53 (host := "") (Or.inl (hw _ (List.mem_of_getElem? (i := 17) rfl))) Via.refl e54 Fq53 (hb hby d7_12) ?_
  intro T56 X56 e56
  show ows_R p e below s _ _ _ T56 (mkF m 15 #[.val (.ref a1), .val (.long (pl_u x0 x1 x2 x3)), .second] [(.int (4 : Int32)), (.int z), (.long (pl_u x0 x1 x2 x3))])
  refine ows_isub X56 hx (hb hby d7_15) ?_
  show ows_R p e below s _ _ _ T56 (mkF m 16 #[.val (.ref a1), .val (.long (pl_u x0 x1 x2 x3)), .second] [(.int (z - (4 : Int32))), (.long (pl_u x0 x1 x2 x3))])
  refine ows_i2l X56 hx (hb hby d7_16) ?_
  show ows_R p e below s _ _ _ T56 (mkF m 17 #[.val (.ref a1), .val (.long (pl_u x0 x1 x2 x3)), .second] [(.long ((z - (4 : Int32)).toInt64)), (.long (pl_u x0 x1 x2 x3))])
  refine ows_lcmp X56 hx (hb hby d7_17) (hb hby d7_18) (pc' := 35) (by decide) (by decide) (fun hc => ?_) (fun hc => ?_)
  · have hc17 : ¬ ((z - (4 : Int32)).toInt64) < (pl_u x0 x1 x2 x3) := own_lle1 hc
    clear hc
    show ows_R p e below s _ _ _ T56 (mkF m 35 #[.val (.ref a1), .val (.long (pl_u x0 x1 x2 x3)), .second] [])
    refine ows_lloadN X56 hx (hb hby d7_35) rfl ?_
    show ows_R p e below s _ _ _ T56 (mkF m 36 #[.val (.ref a1), .val (.long (pl_u x0 x1 x2 x3)), .second] [(.long (pl_u x0 x1 x2 x3))])
    refine ows_l2i X56 hx (hb hby d7_36) ?_
    show ows_R p e below s _ _ _ T56 (mkF m 37 #[.val (.ref a1), .val (.long (pl_u x0 x1 x2 x3)), .second] [(.int ((pl_u x0 x1 x2 x3).toInt32))])
    refine ows_retI X56 hS53 (by rw [e56]; exact hk53) hx Bd.returns hlk (hb hby d7_37) ?_ (by decide) (by decide)
    rw [e56]
    exact ⟨by rw [hln], N53, K53, Ec53, Fm53, Fq53⟩
  · have hc17 : ((z - (4 : Int32)).toInt64) < (pl_u x0 x1 x2 x3) := own_lle0 hc
    exact absurd hc17 hle
theorem pn_6 : plainFor (⟨"com/example/authwright/authwright/engine/MessageReader", "skipString", "()V"⟩ : MethodName) = true := by decide +kernel
theorem ef_6 (m : MethodId) (a1 : Addr) : entryFrame m #[(.ref a1)] 2 = mkF m 0 #[.val (.ref a1), .unset] [] := by first | (simp [entryFrame, mkF, argsToLocals, Value.category]; done) | rfl
def Q6 (Z : State) (a1 : Addr) (am : Addr) (km : ClassId) (z : Int32) (vs : List Value) (dv : Value) (x0 : Int32) (x1 : Int32) (x2 : Int32) (x3 : Int32) (ln : Int32) (h0 : Heap) (n0 : Nat) (v : Option Value) (h : Heap) (L : List Loc) : Prop := v = none ∧ Fr n0 L ∧ Keep h0 h [a1] ∧ Exa Z h a1 "com/example/authwright/authwright/engine/MessageReader" ∧ Fld Z h a1 "com/example/authwright/authwright/engine/MessageReader" "message" "[B" (.ref am) ∧ Fld Z h a1 "com/example/authwright/authwright/engine/MessageReader" "position" "I" (.int ((4 : Int32) + ln))
set_option maxRecDepth 65536 in
set_option maxHeartbeats 40000000 in
theorem rm6 (l : Launch) (Z : State) (a0 : Array Value) (hw : ∀ d ∈ tables_1, d.before a0 Z = true) (ws : List Jvm.Cond) (a1 : Addr) (am : Addr) (km : ClassId) (z : Int32) (vs : List Value) (dv : Value) (x0 : Int32) (x1 : Int32) (x2 : Int32) (x3 : Int32) (ln : Int32) (h0 : Heap) (n0 : Nat) (Z0 : n0 ≤ h0.size) (hm : Fld Z h0 a1 "com/example/authwright/authwright/engine/MessageReader" "message" "[B" (.ref am)) (hp : Fld Z h0 a1 "com/example/authwright/authwright/engine/MessageReader" "position" "I" (.int (0 : Int32))) (hV : Arv Z h0 am km .byte z vs dv) (hE : Exa Z h0 a1 "com/example/authwright/authwright/engine/MessageReader") (hn0 : n0 ≤ a1) (hne : a1 ≠ am) (hj0 : ¬ (0 : Int32) < 0 ∧ (0 : Int32) < z) (hb0 : vs.getD (0 : Int32).toNatClampNeg dv = .int x0) (hj1 : ¬ (1 : Int32) < 0 ∧ (1 : Int32) < z) (hb1 : vs.getD (1 : Int32).toNatClampNeg dv = .int x1) (hj2 : ¬ (2 : Int32) < 0 ∧ (2 : Int32) < z) (hb2 : vs.getD (2 : Int32).toNatClampNeg dv = .int x2) (hj3 : ¬ (3 : Int32) < 0 ∧ (3 : Int32) < z) (hb3 : vs.getD (3 : Int32).toNatClampNeg dv = .int x3) (hr : ¬ (z - (0 : Int32)) < (4 : Int32)) (hln : (pl_u x0 x1 x2 x3).toInt32 = ln) (hle : ¬ (z - (4 : Int32)).toInt64 < pl_u x0 x1 x2 x3) :
    MetFree l (⟨"com/example/authwright/authwright/engine/MessageReader", "skipString", "()V"⟩ : MethodName) (head1 (Jvm.Cond.code (⟨"com/example/authwright/authwright/engine/MessageReader", "skipString", "()V"⟩ : MethodName) prog_23_method_7_code 2 none :: ws) ({ frames := 3, cells := 2, slots := 28, locals := 43 } : Room)) (fun a U => a = #[(.ref a1)] ∧ Z.Warmed39 U.vm ∧ U.heap = h0) (fun _ _ _ _ _ => True) (fun _ U o U' => ∃ v L, o = .returned v ∧ Q6 Z a1 am km z vs dv x0 x1 x2 x3 ln h0 n0 v U'.heap L ∧ ReturnedEndW U o U' L ({ frames := 3, cells := 2, slots := 28, locals := 43 } : Room).cells ({ frames := 3, cells := 2, slots := 28, locals := 43 } : Room).slots) := by
  refine MetFree.of_bodySF pn_6 hisR ?_
  intro p e s m args below meth c s₁ Bd hml0 hP hK
  obtain ⟨rfl, hZ, hh⟩ := hP
  have hx := Bd.exec
  have hby := Bd.bytes
  have hml : c.maxLocals = 2 := hml0
  have hown : s.vm.findClass "com/example/authwright/authwright/engine/MessageReader" = some m.cls := findClass_of_methodNamed Bd.named
  have hnm := (name_of_methodNamed Bd.named Bd.method).1
  have hlk := BodyLoose.notSynchronized Bd
  have X0 : Stand p l e ({ frames := 3, cells := 2, slots := 28, locals := 43 } : Room) (s.setVm s.vm) m #[(.ref a1)] below meth c s₁ [] 0 0 := Stand.of_body Bd
  have hS0 : s.Since s.vm 0 := (State.WarmedH.refl s).since 0
  have hk0 : 0 ≤ h0.size := Nat.zero_le _
  have hZ0 : Z.Warmed39 (s.setVm s.vm).vm := hZ
  have hown0 : (s.setVm s.vm).vm.findClass "com/example/authwright/authwright/engine/MessageReader" = some m.cls := hown
  have e0 : s₁.heap = h0 := by rw [← hh, Bd.state]; rfl
  have N0 := Fr.nil n0
  show ows_R p e below s (Q6 Z a1 am km z vs dv x0 x1 x2 x3 ln h0 n0) ({ frames := 3, cells := 2, slots := 28, locals := 43 } : Room).cells ({ frames := 3, cells := 2, slots := 28, locals := 43 } : Room).slots s₁ (entryFrame m #[(.ref a1)] 2)
  refine ows_cast (ef_6 m a1) ?_
  show ows_R p e below s _ _ _ s₁ (mkF m 0 #[.val (.ref a1), .unset] [])
  have K0 := Keep.refl h0 ([a1] : List Addr)
  have n0_a1 := hn0
  refine ows_aloadN X0 hx (hb hby d6_0) rfl rfl ?_
  show ows_R p e below s _ _ _ s₁ (mkF m 1 #[.val (.ref a1), .unset] [(.ref a1)])
  refine ows_callPS X0 hx hZ0 (y := (⟨"com/example/authwright/authwright/engine/MessageReader", "readLength", "()I"⟩ : MethodName)) hown0 hS0 hk0 (hw _ (List.mem_of_getElem? (i := 40) rfl)) (hw _ (List.mem_of_getElem? (i := 41) rfl)) (hw _ (List.mem_of_getElem? (i := 1) rfl)) (hw _ (List.mem_of_getElem? (i := 42) rfl)) (hw _ (List.mem_of_getElem? (i := 2) rfl)) (hw _ (List.mem_of_getElem? (i := 43) rfl)) (by decide) (rm7 l Z a0 hw [] a1 am km z vs dv x0 x1 x2 x3 ln h0 n0 Z0 hm hp hV hE hn0 hne hj0 hb0 hj1 hb1 hj2 hb2 hj3 hb3 hr hln hle) 0 (by decide) (by decide) e0 (by rw [hml]; rfl) a1 hE [] [] rfl (lenOf pd_2 rfl) rfl (Nat.le_of_eq rfl) (hb hby d6_1) (by decide) (by decide) ?_
  rintro T57 _ L57 X57 hS57 hZ57 hown57 ⟨rfl, N57q, Kc57, Ec57, Fm57, Fp57⟩
  have N57 := Fr.app N0 N57q
  have hk57 := Nat.le_refl T57.heap.size
  have K57 := K0.trans Kc57 (allS (P := fun x => x ∈ ([a1] : List Addr) ∨ h0.size ≤ x) (Or.inl (List.mem_of_getElem? (i := 0) rfl)) all0)
  show ows_R p e below s _ _ _ T57 (mkF m 4 #[.val (.ref a1), .unset] [(.int ln)])
  have Fq57 : Fld Z T57.heap a1 "com/example/authwright/authwright/engine/MessageReader" "position" "I" (.int (4 : Int32)) := Fp57
  refine ows_istoreN X57 hx (hb hby d6_4) (l' := #[.val (.ref a1), .val (.int ln)]) rfl ?_
  show ows_R p e below s _ _ _ T57 (mkF m 5 #[.val (.ref a1), .val (.int ln)] [])
  refine ows_aloadN X57 hx (hb hby d6_5) rfl rfl ?_
  show ows_R p e below s _ _ _ T57 (mkF m 6 #[.val (.ref a1), .val (.int ln)] [(.ref a1)])
  refine ows_dup X57 hx (hb hby d6_6) rfl ?_
  show ows_R p e below s _ _ _ T57 (mkF m 7 #[.val (.ref a1), .val (.int ln)] [(.ref a1), (.ref a1)])
  refine ows_getF X57 hx hZ57 hown57 (host := "") (Or.inl (hw _ (List.mem_of_getElem? (i := 17) rfl))) Via.refl rfl Fq57 (hb hby d6_7) ?_
  intro T58 X58 e58
  show ows_R p e below s _ _ _ T58 (mkF m 10 #[.val (.ref a1), .val (.int ln)] [(.int (4 : Int32)), (.ref a1)])
  refine ows_iloadN X58 hx (hb hby d6_10) rfl ?_
  show ows_R p e below s _ _ _ T58 (mkF m 11 #[.val (.ref a1), .val (.int ln)] [(.int ln), (.int (4 : Int32)), (.ref a1)])
  refine ows_iadd X58 hx (hb hby d6_11) ?_
  show ows_R p e below s _ _ _ T58 (mkF m 12 #[.val (.ref a1), .val (.int ln)] [(.int ((4 : Int32) + ln)), (.ref a1)])
  refine ows_putF X58 hx hZ57 hown57 (host := "") (Or.inl (hw _ (List.mem_of_getElem? (i := 17) rfl))) Via.refl e58 Fq57 Ec57 (Or.inl (hw _ (List.mem_of_getElem? (i := 18) rfl))) (hw _ (List.mem_of_getElem? (i := 1) rfl)) (ty := .int) (by decide) rfl rfl (hb hby d6_12) ?_
  intro T59 h59 X59 e59 W59
  have hk59 := Nat.le_trans hk57 (Keep.of_wr W59).1
  have K59 := K57.wr W59 (Or.inl (List.mem_of_getElem? (i := 0) rfl))
  have N59 := Fr.snoc X59 N57 n0_a1
  have Fw59 := Fld.same W59 Fq57
  show ows_R p e below s _ _ _ T59 (mkF m 15 #[.val (.ref a1), .val (.int ln)] [])
  have f60 := (Exa.wr W59 Ec57)
  have f61 := (Fld.other W59 Fm57 (Or.inr (slot_ne (Or.inr (hw _ (List.mem_of_getElem? (i := 11) rfl))) (Or.inl (hw _ (List.mem_of_getElem? (i := 18) rfl))) (by decide) (t := (.array .byte)) (t' := .int) (by decide) (by decide))))
  refine ows_ret0 X59 hS57 (by rw [e59]; exact hk59) hx Bd.returns hlk (hb hby d6_15) ?_ (by decide) (by decide)
  rw [e59]
  exact ⟨rfl, N59, K59, f60, f61, Fw59⟩
def pl_min (p0 : Int32) (p1 : Int32) : Int32 := (if p1 < p0 then p1 else p0)
theorem pn_13 : plainFor (⟨"java/lang/Math", "min", "(II)I"⟩ : MethodName) = true := Jvm.Free.JP.mathPlain rfl (by decide +kernel)
theorem ef_13 (m : MethodId) (p0 : Int32) (p1 : Int32) : entryFrame m #[(.int p0), (.int p1)] 2 = mkF m 0 #[.val (.int p0), .val (.int p1)] [] := by first | (simp [entryFrame, mkF, argsToLocals, Value.category]; done) | rfl
def Q13 (Z : State) (p0 : Int32) (p1 : Int32) (h0 : Heap) (n0 : Nat) (v : Option Value) (h : Heap) (L : List Loc) : Prop := v = some (.int (pl_min p0 p1)) ∧ Fr n0 L ∧ h = h0
set_option maxRecDepth 65536 in
set_option maxHeartbeats 40000000 in
theorem rm13 (l : Launch) (Z : State) (a0 : Array Value) (hw : ∀ d ∈ tables_1, d.before a0 Z = true) (ws : List Jvm.Cond) (p0 : Int32) (p1 : Int32) (h0 : Heap) (n0 : Nat) (Z0 : n0 ≤ h0.size) :
    MetFree l (⟨"java/lang/Math", "min", "(II)I"⟩ : MethodName) (head1 (Jvm.Cond.code (⟨"java/lang/Math", "min", "(II)I"⟩ : MethodName) jdk_29_method_69_code 2 (some .int) :: ws) ({ frames := 0, cells := 0, slots := 0, locals := 0 } : Room)) (fun a U => a = #[(.int p0), (.int p1)] ∧ Z.Warmed39 U.vm ∧ U.heap = h0) (fun _ _ _ _ _ => True) (fun _ U o U' => ∃ v L, o = .returned v ∧ Q13 Z p0 p1 h0 n0 v U'.heap L ∧ FrameEnd U o U' L ({ frames := 0, cells := 0, slots := 0, locals := 0 } : Room).cells ({ frames := 0, cells := 0, slots := 0, locals := 0 } : Room).slots) := by
  refine MetFree.of_bodySF pn_13 hisR ?_
  intro p e s m args below meth c s₁ Bd hml0 hP hK
  obtain ⟨rfl, hZ, hh⟩ := hP
  have hx := Bd.exec
  have hby := Bd.bytes
  have hml : c.maxLocals = 2 := hml0
  have hown : s.vm.findClass "java/lang/Math" = some m.cls := findClass_of_methodNamed Bd.named
  have hnm := (name_of_methodNamed Bd.named Bd.method).1
  have hlk := BodyLoose.notSynchronized Bd
  have X0 : Stand p l e ({ frames := 0, cells := 0, slots := 0, locals := 0 } : Room) s m #[(.int p0), (.int p1)] below meth c s₁ [] 0 0 := Stand.of_body Bd
  have e0 : s₁.heap = h0 := by rw [← hh, Bd.state]; rfl
  have N0 := Fr.nil n0
  show own_R p e below s (Q13 Z p0 p1 h0 n0) ({ frames := 0, cells := 0, slots := 0, locals := 0 } : Room).cells ({ frames := 0, cells := 0, slots := 0, locals := 0 } : Room).slots s₁ (entryFrame m #[(.int p0), (.int p1)] 2)
  refine own_cast (ef_13 m p0 p1) ?_
  show own_R p e below s _ _ _ s₁ (mkF m 0 #[.val (.int p0), .val (.int p1)] [])
  refine own_iloadN X0 hx (hb hby d13_0) rfl ?_
  show own_R p e below s _ _ _ s₁ (mkF m 1 #[.val (.int p0), .val (.int p1)] [(.int p0)])
  refine own_iloadN X0 hx (hb hby d13_1) rfl ?_
  show own_R p e below s _ _ _ s₁ (mkF m 2 #[.val (.int p0), .val (.int p1)] [(.int p1), (.int p0)])
  refine own_icmp X0 hx (hb hby d13_2) (pc' := 9) (by decide) (by decide) (fun hc => ?_) (fun hc => ?_)
  · have hc2 : p1 < p0 := own_gt1 hc
    clear hc
    show own_R p e below s _ _ _ s₁ (mkF m 9 #[.val (.int p0), .val (.int p1)] [])
    refine own_iloadN X0 hx (hb hby d13_9) rfl ?_
    show own_R p e below s _ _ _ s₁ (mkF m 10 #[.val (.int p0), .val (.int p1)] [(.int p1)])
    refine own_retI X0 hx Bd.returns hlk (hb hby d13_10) ?_ (by decide) (by decide)
    refine ⟨?_, N0, e0⟩
    show some (Value.int _) = some (Value.int (pl_min p0 p1))
    rw [pl_min, if_pos hc2] <;> first | rfl | decide
  · have hc2 : ¬ p1 < p0 := own_gt0 hc
    clear hc
    show own_R p e below s _ _ _ s₁ (mkF m 5 #[.val (.int p0), .val (.int p1)] [])
    refine own_iloadN X0 hx (hb hby d13_5) rfl ?_
    show own_R p e below s _ _ _ s₁ (mkF m 6 #[.val (.int p0), .val (.int p1)] [(.int p0)])
    refine own_goto X0 hx (hb hby d13_6) (pc' := 10) (by decide) (by decide) ?_
    show own_R p e below s _ _ _ s₁ (mkF m 10 #[.val (.int p0), .val (.int p1)] [(.int p0)])
    refine own_retI X0 hx Bd.returns hlk (hb hby d13_10) ?_ (by decide) (by decide)
    refine ⟨?_, N0, e0⟩
    show some (Value.int _) = some (Value.int (pl_min p0 p1))
    rw [pl_min, if_neg hc2] <;> first | rfl | decide
theorem pn_12 : plainFor (⟨"java/util/Arrays", "checkLength", "(II)V"⟩ : MethodName) = true := by decide +kernel
theorem ef_12_0 (m : MethodId)  : entryFrame m #[(.int (4 : Int32)), (.int (4 : Int32))] 2 = mkF m 0 #[.val (.int (4 : Int32)), .val (.int (4 : Int32))] [] := by first | (simp [entryFrame, mkF, argsToLocals, Value.category]; done) | rfl
def Q12_0 (Z : State)  (h0 : Heap) (n0 : Nat) (v : Option Value) (h : Heap) (L : List Loc) : Prop := v = none ∧ Fr n0 L ∧ h = h0
set_option maxRecDepth 65536 in
set_option maxHeartbeats 40000000 in
theorem rm12_0 (l : Launch) (Z : State) (a0 : Array Value) (hw : ∀ d ∈ tables_1, d.before a0 Z = true) (ws : List Jvm.Cond)  (h0 : Heap) (n0 : Nat) (Z0 : n0 ≤ h0.size) :
    MetFree l (⟨"java/util/Arrays", "checkLength", "(II)V"⟩ : MethodName) (head1 (Jvm.Cond.code (⟨"java/util/Arrays", "checkLength", "(II)V"⟩ : MethodName) jdk_65_method_131_code 2 none :: ws) ({ frames := 0, cells := 0, slots := 0, locals := 0 } : Room)) (fun a U => a = #[(.int (4 : Int32)), (.int (4 : Int32))] ∧ Z.Warmed39 U.vm ∧ U.heap = h0) (fun _ _ _ _ _ => True) (fun _ U o U' => ∃ v L, o = .returned v ∧ Q12_0 Z  h0 n0 v U'.heap L ∧ FrameEnd U o U' L ({ frames := 0, cells := 0, slots := 0, locals := 0 } : Room).cells ({ frames := 0, cells := 0, slots := 0, locals := 0 } : Room).slots) := by
  refine MetFree.of_bodySF pn_12 hisR ?_
  intro p e s m args below meth c s₁ Bd hml0 hP hK
  obtain ⟨rfl, hZ, hh⟩ := hP
  have hx := Bd.exec
  have hby := Bd.bytes
  have hml : c.maxLocals = 2 := hml0
  have hown : s.vm.findClass "java/util/Arrays" = some m.cls := findClass_of_methodNamed Bd.named
  have hnm := (name_of_methodNamed Bd.named Bd.method).1
  have hlk := BodyLoose.notSynchronized Bd
  have X0 : Stand p l e ({ frames := 0, cells := 0, slots := 0, locals := 0 } : Room) s m #[(.int (4 : Int32)), (.int (4 : Int32))] below meth c s₁ [] 0 0 := Stand.of_body Bd
  have e0 : s₁.heap = h0 := by rw [← hh, Bd.state]; rfl
  have N0 := Fr.nil n0
  show own_R p e below s (Q12_0 Z  h0 n0) ({ frames := 0, cells := 0, slots := 0, locals := 0 } : Room).cells ({ frames := 0, cells := 0, slots := 0, locals := 0 } : Room).slots s₁ (entryFrame m #[(.int (4 : Int32)), (.int (4 : Int32))] 2)
  refine own_cast (ef_12_0 m ) ?_
  show own_R p e below s _ _ _ s₁ (mkF m 0 #[.val (.int (4 : Int32)), .val (.int (4 : Int32))] [])
  refine own_iloadN X0 hx (hb hby d12_0) rfl ?_
  show own_R p e below s _ _ _ s₁ (mkF m 1 #[.val (.int (4 : Int32)), .val (.int (4 : Int32))] [(.int (4 : Int32))])
  refine own_iloadN X0 hx (hb hby d12_1) rfl ?_
  show own_R p e below s _ _ _ s₁ (mkF m 2 #[.val (.int (4 : Int32)), .val (.int (4 : Int32))] [(.int (4 : Int32)), (.int (4 : Int32))])
  refine own_icmp X0 hx (hb hby d12_2) (pc' := 37) (by decide) (by decide) (fun hc => ?_) (fun hc => ?_)
  · have hc2 : ¬ (4 : Int32) < (4 : Int32) := own_ge1 hc
    clear hc
    show own_R p e below s _ _ _ s₁ (mkF m 37 #[.val (.int (4 : Int32)), .val (.int (4 : Int32))] [])
    refine own_ret0 X0 hx Bd.returns hlk (hb hby d12_37) ?_ (by decide) (by decide)
    exact ⟨rfl, N0, e0⟩
  · have hc2 : (4 : Int32) < (4 : Int32) := own_ge0 hc
    exact absurd hc2 (by decide)
theorem pn_11 : plainFor (⟨"java/util/Arrays", "copyOfRangeByte", "([BII)[B"⟩ : MethodName) = true := by decide +kernel
theorem ef_11_0 (m : MethodId) (am : Addr) : entryFrame m #[(.ref am), (.int (4 : Int32)), (.int (4 : Int32))] 5 = mkF m 0 #[.val (.ref am), .val (.int (4 : Int32)), .val (.int (4 : Int32)), .unset, .unset] [] := by first | (simp [entryFrame, mkF, argsToLocals, Value.category]; done) | rfl
def Q11_0 (Z : State) (am : Addr) (km : ClassId) (vs : List Value) (dv : Value) (h0 : Heap) (n0 : Nat) (v : Option Value) (h : Heap) (L : List Loc) : Prop := ∃ b, v = some (.ref b) ∧ Fr n0 L ∧ Keep h0 h []
set_option maxRecDepth 65536 in
set_option maxHeartbeats 40000000 in
theorem rm11_0 (l : Launch) (Z : State) (a0 : Array Value) (hw : ∀ d ∈ tables_1, d.before a0 Z = true) (ws : List Jvm.Cond) (am : Addr) (km : ClassId) (vs : List Value) (dv : Value) (h0 : Heap) (n0 : Nat) (Z0 : n0 ≤ h0.size) (hV : Arv Z h0 am km .byte (4 : Int32) vs dv) :
    MetFree l (⟨"java/util/Arrays", "copyOfRangeByte", "([BII)[B"⟩ : MethodName) (head1 (Jvm.Cond.code (⟨"java/util/Arrays", "copyOfRangeByte", "([BII)[B"⟩ : MethodName) jdk_65_method_133_code 5 (some (.array .byte)) :: ws) ({ frames := 1, cells := 1, slots := 3, locals := 40 } : Room)) (fun a U => a = #[(.ref am), (.int (4 : Int32)), (.int (4 : Int32))] ∧ Z.Warmed39 U.vm ∧ U.heap = h0) (fun _ _ _ _ _ => True) (fun _ U o U' => ∃ v L, o = .returned v ∧ Q11_0 Z am km vs dv h0 n0 v U'.heap L ∧ FrameEnd U o U' L ({ frames := 1, cells := 1, slots := 3, locals := 40 } : Room).cells ({ frames := 1, cells := 1, slots := 3, locals := 40 } : Room).slots) := by
  refine MetFree.of_bodySF pn_11 hisR ?_
  intro p e s m args below meth c s₁ Bd hml0 hP hK
  obtain ⟨rfl, hZ, hh⟩ := hP
  have hx := Bd.exec
  have hby := Bd.bytes
  have hml : c.maxLocals = 5 := hml0
  have hown : s.vm.findClass "java/util/Arrays" = some m.cls := findClass_of_methodNamed Bd.named
  have hnm := (name_of_methodNamed Bd.named Bd.method).1
  have hlk := BodyLoose.notSynchronized Bd
  have X0 : Stand p l e ({ frames := 1, cells := 1, slots := 3, locals := 40 } : Room) s m #[(.ref am), (.int (4 : Int32)), (.int (4 : Int32))] below meth c s₁ [] 0 0 := Stand.of_body Bd
  have e0 : s₁.heap = h0 := by rw [← hh, Bd.state]; rfl
  have N0 := Fr.nil n0
  show own_R p e below s (Q11_0 Z am km vs dv h0 n0) ({ frames := 1, cells := 1, slots := 3, locals := 40 } : Room).cells ({ frames := 1, cells := 1, slots := 3, locals := 40 } : Room).slots s₁ (entryFrame m #[(.ref am), (.int (4 : Int32)), (.int (4 : Int32))] 5)
  refine own_cast (ef_11_0 m am) ?_
  show own_R p e below s _ _ _ s₁ (mkF m 0 #[.val (.ref am), .val (.int (4 : Int32)), .val (.int (4 : Int32)), .unset, .unset] [])
  have K0 := Keep.refl h0 ([] : List Addr)
  refine own_iloadN X0 hx (hb hby d11_0) rfl ?_
  show own_R p e below s _ _ _ s₁ (mkF m 1 #[.val (.ref am), .val (.int (4 : Int32)), .val (.int (4 : Int32)), .unset, .unset] [(.int (4 : Int32))])
  refine own_iloadN X0 hx (hb hby d11_1) rfl ?_
  show own_R p e below s _ _ _ s₁ (mkF m 2 #[.val (.ref am), .val (.int (4 : Int32)), .val (.int (4 : Int32)), .unset, .unset] [(.int (4 : Int32)), (.int (4 : Int32))])
  refine own_callS X0 hx hZ (y := (⟨"java/util/Arrays", "checkLength", "(II)V"⟩ : MethodName)) hown (hw _ (List.mem_of_getElem? (i := 63) rfl)) (hw _ (List.mem_of_getElem? (i := 64) rfl)) (hw _ (List.mem_of_getElem? (i := 58) rfl)) (hw _ (List.mem_of_getElem? (i := 65) rfl)) (by decide) (rm12_0 l Z a0 hw [] h0 n0 Z0) 0 (by decide) (by decide) e0 (by rw [hml]; rfl) [(.int (4 : Int32)), (.int (4 : Int32))] [] rfl (lenOf pd_3 rfl) rfl (Nat.le_of_eq rfl) (hb hby d11_2) (by decide) (by decide) ?_
  rintro T62 _ L62 X62 ⟨rfl, N62q, e62⟩
  have N62 := Fr.app N0 N62q
  show own_R p e below s _ _ _ T62 (mkF m 5 #[.val (.ref am), .val (.int (4 : Int32)), .val (.int (4 : Int32)), .unset, .unset] [])
  refine own_iloadN X62 hx (hb hby d11_5) rfl ?_
  show own_R p e below s _ _ _ T62 (mkF m 6 #[.val (.ref am), .val (.int (4 : Int32)), .val (.int (4 : Int32)), .unset, .unset] [(.int (4 : Int32))])
  refine own_iloadN X62 hx (hb hby d11_6) rfl ?_
  show own_R p e below s _ _ _ T62 (mkF m 7 #[.val (.ref am), .val (.int (4 : Int32)), .val (.int (4 : Int32)), .unset, .unset] [(.int (4 : Int32)), (.int (4 : Int32))])
  refine own_isub X62 hx (hb hby d11_7) ?_
  show own_R p e below s _ _ _ T62 (mkF m 8 #[.val (.ref am), .val (.int (4 : Int32)), .val (.int (4 : Int32)), .unset, .unset] [(.int (0 : Int32))])
  refine own_istoreN X62 hx (hb hby d11_8) (l' := #[.val (.ref am), .val (.int (4 : Int32)), .val (.int (4 : Int32)), .val (.int (0 : Int32)), .unset]) rfl ?_
  show own_R p e below s _ _ _ T62 (mkF m 9 #[.val (.ref am), .val (.int (4 : Int32)), .val (.int (4 : Int32)), .val (.int (0 : Int32)), .unset] [])
  refine own_iloadN X62 hx (hb hby d11_9) rfl ?_
  show own_R p e below s _ _ _ T62 (mkF m 10 #[.val (.ref am), .val (.int (4 : Int32)), .val (.int (4 : Int32)), .val (.int (0 : Int32)), .unset] [(.int (0 : Int32))])
  refine own_newA X62 hx hZ (hw _ (List.mem_of_getElem? (i := 3) rfl)) e62 (hb hby d11_10) (by decide) 3 (by decide) (by decide) (by decide) (by decide) (ad := "[B") (by decide) 0 ?_
  intro T63 h63 b63 k63 g63 X63 e63 E63 V63 A63
  have ne_am_b63 : am ≠ b63 := Nat.ne_of_lt (Nat.lt_of_lt_of_le hV.lt (Nat.le_of_eq g63.symm))
  have sz_b63 : h0.size ≤ b63 := Nat.le_trans K0.1 (Nat.le_of_eq g63.symm)
  have n0_b63 : n0 ≤ b63 := Nat.le_trans Z0 sz_b63
  have K63 := K0.ext E63
  have V_b63 : Arv Z h63 b63 k63 .byte (0 : Int32) [] (.int (0 : Int32)) := V63
  show own_R p e below s _ _ _ T63 (mkF m 12 #[.val (.ref am), .val (.int (4 : Int32)), .val (.int (4 : Int32)), .val (.int (0 : Int32)), .unset] [(.ref b63)])
  refine own_astore X63 hx (hb hby d11_12) rfl (l' := #[.val (.ref am), .val (.int (4 : Int32)), .val (.int (4 : Int32)), .val (.int (0 : Int32)), .val (.ref b63)]) rfl ?_
  show own_R p e below s _ _ _ T63 (mkF m 14 #[.val (.ref am), .val (.int (4 : Int32)), .val (.int (4 : Int32)), .val (.int (0 : Int32)), .val (.ref b63)] [])
  refine own_aloadN X63 hx (hb hby d11_14) rfl rfl ?_
  show own_R p e below s _ _ _ T63 (mkF m 15 #[.val (.ref am), .val (.int (4 : Int32)), .val (.int (4 : Int32)), .val (.int (0 : Int32)), .val (.ref b63)] [(.ref am)])
  refine own_iloadN X63 hx (hb hby d11_15) rfl ?_
  show own_R p e below s _ _ _ T63 (mkF m 16 #[.val (.ref am), .val (.int (4 : Int32)), .val (.int (4 : Int32)), .val (.int (0 : Int32)), .val (.ref b63)] [(.int (4 : Int32)), (.ref am)])
  refine own_aload X63 hx (hb hby d11_16) rfl rfl ?_
  show own_R p e below s _ _ _ T63 (mkF m 18 #[.val (.ref am), .val (.int (4 : Int32)), .val (.int (4 : Int32)), .val (.int (0 : Int32)), .val (.ref b63)] [(.ref b63), (.int (4 : Int32)), (.ref am)])
  refine own_iconst X63 hx (0 : Int32) (hb hby d11_18) rfl ?_
  show own_R p e below s _ _ _ T63 (mkF m 19 #[.val (.ref am), .val (.int (4 : Int32)), .val (.int (4 : Int32)), .val (.int (0 : Int32)), .val (.ref b63)] [(.int (0 : Int32)), (.ref b63), (.int (4 : Int32)), (.ref am)])
  refine own_aloadN X63 hx (hb hby d11_19) rfl rfl ?_
  show own_R p e below s _ _ _ T63 (mkF m 20 #[.val (.ref am), .val (.int (4 : Int32)), .val (.int (4 : Int32)), .val (.int (0 : Int32)), .val (.ref b63)] [(.ref am), (.int (0 : Int32)), (.ref b63), (.int (4 : Int32)), (.ref am)])
  have f64 := (hV.ext E63)
  refine own_len X63 hx hZ e63 f64 (hb hby d11_20) ?_
  show own_R p e below s _ _ _ T63 (mkF m 21 #[.val (.ref am), .val (.int (4 : Int32)), .val (.int (4 : Int32)), .val (.int (0 : Int32)), .val (.ref b63)] [(.int (4 : Int32)), (.int (0 : Int32)), (.ref b63), (.int (4 : Int32)), (.ref am)])
  refine own_iloadN X63 hx (hb hby d11_21) rfl ?_
  show own_R p e below s _ _ _ T63 (mkF m 22 #[.val (.ref am), .val (.int (4 : Int32)), .val (.int (4 : Int32)), .val (.int (0 : Int32)), .val (.ref b63)] [(.int (4 : Int32)), (.int (4 : Int32)), (.int (0 : Int32)), (.ref b63), (.int (4 : Int32)), (.ref am)])
  refine own_isub X63 hx (hb hby d11_22) ?_
  show own_R p e below s _ _ _ T63 (mkF m 23 #[.val (.ref am), .val (.int (4 : Int32)), .val (.int (4 : Int32)), .val (.int (0 : Int32)), .val (.ref b63)] [(.int (0 : Int32)), (.int (0 : Int32)), (.ref b63), (.int (4 : Int32)), (.ref am)])
  refine own_iloadN X63 hx (hb hby d11_23) rfl ?_
  show own_R p e below s _ _ _ T63 (mkF m 24 #[.val (.ref am), .val (.int (4 : Int32)), .val (.int (4 : Int32)), .val (.int (0 : Int32)), .val (.ref b63)] [(.int (0 : Int32)), (.int (0 : Int32)), (.int (0 : Int32)), (.ref b63), (.int (4 : Int32)), (.ref am)])
  refine own_callS X63 hx hZ (y := (⟨"java/lang/Math", "min", "(II)I"⟩ : MethodName)) hown (hw _ (List.mem_of_getElem? (i := 66) rfl)) (hw _ (List.mem_of_getElem? (i := 67) rfl)) (hw _ (List.mem_of_getElem? (i := 68) rfl)) (hw _ (List.mem_of_getElem? (i := 69) rfl)) (by decide) (rm13 l Z a0 hw [] (0 : Int32) (0 : Int32) h63 n0 (Nat.le_trans Z0 K63.1)) 4 (by decide) (by decide) e63 (by rw [hml]; rfl) [(.int (0 : Int32)), (.int (0 : Int32))] [(.int (0 : Int32)), (.ref b63), (.int (4 : Int32)), (.ref am)] rfl (lenOf pd_4 rfl) rfl (Nat.le_of_eq rfl) (hb hby d11_24) (by decide) (by decide) ?_
  rintro T65 _ L65 X65 ⟨rfl, N65q, e65⟩
  have N65 := Fr.app N62 N65q
  show own_R p e below s _ _ _ T65 (mkF m 27 #[.val (.ref am), .val (.int (4 : Int32)), .val (.int (4 : Int32)), .val (.int (0 : Int32)), .val (.ref b63)] [(.int (pl_min (0 : Int32) (0 : Int32))), (.int (0 : Int32)), (.ref b63), (.int (4 : Int32)), (.ref am)])
  rw [show pl_min (0 : Int32) (0 : Int32) = (0 : Int32) from by decide]
  show own_R p e below s _ _ _ T65 (mkF m 27 #[.val (.ref am), .val (.int (4 : Int32)), .val (.int (4 : Int32)), .val (.int (0 : Int32)), .val (.ref b63)] [(.int (0 : Int32)), (.int (0 : Int32)), (.ref b63), (.int (4 : Int32)), (.ref am)])
  obtain ⟨T66, h66, L66, X66, e66, N66, Kc66, V66, st66⟩ := cpA X65 hx hZ hown (hw _ (List.mem_of_getElem? (i := 70) rfl)) (hw _ (List.mem_of_getElem? (i := 73) rfl)) (hw _ (List.mem_of_getElem? (i := 71) rfl)) (hw _ (List.mem_of_getElem? (i := 72) rfl)) e65 f64 V_b63 (us := ((List.range (0 : Int32).toNatClampNeg).map fun i => vs.getD ((4 : Int32).toNatClampNeg + i) dv)) (Or.inl ⟨rfl, rfl⟩) (by decide) (by decide) (by decide) (by decide) (by decide) rfl (by decide) N65 n0_b63 (g := (mkF m 27 #[.val (.ref am), .val (.int (4 : Int32)), .val (.int (4 : Int32)), .val (.int (0 : Int32)), .val (.ref b63)] [(.int (0 : Int32)), (.int (0 : Int32)), (.ref b63), (.int (4 : Int32)), (.ref am)])) rfl (by rw [hml]; rfl) rfl (hb hby d11_27) (by decide) (W := 0) (Nat.le_of_eq rfl) (by decide)
  refine own_lift st66 ?_
  have K66 := K63.trans Kc66 (allS (P := fun x => x ∈ ([] : List Addr) ∨ h0.size ≤ x) (Or.inr sz_b63) all0)
  have V_b63_66 : Arv Z h66 b63 k63 .byte (0 : Int32) (([] : List Value).take (0 : Int32).toNatClampNeg ++ ((List.range (0 : Int32).toNatClampNeg).map fun i => vs.getD ((4 : Int32).toNatClampNeg + i) dv) ++ ([] : List Value).drop ((0 : Int32).toNatClampNeg + (0 : Int32).toNatClampNeg)) (.int (0 : Int32)) := V66
  show own_R p e below s _ _ _ T66 (mkF m 30 #[.val (.ref am), .val (.int (4 : Int32)), .val (.int (4 : Int32)), .val (.int (0 : Int32)), .val (.ref b63)] [])
  refine own_aload X66 hx (hb hby d11_30) rfl rfl ?_
  show own_R p e below s _ _ _ T66 (mkF m 32 #[.val (.ref am), .val (.int (4 : Int32)), .val (.int (4 : Int32)), .val (.int (0 : Int32)), .val (.ref b63)] [(.ref b63)])
  refine own_retA X66 hx Bd.returns rfl rfl hlk (hb hby d11_32) ?_ (by decide) (by decide)
  rw [e66]
  exact ⟨_, rfl, N66, K66⟩
theorem pn_10 : plainFor (⟨"java/util/Arrays", "copyOfRange", "([BII)[B"⟩ : MethodName) = true := by decide +kernel
theorem ef_10_0 (m : MethodId) (am : Addr) : entryFrame m #[(.ref am), (.int (4 : Int32)), (.int (4 : Int32))] 3 = mkF m 0 #[.val (.ref am), .val (.int (4 : Int32)), .val (.int (4 : Int32))] [] := by first | (simp [entryFrame, mkF, argsToLocals, Value.category]; done) | rfl
def Q10_0 (Z : State) (am : Addr) (km : ClassId) (vs : List Value) (dv : Value) (h0 : Heap) (n0 : Nat) (v : Option Value) (h : Heap) (L : List Loc) : Prop := ∃ b, v = some (.ref b) ∧ Fr n0 L ∧ Keep h0 h []
set_option maxRecDepth 65536 in
set_option maxHeartbeats 40000000 in
theorem rm10_0 (l : Launch) (Z : State) (a0 : Array Value) (hw : ∀ d ∈ tables_1, d.before a0 Z = true) (ws : List Jvm.Cond) (am : Addr) (km : ClassId) (vs : List Value) (dv : Value) (h0 : Heap) (n0 : Nat) (Z0 : n0 ≤ h0.size) (hV : Arv Z h0 am km .byte (4 : Int32) vs dv) :
    MetFree l (⟨"java/util/Arrays", "copyOfRange", "([BII)[B"⟩ : MethodName) (head1 (Jvm.Cond.code (⟨"java/util/Arrays", "copyOfRange", "([BII)[B"⟩ : MethodName) jdk_65_method_132_code 3 (some (.array .byte)) :: ws) ({ frames := 2, cells := 1, slots := 3, locals := 56 } : Room)) (fun a U => a = #[(.ref am), (.int (4 : Int32)), (.int (4 : Int32))] ∧ Z.Warmed39 U.vm ∧ U.heap = h0) (fun _ _ _ _ _ => True) (fun _ U o U' => ∃ v L, o = .returned v ∧ Q10_0 Z am km vs dv h0 n0 v U'.heap L ∧ FrameEnd U o U' L ({ frames := 2, cells := 1, slots := 3, locals := 56 } : Room).cells ({ frames := 2, cells := 1, slots := 3, locals := 56 } : Room).slots) := by
  refine MetFree.of_bodySF pn_10 hisR ?_
  intro p e s m args below meth c s₁ Bd hml0 hP hK
  obtain ⟨rfl, hZ, hh⟩ := hP
  have hx := Bd.exec
  have hby := Bd.bytes
  have hml : c.maxLocals = 3 := hml0
  have hown : s.vm.findClass "java/util/Arrays" = some m.cls := findClass_of_methodNamed Bd.named
  have hnm := (name_of_methodNamed Bd.named Bd.method).1
  have hlk := BodyLoose.notSynchronized Bd
  have X0 : Stand p l e ({ frames := 2, cells := 1, slots := 3, locals := 56 } : Room) s m #[(.ref am), (.int (4 : Int32)), (.int (4 : Int32))] below meth c s₁ [] 0 0 := Stand.of_body Bd
  have e0 : s₁.heap = h0 := by rw [← hh, Bd.state]; rfl
  have N0 := Fr.nil n0
  show own_R p e below s (Q10_0 Z am km vs dv h0 n0) ({ frames := 2, cells := 1, slots := 3, locals := 56 } : Room).cells ({ frames := 2, cells := 1, slots := 3, locals := 56 } : Room).slots s₁ (entryFrame m #[(.ref am), (.int (4 : Int32)), (.int (4 : Int32))] 3)
  refine own_cast (ef_10_0 m am) ?_
  show own_R p e below s _ _ _ s₁ (mkF m 0 #[.val (.ref am), .val (.int (4 : Int32)), .val (.int (4 : Int32))] [])
  have K0 := Keep.refl h0 ([] : List Addr)
  refine own_iloadN X0 hx (hb hby d10_0) rfl ?_
  show own_R p e below s _ _ _ s₁ (mkF m 1 #[.val (.ref am), .val (.int (4 : Int32)), .val (.int (4 : Int32))] [(.int (4 : Int32))])
  refine own_if X0 hx (hb hby d10_1) (pc' := 10) (by decide) (by decide) (fun hc => ?_) (fun hc => ?_)
  · have hc1 : ¬ (4 : Int32) = (0 : Int32) := own_ne1 hc
    clear hc
    show own_R p e below s _ _ _ s₁ (mkF m 10 #[.val (.ref am), .val (.int (4 : Int32)), .val (.int (4 : Int32))] [])
    refine own_aloadN X0 hx (hb hby d10_10) rfl rfl ?_
    show own_R p e below s _ _ _ s₁ (mkF m 11 #[.val (.ref am), .val (.int (4 : Int32)), .val (.int (4 : Int32))] [(.ref am)])
    refine own_iloadN X0 hx (hb hby d10_11) rfl ?_
    show own_R p e below s _ _ _ s₁ (mkF m 12 #[.val (.ref am), .val (.int (4 : Int32)), .val (.int (4 : Int32))] [(.int (4 : Int32)), (.ref am)])
    refine own_iloadN X0 hx (hb hby d10_12) rfl ?_
    show own_R p e below s _ _ _ s₁ (mkF m 13 #[.val (.ref am), .val (.int (4 : Int32)), .val (.int (4 : Int32))] [(.int (4 : Int32)), (.int (4 : Int32)), (.ref am)])
    refine own_callS X0 hx hZ (y := (⟨"java/util/Arrays", "copyOfRangeByte", "([BII)[B"⟩ : MethodName)) hown (hw _ (List.mem_of_getElem? (i := 60) rfl)) (hw _ (List.mem_of_getElem? (i := 61) rfl)) (hw _ (List.mem_of_getElem? (i := 58) rfl)) (hw _ (List.mem_of_getElem? (i := 62) rfl)) (by decide) (rm11_0 l Z a0 hw [] am km vs dv h0 n0 Z0 hV) 0 (by decide) (by decide) e0 (by rw [hml]; rfl) [(.ref am), (.int (4 : Int32)), (.int (4 : Int32))] [] rfl (lenOf pd_5 rfl) rfl (Nat.le_of_eq rfl) (hb hby d10_13) (by decide) (by decide) ?_
    rintro T67 _ L67 X67 ⟨c67, rfl, N67q, Kc67⟩
    have N67 := Fr.app N0 N67q
    have K67 := K0.trans Kc67 all0
    show own_R p e below s _ _ _ T67 (mkF m 16 #[.val (.ref am), .val (.int (4 : Int32)), .val (.int (4 : Int32))] [(.ref c67)])
    refine own_retA X67 hx Bd.returns rfl rfl hlk (hb hby d10_16) ?_ (by decide) (by decide)
    exact ⟨_, rfl, N67, K67⟩
  · have hc1 : (4 : Int32) = (0 : Int32) := own_ne0 hc
    exact absurd hc1 (by decide)
theorem pn_9 : plainFor (⟨"com/example/authwright/authwright/engine/MessageReader", "readString", "()[B"⟩ : MethodName) = true := by decide +kernel
theorem ef_9_0 (m : MethodId) (a1 : Addr) : entryFrame m #[(.ref a1)] 3 = mkF m 0 #[.val (.ref a1), .unset, .unset] [] := by first | (simp [entryFrame, mkF, argsToLocals, Value.category]; done) | rfl
def Q9_0 (Z : State) (a1 : Addr) (am : Addr) (km : ClassId) (vs : List Value) (dv : Value) (x0 : Int32) (x1 : Int32) (x2 : Int32) (x3 : Int32) (h0 : Heap) (n0 : Nat) (v : Option Value) (h : Heap) (L : List Loc) : Prop := ∃ b, v = some (.ref b) ∧ Fr n0 L ∧ Keep h0 h [a1] ∧ Exa Z h a1 "com/example/authwright/authwright/engine/MessageReader" ∧ Fld Z h a1 "com/example/authwright/authwright/engine/MessageReader" "message" "[B" (.ref am) ∧ Fld Z h a1 "com/example/authwright/authwright/engine/MessageReader" "position" "I" (.int (4 : Int32))
set_option maxRecDepth 65536 in
set_option maxHeartbeats 40000000 in
theorem rm9_0 (l : Launch) (Z : State) (a0 : Array Value) (hw : ∀ d ∈ tables_1, d.before a0 Z = true) (ws : List Jvm.Cond) (a1 : Addr) (am : Addr) (km : ClassId) (vs : List Value) (dv : Value) (x0 : Int32) (x1 : Int32) (x2 : Int32) (x3 : Int32) (h0 : Heap) (n0 : Nat) (Z0 : n0 ≤ h0.size) (hm : Fld Z h0 a1 "com/example/authwright/authwright/engine/MessageReader" "message" "[B" (.ref am)) (hp : Fld Z h0 a1 "com/example/authwright/authwright/engine/MessageReader" "position" "I" (.int (0 : Int32))) (hV : Arv Z h0 am km .byte (4 : Int32) vs dv) (hE : Exa Z h0 a1 "com/example/authwright/authwright/engine/MessageReader") (hn0 : n0 ≤ a1) (hne : a1 ≠ am) (hj0 : ¬ (0 : Int32) < 0 ∧ (0 : Int32) < (4 : Int32)) (hb0 : vs.getD (0 : Int32).toNatClampNeg dv = .int x0) (hj1 : ¬ (1 : Int32) < 0 ∧ (1 : Int32) < (4 : Int32)) (hb1 : vs.getD (1 : Int32).toNatClampNeg dv = .int x1) (hj2 : ¬ (2 : Int32) < 0 ∧ (2 : Int32) < (4 : Int32)) (hb2 : vs.getD (2 : Int32).toNatClampNeg dv = .int x2) (hj3 : ¬ (3 : Int32) < 0 ∧ (3 : Int32) < (4 : Int32)) (hb3 : vs.getD (3 : Int32).toNatClampNeg dv = .int x3) (hr : ¬ ((4 : Int32) - (0 : Int32)) < (4 : Int32)) (hln : (pl_u x0 x1 x2 x3).toInt32 = (0 : Int32)) (hle : pl_u x0 x1 x2 x3 = (0 : Int64)) :
    MetFree l (⟨"com/example/authwright/authwright/engine/MessageReader", "readString", "()[B"⟩ : MethodName) (head1 (Jvm.Cond.code (⟨"com/example/authwright/authwright/engine/MessageReader", "readString", "()[B"⟩ : MethodName) prog_23_method_4_code 3 (some (.array .byte)) :: ws) ({ frames := 3, cells := 3, slots := 31, locals := 70 } : Room)) (fun a U => a = #[(.ref a1)] ∧ Z.Warmed39 U.vm ∧ U.heap = h0) (fun _ _ _ _ _ => True) (fun _ U o U' => ∃ v L, o = .returned v ∧ Q9_0 Z a1 am km vs dv x0 x1 x2 x3 h0 n0 v U'.heap L ∧ ReturnedEndW U o U' L ({ frames := 3, cells := 3, slots := 31, locals := 70 } : Room).cells ({ frames := 3, cells := 3, slots := 31, locals := 70 } : Room).slots) := by
  refine MetFree.of_bodySF pn_9 hisR ?_
  intro p e s m args below meth c s₁ Bd hml0 hP hK
  obtain ⟨rfl, hZ, hh⟩ := hP
  have hx := Bd.exec
  have hby := Bd.bytes
  have hml : c.maxLocals = 3 := hml0
  have hown : s.vm.findClass "com/example/authwright/authwright/engine/MessageReader" = some m.cls := findClass_of_methodNamed Bd.named
  have hnm := (name_of_methodNamed Bd.named Bd.method).1
  have hlk := BodyLoose.notSynchronized Bd
  have X0 : Stand p l e ({ frames := 3, cells := 3, slots := 31, locals := 70 } : Room) (s.setVm s.vm) m #[(.ref a1)] below meth c s₁ [] 0 0 := Stand.of_body Bd
  have hS0 : s.Since s.vm 0 := (State.WarmedH.refl s).since 0
  have hk0 : 0 ≤ h0.size := Nat.zero_le _
  have hZ0 : Z.Warmed39 (s.setVm s.vm).vm := hZ
  have hown0 : (s.setVm s.vm).vm.findClass "com/example/authwright/authwright/engine/MessageReader" = some m.cls := hown
  have e0 : s₁.heap = h0 := by rw [← hh, Bd.state]; rfl
  have N0 := Fr.nil n0
  show ows_R p e below s (Q9_0 Z a1 am km vs dv x0 x1 x2 x3 h0 n0) ({ frames := 3, cells := 3, slots := 31, locals := 70 } : Room).cells ({ frames := 3, cells := 3, slots := 31, locals := 70 } : Room).slots s₁ (entryFrame m #[(.ref a1)] 3)
  refine ows_cast (ef_9_0 m a1) ?_
  show ows_R p e below s _ _ _ s₁ (mkF m 0 #[.val (.ref a1), .unset, .unset] [])
  have K0 := Keep.refl h0 ([a1] : List Addr)
  have n0_a1 := hn0
  refine ows_aloadN X0 hx (hb hby d9_0) rfl rfl ?_
  show ows_R p e below s _ _ _ s₁ (mkF m 1 #[.val (.ref a1), .unset, .unset] [(.ref a1)])
  refine ows_callPS X0 hx hZ0 (y := (⟨"com/example/authwright/authwright/engine/MessageReader", "readLength", "()I"⟩ : MethodName)) hown0 hS0 hk0 (hw _ (List.mem_of_getElem? (i := 40) rfl)) (hw _ (List.mem_of_getElem? (i := 41) rfl)) (hw _ (List.mem_of_getElem? (i := 1) rfl)) (hw _ (List.mem_of_getElem? (i := 42) rfl)) (hw _ (List.mem_of_getElem? (i := 2) rfl)) (hw _ (List.mem_of_getElem? (i := 43) rfl)) (by decide) (rm7 l Z a0 hw [] a1 am km (4 : Int32) vs dv x0 x1 x2 x3 (0 : Int32) h0 n0 Z0 hm hp hV hE hn0 hne hj0 hb0 hj1 hb1 hj2 hb2 hj3 hb3 hr hln (by rw [hle]; decide)) 0 (by decide) (by decide) e0 (by rw [hml]; rfl) a1 hE [] [] rfl (lenOf pd_2 rfl) rfl (Nat.le_of_eq rfl) (hb hby d9_1) (by decide) (by decide) ?_
  rintro T68 _ L68 X68 hS68 hZ68 hown68 ⟨rfl, N68q, Kc68, Ec68, Fm68, Fp68⟩
  have N68 := Fr.app N0 N68q
  have hk68 := Nat.le_refl T68.heap.size
  have K68 := K0.trans Kc68 (allS (P := fun x => x ∈ ([a1] : List Addr) ∨ h0.size ≤ x) (Or.inl (List.mem_of_getElem? (i := 0) rfl)) all0)
  show ows_R p e below s _ _ _ T68 (mkF m 4 #[.val (.ref a1), .unset, .unset] [(.int (0 : Int32))])
  have Fq68 : Fld Z T68.heap a1 "com/example/authwright/authwright/engine/MessageReader" "position" "I" (.int (4 : Int32)) := Fp68
  refine ows_istoreN X68 hx (hb hby d9_4) (l' := #[.val (.ref a1), .val (.int (0 : Int32)), .unset]) rfl ?_
  show ows_R p e below s _ _ _ T68 (mkF m 5 #[.val (.ref a1), .val (.int (0 : Int32)), .unset] [])
  refine ows_aloadN X68 hx (hb hby d9_5) rfl rfl ?_
  show ows_R p e below s _ _ _ T68 (mkF m 6 #[.val (.ref a1), .val (.int (0 : Int32)), .unset] [(.ref a1)])
  refine ows_getF X68 hx hZ68 hown68 (host := "") (Or.inl (hw _ (List.mem_of_getElem? (i := 10) rfl))) Via.refl rfl Fm68 (hb hby d9_6) ?_
  intro T69 X69 e69
  show ows_R p e below s _ _ _ T69 (mkF m 9 #[.val (.ref a1), .val (.int (0 : Int32)), .unset] [(.ref am)])
  refine ows_aloadN X69 hx (hb hby d9_9) rfl rfl ?_
  show ows_R p e below s _ _ _ T69 (mkF m 10 #[.val (.ref a1), .val (.int (0 : Int32)), .unset] [(.ref a1), (.ref am)])
  refine ows_getF X69 hx hZ68 hown68 (host := "") (Or.inl (hw _ (List.mem_of_getElem? (i := 17) rfl))) Via.refl e69 Fq68 (hb hby d9_10) ?_
  intro T70 X70 e70
  show ows_R p e below s _ _ _ T70 (mkF m 13 #[.val (.ref a1), .val (.int (0 : Int32)), .unset] [(.int (4 : Int32)), (.ref am)])
  refine ows_aloadN X70 hx (hb hby d9_13) rfl rfl ?_
  show ows_R p e below s _ _ _ T70 (mkF m 14 #[.val (.ref a1), .val (.int (0 : Int32)), .unset] [(.ref a1), (.int (4 : Int32)), (.ref am)])
  refine ows_getF X70 hx hZ68 hown68 (host := "") (Or.inl (hw _ (List.mem_of_getElem? (i := 17) rfl))) Via.refl e70 Fq68 (hb hby d9_14) ?_
  intro T71 X71 e71
  show ows_R p e below s _ _ _ T71 (mkF m 17 #[.val (.ref a1), .val (.int (0 : Int32)), .unset] [(.int (4 : Int32)), (.int (4 : Int32)), (.ref am)])
  refine ows_iloadN X71 hx (hb hby d9_17) rfl ?_
  show ows_R p e below s _ _ _ T71 (mkF m 18 #[.val (.ref a1), .val (.int (0 : Int32)), .unset] [(.int (0 : Int32)), (.int (4 : Int32)), (.int (4 : Int32)), (.ref am)])
  refine ows_iadd X71 hx (hb hby d9_18) ?_
  show ows_R p e below s _ _ _ T71 (mkF m 19 #[.val (.ref a1), .val (.int (0 : Int32)), .unset] [(.int (4 : Int32)), (.int (4 : Int32)), (.ref am)])
  have f72 := (hV.keep Kc68 (ninS (Ne.symm hne) nin0))
  refine ows_callS X71 hx hZ68 (y := (⟨"java/util/Arrays", "copyOfRange", "([BII)[B"⟩ : MethodName)) hown68 (hw _ (List.mem_of_getElem? (i := 56) rfl)) (hw _ (List.mem_of_getElem? (i := 57) rfl)) (hw _ (List.mem_of_getElem? (i := 58) rfl)) (hw _ (List.mem_of_getElem? (i := 59) rfl)) (by decide) (rm10_0 l Z a0 hw [] am km vs dv T68.heap n0 (Nat.le_trans Z0 K68.1) f72) 0 (by decide) (by decide) e71 (by rw [hml]; rfl) [(.ref am), (.int (4 : Int32)), (.int (4 : Int32))] [] rfl (lenOf pd_5 rfl) rfl (Nat.le_of_eq rfl) (hb hby d9_19) (by decide) (by decide) ?_
  rintro T73 _ L73 X73 ⟨c73, rfl, N73q, Kc73⟩
  have N73 := Fr.app N68 N73q
  have hk73 := Nat.le_trans hk68 Kc73.1
  have K73 := K68.trans Kc73 all0
  show ows_R p e below s _ _ _ T73 (mkF m 22 #[.val (.ref a1), .val (.int (0 : Int32)), .unset] [(.ref c73)])
  refine ows_astoreN X73 hx (hb hby d9_22) rfl (l' := #[.val (.ref a1), .val (.int (0 : Int32)), .val (.ref c73)]) rfl ?_
  show ows_R p e below s _ _ _ T73 (mkF m 23 #[.val (.ref a1), .val (.int (0 : Int32)), .val (.ref c73)] [])
  refine ows_aloadN X73 hx (hb hby d9_23) rfl rfl ?_
  show ows_R p e below s _ _ _ T73 (mkF m 24 #[.val (.ref a1), .val (.int (0 : Int32)), .val (.ref c73)] [(.ref a1)])
  refine ows_dup X73 hx (hb hby d9_24) rfl ?_
  show ows_R p e below s _ _ _ T73 (mkF m 25 #[.val (.ref a1), .val (.int (0 : Int32)), .val (.ref c73)] [(.ref a1), (.ref a1)])
  have f74 := (Fq68.keep Kc73 nin0)
  refine ows_getF X73 hx hZ68 hown68 (host := "") (Or.inl (hw _ (List.mem_of_getElem? (i := 17) rfl))) Via.refl rfl f74 (hb hby d9_25) ?_
  intro T75 X75 e75
  show ows_R p e below s _ _ _ T75 (mkF m 28 #[.val (.ref a1), .val (.int (0 : Int32)), .val (.ref c73)] [(.int (4 : Int32)), (.ref a1)])
  refine ows_iloadN X75 hx (hb hby d9_28) rfl ?_
  show ows_R p e below s _ _ _ T75 (mkF m 29 #[.val (.ref a1), .val (.int (0 : Int32)), .val (.ref c73)] [(.int (0 : Int32)), (.int (4 : Int32)), (.ref a1)])
  refine ows_iadd X75 hx (hb hby d9_29) ?_
  show ows_R p e below s _ _ _ T75 (mkF m 30 #[.val (.ref a1), .val (.int (0 : Int32)), .val (.ref c73)] [(.int (4 : Int32)), (.ref a1)])
  have f76 := (Exa.keep Ec68 Kc73)
  refine ows_putF X75 hx hZ68 hown68 (host := "") (Or.inl (hw _ (List.mem_of_getElem? (i := 17) rfl))) Via.refl e75 f74 f76 (Or.inl (hw _ (List.mem_of_getElem? (i := 18) rfl))) (hw _ (List.mem_of_getElem? (i := 1) rfl)) (ty := .int) (by decide) rfl rfl (hb hby d9_30) ?_
  intro T77 h77 X77 e77 W77
  have hk77 := Nat.le_trans hk73 (Keep.of_wr W77).1
  have K77 := K73.wr W77 (Or.inl (List.mem_of_getElem? (i := 0) rfl))
  have N77 := Fr.snoc X77 N73 n0_a1
  have Fw77 := Fld.same W77 f74
  show ows_R p e below s _ _ _ T77 (mkF m 33 #[.val (.ref a1), .val (.int (0 : Int32)), .val (.ref c73)] [])
  refine ows_aloadN X77 hx (hb hby d9_33) rfl rfl ?_
  show ows_R p e below s _ _ _ T77 (mkF m 34 #[.val (.ref a1), .val (.int (0 : Int32)), .val (.ref c73)] [(.ref c73)])
  have f78 := (Exa.wr W77 f76)
  have f79 := (Fld.other W77 (Fm68.keep Kc73 nin0) (Or.inr (slot_ne (Or.inr (hw _ (List.mem_of_getElem? (i := 11) rfl))) (Or.inl (hw _ (List.mem_of_getElem? (i := 18) rfl))) (by decide) (t := (.array .byte)) (t' := .int) (by decide) (by decide))))
  refine ows_retA X77 hS68 (by rw [e77]; exact hk77) hx Bd.returns rfl rfl hlk (hb hby d9_34) ?_ (by decide) (by decide)
  rw [e77]
  exact ⟨_, rfl, N77, K77, f78, f79, Fw77⟩
theorem ef_12_1 (m : MethodId)  : entryFrame m #[(.int (4 : Int32)), (.int (5 : Int32))] 2 = mkF m 0 #[.val (.int (4 : Int32)), .val (.int (5 : Int32))] [] := by first | (simp [entryFrame, mkF, argsToLocals, Value.category]; done) | rfl
def Q12_1 (Z : State)  (h0 : Heap) (n0 : Nat) (v : Option Value) (h : Heap) (L : List Loc) : Prop := v = none ∧ Fr n0 L ∧ h = h0
set_option maxRecDepth 65536 in
set_option maxHeartbeats 40000000 in
theorem rm12_1 (l : Launch) (Z : State) (a0 : Array Value) (hw : ∀ d ∈ tables_1, d.before a0 Z = true) (ws : List Jvm.Cond)  (h0 : Heap) (n0 : Nat) (Z0 : n0 ≤ h0.size) :
    MetFree l (⟨"java/util/Arrays", "checkLength", "(II)V"⟩ : MethodName) (head1 (Jvm.Cond.code (⟨"java/util/Arrays", "checkLength", "(II)V"⟩ : MethodName) jdk_65_method_131_code 2 none :: ws) ({ frames := 0, cells := 0, slots := 0, locals := 0 } : Room)) (fun a U => a = #[(.int (4 : Int32)), (.int (5 : Int32))] ∧ Z.Warmed39 U.vm ∧ U.heap = h0) (fun _ _ _ _ _ => True) (fun _ U o U' => ∃ v L, o = .returned v ∧ Q12_1 Z  h0 n0 v U'.heap L ∧ FrameEnd U o U' L ({ frames := 0, cells := 0, slots := 0, locals := 0 } : Room).cells ({ frames := 0, cells := 0, slots := 0, locals := 0 } : Room).slots) := by
  refine MetFree.of_bodySF pn_12 hisR ?_
  intro p e s m args below meth c s₁ Bd hml0 hP hK
  obtain ⟨rfl, hZ, hh⟩ := hP
  have hx := Bd.exec
  have hby := Bd.bytes
  have hml : c.maxLocals = 2 := hml0
  have hown : s.vm.findClass "java/util/Arrays" = some m.cls := findClass_of_methodNamed Bd.named
  have hnm := (name_of_methodNamed Bd.named Bd.method).1
  have hlk := BodyLoose.notSynchronized Bd
  have X0 : Stand p l e ({ frames := 0, cells := 0, slots := 0, locals := 0 } : Room) s m #[(.int (4 : Int32)), (.int (5 : Int32))] below meth c s₁ [] 0 0 := Stand.of_body Bd
  have e0 : s₁.heap = h0 := by rw [← hh, Bd.state]; rfl
  have N0 := Fr.nil n0
  show own_R p e below s (Q12_1 Z  h0 n0) ({ frames := 0, cells := 0, slots := 0, locals := 0 } : Room).cells ({ frames := 0, cells := 0, slots := 0, locals := 0 } : Room).slots s₁ (entryFrame m #[(.int (4 : Int32)), (.int (5 : Int32))] 2)
  refine own_cast (ef_12_1 m ) ?_
  show own_R p e below s _ _ _ s₁ (mkF m 0 #[.val (.int (4 : Int32)), .val (.int (5 : Int32))] [])
  refine own_iloadN X0 hx (hb hby d12_0) rfl ?_
  show own_R p e below s _ _ _ s₁ (mkF m 1 #[.val (.int (4 : Int32)), .val (.int (5 : Int32))] [(.int (5 : Int32))])
  refine own_iloadN X0 hx (hb hby d12_1) rfl ?_
  show own_R p e below s _ _ _ s₁ (mkF m 2 #[.val (.int (4 : Int32)), .val (.int (5 : Int32))] [(.int (4 : Int32)), (.int (5 : Int32))])
  refine own_icmp X0 hx (hb hby d12_2) (pc' := 37) (by decide) (by decide) (fun hc => ?_) (fun hc => ?_)
  · have hc2 : ¬ (5 : Int32) < (4 : Int32) := own_ge1 hc
    clear hc
    show own_R p e below s _ _ _ s₁ (mkF m 37 #[.val (.int (4 : Int32)), .val (.int (5 : Int32))] [])
    refine own_ret0 X0 hx Bd.returns hlk (hb hby d12_37) ?_ (by decide) (by decide)
    exact ⟨rfl, N0, e0⟩
  · have hc2 : (5 : Int32) < (4 : Int32) := own_ge0 hc
    exact absurd hc2 (by decide)
theorem ef_11_1 (m : MethodId) (am : Addr) : entryFrame m #[(.ref am), (.int (4 : Int32)), (.int (5 : Int32))] 5 = mkF m 0 #[.val (.ref am), .val (.int (4 : Int32)), .val (.int (5 : Int32)), .unset, .unset] [] := by first | (simp [entryFrame, mkF, argsToLocals, Value.category]; done) | rfl
def Q11_1 (Z : State) (am : Addr) (km : ClassId) (vs : List Value) (dv : Value) (h0 : Heap) (n0 : Nat) (v : Option Value) (h : Heap) (L : List Loc) : Prop := ∃ b, v = some (.ref b) ∧ Fr n0 L ∧ Keep h0 h []
set_option maxRecDepth 65536 in
set_option maxHeartbeats 40000000 in
theorem rm11_1 (l : Launch) (Z : State) (a0 : Array Value) (hw : ∀ d ∈ tables_1, d.before a0 Z = true) (ws : List Jvm.Cond) (am : Addr) (km : ClassId) (vs : List Value) (dv : Value) (h0 : Heap) (n0 : Nat) (Z0 : n0 ≤ h0.size) (hV : Arv Z h0 am km .byte (5 : Int32) vs dv) :
    MetFree l (⟨"java/util/Arrays", "copyOfRangeByte", "([BII)[B"⟩ : MethodName) (head1 (Jvm.Cond.code (⟨"java/util/Arrays", "copyOfRangeByte", "([BII)[B"⟩ : MethodName) jdk_65_method_133_code 5 (some (.array .byte)) :: ws) ({ frames := 1, cells := 1, slots := 3, locals := 40 } : Room)) (fun a U => a = #[(.ref am), (.int (4 : Int32)), (.int (5 : Int32))] ∧ Z.Warmed39 U.vm ∧ U.heap = h0) (fun _ _ _ _ _ => True) (fun _ U o U' => ∃ v L, o = .returned v ∧ Q11_1 Z am km vs dv h0 n0 v U'.heap L ∧ FrameEnd U o U' L ({ frames := 1, cells := 1, slots := 3, locals := 40 } : Room).cells ({ frames := 1, cells := 1, slots := 3, locals := 40 } : Room).slots) := by
  refine MetFree.of_bodySF pn_11 hisR ?_
  intro p e s m args below meth c s₁ Bd hml0 hP hK
  obtain ⟨rfl, hZ, hh⟩ := hP
  have hx := Bd.exec
  have hby := Bd.bytes
  have hml : c.maxLocals = 5 := hml0
  have hown : s.vm.findClass "java/util/Arrays" = some m.cls := findClass_of_methodNamed Bd.named
  have hnm := (name_of_methodNamed Bd.named Bd.method).1
  have hlk := BodyLoose.notSynchronized Bd
  have X0 : Stand p l e ({ frames := 1, cells := 1, slots := 3, locals := 40 } : Room) s m #[(.ref am), (.int (4 : Int32)), (.int (5 : Int32))] below meth c s₁ [] 0 0 := Stand.of_body Bd
  have e0 : s₁.heap = h0 := by rw [← hh, Bd.state]; rfl
  have N0 := Fr.nil n0
  show own_R p e below s (Q11_1 Z am km vs dv h0 n0) ({ frames := 1, cells := 1, slots := 3, locals := 40 } : Room).cells ({ frames := 1, cells := 1, slots := 3, locals := 40 } : Room).slots s₁ (entryFrame m #[(.ref am), (.int (4 : Int32)), (.int (5 : Int32))] 5)
  refine own_cast (ef_11_1 m am) ?_
  show own_R p e below s _ _ _ s₁ (mkF m 0 #[.val (.ref am), .val (.int (4 : Int32)), .val (.int (5 : Int32)), .unset, .unset] [])
  have K0 := Keep.refl h0 ([] : List Addr)
  refine own_iloadN X0 hx (hb hby d11_0) rfl ?_
  show own_R p e below s _ _ _ s₁ (mkF m 1 #[.val (.ref am), .val (.int (4 : Int32)), .val (.int (5 : Int32)), .unset, .unset] [(.int (4 : Int32))])
  refine own_iloadN X0 hx (hb hby d11_1) rfl ?_
  show own_R p e below s _ _ _ s₁ (mkF m 2 #[.val (.ref am), .val (.int (4 : Int32)), .val (.int (5 : Int32)), .unset, .unset] [(.int (5 : Int32)), (.int (4 : Int32))])
  refine own_callS X0 hx hZ (y := (⟨"java/util/Arrays", "checkLength", "(II)V"⟩ : MethodName)) hown (hw _ (List.mem_of_getElem? (i := 63) rfl)) (hw _ (List.mem_of_getElem? (i := 64) rfl)) (hw _ (List.mem_of_getElem? (i := 58) rfl)) (hw _ (List.mem_of_getElem? (i := 65) rfl)) (by decide) (rm12_1 l Z a0 hw [] h0 n0 Z0) 0 (by decide) (by decide) e0 (by rw [hml]; rfl) [(.int (4 : Int32)), (.int (5 : Int32))] [] rfl (lenOf pd_3 rfl) rfl (Nat.le_of_eq rfl) (hb hby d11_2) (by decide) (by decide) ?_
  rintro T80 _ L80 X80 ⟨rfl, N80q, e80⟩
  have N80 := Fr.app N0 N80q
  show own_R p e below s _ _ _ T80 (mkF m 5 #[.val (.ref am), .val (.int (4 : Int32)), .val (.int (5 : Int32)), .unset, .unset] [])
  refine own_iloadN X80 hx (hb hby d11_5) rfl ?_
  show own_R p e below s _ _ _ T80 (mkF m 6 #[.val (.ref am), .val (.int (4 : Int32)), .val (.int (5 : Int32)), .unset, .unset] [(.int (5 : Int32))])
  refine own_iloadN X80 hx (hb hby d11_6) rfl ?_
  show own_R p e below s _ _ _ T80 (mkF m 7 #[.val (.ref am), .val (.int (4 : Int32)), .val (.int (5 : Int32)), .unset, .unset] [(.int (4 : Int32)), (.int (5 : Int32))])
  refine own_isub X80 hx (hb hby d11_7) ?_
  show own_R p e below s _ _ _ T80 (mkF m 8 #[.val (.ref am), .val (.int (4 : Int32)), .val (.int (5 : Int32)), .unset, .unset] [(.int (1 : Int32))])
  refine own_istoreN X80 hx (hb hby d11_8) (l' := #[.val (.ref am), .val (.int (4 : Int32)), .val (.int (5 : Int32)), .val (.int (1 : Int32)), .unset]) rfl ?_
  show own_R p e below s _ _ _ T80 (mkF m 9 #[.val (.ref am), .val (.int (4 : Int32)), .val (.int (5 : Int32)), .val (.int (1 : Int32)), .unset] [])
  refine own_iloadN X80 hx (hb hby d11_9) rfl ?_
  show own_R p e below s _ _ _ T80 (mkF m 10 #[.val (.ref am), .val (.int (4 : Int32)), .val (.int (5 : Int32)), .val (.int (1 : Int32)), .unset] [(.int (1 : Int32))])
  refine own_newA X80 hx hZ (hw _ (List.mem_of_getElem? (i := 3) rfl)) e80 (hb hby d11_10) (by decide) 3 (by decide) (by decide) (by decide) (by decide) (ad := "[B") (by decide) 1 ?_
  intro T81 h81 b81 k81 g81 X81 e81 E81 V81 A81
  have ne_am_b81 : am ≠ b81 := Nat.ne_of_lt (Nat.lt_of_lt_of_le hV.lt (Nat.le_of_eq g81.symm))
  have sz_b81 : h0.size ≤ b81 := Nat.le_trans K0.1 (Nat.le_of_eq g81.symm)
  have n0_b81 : n0 ≤ b81 := Nat.le_trans Z0 sz_b81
  have K81 := K0.ext E81
  have V_b81 : Arv Z h81 b81 k81 .byte (1 : Int32) [(.int (0 : Int32))] (.int (0 : Int32)) := V81
  show own_R p e below s _ _ _ T81 (mkF m 12 #[.val (.ref am), .val (.int (4 : Int32)), .val (.int (5 : Int32)), .val (.int (1 : Int32)), .unset] [(.ref b81)])
  refine own_astore X81 hx (hb hby d11_12) rfl (l' := #[.val (.ref am), .val (.int (4 : Int32)), .val (.int (5 : Int32)), .val (.int (1 : Int32)), .val (.ref b81)]) rfl ?_
  show own_R p e below s _ _ _ T81 (mkF m 14 #[.val (.ref am), .val (.int (4 : Int32)), .val (.int (5 : Int32)), .val (.int (1 : Int32)), .val (.ref b81)] [])
  refine own_aloadN X81 hx (hb hby d11_14) rfl rfl ?_
  show own_R p e below s _ _ _ T81 (mkF m 15 #[.val (.ref am), .val (.int (4 : Int32)), .val (.int (5 : Int32)), .val (.int (1 : Int32)), .val (.ref b81)] [(.ref am)])
  refine own_iloadN X81 hx (hb hby d11_15) rfl ?_
  show own_R p e below s _ _ _ T81 (mkF m 16 #[.val (.ref am), .val (.int (4 : Int32)), .val (.int (5 : Int32)), .val (.int (1 : Int32)), .val (.ref b81)] [(.int (4 : Int32)), (.ref am)])
  refine own_aload X81 hx (hb hby d11_16) rfl rfl ?_
  show own_R p e below s _ _ _ T81 (mkF m 18 #[.val (.ref am), .val (.int (4 : Int32)), .val (.int (5 : Int32)), .val (.int (1 : Int32)), .val (.ref b81)] [(.ref b81), (.int (4 : Int32)), (.ref am)])
  refine own_iconst X81 hx (0 : Int32) (hb hby d11_18) rfl ?_
  show own_R p e below s _ _ _ T81 (mkF m 19 #[.val (.ref am), .val (.int (4 : Int32)), .val (.int (5 : Int32)), .val (.int (1 : Int32)), .val (.ref b81)] [(.int (0 : Int32)), (.ref b81), (.int (4 : Int32)), (.ref am)])
  refine own_aloadN X81 hx (hb hby d11_19) rfl rfl ?_
  show own_R p e below s _ _ _ T81 (mkF m 20 #[.val (.ref am), .val (.int (4 : Int32)), .val (.int (5 : Int32)), .val (.int (1 : Int32)), .val (.ref b81)] [(.ref am), (.int (0 : Int32)), (.ref b81), (.int (4 : Int32)), (.ref am)])
  have f82 := (hV.ext E81)
  refine own_len X81 hx hZ e81 f82 (hb hby d11_20) ?_
  show own_R p e below s _ _ _ T81 (mkF m 21 #[.val (.ref am), .val (.int (4 : Int32)), .val (.int (5 : Int32)), .val (.int (1 : Int32)), .val (.ref b81)] [(.int (5 : Int32)), (.int (0 : Int32)), (.ref b81), (.int (4 : Int32)), (.ref am)])
  refine own_iloadN X81 hx (hb hby d11_21) rfl ?_
  show own_R p e below s _ _ _ T81 (mkF m 22 #[.val (.ref am), .val (.int (4 : Int32)), .val (.int (5 : Int32)), .val (.int (1 : Int32)), .val (.ref b81)] [(.int (4 : Int32)), (.int (5 : Int32)), (.int (0 : Int32)), (.ref b81), (.int (4 : Int32)), (.ref am)])
  refine own_isub X81 hx (hb hby d11_22) ?_
  show own_R p e below s _ _ _ T81 (mkF m 23 #[.val (.ref am), .val (.int (4 : Int32)), .val (.int (5 : Int32)), .val (.int (1 : Int32)), .val (.ref b81)] [(.int (1 : Int32)), (.int (0 : Int32)), (.ref b81), (.int (4 : Int32)), (.ref am)])
  refine own_iloadN X81 hx (hb hby d11_23) rfl ?_
  show own_R p e below s _ _ _ T81 (mkF m 24 #[.val (.ref am), .val (.int (4 : Int32)), .val (.int (5 : Int32)), .val (.int (1 : Int32)), .val (.ref b81)] [(.int (1 : Int32)), (.int (1 : Int32)), (.int (0 : Int32)), (.ref b81), (.int (4 : Int32)), (.ref am)])
  refine own_callS X81 hx hZ (y := (⟨"java/lang/Math", "min", "(II)I"⟩ : MethodName)) hown (hw _ (List.mem_of_getElem? (i := 66) rfl)) (hw _ (List.mem_of_getElem? (i := 67) rfl)) (hw _ (List.mem_of_getElem? (i := 68) rfl)) (hw _ (List.mem_of_getElem? (i := 69) rfl)) (by decide) (rm13 l Z a0 hw [] (1 : Int32) (1 : Int32) h81 n0 (Nat.le_trans Z0 K81.1)) 4 (by decide) (by decide) e81 (by rw [hml]; rfl) [(.int (1 : Int32)), (.int (1 : Int32))] [(.int (0 : Int32)), (.ref b81), (.int (4 : Int32)), (.ref am)] rfl (lenOf pd_4 rfl) rfl (Nat.le_of_eq rfl) (hb hby d11_24) (by decide) (by decide) ?_
  rintro T83 _ L83 X83 ⟨rfl, N83q, e83⟩
  have N83 := Fr.app N80 N83q
  show own_R p e below s _ _ _ T83 (mkF m 27 #[.val (.ref am), .val (.int (4 : Int32)), .val (.int (5 : Int32)), .val (.int (1 : Int32)), .val (.ref b81)] [(.int (pl_min (1 : Int32) (1 : Int32))), (.int (0 : Int32)), (.ref b81), (.int (4 : Int32)), (.ref am)])
  rw [show pl_min (1 : Int32) (1 : Int32) = (1 : Int32) from by decide]
  show own_R p e below s _ _ _ T83 (mkF m 27 #[.val (.ref am), .val (.int (4 : Int32)), .val (.int (5 : Int32)), .val (.int (1 : Int32)), .val (.ref b81)] [(.int (1 : Int32)), (.int (0 : Int32)), (.ref b81), (.int (4 : Int32)), (.ref am)])
  obtain ⟨T84, h84, L84, X84, e84, N84, Kc84, V84, st84⟩ := cpA X83 hx hZ hown (hw _ (List.mem_of_getElem? (i := 70) rfl)) (hw _ (List.mem_of_getElem? (i := 73) rfl)) (hw _ (List.mem_of_getElem? (i := 71) rfl)) (hw _ (List.mem_of_getElem? (i := 72) rfl)) e83 f82 V_b81 (us := ((List.range (1 : Int32).toNatClampNeg).map fun i => vs.getD ((4 : Int32).toNatClampNeg + i) dv)) (Or.inl ⟨rfl, rfl⟩) (by decide) (by decide) (by decide) (by decide) (by decide) rfl (by decide) N83 n0_b81 (g := (mkF m 27 #[.val (.ref am), .val (.int (4 : Int32)), .val (.int (5 : Int32)), .val (.int (1 : Int32)), .val (.ref b81)] [(.int (1 : Int32)), (.int (0 : Int32)), (.ref b81), (.int (4 : Int32)), (.ref am)])) rfl (by rw [hml]; rfl) rfl (hb hby d11_27) (by decide) (W := 0) (Nat.le_of_eq rfl) (by decide)
  refine own_lift st84 ?_
  have K84 := K81.trans Kc84 (allS (P := fun x => x ∈ ([] : List Addr) ∨ h0.size ≤ x) (Or.inr sz_b81) all0)
  have V_b81_84 : Arv Z h84 b81 k81 .byte (1 : Int32) (([(.int (0 : Int32))] : List Value).take (0 : Int32).toNatClampNeg ++ ((List.range (1 : Int32).toNatClampNeg).map fun i => vs.getD ((4 : Int32).toNatClampNeg + i) dv) ++ ([(.int (0 : Int32))] : List Value).drop ((0 : Int32).toNatClampNeg + (1 : Int32).toNatClampNeg)) (.int (0 : Int32)) := V84
  show own_R p e below s _ _ _ T84 (mkF m 30 #[.val (.ref am), .val (.int (4 : Int32)), .val (.int (5 : Int32)), .val (.int (1 : Int32)), .val (.ref b81)] [])
  refine own_aload X84 hx (hb hby d11_30) rfl rfl ?_
  show own_R p e below s _ _ _ T84 (mkF m 32 #[.val (.ref am), .val (.int (4 : Int32)), .val (.int (5 : Int32)), .val (.int (1 : Int32)), .val (.ref b81)] [(.ref b81)])
  refine own_retA X84 hx Bd.returns rfl rfl hlk (hb hby d11_32) ?_ (by decide) (by decide)
  rw [e84]
  exact ⟨_, rfl, N84, K84⟩
theorem ef_10_1 (m : MethodId) (am : Addr) : entryFrame m #[(.ref am), (.int (4 : Int32)), (.int (5 : Int32))] 3 = mkF m 0 #[.val (.ref am), .val (.int (4 : Int32)), .val (.int (5 : Int32))] [] := by first | (simp [entryFrame, mkF, argsToLocals, Value.category]; done) | rfl
def Q10_1 (Z : State) (am : Addr) (km : ClassId) (vs : List Value) (dv : Value) (h0 : Heap) (n0 : Nat) (v : Option Value) (h : Heap) (L : List Loc) : Prop := ∃ b, v = some (.ref b) ∧ Fr n0 L ∧ Keep h0 h []
set_option maxRecDepth 65536 in
set_option maxHeartbeats 40000000 in
theorem rm10_1 (l : Launch) (Z : State) (a0 : Array Value) (hw : ∀ d ∈ tables_1, d.before a0 Z = true) (ws : List Jvm.Cond) (am : Addr) (km : ClassId) (vs : List Value) (dv : Value) (h0 : Heap) (n0 : Nat) (Z0 : n0 ≤ h0.size) (hV : Arv Z h0 am km .byte (5 : Int32) vs dv) :
    MetFree l (⟨"java/util/Arrays", "copyOfRange", "([BII)[B"⟩ : MethodName) (head1 (Jvm.Cond.code (⟨"java/util/Arrays", "copyOfRange", "([BII)[B"⟩ : MethodName) jdk_65_method_132_code 3 (some (.array .byte)) :: ws) ({ frames := 2, cells := 1, slots := 3, locals := 56 } : Room)) (fun a U => a = #[(.ref am), (.int (4 : Int32)), (.int (5 : Int32))] ∧ Z.Warmed39 U.vm ∧ U.heap = h0) (fun _ _ _ _ _ => True) (fun _ U o U' => ∃ v L, o = .returned v ∧ Q10_1 Z am km vs dv h0 n0 v U'.heap L ∧ FrameEnd U o U' L ({ frames := 2, cells := 1, slots := 3, locals := 56 } : Room).cells ({ frames := 2, cells := 1, slots := 3, locals := 56 } : Room).slots) := by
  refine MetFree.of_bodySF pn_10 hisR ?_
  intro p e s m args below meth c s₁ Bd hml0 hP hK
  obtain ⟨rfl, hZ, hh⟩ := hP
  have hx := Bd.exec
  have hby := Bd.bytes
  have hml : c.maxLocals = 3 := hml0
  have hown : s.vm.findClass "java/util/Arrays" = some m.cls := findClass_of_methodNamed Bd.named
  have hnm := (name_of_methodNamed Bd.named Bd.method).1
  have hlk := BodyLoose.notSynchronized Bd
  have X0 : Stand p l e ({ frames := 2, cells := 1, slots := 3, locals := 56 } : Room) s m #[(.ref am), (.int (4 : Int32)), (.int (5 : Int32))] below meth c s₁ [] 0 0 := Stand.of_body Bd
  have e0 : s₁.heap = h0 := by rw [← hh, Bd.state]; rfl
  have N0 := Fr.nil n0
  show own_R p e below s (Q10_1 Z am km vs dv h0 n0) ({ frames := 2, cells := 1, slots := 3, locals := 56 } : Room).cells ({ frames := 2, cells := 1, slots := 3, locals := 56 } : Room).slots s₁ (entryFrame m #[(.ref am), (.int (4 : Int32)), (.int (5 : Int32))] 3)
  refine own_cast (ef_10_1 m am) ?_
  show own_R p e below s _ _ _ s₁ (mkF m 0 #[.val (.ref am), .val (.int (4 : Int32)), .val (.int (5 : Int32))] [])
  have K0 := Keep.refl h0 ([] : List Addr)
  refine own_iloadN X0 hx (hb hby d10_0) rfl ?_
  show own_R p e below s _ _ _ s₁ (mkF m 1 #[.val (.ref am), .val (.int (4 : Int32)), .val (.int (5 : Int32))] [(.int (4 : Int32))])
  refine own_if X0 hx (hb hby d10_1) (pc' := 10) (by decide) (by decide) (fun hc => ?_) (fun hc => ?_)
  · have hc1 : ¬ (4 : Int32) = (0 : Int32) := own_ne1 hc
    clear hc
    show own_R p e below s _ _ _ s₁ (mkF m 10 #[.val (.ref am), .val (.int (4 : Int32)), .val (.int (5 : Int32))] [])
    refine own_aloadN X0 hx (hb hby d10_10) rfl rfl ?_
    show own_R p e below s _ _ _ s₁ (mkF m 11 #[.val (.ref am), .val (.int (4 : Int32)), .val (.int (5 : Int32))] [(.ref am)])
    refine own_iloadN X0 hx (hb hby d10_11) rfl ?_
    show own_R p e below s _ _ _ s₁ (mkF m 12 #[.val (.ref am), .val (.int (4 : Int32)), .val (.int (5 : Int32))] [(.int (4 : Int32)), (.ref am)])
    refine own_iloadN X0 hx (hb hby d10_12) rfl ?_
    show own_R p e below s _ _ _ s₁ (mkF m 13 #[.val (.ref am), .val (.int (4 : Int32)), .val (.int (5 : Int32))] [(.int (5 : Int32)), (.int (4 : Int32)), (.ref am)])
    refine own_callS X0 hx hZ (y := (⟨"java/util/Arrays", "copyOfRangeByte", "([BII)[B"⟩ : MethodName)) hown (hw _ (List.mem_of_getElem? (i := 60) rfl)) (hw _ (List.mem_of_getElem? (i := 61) rfl)) (hw _ (List.mem_of_getElem? (i := 58) rfl)) (hw _ (List.mem_of_getElem? (i := 62) rfl)) (by decide) (rm11_1 l Z a0 hw [] am km vs dv h0 n0 Z0 hV) 0 (by decide) (by decide) e0 (by rw [hml]; rfl) [(.ref am), (.int (4 : Int32)), (.int (5 : Int32))] [] rfl (lenOf pd_5 rfl) rfl (Nat.le_of_eq rfl) (hb hby d10_13) (by decide) (by decide) ?_
    rintro T85 _ L85 X85 ⟨c85, rfl, N85q, Kc85⟩
    have N85 := Fr.app N0 N85q
    have K85 := K0.trans Kc85 all0
    show own_R p e below s _ _ _ T85 (mkF m 16 #[.val (.ref am), .val (.int (4 : Int32)), .val (.int (5 : Int32))] [(.ref c85)])
    refine own_retA X85 hx Bd.returns rfl rfl hlk (hb hby d10_16) ?_ (by decide) (by decide)
    exact ⟨_, rfl, N85, K85⟩
  · have hc1 : (4 : Int32) = (0 : Int32) := own_ne0 hc
    exact absurd hc1 (by decide)
theorem ef_9_1 (m : MethodId) (a1 : Addr) : entryFrame m #[(.ref a1)] 3 = mkF m 0 #[.val (.ref a1), .unset, .unset] [] := by first | (simp [entryFrame, mkF, argsToLocals, Value.category]; done) | rfl
def Q9_1 (Z : State) (a1 : Addr) (am : Addr) (km : ClassId) (vs : List Value) (dv : Value) (x0 : Int32) (x1 : Int32) (x2 : Int32) (x3 : Int32) (h0 : Heap) (n0 : Nat) (v : Option Value) (h : Heap) (L : List Loc) : Prop := ∃ b, v = some (.ref b) ∧ Fr n0 L ∧ Keep h0 h [a1] ∧ Exa Z h a1 "com/example/authwright/authwright/engine/MessageReader" ∧ Fld Z h a1 "com/example/authwright/authwright/engine/MessageReader" "message" "[B" (.ref am) ∧ Fld Z h a1 "com/example/authwright/authwright/engine/MessageReader" "position" "I" (.int (5 : Int32))
set_option maxRecDepth 65536 in
set_option maxHeartbeats 40000000 in
theorem rm9_1 (l : Launch) (Z : State) (a0 : Array Value) (hw : ∀ d ∈ tables_1, d.before a0 Z = true) (ws : List Jvm.Cond) (a1 : Addr) (am : Addr) (km : ClassId) (vs : List Value) (dv : Value) (x0 : Int32) (x1 : Int32) (x2 : Int32) (x3 : Int32) (h0 : Heap) (n0 : Nat) (Z0 : n0 ≤ h0.size) (hm : Fld Z h0 a1 "com/example/authwright/authwright/engine/MessageReader" "message" "[B" (.ref am)) (hp : Fld Z h0 a1 "com/example/authwright/authwright/engine/MessageReader" "position" "I" (.int (0 : Int32))) (hV : Arv Z h0 am km .byte (5 : Int32) vs dv) (hE : Exa Z h0 a1 "com/example/authwright/authwright/engine/MessageReader") (hn0 : n0 ≤ a1) (hne : a1 ≠ am) (hj0 : ¬ (0 : Int32) < 0 ∧ (0 : Int32) < (5 : Int32)) (hb0 : vs.getD (0 : Int32).toNatClampNeg dv = .int x0) (hj1 : ¬ (1 : Int32) < 0 ∧ (1 : Int32) < (5 : Int32)) (hb1 : vs.getD (1 : Int32).toNatClampNeg dv = .int x1) (hj2 : ¬ (2 : Int32) < 0 ∧ (2 : Int32) < (5 : Int32)) (hb2 : vs.getD (2 : Int32).toNatClampNeg dv = .int x2) (hj3 : ¬ (3 : Int32) < 0 ∧ (3 : Int32) < (5 : Int32)) (hb3 : vs.getD (3 : Int32).toNatClampNeg dv = .int x3) (hr : ¬ ((5 : Int32) - (0 : Int32)) < (4 : Int32)) (hln : (pl_u x0 x1 x2 x3).toInt32 = (1 : Int32)) (hle : pl_u x0 x1 x2 x3 = (1 : Int64)) :
    MetFree l (⟨"com/example/authwright/authwright/engine/MessageReader", "readString", "()[B"⟩ : MethodName) (head1 (Jvm.Cond.code (⟨"com/example/authwright/authwright/engine/MessageReader", "readString", "()[B"⟩ : MethodName) prog_23_method_4_code 3 (some (.array .byte)) :: ws) ({ frames := 3, cells := 3, slots := 31, locals := 70 } : Room)) (fun a U => a = #[(.ref a1)] ∧ Z.Warmed39 U.vm ∧ U.heap = h0) (fun _ _ _ _ _ => True) (fun _ U o U' => ∃ v L, o = .returned v ∧ Q9_1 Z a1 am km vs dv x0 x1 x2 x3 h0 n0 v U'.heap L ∧ ReturnedEndW U o U' L ({ frames := 3, cells := 3, slots := 31, locals := 70 } : Room).cells ({ frames := 3, cells := 3, slots := 31, locals := 70 } : Room).slots) := by
  refine MetFree.of_bodySF pn_9 hisR ?_
  intro p e s m args below meth c s₁ Bd hml0 hP hK
  obtain ⟨rfl, hZ, hh⟩ := hP
  have hx := Bd.exec
  have hby := Bd.bytes
  have hml : c.maxLocals = 3 := hml0
  have hown : s.vm.findClass "com/example/authwright/authwright/engine/MessageReader" = some m.cls := findClass_of_methodNamed Bd.named
  have hnm := (name_of_methodNamed Bd.named Bd.method).1
  have hlk := BodyLoose.notSynchronized Bd
  have X0 : Stand p l e ({ frames := 3, cells := 3, slots := 31, locals := 70 } : Room) (s.setVm s.vm) m #[(.ref a1)] below meth c s₁ [] 0 0 := Stand.of_body Bd
  have hS0 : s.Since s.vm 0 := (State.WarmedH.refl s).since 0
  have hk0 : 0 ≤ h0.size := Nat.zero_le _
  have hZ0 : Z.Warmed39 (s.setVm s.vm).vm := hZ
  have hown0 : (s.setVm s.vm).vm.findClass "com/example/authwright/authwright/engine/MessageReader" = some m.cls := hown
  have e0 : s₁.heap = h0 := by rw [← hh, Bd.state]; rfl
  have N0 := Fr.nil n0
  show ows_R p e below s (Q9_1 Z a1 am km vs dv x0 x1 x2 x3 h0 n0) ({ frames := 3, cells := 3, slots := 31, locals := 70 } : Room).cells ({ frames := 3, cells := 3, slots := 31, locals := 70 } : Room).slots s₁ (entryFrame m #[(.ref a1)] 3)
  refine ows_cast (ef_9_1 m a1) ?_
  show ows_R p e below s _ _ _ s₁ (mkF m 0 #[.val (.ref a1), .unset, .unset] [])
  have K0 := Keep.refl h0 ([a1] : List Addr)
  have n0_a1 := hn0
  refine ows_aloadN X0 hx (hb hby d9_0) rfl rfl ?_
  show ows_R p e below s _ _ _ s₁ (mkF m 1 #[.val (.ref a1), .unset, .unset] [(.ref a1)])
  refine ows_callPS X0 hx hZ0 (y := (⟨"com/example/authwright/authwright/engine/MessageReader", "readLength", "()I"⟩ : MethodName)) hown0 hS0 hk0 (hw _ (List.mem_of_getElem? (i := 40) rfl)) (hw _ (List.mem_of_getElem? (i := 41) rfl)) (hw _ (List.mem_of_getElem? (i := 1) rfl)) (hw _ (List.mem_of_getElem? (i := 42) rfl)) (hw _ (List.mem_of_getElem? (i := 2) rfl)) (hw _ (List.mem_of_getElem? (i := 43) rfl)) (by decide) (rm7 l Z a0 hw [] a1 am km (5 : Int32) vs dv x0 x1 x2 x3 (1 : Int32) h0 n0 Z0 hm hp hV hE hn0 hne hj0 hb0 hj1 hb1 hj2 hb2 hj3 hb3 hr hln (by rw [hle]; decide)) 0 (by decide) (by decide) e0 (by rw [hml]; rfl) a1 hE [] [] rfl (lenOf pd_2 rfl) rfl (Nat.le_of_eq rfl) (hb hby d9_1) (by decide) (by decide) ?_
  rintro T86 _ L86 X86 hS86 hZ86 hown86 ⟨rfl, N86q, Kc86, Ec86, Fm86, Fp86⟩
  have N86 := Fr.app N0 N86q
  have hk86 := Nat.le_refl T86.heap.size
  have K86 := K0.trans Kc86 (allS (P := fun x => x ∈ ([a1] : List Addr) ∨ h0.size ≤ x) (Or.inl (List.mem_of_getElem? (i := 0) rfl)) all0)
  show ows_R p e below s _ _ _ T86 (mkF m 4 #[.val (.ref a1), .unset, .unset] [(.int (1 : Int32))])
  have Fq86 : Fld Z T86.heap a1 "com/example/authwright/authwright/engine/MessageReader" "position" "I" (.int (4 : Int32)) := Fp86
  refine ows_istoreN X86 hx (hb hby d9_4) (l' := #[.val (.ref a1), .val (.int (1 : Int32)), .unset]) rfl ?_
  show ows_R p e below s _ _ _ T86 (mkF m 5 #[.val (.ref a1), .val (.int (1 : Int32)), .unset] [])
  refine ows_aloadN X86 hx (hb hby d9_5) rfl rfl ?_
  show ows_R p e below s _ _ _ T86 (mkF m 6 #[.val (.ref a1), .val (.int (1 : Int32)), .unset] [(.ref a1)])
  refine ows_getF X86 hx hZ86 hown86 (host := "") (Or.inl (hw _ (List.mem_of_getElem? (i := 10) rfl))) Via.refl rfl Fm86 (hb hby d9_6) ?_
  intro T87 X87 e87
  show ows_R p e below s _ _ _ T87 (mkF m 9 #[.val (.ref a1), .val (.int (1 : Int32)), .unset] [(.ref am)])
  refine ows_aloadN X87 hx (hb hby d9_9) rfl rfl ?_
  show ows_R p e below s _ _ _ T87 (mkF m 10 #[.val (.ref a1), .val (.int (1 : Int32)), .unset] [(.ref a1), (.ref am)])
  refine ows_getF X87 hx hZ86 hown86 (host := "") (Or.inl (hw _ (List.mem_of_getElem? (i := 17) rfl))) Via.refl e87 Fq86 (hb hby d9_10) ?_
  intro T88 X88 e88
  show ows_R p e below s _ _ _ T88 (mkF m 13 #[.val (.ref a1), .val (.int (1 : Int32)), .unset] [(.int (4 : Int32)), (.ref am)])
  refine ows_aloadN X88 hx (hb hby d9_13) rfl rfl ?_
  show ows_R p e below s _ _ _ T88 (mkF m 14 #[.val (.ref a1), .val (.int (1 : Int32)), .unset] [(.ref a1), (.int (4 : Int32)), (.ref am)])
  refine ows_getF X88 hx hZ86 hown86 (host := "") (Or.inl (hw _ (List.mem_of_getElem? (i := 17) rfl))) Via.refl e88 Fq86 (hb hby d9_14) ?_
  intro T89 X89 e89
  show ows_R p e below s _ _ _ T89 (mkF m 17 #[.val (.ref a1), .val (.int (1 : Int32)), .unset] [(.int (4 : Int32)), (.int (4 : Int32)), (.ref am)])
  refine ows_iloadN X89 hx (hb hby d9_17) rfl ?_
  show ows_R p e below s _ _ _ T89 (mkF m 18 #[.val (.ref a1), .val (.int (1 : Int32)), .unset] [(.int (1 : Int32)), (.int (4 : Int32)), (.int (4 : Int32)), (.ref am)])
  refine ows_iadd X89 hx (hb hby d9_18) ?_
  show ows_R p e below s _ _ _ T89 (mkF m 19 #[.val (.ref a1), .val (.int (1 : Int32)), .unset] [(.int (5 : Int32)), (.int (4 : Int32)), (.ref am)])
  have f90 := (hV.keep Kc86 (ninS (Ne.symm hne) nin0))
  refine ows_callS X89 hx hZ86 (y := (⟨"java/util/Arrays", "copyOfRange", "([BII)[B"⟩ : MethodName)) hown86 (hw _ (List.mem_of_getElem? (i := 56) rfl)) (hw _ (List.mem_of_getElem? (i := 57) rfl)) (hw _ (List.mem_of_getElem? (i := 58) rfl)) (hw _ (List.mem_of_getElem? (i := 59) rfl)) (by decide) (rm10_1 l Z a0 hw [] am km vs dv T86.heap n0 (Nat.le_trans Z0 K86.1) f90) 0 (by decide) (by decide) e89 (by rw [hml]; rfl) [(.ref am), (.int (4 : Int32)), (.int (5 : Int32))] [] rfl (lenOf pd_5 rfl) rfl (Nat.le_of_eq rfl) (hb hby d9_19) (by decide) (by decide) ?_
  rintro T91 _ L91 X91 ⟨c91, rfl, N91q, Kc91⟩
  have N91 := Fr.app N86 N91q
  have hk91 := Nat.le_trans hk86 Kc91.1
  have K91 := K86.trans Kc91 all0
  show ows_R p e below s _ _ _ T91 (mkF m 22 #[.val (.ref a1), .val (.int (1 : Int32)), .unset] [(.ref c91)])
  refine ows_astoreN X91 hx (hb hby d9_22) rfl (l' := #[.val (.ref a1), .val (.int (1 : Int32)), .val (.ref c91)]) rfl ?_
  show ows_R p e below s _ _ _ T91 (mkF m 23 #[.val (.ref a1), .val (.int (1 : Int32)), .val (.ref c91)] [])
  refine ows_aloadN X91 hx (hb hby d9_23) rfl rfl ?_
  show ows_R p e below s _ _ _ T91 (mkF m 24 #[.val (.ref a1), .val (.int (1 : Int32)), .val (.ref c91)] [(.ref a1)])
  refine ows_dup X91 hx (hb hby d9_24) rfl ?_
  show ows_R p e below s _ _ _ T91 (mkF m 25 #[.val (.ref a1), .val (.int (1 : Int32)), .val (.ref c91)] [(.ref a1), (.ref a1)])
  have f92 := (Fq86.keep Kc91 nin0)
  refine ows_getF X91 hx hZ86 hown86 (host := "") (Or.inl (hw _ (List.mem_of_getElem? (i := 17) rfl))) Via.refl rfl f92 (hb hby d9_25) ?_
  intro T93 X93 e93
  show ows_R p e below s _ _ _ T93 (mkF m 28 #[.val (.ref a1), .val (.int (1 : Int32)), .val (.ref c91)] [(.int (4 : Int32)), (.ref a1)])
  refine ows_iloadN X93 hx (hb hby d9_28) rfl ?_
  show ows_R p e below s _ _ _ T93 (mkF m 29 #[.val (.ref a1), .val (.int (1 : Int32)), .val (.ref c91)] [(.int (1 : Int32)), (.int (4 : Int32)), (.ref a1)])
  refine ows_iadd X93 hx (hb hby d9_29) ?_
  show ows_R p e below s _ _ _ T93 (mkF m 30 #[.val (.ref a1), .val (.int (1 : Int32)), .val (.ref c91)] [(.int (5 : Int32)), (.ref a1)])
  have f94 := (Exa.keep Ec86 Kc91)
  refine ows_putF X93 hx hZ86 hown86 (host := "") (Or.inl (hw _ (List.mem_of_getElem? (i := 17) rfl))) Via.refl e93 f92 f94 (Or.inl (hw _ (List.mem_of_getElem? (i := 18) rfl))) (hw _ (List.mem_of_getElem? (i := 1) rfl)) (ty := .int) (by decide) rfl rfl (hb hby d9_30) ?_
  intro T95 h95 X95 e95 W95
  have hk95 := Nat.le_trans hk91 (Keep.of_wr W95).1
  have K95 := K91.wr W95 (Or.inl (List.mem_of_getElem? (i := 0) rfl))
  have N95 := Fr.snoc X95 N91 n0_a1
  have Fw95 := Fld.same W95 f92
  show ows_R p e below s _ _ _ T95 (mkF m 33 #[.val (.ref a1), .val (.int (1 : Int32)), .val (.ref c91)] [])
  refine ows_aloadN X95 hx (hb hby d9_33) rfl rfl ?_
  show ows_R p e below s _ _ _ T95 (mkF m 34 #[.val (.ref a1), .val (.int (1 : Int32)), .val (.ref c91)] [(.ref c91)])
  have f96 := (Exa.wr W95 f94)
  have f97 := (Fld.other W95 (Fm86.keep Kc91 nin0) (Or.inr (slot_ne (Or.inr (hw _ (List.mem_of_getElem? (i := 11) rfl))) (Or.inl (hw _ (List.mem_of_getElem? (i := 18) rfl))) (by decide) (t := (.array .byte)) (t' := .int) (by decide) (by decide))))
  refine ows_retA X95 hS86 (by rw [e95]; exact hk95) hx Bd.returns rfl rfl hlk (hb hby d9_34) ?_ (by decide) (by decide)
  rw [e95]
  exact ⟨_, rfl, N95, K95, f96, f97, Fw95⟩
theorem ef_12_2 (m : MethodId)  : entryFrame m #[(.int (4 : Int32)), (.int (6 : Int32))] 2 = mkF m 0 #[.val (.int (4 : Int32)), .val (.int (6 : Int32))] [] := by first | (simp [entryFrame, mkF, argsToLocals, Value.category]; done) | rfl
def Q12_2 (Z : State)  (h0 : Heap) (n0 : Nat) (v : Option Value) (h : Heap) (L : List Loc) : Prop := v = none ∧ Fr n0 L ∧ h = h0
set_option maxRecDepth 65536 in
set_option maxHeartbeats 40000000 in
theorem rm12_2 (l : Launch) (Z : State) (a0 : Array Value) (hw : ∀ d ∈ tables_1, d.before a0 Z = true) (ws : List Jvm.Cond)  (h0 : Heap) (n0 : Nat) (Z0 : n0 ≤ h0.size) :
    MetFree l (⟨"java/util/Arrays", "checkLength", "(II)V"⟩ : MethodName) (head1 (Jvm.Cond.code (⟨"java/util/Arrays", "checkLength", "(II)V"⟩ : MethodName) jdk_65_method_131_code 2 none :: ws) ({ frames := 0, cells := 0, slots := 0, locals := 0 } : Room)) (fun a U => a = #[(.int (4 : Int32)), (.int (6 : Int32))] ∧ Z.Warmed39 U.vm ∧ U.heap = h0) (fun _ _ _ _ _ => True) (fun _ U o U' => ∃ v L, o = .returned v ∧ Q12_2 Z  h0 n0 v U'.heap L ∧ FrameEnd U o U' L ({ frames := 0, cells := 0, slots := 0, locals := 0 } : Room).cells ({ frames := 0, cells := 0, slots := 0, locals := 0 } : Room).slots) := by
  refine MetFree.of_bodySF pn_12 hisR ?_
  intro p e s m args below meth c s₁ Bd hml0 hP hK
  obtain ⟨rfl, hZ, hh⟩ := hP
  have hx := Bd.exec
  have hby := Bd.bytes
  have hml : c.maxLocals = 2 := hml0
  have hown : s.vm.findClass "java/util/Arrays" = some m.cls := findClass_of_methodNamed Bd.named
  have hnm := (name_of_methodNamed Bd.named Bd.method).1
  have hlk := BodyLoose.notSynchronized Bd
  have X0 : Stand p l e ({ frames := 0, cells := 0, slots := 0, locals := 0 } : Room) s m #[(.int (4 : Int32)), (.int (6 : Int32))] below meth c s₁ [] 0 0 := Stand.of_body Bd
  have e0 : s₁.heap = h0 := by rw [← hh, Bd.state]; rfl
  have N0 := Fr.nil n0
  show own_R p e below s (Q12_2 Z  h0 n0) ({ frames := 0, cells := 0, slots := 0, locals := 0 } : Room).cells ({ frames := 0, cells := 0, slots := 0, locals := 0 } : Room).slots s₁ (entryFrame m #[(.int (4 : Int32)), (.int (6 : Int32))] 2)
  refine own_cast (ef_12_2 m ) ?_
  show own_R p e below s _ _ _ s₁ (mkF m 0 #[.val (.int (4 : Int32)), .val (.int (6 : Int32))] [])
  refine own_iloadN X0 hx (hb hby d12_0) rfl ?_
  show own_R p e below s _ _ _ s₁ (mkF m 1 #[.val (.int (4 : Int32)), .val (.int (6 : Int32))] [(.int (6 : Int32))])
  refine own_iloadN X0 hx (hb hby d12_1) rfl ?_
  show own_R p e below s _ _ _ s₁ (mkF m 2 #[.val (.int (4 : Int32)), .val (.int (6 : Int32))] [(.int (4 : Int32)), (.int (6 : Int32))])
  refine own_icmp X0 hx (hb hby d12_2) (pc' := 37) (by decide) (by decide) (fun hc => ?_) (fun hc => ?_)
  · have hc2 : ¬ (6 : Int32) < (4 : Int32) := own_ge1 hc
    clear hc
    show own_R p e below s _ _ _ s₁ (mkF m 37 #[.val (.int (4 : Int32)), .val (.int (6 : Int32))] [])
    refine own_ret0 X0 hx Bd.returns hlk (hb hby d12_37) ?_ (by decide) (by decide)
    exact ⟨rfl, N0, e0⟩
  · have hc2 : (6 : Int32) < (4 : Int32) := own_ge0 hc
    exact absurd hc2 (by decide)
theorem ef_11_2 (m : MethodId) (am : Addr) : entryFrame m #[(.ref am), (.int (4 : Int32)), (.int (6 : Int32))] 5 = mkF m 0 #[.val (.ref am), .val (.int (4 : Int32)), .val (.int (6 : Int32)), .unset, .unset] [] := by first | (simp [entryFrame, mkF, argsToLocals, Value.category]; done) | rfl
def Q11_2 (Z : State) (am : Addr) (km : ClassId) (vs : List Value) (dv : Value) (h0 : Heap) (n0 : Nat) (v : Option Value) (h : Heap) (L : List Loc) : Prop := ∃ b, v = some (.ref b) ∧ Fr n0 L ∧ Keep h0 h []
set_option maxRecDepth 65536 in
set_option maxHeartbeats 40000000 in
theorem rm11_2 (l : Launch) (Z : State) (a0 : Array Value) (hw : ∀ d ∈ tables_1, d.before a0 Z = true) (ws : List Jvm.Cond) (am : Addr) (km : ClassId) (vs : List Value) (dv : Value) (h0 : Heap) (n0 : Nat) (Z0 : n0 ≤ h0.size) (hV : Arv Z h0 am km .byte (6 : Int32) vs dv) :
    MetFree l (⟨"java/util/Arrays", "copyOfRangeByte", "([BII)[B"⟩ : MethodName) (head1 (Jvm.Cond.code (⟨"java/util/Arrays", "copyOfRangeByte", "([BII)[B"⟩ : MethodName) jdk_65_method_133_code 5 (some (.array .byte)) :: ws) ({ frames := 1, cells := 1, slots := 3, locals := 40 } : Room)) (fun a U => a = #[(.ref am), (.int (4 : Int32)), (.int (6 : Int32))] ∧ Z.Warmed39 U.vm ∧ U.heap = h0) (fun _ _ _ _ _ => True) (fun _ U o U' => ∃ v L, o = .returned v ∧ Q11_2 Z am km vs dv h0 n0 v U'.heap L ∧ FrameEnd U o U' L ({ frames := 1, cells := 1, slots := 3, locals := 40 } : Room).cells ({ frames := 1, cells := 1, slots := 3, locals := 40 } : Room).slots) := by
  refine MetFree.of_bodySF pn_11 hisR ?_
  intro p e s m args below meth c s₁ Bd hml0 hP hK
  obtain ⟨rfl, hZ, hh⟩ := hP
  have hx := Bd.exec
  have hby := Bd.bytes
  have hml : c.maxLocals = 5 := hml0
  have hown : s.vm.findClass "java/util/Arrays" = some m.cls := findClass_of_methodNamed Bd.named
  have hnm := (name_of_methodNamed Bd.named Bd.method).1
  have hlk := BodyLoose.notSynchronized Bd
  have X0 : Stand p l e ({ frames := 1, cells := 1, slots := 3, locals := 40 } : Room) s m #[(.ref am), (.int (4 : Int32)), (.int (6 : Int32))] below meth c s₁ [] 0 0 := Stand.of_body Bd
  have e0 : s₁.heap = h0 := by rw [← hh, Bd.state]; rfl
  have N0 := Fr.nil n0
  show own_R p e below s (Q11_2 Z am km vs dv h0 n0) ({ frames := 1, cells := 1, slots := 3, locals := 40 } : Room).cells ({ frames := 1, cells := 1, slots := 3, locals := 40 } : Room).slots s₁ (entryFrame m #[(.ref am), (.int (4 : Int32)), (.int (6 : Int32))] 5)
  refine own_cast (ef_11_2 m am) ?_
  show own_R p e below s _ _ _ s₁ (mkF m 0 #[.val (.ref am), .val (.int (4 : Int32)), .val (.int (6 : Int32)), .unset, .unset] [])
  have K0 := Keep.refl h0 ([] : List Addr)
  refine own_iloadN X0 hx (hb hby d11_0) rfl ?_
  show own_R p e below s _ _ _ s₁ (mkF m 1 #[.val (.ref am), .val (.int (4 : Int32)), .val (.int (6 : Int32)), .unset, .unset] [(.int (4 : Int32))])
  refine own_iloadN X0 hx (hb hby d11_1) rfl ?_
  show own_R p e below s _ _ _ s₁ (mkF m 2 #[.val (.ref am), .val (.int (4 : Int32)), .val (.int (6 : Int32)), .unset, .unset] [(.int (6 : Int32)), (.int (4 : Int32))])
  refine own_callS X0 hx hZ (y := (⟨"java/util/Arrays", "checkLength", "(II)V"⟩ : MethodName)) hown (hw _ (List.mem_of_getElem? (i := 63) rfl)) (hw _ (List.mem_of_getElem? (i := 64) rfl)) (hw _ (List.mem_of_getElem? (i := 58) rfl)) (hw _ (List.mem_of_getElem? (i := 65) rfl)) (by decide) (rm12_2 l Z a0 hw [] h0 n0 Z0) 0 (by decide) (by decide) e0 (by rw [hml]; rfl) [(.int (4 : Int32)), (.int (6 : Int32))] [] rfl (lenOf pd_3 rfl) rfl (Nat.le_of_eq rfl) (hb hby d11_2) (by decide) (by decide) ?_
  rintro T98 _ L98 X98 ⟨rfl, N98q, e98⟩
  have N98 := Fr.app N0 N98q
  show own_R p e below s _ _ _ T98 (mkF m 5 #[.val (.ref am), .val (.int (4 : Int32)), .val (.int (6 : Int32)), .unset, .unset] [])
  refine own_iloadN X98 hx (hb hby d11_5) rfl ?_
  show own_R p e below s _ _ _ T98 (mkF m 6 #[.val (.ref am), .val (.int (4 : Int32)), .val (.int (6 : Int32)), .unset, .unset] [(.int (6 : Int32))])
  refine own_iloadN X98 hx (hb hby d11_6) rfl ?_
  show own_R p e below s _ _ _ T98 (mkF m 7 #[.val (.ref am), .val (.int (4 : Int32)), .val (.int (6 : Int32)), .unset, .unset] [(.int (4 : Int32)), (.int (6 : Int32))])
  refine own_isub X98 hx (hb hby d11_7) ?_
  show own_R p e below s _ _ _ T98 (mkF m 8 #[.val (.ref am), .val (.int (4 : Int32)), .val (.int (6 : Int32)), .unset, .unset] [(.int (2 : Int32))])
  refine own_istoreN X98 hx (hb hby d11_8) (l' := #[.val (.ref am), .val (.int (4 : Int32)), .val (.int (6 : Int32)), .val (.int (2 : Int32)), .unset]) rfl ?_
  show own_R p e below s _ _ _ T98 (mkF m 9 #[.val (.ref am), .val (.int (4 : Int32)), .val (.int (6 : Int32)), .val (.int (2 : Int32)), .unset] [])
  refine own_iloadN X98 hx (hb hby d11_9) rfl ?_
  show own_R p e below s _ _ _ T98 (mkF m 10 #[.val (.ref am), .val (.int (4 : Int32)), .val (.int (6 : Int32)), .val (.int (2 : Int32)), .unset] [(.int (2 : Int32))])
  refine own_newA X98 hx hZ (hw _ (List.mem_of_getElem? (i := 3) rfl)) e98 (hb hby d11_10) (by decide) 3 (by decide) (by decide) (by decide) (by decide) (ad := "[B") (by decide) 2 ?_
  intro T99 h99 b99 k99 g99 X99 e99 E99 V99 A99
  have ne_am_b99 : am ≠ b99 := Nat.ne_of_lt (Nat.lt_of_lt_of_le hV.lt (Nat.le_of_eq g99.symm))
  have sz_b99 : h0.size ≤ b99 := Nat.le_trans K0.1 (Nat.le_of_eq g99.symm)
  have n0_b99 : n0 ≤ b99 := Nat.le_trans Z0 sz_b99
  have K99 := K0.ext E99
  have V_b99 : Arv Z h99 b99 k99 .byte (2 : Int32) [(.int (0 : Int32)), (.int (0 : Int32))] (.int (0 : Int32)) := V99
  show own_R p e below s _ _ _ T99 (mkF m 12 #[.val (.ref am), .val (.int (4 : Int32)), .val (.int (6 : Int32)), .val (.int (2 : Int32)), .unset] [(.ref b99)])
  refine own_astore X99 hx (hb hby d11_12) rfl (l' := #[.val (.ref am), .val (.int (4 : Int32)), .val (.int (6 : Int32)), .val (.int (2 : Int32)), .val (.ref b99)]) rfl ?_
  show own_R p e below s _ _ _ T99 (mkF m 14 #[.val (.ref am), .val (.int (4 : Int32)), .val (.int (6 : Int32)), .val (.int (2 : Int32)), .val (.ref b99)] [])
  refine own_aloadN X99 hx (hb hby d11_14) rfl rfl ?_
  show own_R p e below s _ _ _ T99 (mkF m 15 #[.val (.ref am), .val (.int (4 : Int32)), .val (.int (6 : Int32)), .val (.int (2 : Int32)), .val (.ref b99)] [(.ref am)])
  refine own_iloadN X99 hx (hb hby d11_15) rfl ?_
  show own_R p e below s _ _ _ T99 (mkF m 16 #[.val (.ref am), .val (.int (4 : Int32)), .val (.int (6 : Int32)), .val (.int (2 : Int32)), .val (.ref b99)] [(.int (4 : Int32)), (.ref am)])
  refine own_aload X99 hx (hb hby d11_16) rfl rfl ?_
  show own_R p e below s _ _ _ T99 (mkF m 18 #[.val (.ref am), .val (.int (4 : Int32)), .val (.int (6 : Int32)), .val (.int (2 : Int32)), .val (.ref b99)] [(.ref b99), (.int (4 : Int32)), (.ref am)])
  refine own_iconst X99 hx (0 : Int32) (hb hby d11_18) rfl ?_
  show own_R p e below s _ _ _ T99 (mkF m 19 #[.val (.ref am), .val (.int (4 : Int32)), .val (.int (6 : Int32)), .val (.int (2 : Int32)), .val (.ref b99)] [(.int (0 : Int32)), (.ref b99), (.int (4 : Int32)), (.ref am)])
  refine own_aloadN X99 hx (hb hby d11_19) rfl rfl ?_
  show own_R p e below s _ _ _ T99 (mkF m 20 #[.val (.ref am), .val (.int (4 : Int32)), .val (.int (6 : Int32)), .val (.int (2 : Int32)), .val (.ref b99)] [(.ref am), (.int (0 : Int32)), (.ref b99), (.int (4 : Int32)), (.ref am)])
  have f100 := (hV.ext E99)
  refine own_len X99 hx hZ e99 f100 (hb hby d11_20) ?_
  show own_R p e below s _ _ _ T99 (mkF m 21 #[.val (.ref am), .val (.int (4 : Int32)), .val (.int (6 : Int32)), .val (.int (2 : Int32)), .val (.ref b99)] [(.int (6 : Int32)), (.int (0 : Int32)), (.ref b99), (.int (4 : Int32)), (.ref am)])
  refine own_iloadN X99 hx (hb hby d11_21) rfl ?_
  show own_R p e below s _ _ _ T99 (mkF m 22 #[.val (.ref am), .val (.int (4 : Int32)), .val (.int (6 : Int32)), .val (.int (2 : Int32)), .val (.ref b99)] [(.int (4 : Int32)), (.int (6 : Int32)), (.int (0 : Int32)), (.ref b99), (.int (4 : Int32)), (.ref am)])
  refine own_isub X99 hx (hb hby d11_22) ?_
  show own_R p e below s _ _ _ T99 (mkF m 23 #[.val (.ref am), .val (.int (4 : Int32)), .val (.int (6 : Int32)), .val (.int (2 : Int32)), .val (.ref b99)] [(.int (2 : Int32)), (.int (0 : Int32)), (.ref b99), (.int (4 : Int32)), (.ref am)])
  refine own_iloadN X99 hx (hb hby d11_23) rfl ?_
  show own_R p e below s _ _ _ T99 (mkF m 24 #[.val (.ref am), .val (.int (4 : Int32)), .val (.int (6 : Int32)), .val (.int (2 : Int32)), .val (.ref b99)] [(.int (2 : Int32)), (.int (2 : Int32)), (.int (0 : Int32)), (.ref b99), (.int (4 : Int32)), (.ref am)])
  refine own_callS X99 hx hZ (y := (⟨"java/lang/Math", "min", "(II)I"⟩ : MethodName)) hown (hw _ (List.mem_of_getElem? (i := 66) rfl)) (hw _ (List.mem_of_getElem? (i := 67) rfl)) (hw _ (List.mem_of_getElem? (i := 68) rfl)) (hw _ (List.mem_of_getElem? (i := 69) rfl)) (by decide) (rm13 l Z a0 hw [] (2 : Int32) (2 : Int32) h99 n0 (Nat.le_trans Z0 K99.1)) 4 (by decide) (by decide) e99 (by rw [hml]; rfl) [(.int (2 : Int32)), (.int (2 : Int32))] [(.int (0 : Int32)), (.ref b99), (.int (4 : Int32)), (.ref am)] rfl (lenOf pd_4 rfl) rfl (Nat.le_of_eq rfl) (hb hby d11_24) (by decide) (by decide) ?_
  rintro T101 _ L101 X101 ⟨rfl, N101q, e101⟩
  have N101 := Fr.app N98 N101q
  show own_R p e below s _ _ _ T101 (mkF m 27 #[.val (.ref am), .val (.int (4 : Int32)), .val (.int (6 : Int32)), .val (.int (2 : Int32)), .val (.ref b99)] [(.int (pl_min (2 : Int32) (2 : Int32))), (.int (0 : Int32)), (.ref b99), (.int (4 : Int32)), (.ref am)])
  rw [show pl_min (2 : Int32) (2 : Int32) = (2 : Int32) from by decide]
  show own_R p e below s _ _ _ T101 (mkF m 27 #[.val (.ref am), .val (.int (4 : Int32)), .val (.int (6 : Int32)), .val (.int (2 : Int32)), .val (.ref b99)] [(.int (2 : Int32)), (.int (0 : Int32)), (.ref b99), (.int (4 : Int32)), (.ref am)])
  obtain ⟨T102, h102, L102, X102, e102, N102, Kc102, V102, st102⟩ := cpA X101 hx hZ hown (hw _ (List.mem_of_getElem? (i := 70) rfl)) (hw _ (List.mem_of_getElem? (i := 73) rfl)) (hw _ (List.mem_of_getElem? (i := 71) rfl)) (hw _ (List.mem_of_getElem? (i := 72) rfl)) e101 f100 V_b99 (us := ((List.range (2 : Int32).toNatClampNeg).map fun i => vs.getD ((4 : Int32).toNatClampNeg + i) dv)) (Or.inl ⟨rfl, rfl⟩) (by decide) (by decide) (by decide) (by decide) (by decide) rfl (by decide) N101 n0_b99 (g := (mkF m 27 #[.val (.ref am), .val (.int (4 : Int32)), .val (.int (6 : Int32)), .val (.int (2 : Int32)), .val (.ref b99)] [(.int (2 : Int32)), (.int (0 : Int32)), (.ref b99), (.int (4 : Int32)), (.ref am)])) rfl (by rw [hml]; rfl) rfl (hb hby d11_27) (by decide) (W := 0) (Nat.le_of_eq rfl) (by decide)
  refine own_lift st102 ?_
  have K102 := K99.trans Kc102 (allS (P := fun x => x ∈ ([] : List Addr) ∨ h0.size ≤ x) (Or.inr sz_b99) all0)
  have V_b99_102 : Arv Z h102 b99 k99 .byte (2 : Int32) (([(.int (0 : Int32)), (.int (0 : Int32))] : List Value).take (0 : Int32).toNatClampNeg ++ ((List.range (2 : Int32).toNatClampNeg).map fun i => vs.getD ((4 : Int32).toNatClampNeg + i) dv) ++ ([(.int (0 : Int32)), (.int (0 : Int32))] : List Value).drop ((0 : Int32).toNatClampNeg + (2 : Int32).toNatClampNeg)) (.int (0 : Int32)) := V102
  show own_R p e below s _ _ _ T102 (mkF m 30 #[.val (.ref am), .val (.int (4 : Int32)), .val (.int (6 : Int32)), .val (.int (2 : Int32)), .val (.ref b99)] [])
  refine own_aload X102 hx (hb hby d11_30) rfl rfl ?_
  show own_R p e below s _ _ _ T102 (mkF m 32 #[.val (.ref am), .val (.int (4 : Int32)), .val (.int (6 : Int32)), .val (.int (2 : Int32)), .val (.ref b99)] [(.ref b99)])
  refine own_retA X102 hx Bd.returns rfl rfl hlk (hb hby d11_32) ?_ (by decide) (by decide)
  rw [e102]
  exact ⟨_, rfl, N102, K102⟩
theorem ef_10_2 (m : MethodId) (am : Addr) : entryFrame m #[(.ref am), (.int (4 : Int32)), (.int (6 : Int32))] 3 = mkF m 0 #[.val (.ref am), .val (.int (4 : Int32)), .val (.int (6 : Int32))] [] := by first | (simp [entryFrame, mkF, argsToLocals, Value.category]; done) | rfl
def Q10_2 (Z : State) (am : Addr) (km : ClassId) (vs : List Value) (dv : Value) (h0 : Heap) (n0 : Nat) (v : Option Value) (h : Heap) (L : List Loc) : Prop := ∃ b, v = some (.ref b) ∧ Fr n0 L ∧ Keep h0 h []
set_option maxRecDepth 65536 in
set_option maxHeartbeats 40000000 in
theorem rm10_2 (l : Launch) (Z : State) (a0 : Array Value) (hw : ∀ d ∈ tables_1, d.before a0 Z = true) (ws : List Jvm.Cond) (am : Addr) (km : ClassId) (vs : List Value) (dv : Value) (h0 : Heap) (n0 : Nat) (Z0 : n0 ≤ h0.size) (hV : Arv Z h0 am km .byte (6 : Int32) vs dv) :
    MetFree l (⟨"java/util/Arrays", "copyOfRange", "([BII)[B"⟩ : MethodName) (head1 (Jvm.Cond.code (⟨"java/util/Arrays", "copyOfRange", "([BII)[B"⟩ : MethodName) jdk_65_method_132_code 3 (some (.array .byte)) :: ws) ({ frames := 2, cells := 1, slots := 3, locals := 56 } : Room)) (fun a U => a = #[(.ref am), (.int (4 : Int32)), (.int (6 : Int32))] ∧ Z.Warmed39 U.vm ∧ U.heap = h0) (fun _ _ _ _ _ => True) (fun _ U o U' => ∃ v L, o = .returned v ∧ Q10_2 Z am km vs dv h0 n0 v U'.heap L ∧ FrameEnd U o U' L ({ frames := 2, cells := 1, slots := 3, locals := 56 } : Room).cells ({ frames := 2, cells := 1, slots := 3, locals := 56 } : Room).slots) := by
  refine MetFree.of_bodySF pn_10 hisR ?_
  intro p e s m args below meth c s₁ Bd hml0 hP hK
  obtain ⟨rfl, hZ, hh⟩ := hP
  have hx := Bd.exec
  have hby := Bd.bytes
  have hml : c.maxLocals = 3 := hml0
  have hown : s.vm.findClass "java/util/Arrays" = some m.cls := findClass_of_methodNamed Bd.named
  have hnm := (name_of_methodNamed Bd.named Bd.method).1
  have hlk := BodyLoose.notSynchronized Bd
  have X0 : Stand p l e ({ frames := 2, cells := 1, slots := 3, locals := 56 } : Room) s m #[(.ref am), (.int (4 : Int32)), (.int (6 : Int32))] below meth c s₁ [] 0 0 := Stand.of_body Bd
  have e0 : s₁.heap = h0 := by rw [← hh, Bd.state]; rfl
  have N0 := Fr.nil n0
  show own_R p e below s (Q10_2 Z am km vs dv h0 n0) ({ frames := 2, cells := 1, slots := 3, locals := 56 } : Room).cells ({ frames := 2, cells := 1, slots := 3, locals := 56 } : Room).slots s₁ (entryFrame m #[(.ref am), (.int (4 : Int32)), (.int (6 : Int32))] 3)
  refine own_cast (ef_10_2 m am) ?_
  show own_R p e below s _ _ _ s₁ (mkF m 0 #[.val (.ref am), .val (.int (4 : Int32)), .val (.int (6 : Int32))] [])
  have K0 := Keep.refl h0 ([] : List Addr)
  refine own_iloadN X0 hx (hb hby d10_0) rfl ?_
  show own_R p e below s _ _ _ s₁ (mkF m 1 #[.val (.ref am), .val (.int (4 : Int32)), .val (.int (6 : Int32))] [(.int (4 : Int32))])
  refine own_if X0 hx (hb hby d10_1) (pc' := 10) (by decide) (by decide) (fun hc => ?_) (fun hc => ?_)
  · have hc1 : ¬ (4 : Int32) = (0 : Int32) := own_ne1 hc
    clear hc
    show own_R p e below s _ _ _ s₁ (mkF m 10 #[.val (.ref am), .val (.int (4 : Int32)), .val (.int (6 : Int32))] [])
    refine own_aloadN X0 hx (hb hby d10_10) rfl rfl ?_
    show own_R p e below s _ _ _ s₁ (mkF m 11 #[.val (.ref am), .val (.int (4 : Int32)), .val (.int (6 : Int32))] [(.ref am)])
    refine own_iloadN X0 hx (hb hby d10_11) rfl ?_
    show own_R p e below s _ _ _ s₁ (mkF m 12 #[.val (.ref am), .val (.int (4 : Int32)), .val (.int (6 : Int32))] [(.int (4 : Int32)), (.ref am)])
    refine own_iloadN X0 hx (hb hby d10_12) rfl ?_
    show own_R p e below s _ _ _ s₁ (mkF m 13 #[.val (.ref am), .val (.int (4 : Int32)), .val (.int (6 : Int32))] [(.int (6 : Int32)), (.int (4 : Int32)), (.ref am)])
    refine own_callS X0 hx hZ (y := (⟨"java/util/Arrays", "copyOfRangeByte", "([BII)[B"⟩ : MethodName)) hown (hw _ (List.mem_of_getElem? (i := 60) rfl)) (hw _ (List.mem_of_getElem? (i := 61) rfl)) (hw _ (List.mem_of_getElem? (i := 58) rfl)) (hw _ (List.mem_of_getElem? (i := 62) rfl)) (by decide) (rm11_2 l Z a0 hw [] am km vs dv h0 n0 Z0 hV) 0 (by decide) (by decide) e0 (by rw [hml]; rfl) [(.ref am), (.int (4 : Int32)), (.int (6 : Int32))] [] rfl (lenOf pd_5 rfl) rfl (Nat.le_of_eq rfl) (hb hby d10_13) (by decide) (by decide) ?_
    rintro T103 _ L103 X103 ⟨c103, rfl, N103q, Kc103⟩
    have N103 := Fr.app N0 N103q
    have K103 := K0.trans Kc103 all0
    show own_R p e below s _ _ _ T103 (mkF m 16 #[.val (.ref am), .val (.int (4 : Int32)), .val (.int (6 : Int32))] [(.ref c103)])
    refine own_retA X103 hx Bd.returns rfl rfl hlk (hb hby d10_16) ?_ (by decide) (by decide)
    exact ⟨_, rfl, N103, K103⟩
  · have hc1 : (4 : Int32) = (0 : Int32) := own_ne0 hc
    exact absurd hc1 (by decide)
theorem ef_9_2 (m : MethodId) (a1 : Addr) : entryFrame m #[(.ref a1)] 3 = mkF m 0 #[.val (.ref a1), .unset, .unset] [] := by first | (simp [entryFrame, mkF, argsToLocals, Value.category]; done) | rfl
def Q9_2 (Z : State) (a1 : Addr) (am : Addr) (km : ClassId) (vs : List Value) (dv : Value) (x0 : Int32) (x1 : Int32) (x2 : Int32) (x3 : Int32) (h0 : Heap) (n0 : Nat) (v : Option Value) (h : Heap) (L : List Loc) : Prop := ∃ b, v = some (.ref b) ∧ Fr n0 L ∧ Keep h0 h [a1] ∧ Exa Z h a1 "com/example/authwright/authwright/engine/MessageReader" ∧ Fld Z h a1 "com/example/authwright/authwright/engine/MessageReader" "message" "[B" (.ref am) ∧ Fld Z h a1 "com/example/authwright/authwright/engine/MessageReader" "position" "I" (.int (6 : Int32))
set_option maxRecDepth 65536 in
set_option maxHeartbeats 40000000 in
theorem rm9_2 (l : Launch) (Z : State) (a0 : Array Value) (hw : ∀ d ∈ tables_1, d.before a0 Z = true) (ws : List Jvm.Cond) (a1 : Addr) (am : Addr) (km : ClassId) (vs : List Value) (dv : Value) (x0 : Int32) (x1 : Int32) (x2 : Int32) (x3 : Int32) (h0 : Heap) (n0 : Nat) (Z0 : n0 ≤ h0.size) (hm : Fld Z h0 a1 "com/example/authwright/authwright/engine/MessageReader" "message" "[B" (.ref am)) (hp : Fld Z h0 a1 "com/example/authwright/authwright/engine/MessageReader" "position" "I" (.int (0 : Int32))) (hV : Arv Z h0 am km .byte (6 : Int32) vs dv) (hE : Exa Z h0 a1 "com/example/authwright/authwright/engine/MessageReader") (hn0 : n0 ≤ a1) (hne : a1 ≠ am) (hj0 : ¬ (0 : Int32) < 0 ∧ (0 : Int32) < (6 : Int32)) (hb0 : vs.getD (0 : Int32).toNatClampNeg dv = .int x0) (hj1 : ¬ (1 : Int32) < 0 ∧ (1 : Int32) < (6 : Int32)) (hb1 : vs.getD (1 : Int32).toNatClampNeg dv = .int x1) (hj2 : ¬ (2 : Int32) < 0 ∧ (2 : Int32) < (6 : Int32)) (hb2 : vs.getD (2 : Int32).toNatClampNeg dv = .int x2) (hj3 : ¬ (3 : Int32) < 0 ∧ (3 : Int32) < (6 : Int32)) (hb3 : vs.getD (3 : Int32).toNatClampNeg dv = .int x3) (hr : ¬ ((6 : Int32) - (0 : Int32)) < (4 : Int32)) (hln : (pl_u x0 x1 x2 x3).toInt32 = (2 : Int32)) (hle : pl_u x0 x1 x2 x3 = (2 : Int64)) :
    MetFree l (⟨"com/example/authwright/authwright/engine/MessageReader", "readString", "()[B"⟩ : MethodName) (head1 (Jvm.Cond.code (⟨"com/example/authwright/authwright/engine/MessageReader", "readString", "()[B"⟩ : MethodName) prog_23_method_4_code 3 (some (.array .byte)) :: ws) ({ frames := 3, cells := 3, slots := 31, locals := 70 } : Room)) (fun a U => a = #[(.ref a1)] ∧ Z.Warmed39 U.vm ∧ U.heap = h0) (fun _ _ _ _ _ => True) (fun _ U o U' => ∃ v L, o = .returned v ∧ Q9_2 Z a1 am km vs dv x0 x1 x2 x3 h0 n0 v U'.heap L ∧ ReturnedEndW U o U' L ({ frames := 3, cells := 3, slots := 31, locals := 70 } : Room).cells ({ frames := 3, cells := 3, slots := 31, locals := 70 } : Room).slots) := by
  refine MetFree.of_bodySF pn_9 hisR ?_
  intro p e s m args below meth c s₁ Bd hml0 hP hK
  obtain ⟨rfl, hZ, hh⟩ := hP
  have hx := Bd.exec
  have hby := Bd.bytes
  have hml : c.maxLocals = 3 := hml0
  have hown : s.vm.findClass "com/example/authwright/authwright/engine/MessageReader" = some m.cls := findClass_of_methodNamed Bd.named
  have hnm := (name_of_methodNamed Bd.named Bd.method).1
  have hlk := BodyLoose.notSynchronized Bd
  have X0 : Stand p l e ({ frames := 3, cells := 3, slots := 31, locals := 70 } : Room) (s.setVm s.vm) m #[(.ref a1)] below meth c s₁ [] 0 0 := Stand.of_body Bd
  have hS0 : s.Since s.vm 0 := (State.WarmedH.refl s).since 0
  have hk0 : 0 ≤ h0.size := Nat.zero_le _
  have hZ0 : Z.Warmed39 (s.setVm s.vm).vm := hZ
  have hown0 : (s.setVm s.vm).vm.findClass "com/example/authwright/authwright/engine/MessageReader" = some m.cls := hown
  have e0 : s₁.heap = h0 := by rw [← hh, Bd.state]; rfl
  have N0 := Fr.nil n0
  show ows_R p e below s (Q9_2 Z a1 am km vs dv x0 x1 x2 x3 h0 n0) ({ frames := 3, cells := 3, slots := 31, locals := 70 } : Room).cells ({ frames := 3, cells := 3, slots := 31, locals := 70 } : Room).slots s₁ (entryFrame m #[(.ref a1)] 3)
  refine ows_cast (ef_9_2 m a1) ?_
  show ows_R p e below s _ _ _ s₁ (mkF m 0 #[.val (.ref a1), .unset, .unset] [])
  have K0 := Keep.refl h0 ([a1] : List Addr)
  have n0_a1 := hn0
  refine ows_aloadN X0 hx (hb hby d9_0) rfl rfl ?_
  show ows_R p e below s _ _ _ s₁ (mkF m 1 #[.val (.ref a1), .unset, .unset] [(.ref a1)])
  refine ows_callPS X0 hx hZ0 (y := (⟨"com/example/authwright/authwright/engine/MessageReader", "readLength", "()I"⟩ : MethodName)) hown0 hS0 hk0 (hw _ (List.mem_of_getElem? (i := 40) rfl)) (hw _ (List.mem_of_getElem? (i := 41) rfl)) (hw _ (List.mem_of_getElem? (i := 1) rfl)) (hw _ (List.mem_of_getElem? (i := 42) rfl)) (hw _ (List.mem_of_getElem? (i := 2) rfl)) (hw _ (List.mem_of_getElem? (i := 43) rfl)) (by decide) (rm7 l Z a0 hw [] a1 am km (6 : Int32) vs dv x0 x1 x2 x3 (2 : Int32) h0 n0 Z0 hm hp hV hE hn0 hne hj0 hb0 hj1 hb1 hj2 hb2 hj3 hb3 hr hln (by rw [hle]; decide)) 0 (by decide) (by decide) e0 (by rw [hml]; rfl) a1 hE [] [] rfl (lenOf pd_2 rfl) rfl (Nat.le_of_eq rfl) (hb hby d9_1) (by decide) (by decide) ?_
  rintro T104 _ L104 X104 hS104 hZ104 hown104 ⟨rfl, N104q, Kc104, Ec104, Fm104, Fp104⟩
  have N104 := Fr.app N0 N104q
  have hk104 := Nat.le_refl T104.heap.size
  have K104 := K0.trans Kc104 (allS (P := fun x => x ∈ ([a1] : List Addr) ∨ h0.size ≤ x) (Or.inl (List.mem_of_getElem? (i := 0) rfl)) all0)
  show ows_R p e below s _ _ _ T104 (mkF m 4 #[.val (.ref a1), .unset, .unset] [(.int (2 : Int32))])
  have Fq104 : Fld Z T104.heap a1 "com/example/authwright/authwright/engine/MessageReader" "position" "I" (.int (4 : Int32)) := Fp104
  refine ows_istoreN X104 hx (hb hby d9_4) (l' := #[.val (.ref a1), .val (.int (2 : Int32)), .unset]) rfl ?_
  show ows_R p e below s _ _ _ T104 (mkF m 5 #[.val (.ref a1), .val (.int (2 : Int32)), .unset] [])
  refine ows_aloadN X104 hx (hb hby d9_5) rfl rfl ?_
  show ows_R p e below s _ _ _ T104 (mkF m 6 #[.val (.ref a1), .val (.int (2 : Int32)), .unset] [(.ref a1)])
  refine ows_getF X104 hx hZ104 hown104 (host := "") (Or.inl (hw _ (List.mem_of_getElem? (i := 10) rfl))) Via.refl rfl Fm104 (hb hby d9_6) ?_
  intro T105 X105 e105
  show ows_R p e below s _ _ _ T105 (mkF m 9 #[.val (.ref a1), .val (.int (2 : Int32)), .unset] [(.ref am)])
  refine ows_aloadN X105 hx (hb hby d9_9) rfl rfl ?_
  show ows_R p e below s _ _ _ T105 (mkF m 10 #[.val (.ref a1), .val (.int (2 : Int32)), .unset] [(.ref a1), (.ref am)])
  refine ows_getF X105 hx hZ104 hown104 (host := "") (Or.inl (hw _ (List.mem_of_getElem? (i := 17) rfl))) Via.refl e105 Fq104 (hb hby d9_10) ?_
  intro T106 X106 e106
  show ows_R p e below s _ _ _ T106 (mkF m 13 #[.val (.ref a1), .val (.int (2 : Int32)), .unset] [(.int (4 : Int32)), (.ref am)])
  refine ows_aloadN X106 hx (hb hby d9_13) rfl rfl ?_
  show ows_R p e below s _ _ _ T106 (mkF m 14 #[.val (.ref a1), .val (.int (2 : Int32)), .unset] [(.ref a1), (.int (4 : Int32)), (.ref am)])
  refine ows_getF X106 hx hZ104 hown104 (host := "") (Or.inl (hw _ (List.mem_of_getElem? (i := 17) rfl))) Via.refl e106 Fq104 (hb hby d9_14) ?_
  intro T107 X107 e107
  show ows_R p e below s _ _ _ T107 (mkF m 17 #[.val (.ref a1), .val (.int (2 : Int32)), .unset] [(.int (4 : Int32)), (.int (4 : Int32)), (.ref am)])
  refine ows_iloadN X107 hx (hb hby d9_17) rfl ?_
  show ows_R p e below s _ _ _ T107 (mkF m 18 #[.val (.ref a1), .val (.int (2 : Int32)), .unset] [(.int (2 : Int32)), (.int (4 : Int32)), (.int (4 : Int32)), (.ref am)])
  refine ows_iadd X107 hx (hb hby d9_18) ?_
  show ows_R p e below s _ _ _ T107 (mkF m 19 #[.val (.ref a1), .val (.int (2 : Int32)), .unset] [(.int (6 : Int32)), (.int (4 : Int32)), (.ref am)])
  have f108 := (hV.keep Kc104 (ninS (Ne.symm hne) nin0))
  refine ows_callS X107 hx hZ104 (y := (⟨"java/util/Arrays", "copyOfRange", "([BII)[B"⟩ : MethodName)) hown104 (hw _ (List.mem_of_getElem? (i := 56) rfl)) (hw _ (List.mem_of_getElem? (i := 57) rfl)) (hw _ (List.mem_of_getElem? (i := 58) rfl)) (hw _ (List.mem_of_getElem? (i := 59) rfl)) (by decide) (rm10_2 l Z a0 hw [] am km vs dv T104.heap n0 (Nat.le_trans Z0 K104.1) f108) 0 (by decide) (by decide) e107 (by rw [hml]; rfl) [(.ref am), (.int (4 : Int32)), (.int (6 : Int32))] [] rfl (lenOf pd_5 rfl) rfl (Nat.le_of_eq rfl) (hb hby d9_19) (by decide) (by decide) ?_
  rintro T109 _ L109 X109 ⟨c109, rfl, N109q, Kc109⟩
  have N109 := Fr.app N104 N109q
  have hk109 := Nat.le_trans hk104 Kc109.1
  have K109 := K104.trans Kc109 all0
  show ows_R p e below s _ _ _ T109 (mkF m 22 #[.val (.ref a1), .val (.int (2 : Int32)), .unset] [(.ref c109)])
  refine ows_astoreN X109 hx (hb hby d9_22) rfl (l' := #[.val (.ref a1), .val (.int (2 : Int32)), .val (.ref c109)]) rfl ?_
  show ows_R p e below s _ _ _ T109 (mkF m 23 #[.val (.ref a1), .val (.int (2 : Int32)), .val (.ref c109)] [])
  refine ows_aloadN X109 hx (hb hby d9_23) rfl rfl ?_
  show ows_R p e below s _ _ _ T109 (mkF m 24 #[.val (.ref a1), .val (.int (2 : Int32)), .val (.ref c109)] [(.ref a1)])
  refine ows_dup X109 hx (hb hby d9_24) rfl ?_
  show ows_R p e below s _ _ _ T109 (mkF m 25 #[.val (.ref a1), .val (.int (2 : Int32)), .val (.ref c109)] [(.ref a1), (.ref a1)])
  have f110 := (Fq104.keep Kc109 nin0)
  refine ows_getF X109 hx hZ104 hown104 (host := "") (Or.inl (hw _ (List.mem_of_getElem? (i := 17) rfl))) Via.refl rfl f110 (hb hby d9_25) ?_
  intro T111 X111 e111
  show ows_R p e below s _ _ _ T111 (mkF m 28 #[.val (.ref a1), .val (.int (2 : Int32)), .val (.ref c109)] [(.int (4 : Int32)), (.ref a1)])
  refine ows_iloadN X111 hx (hb hby d9_28) rfl ?_
  show ows_R p e below s _ _ _ T111 (mkF m 29 #[.val (.ref a1), .val (.int (2 : Int32)), .val (.ref c109)] [(.int (2 : Int32)), (.int (4 : Int32)), (.ref a1)])
  refine ows_iadd X111 hx (hb hby d9_29) ?_
  show ows_R p e below s _ _ _ T111 (mkF m 30 #[.val (.ref a1), .val (.int (2 : Int32)), .val (.ref c109)] [(.int (6 : Int32)), (.ref a1)])
  have f112 := (Exa.keep Ec104 Kc109)
  refine ows_putF X111 hx hZ104 hown104 (host := "") (Or.inl (hw _ (List.mem_of_getElem? (i := 17) rfl))) Via.refl e111 f110 f112 (Or.inl (hw _ (List.mem_of_getElem? (i := 18) rfl))) (hw _ (List.mem_of_getElem? (i := 1) rfl)) (ty := .int) (by decide) rfl rfl (hb hby d9_30) ?_
  intro T113 h113 X113 e113 W113
  have hk113 := Nat.le_trans hk109 (Keep.of_wr W113).1
  have K113 := K109.wr W113 (Or.inl (List.mem_of_getElem? (i := 0) rfl))
  have N113 := Fr.snoc X113 N109 n0_a1
  have Fw113 := Fld.same W113 f110
  show ows_R p e below s _ _ _ T113 (mkF m 33 #[.val (.ref a1), .val (.int (2 : Int32)), .val (.ref c109)] [])
  refine ows_aloadN X113 hx (hb hby d9_33) rfl rfl ?_
  show ows_R p e below s _ _ _ T113 (mkF m 34 #[.val (.ref a1), .val (.int (2 : Int32)), .val (.ref c109)] [(.ref c109)])
  have f114 := (Exa.wr W113 f112)
  have f115 := (Fld.other W113 (Fm104.keep Kc109 nin0) (Or.inr (slot_ne (Or.inr (hw _ (List.mem_of_getElem? (i := 11) rfl))) (Or.inl (hw _ (List.mem_of_getElem? (i := 18) rfl))) (by decide) (t := (.array .byte)) (t' := .int) (by decide) (by decide))))
  refine ows_retA X113 hS104 (by rw [e113]; exact hk113) hx Bd.returns rfl rfl hlk (hb hby d9_34) ?_ (by decide) (by decide)
  rw [e113]
  exact ⟨_, rfl, N113, K113, f114, f115, Fw113⟩
theorem ef_12_3 (m : MethodId)  : entryFrame m #[(.int (4 : Int32)), (.int (7 : Int32))] 2 = mkF m 0 #[.val (.int (4 : Int32)), .val (.int (7 : Int32))] [] := by first | (simp [entryFrame, mkF, argsToLocals, Value.category]; done) | rfl
def Q12_3 (Z : State)  (h0 : Heap) (n0 : Nat) (v : Option Value) (h : Heap) (L : List Loc) : Prop := v = none ∧ Fr n0 L ∧ h = h0
set_option maxRecDepth 65536 in
set_option maxHeartbeats 40000000 in
theorem rm12_3 (l : Launch) (Z : State) (a0 : Array Value) (hw : ∀ d ∈ tables_1, d.before a0 Z = true) (ws : List Jvm.Cond)  (h0 : Heap) (n0 : Nat) (Z0 : n0 ≤ h0.size) :
    MetFree l (⟨"java/util/Arrays", "checkLength", "(II)V"⟩ : MethodName) (head1 (Jvm.Cond.code (⟨"java/util/Arrays", "checkLength", "(II)V"⟩ : MethodName) jdk_65_method_131_code 2 none :: ws) ({ frames := 0, cells := 0, slots := 0, locals := 0 } : Room)) (fun a U => a = #[(.int (4 : Int32)), (.int (7 : Int32))] ∧ Z.Warmed39 U.vm ∧ U.heap = h0) (fun _ _ _ _ _ => True) (fun _ U o U' => ∃ v L, o = .returned v ∧ Q12_3 Z  h0 n0 v U'.heap L ∧ FrameEnd U o U' L ({ frames := 0, cells := 0, slots := 0, locals := 0 } : Room).cells ({ frames := 0, cells := 0, slots := 0, locals := 0 } : Room).slots) := by
  refine MetFree.of_bodySF pn_12 hisR ?_
  intro p e s m args below meth c s₁ Bd hml0 hP hK
  obtain ⟨rfl, hZ, hh⟩ := hP
  have hx := Bd.exec
  have hby := Bd.bytes
  have hml : c.maxLocals = 2 := hml0
  have hown : s.vm.findClass "java/util/Arrays" = some m.cls := findClass_of_methodNamed Bd.named
  have hnm := (name_of_methodNamed Bd.named Bd.method).1
  have hlk := BodyLoose.notSynchronized Bd
  have X0 : Stand p l e ({ frames := 0, cells := 0, slots := 0, locals := 0 } : Room) s m #[(.int (4 : Int32)), (.int (7 : Int32))] below meth c s₁ [] 0 0 := Stand.of_body Bd
  have e0 : s₁.heap = h0 := by rw [← hh, Bd.state]; rfl
  have N0 := Fr.nil n0
  show own_R p e below s (Q12_3 Z  h0 n0) ({ frames := 0, cells := 0, slots := 0, locals := 0 } : Room).cells ({ frames := 0, cells := 0, slots := 0, locals := 0 } : Room).slots s₁ (entryFrame m #[(.int (4 : Int32)), (.int (7 : Int32))] 2)
  refine own_cast (ef_12_3 m ) ?_
  show own_R p e below s _ _ _ s₁ (mkF m 0 #[.val (.int (4 : Int32)), .val (.int (7 : Int32))] [])
  refine own_iloadN X0 hx (hb hby d12_0) rfl ?_
  show own_R p e below s _ _ _ s₁ (mkF m 1 #[.val (.int (4 : Int32)), .val (.int (7 : Int32))] [(.int (7 : Int32))])
  refine own_iloadN X0 hx (hb hby d12_1) rfl ?_
  show own_R p e below s _ _ _ s₁ (mkF m 2 #[.val (.int (4 : Int32)), .val (.int (7 : Int32))] [(.int (4 : Int32)), (.int (7 : Int32))])
  refine own_icmp X0 hx (hb hby d12_2) (pc' := 37) (by decide) (by decide) (fun hc => ?_) (fun hc => ?_)
  · have hc2 : ¬ (7 : Int32) < (4 : Int32) := own_ge1 hc
    clear hc
    show own_R p e below s _ _ _ s₁ (mkF m 37 #[.val (.int (4 : Int32)), .val (.int (7 : Int32))] [])
    refine own_ret0 X0 hx Bd.returns hlk (hb hby d12_37) ?_ (by decide) (by decide)
    exact ⟨rfl, N0, e0⟩
  · have hc2 : (7 : Int32) < (4 : Int32) := own_ge0 hc
    exact absurd hc2 (by decide)
theorem ef_11_3 (m : MethodId) (am : Addr) : entryFrame m #[(.ref am), (.int (4 : Int32)), (.int (7 : Int32))] 5 = mkF m 0 #[.val (.ref am), .val (.int (4 : Int32)), .val (.int (7 : Int32)), .unset, .unset] [] := by first | (simp [entryFrame, mkF, argsToLocals, Value.category]; done) | rfl
def Q11_3 (Z : State) (am : Addr) (km : ClassId) (vs : List Value) (dv : Value) (h0 : Heap) (n0 : Nat) (v : Option Value) (h : Heap) (L : List Loc) : Prop := ∃ b, v = some (.ref b) ∧ Fr n0 L ∧ Keep h0 h []
set_option maxRecDepth 65536 in
set_option maxHeartbeats 40000000 in
theorem rm11_3 (l : Launch) (Z : State) (a0 : Array Value) (hw : ∀ d ∈ tables_1, d.before a0 Z = true) (ws : List Jvm.Cond) (am : Addr) (km : ClassId) (vs : List Value) (dv : Value) (h0 : Heap) (n0 : Nat) (Z0 : n0 ≤ h0.size) (hV : Arv Z h0 am km .byte (7 : Int32) vs dv) :
    MetFree l (⟨"java/util/Arrays", "copyOfRangeByte", "([BII)[B"⟩ : MethodName) (head1 (Jvm.Cond.code (⟨"java/util/Arrays", "copyOfRangeByte", "([BII)[B"⟩ : MethodName) jdk_65_method_133_code 5 (some (.array .byte)) :: ws) ({ frames := 1, cells := 1, slots := 3, locals := 40 } : Room)) (fun a U => a = #[(.ref am), (.int (4 : Int32)), (.int (7 : Int32))] ∧ Z.Warmed39 U.vm ∧ U.heap = h0) (fun _ _ _ _ _ => True) (fun _ U o U' => ∃ v L, o = .returned v ∧ Q11_3 Z am km vs dv h0 n0 v U'.heap L ∧ FrameEnd U o U' L ({ frames := 1, cells := 1, slots := 3, locals := 40 } : Room).cells ({ frames := 1, cells := 1, slots := 3, locals := 40 } : Room).slots) := by
  refine MetFree.of_bodySF pn_11 hisR ?_
  intro p e s m args below meth c s₁ Bd hml0 hP hK
  obtain ⟨rfl, hZ, hh⟩ := hP
  have hx := Bd.exec
  have hby := Bd.bytes
  have hml : c.maxLocals = 5 := hml0
  have hown : s.vm.findClass "java/util/Arrays" = some m.cls := findClass_of_methodNamed Bd.named
  have hnm := (name_of_methodNamed Bd.named Bd.method).1
  have hlk := BodyLoose.notSynchronized Bd
  have X0 : Stand p l e ({ frames := 1, cells := 1, slots := 3, locals := 40 } : Room) s m #[(.ref am), (.int (4 : Int32)), (.int (7 : Int32))] below meth c s₁ [] 0 0 := Stand.of_body Bd
  have e0 : s₁.heap = h0 := by rw [← hh, Bd.state]; rfl
  have N0 := Fr.nil n0
  show own_R p e below s (Q11_3 Z am km vs dv h0 n0) ({ frames := 1, cells := 1, slots := 3, locals := 40 } : Room).cells ({ frames := 1, cells := 1, slots := 3, locals := 40 } : Room).slots s₁ (entryFrame m #[(.ref am), (.int (4 : Int32)), (.int (7 : Int32))] 5)
  refine own_cast (ef_11_3 m am) ?_
  show own_R p e below s _ _ _ s₁ (mkF m 0 #[.val (.ref am), .val (.int (4 : Int32)), .val (.int (7 : Int32)), .unset, .unset] [])
  have K0 := Keep.refl h0 ([] : List Addr)
  refine own_iloadN X0 hx (hb hby d11_0) rfl ?_
  show own_R p e below s _ _ _ s₁ (mkF m 1 #[.val (.ref am), .val (.int (4 : Int32)), .val (.int (7 : Int32)), .unset, .unset] [(.int (4 : Int32))])
  refine own_iloadN X0 hx (hb hby d11_1) rfl ?_
  show own_R p e below s _ _ _ s₁ (mkF m 2 #[.val (.ref am), .val (.int (4 : Int32)), .val (.int (7 : Int32)), .unset, .unset] [(.int (7 : Int32)), (.int (4 : Int32))])
  refine own_callS X0 hx hZ (y := (⟨"java/util/Arrays", "checkLength", "(II)V"⟩ : MethodName)) hown (hw _ (List.mem_of_getElem? (i := 63) rfl)) (hw _ (List.mem_of_getElem? (i := 64) rfl)) (hw _ (List.mem_of_getElem? (i := 58) rfl)) (hw _ (List.mem_of_getElem? (i := 65) rfl)) (by decide) (rm12_3 l Z a0 hw [] h0 n0 Z0) 0 (by decide) (by decide) e0 (by rw [hml]; rfl) [(.int (4 : Int32)), (.int (7 : Int32))] [] rfl (lenOf pd_3 rfl) rfl (Nat.le_of_eq rfl) (hb hby d11_2) (by decide) (by decide) ?_
  rintro T116 _ L116 X116 ⟨rfl, N116q, e116⟩
  have N116 := Fr.app N0 N116q
  show own_R p e below s _ _ _ T116 (mkF m 5 #[.val (.ref am), .val (.int (4 : Int32)), .val (.int (7 : Int32)), .unset, .unset] [])
  refine own_iloadN X116 hx (hb hby d11_5) rfl ?_
  show own_R p e below s _ _ _ T116 (mkF m 6 #[.val (.ref am), .val (.int (4 : Int32)), .val (.int (7 : Int32)), .unset, .unset] [(.int (7 : Int32))])
  refine own_iloadN X116 hx (hb hby d11_6) rfl ?_
  show own_R p e below s _ _ _ T116 (mkF m 7 #[.val (.ref am), .val (.int (4 : Int32)), .val (.int (7 : Int32)), .unset, .unset] [(.int (4 : Int32)), (.int (7 : Int32))])
  refine own_isub X116 hx (hb hby d11_7) ?_
  show own_R p e below s _ _ _ T116 (mkF m 8 #[.val (.ref am), .val (.int (4 : Int32)), .val (.int (7 : Int32)), .unset, .unset] [(.int (3 : Int32))])
  refine own_istoreN X116 hx (hb hby d11_8) (l' := #[.val (.ref am), .val (.int (4 : Int32)), .val (.int (7 : Int32)), .val (.int (3 : Int32)), .unset]) rfl ?_
  show own_R p e below s _ _ _ T116 (mkF m 9 #[.val (.ref am), .val (.int (4 : Int32)), .val (.int (7 : Int32)), .val (.int (3 : Int32)), .unset] [])
  refine own_iloadN X116 hx (hb hby d11_9) rfl ?_
  show own_R p e below s _ _ _ T116 (mkF m 10 #[.val (.ref am), .val (.int (4 : Int32)), .val (.int (7 : Int32)), .val (.int (3 : Int32)), .unset] [(.int (3 : Int32))])
  refine own_newA X116 hx hZ (hw _ (List.mem_of_getElem? (i := 3) rfl)) e116 (hb hby d11_10) (by decide) 3 (by decide) (by decide) (by decide) (by decide) (ad := "[B") (by decide) 3 ?_
  intro T117 h117 b117 k117 g117 X117 e117 E117 V117 A117
  have ne_am_b117 : am ≠ b117 := Nat.ne_of_lt (Nat.lt_of_lt_of_le hV.lt (Nat.le_of_eq g117.symm))
  have sz_b117 : h0.size ≤ b117 := Nat.le_trans K0.1 (Nat.le_of_eq g117.symm)
  have n0_b117 : n0 ≤ b117 := Nat.le_trans Z0 sz_b117
  have K117 := K0.ext E117
  have V_b117 : Arv Z h117 b117 k117 .byte (3 : Int32) [(.int (0 : Int32)), (.int (0 : Int32)), (.int (0 : Int32))] (.int (0 : Int32)) := V117
  show own_R p e below s _ _ _ T117 (mkF m 12 #[.val (.ref am), .val (.int (4 : Int32)), .val (.int (7 : Int32)), .val (.int (3 : Int32)), .unset] [(.ref b117)])
  refine own_astore X117 hx (hb hby d11_12) rfl (l' := #[.val (.ref am), .val (.int (4 : Int32)), .val (.int (7 : Int32)), .val (.int (3 : Int32)), .val (.ref b117)]) rfl ?_
  show own_R p e below s _ _ _ T117 (mkF m 14 #[.val (.ref am), .val (.int (4 : Int32)), .val (.int (7 : Int32)), .val (.int (3 : Int32)), .val (.ref b117)] [])
  refine own_aloadN X117 hx (hb hby d11_14) rfl rfl ?_
  show own_R p e below s _ _ _ T117 (mkF m 15 #[.val (.ref am), .val (.int (4 : Int32)), .val (.int (7 : Int32)), .val (.int (3 : Int32)), .val (.ref b117)] [(.ref am)])
  refine own_iloadN X117 hx (hb hby d11_15) rfl ?_
  show own_R p e below s _ _ _ T117 (mkF m 16 #[.val (.ref am), .val (.int (4 : Int32)), .val (.int (7 : Int32)), .val (.int (3 : Int32)), .val (.ref b117)] [(.int (4 : Int32)), (.ref am)])
  refine own_aload X117 hx (hb hby d11_16) rfl rfl ?_
  show own_R p e below s _ _ _ T117 (mkF m 18 #[.val (.ref am), .val (.int (4 : Int32)), .val (.int (7 : Int32)), .val (.int (3 : Int32)), .val (.ref b117)] [(.ref b117), (.int (4 : Int32)), (.ref am)])
  refine own_iconst X117 hx (0 : Int32) (hb hby d11_18) rfl ?_
  show own_R p e below s _ _ _ T117 (mkF m 19 #[.val (.ref am), .val (.int (4 : Int32)), .val (.int (7 : Int32)), .val (.int (3 : Int32)), .val (.ref b117)] [(.int (0 : Int32)), (.ref b117), (.int (4 : Int32)), (.ref am)])
  refine own_aloadN X117 hx (hb hby d11_19) rfl rfl ?_
  show own_R p e below s _ _ _ T117 (mkF m 20 #[.val (.ref am), .val (.int (4 : Int32)), .val (.int (7 : Int32)), .val (.int (3 : Int32)), .val (.ref b117)] [(.ref am), (.int (0 : Int32)), (.ref b117), (.int (4 : Int32)), (.ref am)])
  have f118 := (hV.ext E117)
  refine own_len X117 hx hZ e117 f118 (hb hby d11_20) ?_
  show own_R p e below s _ _ _ T117 (mkF m 21 #[.val (.ref am), .val (.int (4 : Int32)), .val (.int (7 : Int32)), .val (.int (3 : Int32)), .val (.ref b117)] [(.int (7 : Int32)), (.int (0 : Int32)), (.ref b117), (.int (4 : Int32)), (.ref am)])
  refine own_iloadN X117 hx (hb hby d11_21) rfl ?_
  show own_R p e below s _ _ _ T117 (mkF m 22 #[.val (.ref am), .val (.int (4 : Int32)), .val (.int (7 : Int32)), .val (.int (3 : Int32)), .val (.ref b117)] [(.int (4 : Int32)), (.int (7 : Int32)), (.int (0 : Int32)), (.ref b117), (.int (4 : Int32)), (.ref am)])
  refine own_isub X117 hx (hb hby d11_22) ?_
  show own_R p e below s _ _ _ T117 (mkF m 23 #[.val (.ref am), .val (.int (4 : Int32)), .val (.int (7 : Int32)), .val (.int (3 : Int32)), .val (.ref b117)] [(.int (3 : Int32)), (.int (0 : Int32)), (.ref b117), (.int (4 : Int32)), (.ref am)])
  refine own_iloadN X117 hx (hb hby d11_23) rfl ?_
  show own_R p e below s _ _ _ T117 (mkF m 24 #[.val (.ref am), .val (.int (4 : Int32)), .val (.int (7 : Int32)), .val (.int (3 : Int32)), .val (.ref b117)] [(.int (3 : Int32)), (.int (3 : Int32)), (.int (0 : Int32)), (.ref b117), (.int (4 : Int32)), (.ref am)])
  refine own_callS X117 hx hZ (y := (⟨"java/lang/Math", "min", "(II)I"⟩ : MethodName)) hown (hw _ (List.mem_of_getElem? (i := 66) rfl)) (hw _ (List.mem_of_getElem? (i := 67) rfl)) (hw _ (List.mem_of_getElem? (i := 68) rfl)) (hw _ (List.mem_of_getElem? (i := 69) rfl)) (by decide) (rm13 l Z a0 hw [] (3 : Int32) (3 : Int32) h117 n0 (Nat.le_trans Z0 K117.1)) 4 (by decide) (by decide) e117 (by rw [hml]; rfl) [(.int (3 : Int32)), (.int (3 : Int32))] [(.int (0 : Int32)), (.ref b117), (.int (4 : Int32)), (.ref am)] rfl (lenOf pd_4 rfl) rfl (Nat.le_of_eq rfl) (hb hby d11_24) (by decide) (by decide) ?_
  rintro T119 _ L119 X119 ⟨rfl, N119q, e119⟩
  have N119 := Fr.app N116 N119q
  show own_R p e below s _ _ _ T119 (mkF m 27 #[.val (.ref am), .val (.int (4 : Int32)), .val (.int (7 : Int32)), .val (.int (3 : Int32)), .val (.ref b117)] [(.int (pl_min (3 : Int32) (3 : Int32))), (.int (0 : Int32)), (.ref b117), (.int (4 : Int32)), (.ref am)])
  rw [show pl_min (3 : Int32) (3 : Int32) = (3 : Int32) from by decide]
  show own_R p e below s _ _ _ T119 (mkF m 27 #[.val (.ref am), .val (.int (4 : Int32)), .val (.int (7 : Int32)), .val (.int (3 : Int32)), .val (.ref b117)] [(.int (3 : Int32)), (.int (0 : Int32)), (.ref b117), (.int (4 : Int32)), (.ref am)])
  obtain ⟨T120, h120, L120, X120, e120, N120, Kc120, V120, st120⟩ := cpA X119 hx hZ hown (hw _ (List.mem_of_getElem? (i := 70) rfl)) (hw _ (List.mem_of_getElem? (i := 73) rfl)) (hw _ (List.mem_of_getElem? (i := 71) rfl)) (hw _ (List.mem_of_getElem? (i := 72) rfl)) e119 f118 V_b117 (us := ((List.range (3 : Int32).toNatClampNeg).map fun i => vs.getD ((4 : Int32).toNatClampNeg + i) dv)) (Or.inl ⟨rfl, rfl⟩) (by decide) (by decide) (by decide) (by decide) (by decide) rfl (by decide) N119 n0_b117 (g := (mkF m 27 #[.val (.ref am), .val (.int (4 : Int32)), .val (.int (7 : Int32)), .val (.int (3 : Int32)), .val (.ref b117)] [(.int (3 : Int32)), (.int (0 : Int32)), (.ref b117), (.int (4 : Int32)), (.ref am)])) rfl (by rw [hml]; rfl) rfl (hb hby d11_27) (by decide) (W := 0) (Nat.le_of_eq rfl) (by decide)
  refine own_lift st120 ?_
  have K120 := K117.trans Kc120 (allS (P := fun x => x ∈ ([] : List Addr) ∨ h0.size ≤ x) (Or.inr sz_b117) all0)
  have V_b117_120 : Arv Z h120 b117 k117 .byte (3 : Int32) (([(.int (0 : Int32)), (.int (0 : Int32)), (.int (0 : Int32))] : List Value).take (0 : Int32).toNatClampNeg ++ ((List.range (3 : Int32).toNatClampNeg).map fun i => vs.getD ((4 : Int32).toNatClampNeg + i) dv) ++ ([(.int (0 : Int32)), (.int (0 : Int32)), (.int (0 : Int32))] : List Value).drop ((0 : Int32).toNatClampNeg + (3 : Int32).toNatClampNeg)) (.int (0 : Int32)) := V120
  show own_R p e below s _ _ _ T120 (mkF m 30 #[.val (.ref am), .val (.int (4 : Int32)), .val (.int (7 : Int32)), .val (.int (3 : Int32)), .val (.ref b117)] [])
  refine own_aload X120 hx (hb hby d11_30) rfl rfl ?_
  show own_R p e below s _ _ _ T120 (mkF m 32 #[.val (.ref am), .val (.int (4 : Int32)), .val (.int (7 : Int32)), .val (.int (3 : Int32)), .val (.ref b117)] [(.ref b117)])
  refine own_retA X120 hx Bd.returns rfl rfl hlk (hb hby d11_32) ?_ (by decide) (by decide)
  rw [e120]
  exact ⟨_, rfl, N120, K120⟩
theorem ef_10_3 (m : MethodId) (am : Addr) : entryFrame m #[(.ref am), (.int (4 : Int32)), (.int (7 : Int32))] 3 = mkF m 0 #[.val (.ref am), .val (.int (4 : Int32)), .val (.int (7 : Int32))] [] := by first | (simp [entryFrame, mkF, argsToLocals, Value.category]; done) | rfl
def Q10_3 (Z : State) (am : Addr) (km : ClassId) (vs : List Value) (dv : Value) (h0 : Heap) (n0 : Nat) (v : Option Value) (h : Heap) (L : List Loc) : Prop := ∃ b, v = some (.ref b) ∧ Fr n0 L ∧ Keep h0 h []
set_option maxRecDepth 65536 in
set_option maxHeartbeats 40000000 in
theorem rm10_3 (l : Launch) (Z : State) (a0 : Array Value) (hw : ∀ d ∈ tables_1, d.before a0 Z = true) (ws : List Jvm.Cond) (am : Addr) (km : ClassId) (vs : List Value) (dv : Value) (h0 : Heap) (n0 : Nat) (Z0 : n0 ≤ h0.size) (hV : Arv Z h0 am km .byte (7 : Int32) vs dv) :
    MetFree l (⟨"java/util/Arrays", "copyOfRange", "([BII)[B"⟩ : MethodName) (head1 (Jvm.Cond.code (⟨"java/util/Arrays", "copyOfRange", "([BII)[B"⟩ : MethodName) jdk_65_method_132_code 3 (some (.array .byte)) :: ws) ({ frames := 2, cells := 1, slots := 3, locals := 56 } : Room)) (fun a U => a = #[(.ref am), (.int (4 : Int32)), (.int (7 : Int32))] ∧ Z.Warmed39 U.vm ∧ U.heap = h0) (fun _ _ _ _ _ => True) (fun _ U o U' => ∃ v L, o = .returned v ∧ Q10_3 Z am km vs dv h0 n0 v U'.heap L ∧ FrameEnd U o U' L ({ frames := 2, cells := 1, slots := 3, locals := 56 } : Room).cells ({ frames := 2, cells := 1, slots := 3, locals := 56 } : Room).slots) := by
  refine MetFree.of_bodySF pn_10 hisR ?_
  intro p e s m args below meth c s₁ Bd hml0 hP hK
  obtain ⟨rfl, hZ, hh⟩ := hP
  have hx := Bd.exec
  have hby := Bd.bytes
  have hml : c.maxLocals = 3 := hml0
  have hown : s.vm.findClass "java/util/Arrays" = some m.cls := findClass_of_methodNamed Bd.named
  have hnm := (name_of_methodNamed Bd.named Bd.method).1
  have hlk := BodyLoose.notSynchronized Bd
  have X0 : Stand p l e ({ frames := 2, cells := 1, slots := 3, locals := 56 } : Room) s m #[(.ref am), (.int (4 : Int32)), (.int (7 : Int32))] below meth c s₁ [] 0 0 := Stand.of_body Bd
  have e0 : s₁.heap = h0 := by rw [← hh, Bd.state]; rfl
  have N0 := Fr.nil n0
  show own_R p e below s (Q10_3 Z am km vs dv h0 n0) ({ frames := 2, cells := 1, slots := 3, locals := 56 } : Room).cells ({ frames := 2, cells := 1, slots := 3, locals := 56 } : Room).slots s₁ (entryFrame m #[(.ref am), (.int (4 : Int32)), (.int (7 : Int32))] 3)
  refine own_cast (ef_10_3 m am) ?_
  show own_R p e below s _ _ _ s₁ (mkF m 0 #[.val (.ref am), .val (.int (4 : Int32)), .val (.int (7 : Int32))] [])
  have K0 := Keep.refl h0 ([] : List Addr)
  refine own_iloadN X0 hx (hb hby d10_0) rfl ?_
  show own_R p e below s _ _ _ s₁ (mkF m 1 #[.val (.ref am), .val (.int (4 : Int32)), .val (.int (7 : Int32))] [(.int (4 : Int32))])
  refine own_if X0 hx (hb hby d10_1) (pc' := 10) (by decide) (by decide) (fun hc => ?_) (fun hc => ?_)
  · have hc1 : ¬ (4 : Int32) = (0 : Int32) := own_ne1 hc
    clear hc
    show own_R p e below s _ _ _ s₁ (mkF m 10 #[.val (.ref am), .val (.int (4 : Int32)), .val (.int (7 : Int32))] [])
    refine own_aloadN X0 hx (hb hby d10_10) rfl rfl ?_
    show own_R p e below s _ _ _ s₁ (mkF m 11 #[.val (.ref am), .val (.int (4 : Int32)), .val (.int (7 : Int32))] [(.ref am)])
    refine own_iloadN X0 hx (hb hby d10_11) rfl ?_
    show own_R p e below s _ _ _ s₁ (mkF m 12 #[.val (.ref am), .val (.int (4 : Int32)), .val (.int (7 : Int32))] [(.int (4 : Int32)), (.ref am)])
    refine own_iloadN X0 hx (hb hby d10_12) rfl ?_
    show own_R p e below s _ _ _ s₁ (mkF m 13 #[.val (.ref am), .val (.int (4 : Int32)), .val (.int (7 : Int32))] [(.int (7 : Int32)), (.int (4 : Int32)), (.ref am)])
    refine own_callS X0 hx hZ (y := (⟨"java/util/Arrays", "copyOfRangeByte", "([BII)[B"⟩ : MethodName)) hown (hw _ (List.mem_of_getElem? (i := 60) rfl)) (hw _ (List.mem_of_getElem? (i := 61) rfl)) (hw _ (List.mem_of_getElem? (i := 58) rfl)) (hw _ (List.mem_of_getElem? (i := 62) rfl)) (by decide) (rm11_3 l Z a0 hw [] am km vs dv h0 n0 Z0 hV) 0 (by decide) (by decide) e0 (by rw [hml]; rfl) [(.ref am), (.int (4 : Int32)), (.int (7 : Int32))] [] rfl (lenOf pd_5 rfl) rfl (Nat.le_of_eq rfl) (hb hby d10_13) (by decide) (by decide) ?_
    rintro T121 _ L121 X121 ⟨c121, rfl, N121q, Kc121⟩
    have N121 := Fr.app N0 N121q
    have K121 := K0.trans Kc121 all0
    show own_R p e below s _ _ _ T121 (mkF m 16 #[.val (.ref am), .val (.int (4 : Int32)), .val (.int (7 : Int32))] [(.ref c121)])
    refine own_retA X121 hx Bd.returns rfl rfl hlk (hb hby d10_16) ?_ (by decide) (by decide)
    exact ⟨_, rfl, N121, K121⟩
  · have hc1 : (4 : Int32) = (0 : Int32) := own_ne0 hc
    exact absurd hc1 (by decide)
theorem ef_9_3 (m : MethodId) (a1 : Addr) : entryFrame m #[(.ref a1)] 3 = mkF m 0 #[.val (.ref a1), .unset, .unset] [] := by first | (simp [entryFrame, mkF, argsToLocals, Value.category]; done) | rfl
def Q9_3 (Z : State) (a1 : Addr) (am : Addr) (km : ClassId) (vs : List Value) (dv : Value) (x0 : Int32) (x1 : Int32) (x2 : Int32) (x3 : Int32) (h0 : Heap) (n0 : Nat) (v : Option Value) (h : Heap) (L : List Loc) : Prop := ∃ b, v = some (.ref b) ∧ Fr n0 L ∧ Keep h0 h [a1] ∧ Exa Z h a1 "com/example/authwright/authwright/engine/MessageReader" ∧ Fld Z h a1 "com/example/authwright/authwright/engine/MessageReader" "message" "[B" (.ref am) ∧ Fld Z h a1 "com/example/authwright/authwright/engine/MessageReader" "position" "I" (.int (7 : Int32))
set_option maxRecDepth 65536 in
set_option maxHeartbeats 40000000 in
theorem rm9_3 (l : Launch) (Z : State) (a0 : Array Value) (hw : ∀ d ∈ tables_1, d.before a0 Z = true) (ws : List Jvm.Cond) (a1 : Addr) (am : Addr) (km : ClassId) (vs : List Value) (dv : Value) (x0 : Int32) (x1 : Int32) (x2 : Int32) (x3 : Int32) (h0 : Heap) (n0 : Nat) (Z0 : n0 ≤ h0.size) (hm : Fld Z h0 a1 "com/example/authwright/authwright/engine/MessageReader" "message" "[B" (.ref am)) (hp : Fld Z h0 a1 "com/example/authwright/authwright/engine/MessageReader" "position" "I" (.int (0 : Int32))) (hV : Arv Z h0 am km .byte (7 : Int32) vs dv) (hE : Exa Z h0 a1 "com/example/authwright/authwright/engine/MessageReader") (hn0 : n0 ≤ a1) (hne : a1 ≠ am) (hj0 : ¬ (0 : Int32) < 0 ∧ (0 : Int32) < (7 : Int32)) (hb0 : vs.getD (0 : Int32).toNatClampNeg dv = .int x0) (hj1 : ¬ (1 : Int32) < 0 ∧ (1 : Int32) < (7 : Int32)) (hb1 : vs.getD (1 : Int32).toNatClampNeg dv = .int x1) (hj2 : ¬ (2 : Int32) < 0 ∧ (2 : Int32) < (7 : Int32)) (hb2 : vs.getD (2 : Int32).toNatClampNeg dv = .int x2) (hj3 : ¬ (3 : Int32) < 0 ∧ (3 : Int32) < (7 : Int32)) (hb3 : vs.getD (3 : Int32).toNatClampNeg dv = .int x3) (hr : ¬ ((7 : Int32) - (0 : Int32)) < (4 : Int32)) (hln : (pl_u x0 x1 x2 x3).toInt32 = (3 : Int32)) (hle : pl_u x0 x1 x2 x3 = (3 : Int64)) :
    MetFree l (⟨"com/example/authwright/authwright/engine/MessageReader", "readString", "()[B"⟩ : MethodName) (head1 (Jvm.Cond.code (⟨"com/example/authwright/authwright/engine/MessageReader", "readString", "()[B"⟩ : MethodName) prog_23_method_4_code 3 (some (.array .byte)) :: ws) ({ frames := 3, cells := 3, slots := 31, locals := 70 } : Room)) (fun a U => a = #[(.ref a1)] ∧ Z.Warmed39 U.vm ∧ U.heap = h0) (fun _ _ _ _ _ => True) (fun _ U o U' => ∃ v L, o = .returned v ∧ Q9_3 Z a1 am km vs dv x0 x1 x2 x3 h0 n0 v U'.heap L ∧ ReturnedEndW U o U' L ({ frames := 3, cells := 3, slots := 31, locals := 70 } : Room).cells ({ frames := 3, cells := 3, slots := 31, locals := 70 } : Room).slots) := by
  refine MetFree.of_bodySF pn_9 hisR ?_
  intro p e s m args below meth c s₁ Bd hml0 hP hK
  obtain ⟨rfl, hZ, hh⟩ := hP
  have hx := Bd.exec
  have hby := Bd.bytes
  have hml : c.maxLocals = 3 := hml0
  have hown : s.vm.findClass "com/example/authwright/authwright/engine/MessageReader" = some m.cls := findClass_of_methodNamed Bd.named
  have hnm := (name_of_methodNamed Bd.named Bd.method).1
  have hlk := BodyLoose.notSynchronized Bd
  have X0 : Stand p l e ({ frames := 3, cells := 3, slots := 31, locals := 70 } : Room) (s.setVm s.vm) m #[(.ref a1)] below meth c s₁ [] 0 0 := Stand.of_body Bd
  have hS0 : s.Since s.vm 0 := (State.WarmedH.refl s).since 0
  have hk0 : 0 ≤ h0.size := Nat.zero_le _
  have hZ0 : Z.Warmed39 (s.setVm s.vm).vm := hZ
  have hown0 : (s.setVm s.vm).vm.findClass "com/example/authwright/authwright/engine/MessageReader" = some m.cls := hown
  have e0 : s₁.heap = h0 := by rw [← hh, Bd.state]; rfl
  have N0 := Fr.nil n0
  show ows_R p e below s (Q9_3 Z a1 am km vs dv x0 x1 x2 x3 h0 n0) ({ frames := 3, cells := 3, slots := 31, locals := 70 } : Room).cells ({ frames := 3, cells := 3, slots := 31, locals := 70 } : Room).slots s₁ (entryFrame m #[(.ref a1)] 3)
  refine ows_cast (ef_9_3 m a1) ?_
  show ows_R p e below s _ _ _ s₁ (mkF m 0 #[.val (.ref a1), .unset, .unset] [])
  have K0 := Keep.refl h0 ([a1] : List Addr)
  have n0_a1 := hn0
  refine ows_aloadN X0 hx (hb hby d9_0) rfl rfl ?_
  show ows_R p e below s _ _ _ s₁ (mkF m 1 #[.val (.ref a1), .unset, .unset] [(.ref a1)])
  refine ows_callPS X0 hx hZ0 (y := (⟨"com/example/authwright/authwright/engine/MessageReader", "readLength", "()I"⟩ : MethodName)) hown0 hS0 hk0 (hw _ (List.mem_of_getElem? (i := 40) rfl)) (hw _ (List.mem_of_getElem? (i := 41) rfl)) (hw _ (List.mem_of_getElem? (i := 1) rfl)) (hw _ (List.mem_of_getElem? (i := 42) rfl)) (hw _ (List.mem_of_getElem? (i := 2) rfl)) (hw _ (List.mem_of_getElem? (i := 43) rfl)) (by decide) (rm7 l Z a0 hw [] a1 am km (7 : Int32) vs dv x0 x1 x2 x3 (3 : Int32) h0 n0 Z0 hm hp hV hE hn0 hne hj0 hb0 hj1 hb1 hj2 hb2 hj3 hb3 hr hln (by rw [hle]; decide)) 0 (by decide) (by decide) e0 (by rw [hml]; rfl) a1 hE [] [] rfl (lenOf pd_2 rfl) rfl (Nat.le_of_eq rfl) (hb hby d9_1) (by decide) (by decide) ?_
  rintro T122 _ L122 X122 hS122 hZ122 hown122 ⟨rfl, N122q, Kc122, Ec122, Fm122, Fp122⟩
  have N122 := Fr.app N0 N122q
  have hk122 := Nat.le_refl T122.heap.size
  have K122 := K0.trans Kc122 (allS (P := fun x => x ∈ ([a1] : List Addr) ∨ h0.size ≤ x) (Or.inl (List.mem_of_getElem? (i := 0) rfl)) all0)
  show ows_R p e below s _ _ _ T122 (mkF m 4 #[.val (.ref a1), .unset, .unset] [(.int (3 : Int32))])
  have Fq122 : Fld Z T122.heap a1 "com/example/authwright/authwright/engine/MessageReader" "position" "I" (.int (4 : Int32)) := Fp122
  refine ows_istoreN X122 hx (hb hby d9_4) (l' := #[.val (.ref a1), .val (.int (3 : Int32)), .unset]) rfl ?_
  show ows_R p e below s _ _ _ T122 (mkF m 5 #[.val (.ref a1), .val (.int (3 : Int32)), .unset] [])
  refine ows_aloadN X122 hx (hb hby d9_5) rfl rfl ?_
  show ows_R p e below s _ _ _ T122 (mkF m 6 #[.val (.ref a1), .val (.int (3 : Int32)), .unset] [(.ref a1)])
  refine ows_getF X122 hx hZ122 hown122 (host := "") (Or.inl (hw _ (List.mem_of_getElem? (i := 10) rfl))) Via.refl rfl Fm122 (hb hby d9_6) ?_
  intro T123 X123 e123
  show ows_R p e below s _ _ _ T123 (mkF m 9 #[.val (.ref a1), .val (.int (3 : Int32)), .unset] [(.ref am)])
  refine ows_aloadN X123 hx (hb hby d9_9) rfl rfl ?_
  show ows_R p e below s _ _ _ T123 (mkF m 10 #[.val (.ref a1), .val (.int (3 : Int32)), .unset] [(.ref a1), (.ref am)])
  refine ows_getF X123 hx hZ122 hown122 (host := "") (Or.inl (hw _ (List.mem_of_getElem? (i := 17) rfl))) Via.refl e123 Fq122 (hb hby d9_10) ?_
  intro T124 X124 e124
  show ows_R p e below s _ _ _ T124 (mkF m 13 #[.val (.ref a1), .val (.int (3 : Int32)), .unset] [(.int (4 : Int32)), (.ref am)])
  refine ows_aloadN X124 hx (hb hby d9_13) rfl rfl ?_
  show ows_R p e below s _ _ _ T124 (mkF m 14 #[.val (.ref a1), .val (.int (3 : Int32)), .unset] [(.ref a1), (.int (4 : Int32)), (.ref am)])
  refine ows_getF X124 hx hZ122 hown122 (host := "") (Or.inl (hw _ (List.mem_of_getElem? (i := 17) rfl))) Via.refl e124 Fq122 (hb hby d9_14) ?_
  intro T125 X125 e125
  show ows_R p e below s _ _ _ T125 (mkF m 17 #[.val (.ref a1), .val (.int (3 : Int32)), .unset] [(.int (4 : Int32)), (.int (4 : Int32)), (.ref am)])
  refine ows_iloadN X125 hx (hb hby d9_17) rfl ?_
  show ows_R p e below s _ _ _ T125 (mkF m 18 #[.val (.ref a1), .val (.int (3 : Int32)), .unset] [(.int (3 : Int32)), (.int (4 : Int32)), (.int (4 : Int32)), (.ref am)])
  refine ows_iadd X125 hx (hb hby d9_18) ?_
  show ows_R p e below s _ _ _ T125 (mkF m 19 #[.val (.ref a1), .val (.int (3 : Int32)), .unset] [(.int (7 : Int32)), (.int (4 : Int32)), (.ref am)])
  have f126 := (hV.keep Kc122 (ninS (Ne.symm hne) nin0))
  refine ows_callS X125 hx hZ122 (y := (⟨"java/util/Arrays", "copyOfRange", "([BII)[B"⟩ : MethodName)) hown122 (hw _ (List.mem_of_getElem? (i := 56) rfl)) (hw _ (List.mem_of_getElem? (i := 57) rfl)) (hw _ (List.mem_of_getElem? (i := 58) rfl)) (hw _ (List.mem_of_getElem? (i := 59) rfl)) (by decide) (rm10_3 l Z a0 hw [] am km vs dv T122.heap n0 (Nat.le_trans Z0 K122.1) f126) 0 (by decide) (by decide) e125 (by rw [hml]; rfl) [(.ref am), (.int (4 : Int32)), (.int (7 : Int32))] [] rfl (lenOf pd_5 rfl) rfl (Nat.le_of_eq rfl) (hb hby d9_19) (by decide) (by decide) ?_
  rintro T127 _ L127 X127 ⟨c127, rfl, N127q, Kc127⟩
  have N127 := Fr.app N122 N127q
  have hk127 := Nat.le_trans hk122 Kc127.1
  have K127 := K122.trans Kc127 all0
  show ows_R p e below s _ _ _ T127 (mkF m 22 #[.val (.ref a1), .val (.int (3 : Int32)), .unset] [(.ref c127)])
  refine ows_astoreN X127 hx (hb hby d9_22) rfl (l' := #[.val (.ref a1), .val (.int (3 : Int32)), .val (.ref c127)]) rfl ?_
  show ows_R p e below s _ _ _ T127 (mkF m 23 #[.val (.ref a1), .val (.int (3 : Int32)), .val (.ref c127)] [])
  refine ows_aloadN X127 hx (hb hby d9_23) rfl rfl ?_
  show ows_R p e below s _ _ _ T127 (mkF m 24 #[.val (.ref a1), .val (.int (3 : Int32)), .val (.ref c127)] [(.ref a1)])
  refine ows_dup X127 hx (hb hby d9_24) rfl ?_
  show ows_R p e below s _ _ _ T127 (mkF m 25 #[.val (.ref a1), .val (.int (3 : Int32)), .val (.ref c127)] [(.ref a1), (.ref a1)])
  have f128 := (Fq122.keep Kc127 nin0)
  refine ows_getF X127 hx hZ122 hown122 (host := "") (Or.inl (hw _ (List.mem_of_getElem? (i := 17) rfl))) Via.refl rfl f128 (hb hby d9_25) ?_
  intro T129 X129 e129
  show ows_R p e below s _ _ _ T129 (mkF m 28 #[.val (.ref a1), .val (.int (3 : Int32)), .val (.ref c127)] [(.int (4 : Int32)), (.ref a1)])
  refine ows_iloadN X129 hx (hb hby d9_28) rfl ?_
  show ows_R p e below s _ _ _ T129 (mkF m 29 #[.val (.ref a1), .val (.int (3 : Int32)), .val (.ref c127)] [(.int (3 : Int32)), (.int (4 : Int32)), (.ref a1)])
  refine ows_iadd X129 hx (hb hby d9_29) ?_
  show ows_R p e below s _ _ _ T129 (mkF m 30 #[.val (.ref a1), .val (.int (3 : Int32)), .val (.ref c127)] [(.int (7 : Int32)), (.ref a1)])
  have f130 := (Exa.keep Ec122 Kc127)
  refine ows_putF X129 hx hZ122 hown122 (host := "") (Or.inl (hw _ (List.mem_of_getElem? (i := 17) rfl))) Via.refl e129 f128 f130 (Or.inl (hw _ (List.mem_of_getElem? (i := 18) rfl))) (hw _ (List.mem_of_getElem? (i := 1) rfl)) (ty := .int) (by decide) rfl rfl (hb hby d9_30) ?_
  intro T131 h131 X131 e131 W131
  have hk131 := Nat.le_trans hk127 (Keep.of_wr W131).1
  have K131 := K127.wr W131 (Or.inl (List.mem_of_getElem? (i := 0) rfl))
  have N131 := Fr.snoc X131 N127 n0_a1
  have Fw131 := Fld.same W131 f128
  show ows_R p e below s _ _ _ T131 (mkF m 33 #[.val (.ref a1), .val (.int (3 : Int32)), .val (.ref c127)] [])
  refine ows_aloadN X131 hx (hb hby d9_33) rfl rfl ?_
  show ows_R p e below s _ _ _ T131 (mkF m 34 #[.val (.ref a1), .val (.int (3 : Int32)), .val (.ref c127)] [(.ref c127)])
  have f132 := (Exa.wr W131 f130)
  have f133 := (Fld.other W131 (Fm122.keep Kc127 nin0) (Or.inr (slot_ne (Or.inr (hw _ (List.mem_of_getElem? (i := 11) rfl))) (Or.inl (hw _ (List.mem_of_getElem? (i := 18) rfl))) (by decide) (t := (.array .byte)) (t' := .int) (by decide) (by decide))))
  refine ows_retA X131 hS122 (by rw [e131]; exact hk131) hx Bd.returns rfl rfl hlk (hb hby d9_34) ?_ (by decide) (by decide)
  rw [e131]
  exact ⟨_, rfl, N131, K131, f132, f133, Fw131⟩
theorem pn_0 : plainFor (⟨"com/example/authwright/authwright/engine/MessageReaderExpectEndPinLaw", "law", "(III)Z"⟩ : MethodName) = true := by decide +kernel
theorem ef_0 (m : MethodId) (p0 : Int32) (p1 : Int32) (p2 : Int32) : entryFrame m #[(.int p0), (.int p1), (.int p2)] maxLocals = mkF m 0 #[.val (.int p0), .val (.int p1), .val (.int p2), .unset, .unset, .unset, .unset] [] := by first | (simp [entryFrame, mkF, argsToLocals, Value.category, maxLocals]; done) | rfl
def Q0 (Z : State) (p0 : Int32) (p1 : Int32) (p2 : Int32) (h0 : Heap) (n0 : Nat) (v : Option Value) (h : Heap) (L : List Loc) : Prop := v = some (.int 1) ∧ Fr n0 L
set_option maxRecDepth 65536 in
set_option maxHeartbeats 40000000 in
theorem rm0 (l : Launch) (Z : State) (a0 : Array Value) (hw : ∀ d ∈ tables_1, d.before a0 Z = true) (ws : List Jvm.Cond) (p0 : Int32) (p1 : Int32) (p2 : Int32) (h0 : Heap) (n0 : Nat) (Z0 : n0 ≤ h0.size) :
    MetFree l x (head1 (Jvm.Cond.code x code maxLocals ret :: ws) room_1) (fun a U => a = #[(.int p0), (.int p1), (.int p2)] ∧ Z.Warmed39 U.vm ∧ U.heap = h0) (fun _ _ _ _ _ => True) (fun _ U o U' => ∃ v L, o = .returned v ∧ Q0 Z p0 p1 p2 h0 n0 v U'.heap L ∧ ReturnedEndW U o U' L room_1.cells room_1.slots) := by
  refine MetFree.of_bodySF pn_0 hisR ?_
  intro p e s m args below meth c s₁ Bd hml0 hP hK
  obtain ⟨rfl, hZ, hh⟩ := hP
  have hx := Bd.exec
  have hby := Bd.bytes
  have hml : c.maxLocals = 7 := hml0
  have hown : s.vm.findClass "com/example/authwright/authwright/engine/MessageReaderExpectEndPinLaw" = some m.cls := findClass_of_methodNamed Bd.named
  have hnm := (name_of_methodNamed Bd.named Bd.method).1
  have hlk := BodyLoose.notSynchronized Bd
  have X0 : Stand p l e room_1 (s.setVm s.vm) m #[(.int p0), (.int p1), (.int p2)] below meth c s₁ [] 0 0 := Stand.of_body Bd
  have hS0 : s.Since s.vm 0 := (State.WarmedH.refl s).since 0
  have hk0 : 0 ≤ h0.size := Nat.zero_le _
  have hZ0 : Z.Warmed39 (s.setVm s.vm).vm := hZ
  have hown0 : (s.setVm s.vm).vm.findClass "com/example/authwright/authwright/engine/MessageReaderExpectEndPinLaw" = some m.cls := hown
  have e0 : s₁.heap = h0 := by rw [← hh, Bd.state]; rfl
  have N0 := Fr.nil n0
  show ows_R p e below s (Q0 Z p0 p1 p2 h0 n0) room_1.cells room_1.slots s₁ (entryFrame m #[(.int p0), (.int p1), (.int p2)] maxLocals)
  refine ows_cast (ef_0 m p0 p1 p2) ?_
  show ows_R p e below s _ _ _ s₁ (mkF m 0 #[.val (.int p0), .val (.int p1), .val (.int p2), .unset, .unset, .unset, .unset] [])
  have K0 := Keep.refl h0 ([] : List Addr)
  refine ows_iloadN X0 hx (hb hby at_0) rfl ?_
  show ows_R p e below s _ _ _ s₁ (mkF m 1 #[.val (.int p0), .val (.int p1), .val (.int p2), .unset, .unset, .unset, .unset] [(.int p0)])
  refine ows_iconst X0 hx (3 : Int32) (hb hby at_1) rfl ?_
  show ows_R p e below s _ _ _ s₁ (mkF m 2 #[.val (.int p0), .val (.int p1), .val (.int p2), .unset, .unset, .unset, .unset] [(.int (3 : Int32)), (.int p0)])
  refine ows_iand X0 hx (hb hby at_2) ?_
  show ows_R p e below s _ _ _ s₁ (mkF m 3 #[.val (.int p0), .val (.int p1), .val (.int p2), .unset, .unset, .unset, .unset] [(.int (p0 &&& (3 : Int32)))])
  refine ows_istoreN X0 hx (hb hby at_3) (l' := #[.val (.int p0), .val (.int p1), .val (.int p2), .val (.int (p0 &&& (3 : Int32))), .unset, .unset, .unset]) rfl ?_
  show ows_R p e below s _ _ _ s₁ (mkF m 4 #[.val (.int p0), .val (.int p1), .val (.int p2), .val (.int (p0 &&& (3 : Int32))), .unset, .unset, .unset] [])
  obtain ⟨n, hn, hn4⟩ : ∃ z : Int32, z = (p0 &&& (3 : Int32)) ∧ (z = 0 ∨ z = 1 ∨ z = 2 ∨ z = 3) := ⟨_, rfl, pl_4 _⟩
  rw [← hn]
  show ows_R p e below s _ _ _ s₁ (mkF m 4 #[.val (.int p0), .val (.int p1), .val (.int p2), .val (.int n), .unset, .unset, .unset] [])
  rcases hn4 with rfl | rfl | rfl | rfl
  ·
    show ows_R p e below s _ _ _ s₁ (mkF m 4 #[.val (.int p0), .val (.int p1), .val (.int p2), .val (.int (0 : Int32)), .unset, .unset, .unset] [])
    refine ows_iloadN X0 hx (hb hby at_4) rfl ?_
    show ows_R p e below s _ _ _ s₁ (mkF m 5 #[.val (.int p0), .val (.int p1), .val (.int p2), .val (.int (0 : Int32)), .unset, .unset, .unset] [(.int (0 : Int32))])
    refine ows_if X0 hx (hb hby at_5) (pc' := 27) (by decide) (by decide) (fun hc => ?_) (fun hc => ?_)
    · have hc5 : ¬ (0 : Int32) = (0 : Int32) := own_ne1 hc
      exact absurd (by decide) hc5
    · have hc5 : (0 : Int32) = (0 : Int32) := own_ne0 hc
      clear hc
      show ows_R p e below s _ _ _ s₁ (mkF m 8 #[.val (.int p0), .val (.int p1), .val (.int p2), .val (.int (0 : Int32)), .unset, .unset, .unset] [])
      refine ows_new X0 hx hZ0 hown0 (hw _ (List.mem_of_getElem? (i := 0) rfl)) (hw _ (List.mem_of_getElem? (i := 1) rfl)) (hw _ (List.mem_of_getElem? (i := 2) rfl)) e0 (hb hby at_8) (by decide) (by decide) ?_
      intro T134 h134 b134 g134 X134 e134 E134 A134 D134
      have sz_b134 : h0.size ≤ b134 := Nat.le_trans K0.1 (Nat.le_of_eq g134.symm)
      have n0_b134 : n0 ≤ b134 := Nat.le_trans Z0 sz_b134
      have hk134 := Nat.le_trans hk0 E134.1
      have K134 := K0.ext E134
      have F_message_b134 : Fld Z h134 b134 "com/example/authwright/authwright/engine/MessageReader" "message" "[B" .null := D134 (Or.inr (hw _ (List.mem_of_getElem? (i := 11) rfl))) (ty := (.array .byte)) (by decide)
      have F_position_b134 : Fld Z h134 b134 "com/example/authwright/authwright/engine/MessageReader" "position" "I" (.int (0 : Int32)) := D134 (Or.inl (hw _ (List.mem_of_getElem? (i := 18) rfl))) (ty := .int) (by decide)
      show ows_R p e below s _ _ _ T134 (mkF m 11 #[.val (.int p0), .val (.int p1), .val (.int p2), .val (.int (0 : Int32)), .unset, .unset, .unset] [(.ref b134)])
      refine ows_dup X134 hx (hb hby at_11) rfl ?_
      show ows_R p e below s _ _ _ T134 (mkF m 12 #[.val (.int p0), .val (.int p1), .val (.int p2), .val (.int (0 : Int32)), .unset, .unset, .unset] [(.ref b134), (.ref b134)])
      refine ows_iconst X134 hx (0 : Int32) (hb hby at_12) rfl ?_
      show ows_R p e below s _ _ _ T134 (mkF m 13 #[.val (.int p0), .val (.int p1), .val (.int p2), .val (.int (0 : Int32)), .unset, .unset, .unset] [(.int (0 : Int32)), (.ref b134), (.ref b134)])
      refine ows_newA X134 hx hZ0 (hw _ (List.mem_of_getElem? (i := 3) rfl)) e134 (hb hby at_13) (by decide) 0 (by decide) (by decide) (by decide) (by decide) (ad := "[B") (by decide) 0 ?_
      intro T135 h135 b135 k135 g135 X135 e135 E135 V135 A135
      have ne_b134_b135 : b134 ≠ b135 := Nat.ne_of_lt (Nat.lt_of_lt_of_le A134.lt (Nat.le_of_eq g135.symm))
      have sz_b135 : h0.size ≤ b135 := Nat.le_trans K134.1 (Nat.le_of_eq g135.symm)
      have n0_b135 : n0 ≤ b135 := Nat.le_trans Z0 sz_b135
      have hk135 := Nat.le_trans hk134 E135.1
      have K135 := K134.ext E135
      have V_b135 : Arv Z h135 b135 k135 .byte (0 : Int32) [] (.int (0 : Int32)) := V135
      show ows_R p e below s _ _ _ T135 (mkF m 15 #[.val (.int p0), .val (.int p1), .val (.int p2), .val (.int (0 : Int32)), .unset, .unset, .unset] [(.ref b135), (.ref b134), (.ref b134)])
      have f136 := (Exa.ext E135 A134)
      have f137 := (Fld.ext E135 F_message_b134)
      have f138 := (Fld.ext E135 F_position_b134)
      refine ows_callI X135 hx hZ0 (y := (⟨"com/example/authwright/authwright/engine/MessageReader", "<init>", "([B)V"⟩ : MethodName)) rfl hown0 (hw _ (List.mem_of_getElem? (i := 4) rfl)) (hw _ (List.mem_of_getElem? (i := 5) rfl)) (hw _ (List.mem_of_getElem? (i := 2) rfl)) (hw _ (List.mem_of_getElem? (i := 6) rfl)) (by decide) (rm1 l Z a0 hw [] b134 b135 h135 n0 (Nat.le_trans Z0 K135.1) f136 n0_b134 f137 f138) 1 (by decide) (by decide) e135 (by rw [hml]; rfl) b134 [(.ref b135)] [(.ref b134)] rfl (lenOf pd_6 rfl) rfl (Nat.le_of_eq rfl) (hb hby at_15) (by decide) (by decide) ?_
      rintro T139 _ L139 X139 ⟨rfl, N139q, Kc139, Ec139, Fm139, Fp139⟩
      have N139 := Fr.app N0 N139q
      have hk139 := Nat.le_trans hk135 Kc139.1
      have K139 := K135.trans Kc139 (allS (P := fun x => x ∈ ([] : List Addr) ∨ h0.size ≤ x) (Or.inr sz_b134) all0)
      show ows_R p e below s _ _ _ T139 (mkF m 18 #[.val (.int p0), .val (.int p1), .val (.int p2), .val (.int (0 : Int32)), .unset, .unset, .unset] [(.ref b134)])
      refine ows_astore X139 hx (hb hby at_18) rfl (l' := #[.val (.int p0), .val (.int p1), .val (.int p2), .val (.int (0 : Int32)), .val (.ref b134), .unset, .unset]) rfl ?_
      show ows_R p e below s _ _ _ T139 (mkF m 20 #[.val (.int p0), .val (.int p1), .val (.int p2), .val (.int (0 : Int32)), .val (.ref b134), .unset, .unset] [])
      refine ows_aload X139 hx (hb hby at_20) rfl rfl ?_
      show ows_R p e below s _ _ _ T139 (mkF m 22 #[.val (.int p0), .val (.int p1), .val (.int p2), .val (.int (0 : Int32)), .val (.ref b134), .unset, .unset] [(.ref b134)])
      have f140 := (V_b135.keep Kc139 (ninS (Ne.symm ne_b134_b135) nin0))
      refine ows_callV X139 hx hZ0 (y := (⟨"com/example/authwright/authwright/engine/MessageReader", "expectEnd", "()V"⟩ : MethodName)) (z := (⟨"com/example/authwright/authwright/engine/MessageReader", "expectEnd", "()V"⟩ : MethodName)) hown0 (hw _ (List.mem_of_getElem? (i := 12) rfl)) (hw _ (List.mem_of_getElem? (i := 13) rfl)) (notFace_of_selects (args := #[]) (mvT hZ0 (hw _ (List.mem_of_getElem? (i := 15) rfl)))) (hw _ (List.mem_of_getElem? (i := 15) rfl)) (hw _ (List.mem_of_getElem? (i := 14) rfl)) (hw _ (List.mem_of_getElem? (i := 2) rfl)) (hw _ (List.mem_of_getElem? (i := 16) rfl)) (by decide) (rm3 l Z a0 hw [] b134 b135 k135 (0 : Int32) [] (.int (0 : Int32)) T139.heap n0 (Nat.le_trans Z0 K139.1) Fm139 Fp139 f140) 0 (by decide) (by decide) rfl (by rw [hml]; rfl) b134 Ec139 [] [] rfl (lenOf pd_7 rfl) rfl (Nat.le_of_eq rfl) (hb hby at_22) (by decide) (by decide) ?_
      rintro T141 _ L141 X141 ⟨rfl, N141q, e141⟩
      have N141 := Fr.app N139 N141q
      show ows_R p e below s _ _ _ T141 (mkF m 25 #[.val (.int p0), .val (.int p1), .val (.int p2), .val (.int (0 : Int32)), .val (.ref b134), .unset, .unset] [])
      refine ows_iconst X141 hx (1 : Int32) (hb hby at_25) rfl ?_
      show ows_R p e below s _ _ _ T141 (mkF m 26 #[.val (.int p0), .val (.int p1), .val (.int p2), .val (.int (0 : Int32)), .val (.ref b134), .unset, .unset] [(.int (1 : Int32))])
      refine ows_retN X141 hS0 (by rw [e141]; exact hk139) hx (t := .boolean) Bd.returns (by simp) hlk (hb hby at_26) ?_ (by decide) (by decide)
      exact ⟨rfl, N141⟩
  ·
    show ows_R p e below s _ _ _ s₁ (mkF m 4 #[.val (.int p0), .val (.int p1), .val (.int p2), .val (.int (1 : Int32)), .unset, .unset, .unset] [])
    refine ows_iloadN X0 hx (hb hby at_4) rfl ?_
    show ows_R p e below s _ _ _ s₁ (mkF m 5 #[.val (.int p0), .val (.int p1), .val (.int p2), .val (.int (1 : Int32)), .unset, .unset, .unset] [(.int (1 : Int32))])
    refine ows_if X0 hx (hb hby at_5) (pc' := 27) (by decide) (by decide) (fun hc => ?_) (fun hc => ?_)
    · have hc5 : ¬ (1 : Int32) = (0 : Int32) := own_ne1 hc
      clear hc
      show ows_R p e below s _ _ _ s₁ (mkF m 27 #[.val (.int p0), .val (.int p1), .val (.int p2), .val (.int (1 : Int32)), .unset, .unset, .unset] [])
      refine ows_iloadN X0 hx (hb hby at_27) rfl ?_
      show ows_R p e below s _ _ _ s₁ (mkF m 28 #[.val (.int p0), .val (.int p1), .val (.int p2), .val (.int (1 : Int32)), .unset, .unset, .unset] [(.int (1 : Int32))])
      refine ows_iconst X0 hx (1 : Int32) (hb hby at_28) rfl ?_
      show ows_R p e below s _ _ _ s₁ (mkF m 29 #[.val (.int p0), .val (.int p1), .val (.int p2), .val (.int (1 : Int32)), .unset, .unset, .unset] [(.int (1 : Int32)), (.int (1 : Int32))])
      refine ows_icmp X0 hx (hb hby at_29) (pc' := 79) (by decide) (by decide) (fun hc => ?_) (fun hc => ?_)
      · have hc29 : ¬ (1 : Int32) = (1 : Int32) := own_ne1 hc
        exact absurd (by decide) hc29
      · have hc29 : (1 : Int32) = (1 : Int32) := own_ne0 hc
        clear hc
        show ows_R p e below s _ _ _ s₁ (mkF m 32 #[.val (.int p0), .val (.int p1), .val (.int p2), .val (.int (1 : Int32)), .unset, .unset, .unset] [])
        refine ows_iconst X0 hx (2 : Int32) (hb hby at_32) rfl ?_
        show ows_R p e below s _ _ _ s₁ (mkF m 33 #[.val (.int p0), .val (.int p1), .val (.int p2), .val (.int (1 : Int32)), .unset, .unset, .unset] [(.int (2 : Int32))])
        refine ows_newA X0 hx hZ0 (hw _ (List.mem_of_getElem? (i := 3) rfl)) e0 (hb hby at_33) (by decide) 2 (by decide) (by decide) (by decide) (by decide) (ad := "[B") (by decide) 2 ?_
        intro T142 h142 b142 k142 g142 X142 e142 E142 V142 A142
        have sz_b142 : h0.size ≤ b142 := Nat.le_trans K0.1 (Nat.le_of_eq g142.symm)
        have n0_b142 : n0 ≤ b142 := Nat.le_trans Z0 sz_b142
        have hk142 := Nat.le_trans hk0 E142.1
        have K142 := K0.ext E142
        have V_b142 : Arv Z h142 b142 k142 .byte (2 : Int32) [(.int (0 : Int32)), (.int (0 : Int32))] (.int (0 : Int32)) := V142
        show ows_R p e below s _ _ _ T142 (mkF m 35 #[.val (.int p0), .val (.int p1), .val (.int p2), .val (.int (1 : Int32)), .unset, .unset, .unset] [(.ref b142)])
        refine ows_astore X142 hx (hb hby at_35) rfl (l' := #[.val (.int p0), .val (.int p1), .val (.int p2), .val (.int (1 : Int32)), .val (.ref b142), .unset, .unset]) rfl ?_
        show ows_R p e below s _ _ _ T142 (mkF m 37 #[.val (.int p0), .val (.int p1), .val (.int p2), .val (.int (1 : Int32)), .val (.ref b142), .unset, .unset] [])
        refine ows_aload X142 hx (hb hby at_37) rfl rfl ?_
        show ows_R p e below s _ _ _ T142 (mkF m 39 #[.val (.int p0), .val (.int p1), .val (.int p2), .val (.int (1 : Int32)), .val (.ref b142), .unset, .unset] [(.ref b142)])
        refine ows_iconst X142 hx (0 : Int32) (hb hby at_39) rfl ?_
        show ows_R p e below s _ _ _ T142 (mkF m 40 #[.val (.int p0), .val (.int p1), .val (.int p2), .val (.int (1 : Int32)), .val (.ref b142), .unset, .unset] [(.int (0 : Int32)), (.ref b142)])
        refine ows_iloadN X142 hx (hb hby at_40) rfl ?_
        show ows_R p e below s _ _ _ T142 (mkF m 41 #[.val (.int p0), .val (.int p1), .val (.int p2), .val (.int (1 : Int32)), .val (.ref b142), .unset, .unset] [(.int p1), (.int (0 : Int32)), (.ref b142)])
        refine ows_i2b X142 hx (hb hby at_41) ?_
        show ows_R p e below s _ _ _ T142 (mkF m 42 #[.val (.int p0), .val (.int p1), .val (.int p2), .val (.int (1 : Int32)), .val (.ref b142), .unset, .unset] [(.int (p1.toInt8.toInt32)), (.int (0 : Int32)), (.ref b142)])
        refine ows_bastore X142 hx hZ0 e142 V_b142 (x' := (p1.toInt8.toInt32)) (pl_nb _) ⟨by decide, by decide⟩ 0 rfl (Nat.le_of_ble_eq_true rfl) (hb hby at_42) ?_
        intro T143 h143 X143 e143 W143 V143
        have hk143 := Nat.le_trans hk142 (Keep.of_wr W143).1
        have K143 := K142.wr W143 (Or.inr sz_b142)
        have N143 := Fr.snoc X143 N0 n0_b142
        have V_b142_143 : Arv Z h143 b142 k142 .byte (2 : Int32) [(.int (p1.toInt8.toInt32)), (.int (0 : Int32))] (.int (0 : Int32)) := V143
        show ows_R p e below s _ _ _ T143 (mkF m 43 #[.val (.int p0), .val (.int p1), .val (.int p2), .val (.int (1 : Int32)), .val (.ref b142), .unset, .unset] [])
        refine ows_aload X143 hx (hb hby at_43) rfl rfl ?_
        show ows_R p e below s _ _ _ T143 (mkF m 45 #[.val (.int p0), .val (.int p1), .val (.int p2), .val (.int (1 : Int32)), .val (.ref b142), .unset, .unset] [(.ref b142)])
        refine ows_iconst X143 hx (1 : Int32) (hb hby at_45) rfl ?_
        show ows_R p e below s _ _ _ T143 (mkF m 46 #[.val (.int p0), .val (.int p1), .val (.int p2), .val (.int (1 : Int32)), .val (.ref b142), .unset, .unset] [(.int (1 : Int32)), (.ref b142)])
        refine ows_iloadN X143 hx (hb hby at_46) rfl ?_
        show ows_R p e below s _ _ _ T143 (mkF m 47 #[.val (.int p0), .val (.int p1), .val (.int p2), .val (.int (1 : Int32)), .val (.ref b142), .unset, .unset] [(.int p2), (.int (1 : Int32)), (.ref b142)])
        refine ows_i2b X143 hx (hb hby at_47) ?_
        show ows_R p e below s _ _ _ T143 (mkF m 48 #[.val (.int p0), .val (.int p1), .val (.int p2), .val (.int (1 : Int32)), .val (.ref b142), .unset, .unset] [(.int (p2.toInt8.toInt32)), (.int (1 : Int32)), (.ref b142)])
        refine ows_bastore X143 hx hZ0 e143 V_b142_143 (x' := (p2.toInt8.toInt32)) (pl_nb _) ⟨by decide, by decide⟩ 1 rfl (Nat.le_of_ble_eq_true rfl) (hb hby at_48) ?_
        intro T144 h144 X144 e144 W144 V144
        have hk144 := Nat.le_trans hk143 (Keep.of_wr W144).1
        have K144 := K143.wr W144 (Or.inr sz_b142)
        have N144 := Fr.snoc X144 N143 n0_b142
        have V_b142_144 : Arv Z h144 b142 k142 .byte (2 : Int32) [(.int (p1.toInt8.toInt32)), (.int (p2.toInt8.toInt32))] (.int (0 : Int32)) := V144
        show ows_R p e below s _ _ _ T144 (mkF m 49 #[.val (.int p0), .val (.int p1), .val (.int p2), .val (.int (1 : Int32)), .val (.ref b142), .unset, .unset] [])
        refine ows_new X144 hx hZ0 hown0 (hw _ (List.mem_of_getElem? (i := 0) rfl)) (hw _ (List.mem_of_getElem? (i := 1) rfl)) (hw _ (List.mem_of_getElem? (i := 2) rfl)) e144 (hb hby at_49) (by decide) (by decide) ?_
        intro T145 h145 b145 g145 X145 e145 E145 A145 D145
        have ne_b142_b145 : b142 ≠ b145 := Nat.ne_of_lt (Nat.lt_of_lt_of_le V_b142_144.lt (Nat.le_of_eq g145.symm))
        have sz_b145 : h0.size ≤ b145 := Nat.le_trans K144.1 (Nat.le_of_eq g145.symm)
        have n0_b145 : n0 ≤ b145 := Nat.le_trans Z0 sz_b145
        have hk145 := Nat.le_trans hk144 E145.1
        have K145 := K144.ext E145
        have F_message_b145 : Fld Z h145 b145 "com/example/authwright/authwright/engine/MessageReader" "message" "[B" .null := D145 (Or.inr (hw _ (List.mem_of_getElem? (i := 11) rfl))) (ty := (.array .byte)) (by decide)
        have F_position_b145 : Fld Z h145 b145 "com/example/authwright/authwright/engine/MessageReader" "position" "I" (.int (0 : Int32)) := D145 (Or.inl (hw _ (List.mem_of_getElem? (i := 18) rfl))) (ty := .int) (by decide)
        show ows_R p e below s _ _ _ T145 (mkF m 52 #[.val (.int p0), .val (.int p1), .val (.int p2), .val (.int (1 : Int32)), .val (.ref b142), .unset, .unset] [(.ref b145)])
        refine ows_dup X145 hx (hb hby at_52) rfl ?_
        show ows_R p e below s _ _ _ T145 (mkF m 53 #[.val (.int p0), .val (.int p1), .val (.int p2), .val (.int (1 : Int32)), .val (.ref b142), .unset, .unset] [(.ref b145), (.ref b145)])
        refine ows_aload X145 hx (hb hby at_53) rfl rfl ?_
        show ows_R p e below s _ _ _ T145 (mkF m 55 #[.val (.int p0), .val (.int p1), .val (.int p2), .val (.int (1 : Int32)), .val (.ref b142), .unset, .unset] [(.ref b142), (.ref b145), (.ref b145)])
        refine ows_callI X145 hx hZ0 (y := (⟨"com/example/authwright/authwright/engine/MessageReader", "<init>", "([B)V"⟩ : MethodName)) rfl hown0 (hw _ (List.mem_of_getElem? (i := 4) rfl)) (hw _ (List.mem_of_getElem? (i := 5) rfl)) (hw _ (List.mem_of_getElem? (i := 2) rfl)) (hw _ (List.mem_of_getElem? (i := 6) rfl)) (by decide) (rm1 l Z a0 hw [] b145 b142 h145 n0 (Nat.le_trans Z0 K145.1) A145 n0_b145 F_message_b145 F_position_b145) 1 (by decide) (by decide) e145 (by rw [hml]; rfl) b145 [(.ref b142)] [(.ref b145)] rfl (lenOf pd_6 rfl) rfl (Nat.le_of_eq rfl) (hb hby at_55) (by decide) (by decide) ?_
        rintro T146 _ L146 X146 ⟨rfl, N146q, Kc146, Ec146, Fm146, Fp146⟩
        have N146 := Fr.app N144 N146q
        have hk146 := Nat.le_trans hk145 Kc146.1
        have K146 := K145.trans Kc146 (allS (P := fun x => x ∈ ([] : List Addr) ∨ h0.size ≤ x) (Or.inr sz_b145) all0)
        show ows_R p e below s _ _ _ T146 (mkF m 58 #[.val (.int p0), .val (.int p1), .val (.int p2), .val (.int (1 : Int32)), .val (.ref b142), .unset, .unset] [(.ref b145)])
        refine ows_astore X146 hx (hb hby at_58) rfl (l' := #[.val (.int p0), .val (.int p1), .val (.int p2), .val (.int (1 : Int32)), .val (.ref b142), .val (.ref b145), .unset]) rfl ?_
        show ows_R p e below s _ _ _ T146 (mkF m 60 #[.val (.int p0), .val (.int p1), .val (.int p2), .val (.int (1 : Int32)), .val (.ref b142), .val (.ref b145), .unset] [])
        refine ows_aload X146 hx (hb hby at_60) rfl rfl ?_
        show ows_R p e below s _ _ _ T146 (mkF m 62 #[.val (.int p0), .val (.int p1), .val (.int p2), .val (.int (1 : Int32)), .val (.ref b142), .val (.ref b145), .unset] [(.ref b145)])
        have f147 := ((V_b142_144.ext E145).keep Kc146 (ninS ne_b142_b145 nin0))
        refine ows_callVS X146 hx hZ0 (y := (⟨"com/example/authwright/authwright/engine/MessageReader", "readBoolean", "()Z"⟩ : MethodName)) (z := (⟨"com/example/authwright/authwright/engine/MessageReader", "readBoolean", "()Z"⟩ : MethodName)) hown0 hS0 hk146 (hw _ (List.mem_of_getElem? (i := 19) rfl)) (hw _ (List.mem_of_getElem? (i := 20) rfl)) (notFace_of_selects (args := #[]) (mvT hZ0 (hw _ (List.mem_of_getElem? (i := 22) rfl)))) (hw _ (List.mem_of_getElem? (i := 22) rfl)) (hw _ (List.mem_of_getElem? (i := 21) rfl)) (hw _ (List.mem_of_getElem? (i := 2) rfl)) (hw _ (List.mem_of_getElem? (i := 23) rfl)) (by decide) (rm4 l Z a0 hw [] b145 b142 k142 (2 : Int32) [(.int (p1.toInt8.toInt32)), (.int (p2.toInt8.toInt32))] (.int (0 : Int32)) (0 : Int32) (p1.toInt8.toInt32) T146.heap n0 (Nat.le_trans Z0 K146.1) Fm146 Fp146 f147 Ec146 n0_b145 (Ne.symm ne_b142_b145) (by decide) (by decide) rfl) 0 (by decide) (by decide) rfl (by rw [hml]; rfl) b145 Ec146 [] [] rfl (lenOf pd_8 rfl) rfl (Nat.le_of_eq rfl) (hb hby at_62) (by decide) (by decide) ?_
        rintro T148 _ L148 X148 hS148 hZ148 hown148 ⟨bo148, rfl, N148q, Kc148, Ec148, Fm148, Fp148⟩
        have N148 := Fr.app N146 N148q
        have hk148 := Nat.le_refl T148.heap.size
        have K148 := K146.trans Kc148 (allS (P := fun x => x ∈ ([] : List Addr) ∨ h0.size ≤ x) (Or.inr sz_b145) all0)
        show ows_R p e below s _ _ _ T148 (mkF m 65 #[.val (.int p0), .val (.int p1), .val (.int p2), .val (.int (1 : Int32)), .val (.ref b142), .val (.ref b145), .unset] [(.int bo148)])
        have Fq148 : Fld Z T148.heap b145 "com/example/authwright/authwright/engine/MessageReader" "position" "I" (.int (1 : Int32)) := Fp148
        refine ows_pop X148 hx (hb hby at_65) rfl ?_
        show ows_R p e below s _ _ _ T148 (mkF m 66 #[.val (.int p0), .val (.int p1), .val (.int p2), .val (.int (1 : Int32)), .val (.ref b142), .val (.ref b145), .unset] [])
        refine ows_aload X148 hx (hb hby at_66) rfl rfl ?_
        show ows_R p e below s _ _ _ T148 (mkF m 68 #[.val (.int p0), .val (.int p1), .val (.int p2), .val (.int (1 : Int32)), .val (.ref b142), .val (.ref b145), .unset] [(.ref b145)])
        have f149 := (f147.keep Kc148 (ninS ne_b142_b145 nin0))
        refine ows_callVS X148 hx hZ148 (y := (⟨"com/example/authwright/authwright/engine/MessageReader", "readBoolean", "()Z"⟩ : MethodName)) (z := (⟨"com/example/authwright/authwright/engine/MessageReader", "readBoolean", "()Z"⟩ : MethodName)) hown148 hS148 hk148 (hw _ (List.mem_of_getElem? (i := 19) rfl)) (hw _ (List.mem_of_getElem? (i := 20) rfl)) (notFace_of_selects (args := #[]) (mvT hZ148 (hw _ (List.mem_of_getElem? (i := 22) rfl)))) (hw _ (List.mem_of_getElem? (i := 22) rfl)) (hw _ (List.mem_of_getElem? (i := 21) rfl)) (hw _ (List.mem_of_getElem? (i := 2) rfl)) (hw _ (List.mem_of_getElem? (i := 23) rfl)) (by decide) (rm4 l Z a0 hw [] b145 b142 k142 (2 : Int32) [(.int (p1.toInt8.toInt32)), (.int (p2.toInt8.toInt32))] (.int (0 : Int32)) (1 : Int32) (p2.toInt8.toInt32) T148.heap n0 (Nat.le_trans Z0 K148.1) Fm148 Fq148 f149 Ec148 n0_b145 (Ne.symm ne_b142_b145) (by decide) (by decide) rfl) 0 (by decide) (by decide) rfl (by rw [hml]; rfl) b145 Ec148 [] [] rfl (lenOf pd_8 rfl) rfl (Nat.le_of_eq rfl) (hb hby at_68) (by decide) (by decide) ?_
        rintro T150 _ L150 X150 hS150 hZ150 hown150 ⟨bo150, rfl, N150q, Kc150, Ec150, Fm150, Fp150⟩
        have N150 := Fr.app N148 N150q
        have hk150 := Nat.le_refl T150.heap.size
        have K150 := K148.trans Kc150 (allS (P := fun x => x ∈ ([] : List Addr) ∨ h0.size ≤ x) (Or.inr sz_b145) all0)
        show ows_R p e below s _ _ _ T150 (mkF m 71 #[.val (.int p0), .val (.int p1), .val (.int p2), .val (.int (1 : Int32)), .val (.ref b142), .val (.ref b145), .unset] [(.int bo150)])
        have Fq150 : Fld Z T150.heap b145 "com/example/authwright/authwright/engine/MessageReader" "position" "I" (.int (2 : Int32)) := Fp150
        refine ows_pop X150 hx (hb hby at_71) rfl ?_
        show ows_R p e below s _ _ _ T150 (mkF m 72 #[.val (.int p0), .val (.int p1), .val (.int p2), .val (.int (1 : Int32)), .val (.ref b142), .val (.ref b145), .unset] [])
        refine ows_aload X150 hx (hb hby at_72) rfl rfl ?_
        show ows_R p e below s _ _ _ T150 (mkF m 74 #[.val (.int p0), .val (.int p1), .val (.int p2), .val (.int (1 : Int32)), .val (.ref b142), .val (.ref b145), .unset] [(.ref b145)])
        have f151 := (f149.keep Kc150 (ninS ne_b142_b145 nin0))
        refine ows_callV X150 hx hZ150 (y := (⟨"com/example/authwright/authwright/engine/MessageReader", "expectEnd", "()V"⟩ : MethodName)) (z := (⟨"com/example/authwright/authwright/engine/MessageReader", "expectEnd", "()V"⟩ : MethodName)) hown150 (hw _ (List.mem_of_getElem? (i := 12) rfl)) (hw _ (List.mem_of_getElem? (i := 13) rfl)) (notFace_of_selects (args := #[]) (mvT hZ150 (hw _ (List.mem_of_getElem? (i := 15) rfl)))) (hw _ (List.mem_of_getElem? (i := 15) rfl)) (hw _ (List.mem_of_getElem? (i := 14) rfl)) (hw _ (List.mem_of_getElem? (i := 2) rfl)) (hw _ (List.mem_of_getElem? (i := 16) rfl)) (by decide) (rm3 l Z a0 hw [] b145 b142 k142 (2 : Int32) [(.int (p1.toInt8.toInt32)), (.int (p2.toInt8.toInt32))] (.int (0 : Int32)) T150.heap n0 (Nat.le_trans Z0 K150.1) Fm150 Fq150 f151) 0 (by decide) (by decide) rfl (by rw [hml]; rfl) b145 Ec150 [] [] rfl (lenOf pd_7 rfl) rfl (Nat.le_of_eq rfl) (hb hby at_74) (by decide) (by decide) ?_
        rintro T152 _ L152 X152 ⟨rfl, N152q, e152⟩
        have N152 := Fr.app N150 N152q
        show ows_R p e below s _ _ _ T152 (mkF m 77 #[.val (.int p0), .val (.int p1), .val (.int p2), .val (.int (1 : Int32)), .val (.ref b142), .val (.ref b145), .unset] [])
        refine ows_iconst X152 hx (1 : Int32) (hb hby at_77) rfl ?_
        show ows_R p e below s _ _ _ T152 (mkF m 78 #[.val (.int p0), .val (.int p1), .val (.int p2), .val (.int (1 : Int32)), .val (.ref b142), .val (.ref b145), .unset] [(.int (1 : Int32))])
        refine ows_retN X152 hS150 (by rw [e152]; exact hk150) hx (t := .boolean) Bd.returns (by simp) hlk (hb hby at_78) ?_ (by decide) (by decide)
        exact ⟨rfl, N152⟩
    · have hc5 : (1 : Int32) = (0 : Int32) := own_ne0 hc
      exact absurd hc5 (by decide)
  ·
    show ows_R p e below s _ _ _ s₁ (mkF m 4 #[.val (.int p0), .val (.int p1), .val (.int p2), .val (.int (2 : Int32)), .unset, .unset, .unset] [])
    refine ows_iloadN X0 hx (hb hby at_4) rfl ?_
    show ows_R p e below s _ _ _ s₁ (mkF m 5 #[.val (.int p0), .val (.int p1), .val (.int p2), .val (.int (2 : Int32)), .unset, .unset, .unset] [(.int (2 : Int32))])
    refine ows_if X0 hx (hb hby at_5) (pc' := 27) (by decide) (by decide) (fun hc => ?_) (fun hc => ?_)
    · have hc5 : ¬ (2 : Int32) = (0 : Int32) := own_ne1 hc
      clear hc
      show ows_R p e below s _ _ _ s₁ (mkF m 27 #[.val (.int p0), .val (.int p1), .val (.int p2), .val (.int (2 : Int32)), .unset, .unset, .unset] [])
      refine ows_iloadN X0 hx (hb hby at_27) rfl ?_
      show ows_R p e below s _ _ _ s₁ (mkF m 28 #[.val (.int p0), .val (.int p1), .val (.int p2), .val (.int (2 : Int32)), .unset, .unset, .unset] [(.int (2 : Int32))])
      refine ows_iconst X0 hx (1 : Int32) (hb hby at_28) rfl ?_
      show ows_R p e below s _ _ _ s₁ (mkF m 29 #[.val (.int p0), .val (.int p1), .val (.int p2), .val (.int (2 : Int32)), .unset, .unset, .unset] [(.int (1 : Int32)), (.int (2 : Int32))])
      refine ows_icmp X0 hx (hb hby at_29) (pc' := 79) (by decide) (by decide) (fun hc => ?_) (fun hc => ?_)
      · have hc29 : ¬ (2 : Int32) = (1 : Int32) := own_ne1 hc
        clear hc
        show ows_R p e below s _ _ _ s₁ (mkF m 79 #[.val (.int p0), .val (.int p1), .val (.int p2), .val (.int (2 : Int32)), .unset, .unset, .unset] [])
        refine ows_iloadN X0 hx (hb hby at_79) rfl ?_
        show ows_R p e below s _ _ _ s₁ (mkF m 80 #[.val (.int p0), .val (.int p1), .val (.int p2), .val (.int (2 : Int32)), .unset, .unset, .unset] [(.int (2 : Int32))])
        refine ows_iconst X0 hx (2 : Int32) (hb hby at_80) rfl ?_
        show ows_R p e below s _ _ _ s₁ (mkF m 81 #[.val (.int p0), .val (.int p1), .val (.int p2), .val (.int (2 : Int32)), .unset, .unset, .unset] [(.int (2 : Int32)), (.int (2 : Int32))])
        refine ows_icmp X0 hx (hb hby at_81) (pc' := 158) (by decide) (by decide) (fun hc => ?_) (fun hc => ?_)
        · have hc81 : ¬ (2 : Int32) = (2 : Int32) := own_ne1 hc
          exact absurd (by decide) hc81
        · have hc81 : (2 : Int32) = (2 : Int32) := own_ne0 hc
          clear hc
          show ows_R p e below s _ _ _ s₁ (mkF m 84 #[.val (.int p0), .val (.int p1), .val (.int p2), .val (.int (2 : Int32)), .unset, .unset, .unset] [])
          refine ows_iconst X0 hx (5 : Int32) (hb hby at_84) rfl ?_
          show ows_R p e below s _ _ _ s₁ (mkF m 85 #[.val (.int p0), .val (.int p1), .val (.int p2), .val (.int (2 : Int32)), .unset, .unset, .unset] [(.int (5 : Int32))])
          refine ows_newA X0 hx hZ0 (hw _ (List.mem_of_getElem? (i := 3) rfl)) e0 (hb hby at_85) (by decide) 5 (by decide) (by decide) (by decide) (by decide) (ad := "[B") (by decide) 5 ?_
          intro T153 h153 b153 k153 g153 X153 e153 E153 V153 A153
          have sz_b153 : h0.size ≤ b153 := Nat.le_trans K0.1 (Nat.le_of_eq g153.symm)
          have n0_b153 : n0 ≤ b153 := Nat.le_trans Z0 sz_b153
          have hk153 := Nat.le_trans hk0 E153.1
          have K153 := K0.ext E153
          have V_b153 : Arv Z h153 b153 k153 .byte (5 : Int32) [(.int (0 : Int32)), (.int (0 : Int32)), (.int (0 : Int32)), (.int (0 : Int32)), (.int (0 : Int32))] (.int (0 : Int32)) := V153
          show ows_R p e below s _ _ _ T153 (mkF m 87 #[.val (.int p0), .val (.int p1), .val (.int p2), .val (.int (2 : Int32)), .unset, .unset, .unset] [(.ref b153)])
          refine ows_astore X153 hx (hb hby at_87) rfl (l' := #[.val (.int p0), .val (.int p1), .val (.int p2), .val (.int (2 : Int32)), .val (.ref b153), .unset, .unset]) rfl ?_
          show ows_R p e below s _ _ _ T153 (mkF m 89 #[.val (.int p0), .val (.int p1), .val (.int p2), .val (.int (2 : Int32)), .val (.ref b153), .unset, .unset] [])
          refine ows_aload X153 hx (hb hby at_89) rfl rfl ?_
          show ows_R p e below s _ _ _ T153 (mkF m 91 #[.val (.int p0), .val (.int p1), .val (.int p2), .val (.int (2 : Int32)), .val (.ref b153), .unset, .unset] [(.ref b153)])
          refine ows_iconst X153 hx (0 : Int32) (hb hby at_91) rfl ?_
          show ows_R p e below s _ _ _ T153 (mkF m 92 #[.val (.int p0), .val (.int p1), .val (.int p2), .val (.int (2 : Int32)), .val (.ref b153), .unset, .unset] [(.int (0 : Int32)), (.ref b153)])
          refine ows_iloadN X153 hx (hb hby at_92) rfl ?_
          show ows_R p e below s _ _ _ T153 (mkF m 93 #[.val (.int p0), .val (.int p1), .val (.int p2), .val (.int (2 : Int32)), .val (.ref b153), .unset, .unset] [(.int p1), (.int (0 : Int32)), (.ref b153)])
          refine ows_bipush X153 hx (24 : Int32) (hb hby at_93) rfl ?_
          show ows_R p e below s _ _ _ T153 (mkF m 95 #[.val (.int p0), .val (.int p1), .val (.int p2), .val (.int (2 : Int32)), .val (.ref b153), .unset, .unset] [(.int (24 : Int32)), (.int p1), (.int (0 : Int32)), (.ref b153)])
          refine ows_iushr X153 hx (hb hby at_95) ?_
          show ows_R p e below s _ _ _ T153 (mkF m 96 #[.val (.int p0), .val (.int p1), .val (.int p2), .val (.int (2 : Int32)), .val (.ref b153), .unset, .unset] [(.int ((p1.toUInt32 >>> ((24 : Int32) &&& 31).toUInt32).toInt32)), (.int (0 : Int32)), (.ref b153)])
          refine ows_i2b X153 hx (hb hby at_96) ?_
          show ows_R p e below s _ _ _ T153 (mkF m 97 #[.val (.int p0), .val (.int p1), .val (.int p2), .val (.int (2 : Int32)), .val (.ref b153), .unset, .unset] [(.int (((p1.toUInt32 >>> ((24 : Int32) &&& 31).toUInt32).toInt32).toInt8.toInt32)), (.int (0 : Int32)), (.ref b153)])
          refine ows_bastore X153 hx hZ0 e153 V_b153 (x' := (((p1.toUInt32 >>> ((24 : Int32) &&& 31).toUInt32).toInt32).toInt8.toInt32)) (pl_nb _) ⟨by decide, by decide⟩ 0 rfl (Nat.le_of_ble_eq_true rfl) (hb hby at_97) ?_
          intro T154 h154 X154 e154 W154 V154
          have hk154 := Nat.le_trans hk153 (Keep.of_wr W154).1
          have K154 := K153.wr W154 (Or.inr sz_b153)
          have N154 := Fr.snoc X154 N0 n0_b153
          have V_b153_154 : Arv Z h154 b153 k153 .byte (5 : Int32) [(.int (((p1.toUInt32 >>> ((24 : Int32) &&& 31).toUInt32).toInt32).toInt8.toInt32)), (.int (0 : Int32)), (.int (0 : Int32)), (.int (0 : Int32)), (.int (0 : Int32))] (.int (0 : Int32)) := V154
          show ows_R p e below s _ _ _ T154 (mkF m 98 #[.val (.int p0), .val (.int p1), .val (.int p2), .val (.int (2 : Int32)), .val (.ref b153), .unset, .unset] [])
          refine ows_aload X154 hx (hb hby at_98) rfl rfl ?_
          show ows_R p e below s _ _ _ T154 (mkF m 100 #[.val (.int p0), .val (.int p1), .val (.int p2), .val (.int (2 : Int32)), .val (.ref b153), .unset, .unset] [(.ref b153)])
          refine ows_iconst X154 hx (1 : Int32) (hb hby at_100) rfl ?_
          show ows_R p e below s _ _ _ T154 (mkF m 101 #[.val (.int p0), .val (.int p1), .val (.int p2), .val (.int (2 : Int32)), .val (.ref b153), .unset, .unset] [(.int (1 : Int32)), (.ref b153)])
          refine ows_iloadN X154 hx (hb hby at_101) rfl ?_
          show ows_R p e below s _ _ _ T154 (mkF m 102 #[.val (.int p0), .val (.int p1), .val (.int p2), .val (.int (2 : Int32)), .val (.ref b153), .unset, .unset] [(.int p1), (.int (1 : Int32)), (.ref b153)])
          refine ows_bipush X154 hx (16 : Int32) (hb hby at_102) rfl ?_
          show ows_R p e below s _ _ _ T154 (mkF m 104 #[.val (.int p0), .val (.int p1), .val (.int p2), .val (.int (2 : Int32)), .val (.ref b153), .unset, .unset] [(.int (16 : Int32)), (.int p1), (.int (1 : Int32)), (.ref b153)])
          refine ows_iushr X154 hx (hb hby at_104) ?_
          show ows_R p e below s _ _ _ T154 (mkF m 105 #[.val (.int p0), .val (.int p1), .val (.int p2), .val (.int (2 : Int32)), .val (.ref b153), .unset, .unset] [(.int ((p1.toUInt32 >>> ((16 : Int32) &&& 31).toUInt32).toInt32)), (.int (1 : Int32)), (.ref b153)])
          refine ows_i2b X154 hx (hb hby at_105) ?_
          show ows_R p e below s _ _ _ T154 (mkF m 106 #[.val (.int p0), .val (.int p1), .val (.int p2), .val (.int (2 : Int32)), .val (.ref b153), .unset, .unset] [(.int (((p1.toUInt32 >>> ((16 : Int32) &&& 31).toUInt32).toInt32).toInt8.toInt32)), (.int (1 : Int32)), (.ref b153)])
          refine ows_bastore X154 hx hZ0 e154 V_b153_154 (x' := (((p1.toUInt32 >>> ((16 : Int32) &&& 31).toUInt32).toInt32).toInt8.toInt32)) (pl_nb _) ⟨by decide, by decide⟩ 1 rfl (Nat.le_of_ble_eq_true rfl) (hb hby at_106) ?_
          intro T155 h155 X155 e155 W155 V155
          have hk155 := Nat.le_trans hk154 (Keep.of_wr W155).1
          have K155 := K154.wr W155 (Or.inr sz_b153)
          have N155 := Fr.snoc X155 N154 n0_b153
          have V_b153_155 : Arv Z h155 b153 k153 .byte (5 : Int32) [(.int (((p1.toUInt32 >>> ((24 : Int32) &&& 31).toUInt32).toInt32).toInt8.toInt32)), (.int (((p1.toUInt32 >>> ((16 : Int32) &&& 31).toUInt32).toInt32).toInt8.toInt32)), (.int (0 : Int32)), (.int (0 : Int32)), (.int (0 : Int32))] (.int (0 : Int32)) := V155
          show ows_R p e below s _ _ _ T155 (mkF m 107 #[.val (.int p0), .val (.int p1), .val (.int p2), .val (.int (2 : Int32)), .val (.ref b153), .unset, .unset] [])
          refine ows_aload X155 hx (hb hby at_107) rfl rfl ?_
          show ows_R p e below s _ _ _ T155 (mkF m 109 #[.val (.int p0), .val (.int p1), .val (.int p2), .val (.int (2 : Int32)), .val (.ref b153), .unset, .unset] [(.ref b153)])
          refine ows_iconst X155 hx (2 : Int32) (hb hby at_109) rfl ?_
          show ows_R p e below s _ _ _ T155 (mkF m 110 #[.val (.int p0), .val (.int p1), .val (.int p2), .val (.int (2 : Int32)), .val (.ref b153), .unset, .unset] [(.int (2 : Int32)), (.ref b153)])
          refine ows_iloadN X155 hx (hb hby at_110) rfl ?_
          show ows_R p e below s _ _ _ T155 (mkF m 111 #[.val (.int p0), .val (.int p1), .val (.int p2), .val (.int (2 : Int32)), .val (.ref b153), .unset, .unset] [(.int p1), (.int (2 : Int32)), (.ref b153)])
          refine ows_bipush X155 hx (8 : Int32) (hb hby at_111) rfl ?_
          show ows_R p e below s _ _ _ T155 (mkF m 113 #[.val (.int p0), .val (.int p1), .val (.int p2), .val (.int (2 : Int32)), .val (.ref b153), .unset, .unset] [(.int (8 : Int32)), (.int p1), (.int (2 : Int32)), (.ref b153)])
          refine ows_iushr X155 hx (hb hby at_113) ?_
          show ows_R p e below s _ _ _ T155 (mkF m 114 #[.val (.int p0), .val (.int p1), .val (.int p2), .val (.int (2 : Int32)), .val (.ref b153), .unset, .unset] [(.int ((p1.toUInt32 >>> ((8 : Int32) &&& 31).toUInt32).toInt32)), (.int (2 : Int32)), (.ref b153)])
          refine ows_i2b X155 hx (hb hby at_114) ?_
          show ows_R p e below s _ _ _ T155 (mkF m 115 #[.val (.int p0), .val (.int p1), .val (.int p2), .val (.int (2 : Int32)), .val (.ref b153), .unset, .unset] [(.int (((p1.toUInt32 >>> ((8 : Int32) &&& 31).toUInt32).toInt32).toInt8.toInt32)), (.int (2 : Int32)), (.ref b153)])
          refine ows_bastore X155 hx hZ0 e155 V_b153_155 (x' := (((p1.toUInt32 >>> ((8 : Int32) &&& 31).toUInt32).toInt32).toInt8.toInt32)) (pl_nb _) ⟨by decide, by decide⟩ 2 rfl (Nat.le_of_ble_eq_true rfl) (hb hby at_115) ?_
          intro T156 h156 X156 e156 W156 V156
          have hk156 := Nat.le_trans hk155 (Keep.of_wr W156).1
          have K156 := K155.wr W156 (Or.inr sz_b153)
          have N156 := Fr.snoc X156 N155 n0_b153
          have V_b153_156 : Arv Z h156 b153 k153 .byte (5 : Int32) [(.int (((p1.toUInt32 >>> ((24 : Int32) &&& 31).toUInt32).toInt32).toInt8.toInt32)), (.int (((p1.toUInt32 >>> ((16 : Int32) &&& 31).toUInt32).toInt32).toInt8.toInt32)), (.int (((p1.toUInt32 >>> ((8 : Int32) &&& 31).toUInt32).toInt32).toInt8.toInt32)), (.int (0 : Int32)), (.int (0 : Int32))] (.int (0 : Int32)) := V156
          show ows_R p e below s _ _ _ T156 (mkF m 116 #[.val (.int p0), .val (.int p1), .val (.int p2), .val (.int (2 : Int32)), .val (.ref b153), .unset, .unset] [])
          refine ows_aload X156 hx (hb hby at_116) rfl rfl ?_
          show ows_R p e below s _ _ _ T156 (mkF m 118 #[.val (.int p0), .val (.int p1), .val (.int p2), .val (.int (2 : Int32)), .val (.ref b153), .unset, .unset] [(.ref b153)])
          refine ows_iconst X156 hx (3 : Int32) (hb hby at_118) rfl ?_
          show ows_R p e below s _ _ _ T156 (mkF m 119 #[.val (.int p0), .val (.int p1), .val (.int p2), .val (.int (2 : Int32)), .val (.ref b153), .unset, .unset] [(.int (3 : Int32)), (.ref b153)])
          refine ows_iloadN X156 hx (hb hby at_119) rfl ?_
          show ows_R p e below s _ _ _ T156 (mkF m 120 #[.val (.int p0), .val (.int p1), .val (.int p2), .val (.int (2 : Int32)), .val (.ref b153), .unset, .unset] [(.int p1), (.int (3 : Int32)), (.ref b153)])
          refine ows_i2b X156 hx (hb hby at_120) ?_
          show ows_R p e below s _ _ _ T156 (mkF m 121 #[.val (.int p0), .val (.int p1), .val (.int p2), .val (.int (2 : Int32)), .val (.ref b153), .unset, .unset] [(.int (p1.toInt8.toInt32)), (.int (3 : Int32)), (.ref b153)])
          refine ows_bastore X156 hx hZ0 e156 V_b153_156 (x' := (p1.toInt8.toInt32)) (pl_nb _) ⟨by decide, by decide⟩ 3 rfl (Nat.le_of_ble_eq_true rfl) (hb hby at_121) ?_
          intro T157 h157 X157 e157 W157 V157
          have hk157 := Nat.le_trans hk156 (Keep.of_wr W157).1
          have K157 := K156.wr W157 (Or.inr sz_b153)
          have N157 := Fr.snoc X157 N156 n0_b153
          have V_b153_157 : Arv Z h157 b153 k153 .byte (5 : Int32) [(.int (((p1.toUInt32 >>> ((24 : Int32) &&& 31).toUInt32).toInt32).toInt8.toInt32)), (.int (((p1.toUInt32 >>> ((16 : Int32) &&& 31).toUInt32).toInt32).toInt8.toInt32)), (.int (((p1.toUInt32 >>> ((8 : Int32) &&& 31).toUInt32).toInt32).toInt8.toInt32)), (.int (p1.toInt8.toInt32)), (.int (0 : Int32))] (.int (0 : Int32)) := V157
          show ows_R p e below s _ _ _ T157 (mkF m 122 #[.val (.int p0), .val (.int p1), .val (.int p2), .val (.int (2 : Int32)), .val (.ref b153), .unset, .unset] [])
          refine ows_aload X157 hx (hb hby at_122) rfl rfl ?_
          show ows_R p e below s _ _ _ T157 (mkF m 124 #[.val (.int p0), .val (.int p1), .val (.int p2), .val (.int (2 : Int32)), .val (.ref b153), .unset, .unset] [(.ref b153)])
          refine ows_iconst X157 hx (4 : Int32) (hb hby at_124) rfl ?_
          show ows_R p e below s _ _ _ T157 (mkF m 125 #[.val (.int p0), .val (.int p1), .val (.int p2), .val (.int (2 : Int32)), .val (.ref b153), .unset, .unset] [(.int (4 : Int32)), (.ref b153)])
          refine ows_iloadN X157 hx (hb hby at_125) rfl ?_
          show ows_R p e below s _ _ _ T157 (mkF m 126 #[.val (.int p0), .val (.int p1), .val (.int p2), .val (.int (2 : Int32)), .val (.ref b153), .unset, .unset] [(.int p2), (.int (4 : Int32)), (.ref b153)])
          refine ows_i2b X157 hx (hb hby at_126) ?_
          show ows_R p e below s _ _ _ T157 (mkF m 127 #[.val (.int p0), .val (.int p1), .val (.int p2), .val (.int (2 : Int32)), .val (.ref b153), .unset, .unset] [(.int (p2.toInt8.toInt32)), (.int (4 : Int32)), (.ref b153)])
          refine ows_bastore X157 hx hZ0 e157 V_b153_157 (x' := (p2.toInt8.toInt32)) (pl_nb _) ⟨by decide, by decide⟩ 4 rfl (Nat.le_of_ble_eq_true rfl) (hb hby at_127) ?_
          intro T158 h158 X158 e158 W158 V158
          have hk158 := Nat.le_trans hk157 (Keep.of_wr W158).1
          have K158 := K157.wr W158 (Or.inr sz_b153)
          have N158 := Fr.snoc X158 N157 n0_b153
          have V_b153_158 : Arv Z h158 b153 k153 .byte (5 : Int32) [(.int (((p1.toUInt32 >>> ((24 : Int32) &&& 31).toUInt32).toInt32).toInt8.toInt32)), (.int (((p1.toUInt32 >>> ((16 : Int32) &&& 31).toUInt32).toInt32).toInt8.toInt32)), (.int (((p1.toUInt32 >>> ((8 : Int32) &&& 31).toUInt32).toInt32).toInt8.toInt32)), (.int (p1.toInt8.toInt32)), (.int (p2.toInt8.toInt32))] (.int (0 : Int32)) := V158
          show ows_R p e below s _ _ _ T158 (mkF m 128 #[.val (.int p0), .val (.int p1), .val (.int p2), .val (.int (2 : Int32)), .val (.ref b153), .unset, .unset] [])
          refine ows_new X158 hx hZ0 hown0 (hw _ (List.mem_of_getElem? (i := 0) rfl)) (hw _ (List.mem_of_getElem? (i := 1) rfl)) (hw _ (List.mem_of_getElem? (i := 2) rfl)) e158 (hb hby at_128) (by decide) (by decide) ?_
          intro T159 h159 b159 g159 X159 e159 E159 A159 D159
          have ne_b153_b159 : b153 ≠ b159 := Nat.ne_of_lt (Nat.lt_of_lt_of_le V_b153_158.lt (Nat.le_of_eq g159.symm))
          have sz_b159 : h0.size ≤ b159 := Nat.le_trans K158.1 (Nat.le_of_eq g159.symm)
          have n0_b159 : n0 ≤ b159 := Nat.le_trans Z0 sz_b159
          have hk159 := Nat.le_trans hk158 E159.1
          have K159 := K158.ext E159
          have F_message_b159 : Fld Z h159 b159 "com/example/authwright/authwright/engine/MessageReader" "message" "[B" .null := D159 (Or.inr (hw _ (List.mem_of_getElem? (i := 11) rfl))) (ty := (.array .byte)) (by decide)
          have F_position_b159 : Fld Z h159 b159 "com/example/authwright/authwright/engine/MessageReader" "position" "I" (.int (0 : Int32)) := D159 (Or.inl (hw _ (List.mem_of_getElem? (i := 18) rfl))) (ty := .int) (by decide)
          show ows_R p e below s _ _ _ T159 (mkF m 131 #[.val (.int p0), .val (.int p1), .val (.int p2), .val (.int (2 : Int32)), .val (.ref b153), .unset, .unset] [(.ref b159)])
          refine ows_dup X159 hx (hb hby at_131) rfl ?_
          show ows_R p e below s _ _ _ T159 (mkF m 132 #[.val (.int p0), .val (.int p1), .val (.int p2), .val (.int (2 : Int32)), .val (.ref b153), .unset, .unset] [(.ref b159), (.ref b159)])
          refine ows_aload X159 hx (hb hby at_132) rfl rfl ?_
          show ows_R p e below s _ _ _ T159 (mkF m 134 #[.val (.int p0), .val (.int p1), .val (.int p2), .val (.int (2 : Int32)), .val (.ref b153), .unset, .unset] [(.ref b153), (.ref b159), (.ref b159)])
          refine ows_callI X159 hx hZ0 (y := (⟨"com/example/authwright/authwright/engine/MessageReader", "<init>", "([B)V"⟩ : MethodName)) rfl hown0 (hw _ (List.mem_of_getElem? (i := 4) rfl)) (hw _ (List.mem_of_getElem? (i := 5) rfl)) (hw _ (List.mem_of_getElem? (i := 2) rfl)) (hw _ (List.mem_of_getElem? (i := 6) rfl)) (by decide) (rm1 l Z a0 hw [] b159 b153 h159 n0 (Nat.le_trans Z0 K159.1) A159 n0_b159 F_message_b159 F_position_b159) 1 (by decide) (by decide) e159 (by rw [hml]; rfl) b159 [(.ref b153)] [(.ref b159)] rfl (lenOf pd_6 rfl) rfl (Nat.le_of_eq rfl) (hb hby at_134) (by decide) (by decide) ?_
          rintro T160 _ L160 X160 ⟨rfl, N160q, Kc160, Ec160, Fm160, Fp160⟩
          have N160 := Fr.app N158 N160q
          have hk160 := Nat.le_trans hk159 Kc160.1
          have K160 := K159.trans Kc160 (allS (P := fun x => x ∈ ([] : List Addr) ∨ h0.size ≤ x) (Or.inr sz_b159) all0)
          show ows_R p e below s _ _ _ T160 (mkF m 137 #[.val (.int p0), .val (.int p1), .val (.int p2), .val (.int (2 : Int32)), .val (.ref b153), .unset, .unset] [(.ref b159)])
          refine ows_astore X160 hx (hb hby at_137) rfl (l' := #[.val (.int p0), .val (.int p1), .val (.int p2), .val (.int (2 : Int32)), .val (.ref b153), .val (.ref b159), .unset]) rfl ?_
          show ows_R p e below s _ _ _ T160 (mkF m 139 #[.val (.int p0), .val (.int p1), .val (.int p2), .val (.int (2 : Int32)), .val (.ref b153), .val (.ref b159), .unset] [])
          refine ows_aload X160 hx (hb hby at_139) rfl rfl ?_
          show ows_R p e below s _ _ _ T160 (mkF m 141 #[.val (.int p0), .val (.int p1), .val (.int p2), .val (.int (2 : Int32)), .val (.ref b153), .val (.ref b159), .unset] [(.ref b159)])
          have f161 := ((V_b153_158.ext E159).keep Kc160 (ninS ne_b153_b159 nin0))
          refine ows_callVS X160 hx hZ0 (y := (⟨"com/example/authwright/authwright/engine/MessageReader", "readUint32", "()J"⟩ : MethodName)) (z := (⟨"com/example/authwright/authwright/engine/MessageReader", "readUint32", "()J"⟩ : MethodName)) hown0 hS0 hk160 (hw _ (List.mem_of_getElem? (i := 50) rfl)) (hw _ (List.mem_of_getElem? (i := 45) rfl)) (notFace_of_selects (args := #[]) (mvT hZ0 (hw _ (List.mem_of_getElem? (i := 47) rfl)))) (hw _ (List.mem_of_getElem? (i := 47) rfl)) (hw _ (List.mem_of_getElem? (i := 46) rfl)) (hw _ (List.mem_of_getElem? (i := 2) rfl)) (hw _ (List.mem_of_getElem? (i := 48) rfl)) (by decide) (rm8 l Z a0 hw [] b159 b153 k153 (5 : Int32) [(.int (((p1.toUInt32 >>> ((24 : Int32) &&& 31).toUInt32).toInt32).toInt8.toInt32)), (.int (((p1.toUInt32 >>> ((16 : Int32) &&& 31).toUInt32).toInt32).toInt8.toInt32)), (.int (((p1.toUInt32 >>> ((8 : Int32) &&& 31).toUInt32).toInt32).toInt8.toInt32)), (.int (p1.toInt8.toInt32)), (.int (p2.toInt8.toInt32))] (.int (0 : Int32)) (((p1.toUInt32 >>> ((24 : Int32) &&& 31).toUInt32).toInt32).toInt8.toInt32) (((p1.toUInt32 >>> ((16 : Int32) &&& 31).toUInt32).toInt32).toInt8.toInt32) (((p1.toUInt32 >>> ((8 : Int32) &&& 31).toUInt32).toInt32).toInt8.toInt32) (p1.toInt8.toInt32) T160.heap n0 (Nat.le_trans Z0 K160.1) Fm160 Fp160 f161 Ec160 n0_b159 (Ne.symm ne_b153_b159) (by decide) rfl (by decide) rfl (by decide) rfl (by decide) rfl (by decide)) 0 (by decide) (by decide) rfl (by rw [hml]; rfl) b159 Ec160 [] [] rfl (lenOf pd_1 rfl) rfl (Nat.le_of_eq rfl) (hb hby at_141) (by decide) (by decide) ?_
          rintro T162 _ L162 X162 hS162 hZ162 hown162 ⟨rfl, N162q, Kc162, Ec162, Fm162, Fp162⟩
          have N162 := Fr.app N160 N162q
          have hk162 := Nat.le_refl T162.heap.size
          have K162 := K160.trans Kc162 (allS (P := fun x => x ∈ ([] : List Addr) ∨ h0.size ≤ x) (Or.inr sz_b159) all0)
          show ows_R p e below s _ _ _ T162 (mkF m 144 #[.val (.int p0), .val (.int p1), .val (.int p2), .val (.int (2 : Int32)), .val (.ref b153), .val (.ref b159), .unset] [(.long (pl_u (((p1.toUInt32 >>> ((24 : Int32) &&& 31).toUInt32).toInt32).toInt8.toInt32) (((p1.toUInt32 >>> ((16 : Int32) &&& 31).toUInt32).toInt32).toInt8.toInt32) (((p1.toUInt32 >>> ((8 : Int32) &&& 31).toUInt32).toInt32).toInt8.toInt32) (p1.toInt8.toInt32)))])
          have Fq162 : Fld Z T162.heap b159 "com/example/authwright/authwright/engine/MessageReader" "position" "I" (.int (4 : Int32)) := Fp162
          refine ows_pop2 X162 hx (hb hby at_144) ?_
          show ows_R p e below s _ _ _ T162 (mkF m 145 #[.val (.int p0), .val (.int p1), .val (.int p2), .val (.int (2 : Int32)), .val (.ref b153), .val (.ref b159), .unset] [])
          refine ows_aload X162 hx (hb hby at_145) rfl rfl ?_
          show ows_R p e below s _ _ _ T162 (mkF m 147 #[.val (.int p0), .val (.int p1), .val (.int p2), .val (.int (2 : Int32)), .val (.ref b153), .val (.ref b159), .unset] [(.ref b159)])
          have f163 := (f161.keep Kc162 (ninS ne_b153_b159 nin0))
          refine ows_callVS X162 hx hZ162 (y := (⟨"com/example/authwright/authwright/engine/MessageReader", "readBoolean", "()Z"⟩ : MethodName)) (z := (⟨"com/example/authwright/authwright/engine/MessageReader", "readBoolean", "()Z"⟩ : MethodName)) hown162 hS162 hk162 (hw _ (List.mem_of_getElem? (i := 19) rfl)) (hw _ (List.mem_of_getElem? (i := 20) rfl)) (notFace_of_selects (args := #[]) (mvT hZ162 (hw _ (List.mem_of_getElem? (i := 22) rfl)))) (hw _ (List.mem_of_getElem? (i := 22) rfl)) (hw _ (List.mem_of_getElem? (i := 21) rfl)) (hw _ (List.mem_of_getElem? (i := 2) rfl)) (hw _ (List.mem_of_getElem? (i := 23) rfl)) (by decide) (rm4 l Z a0 hw [] b159 b153 k153 (5 : Int32) [(.int (((p1.toUInt32 >>> ((24 : Int32) &&& 31).toUInt32).toInt32).toInt8.toInt32)), (.int (((p1.toUInt32 >>> ((16 : Int32) &&& 31).toUInt32).toInt32).toInt8.toInt32)), (.int (((p1.toUInt32 >>> ((8 : Int32) &&& 31).toUInt32).toInt32).toInt8.toInt32)), (.int (p1.toInt8.toInt32)), (.int (p2.toInt8.toInt32))] (.int (0 : Int32)) (4 : Int32) (p2.toInt8.toInt32) T162.heap n0 (Nat.le_trans Z0 K162.1) Fm162 Fq162 f163 Ec162 n0_b159 (Ne.symm ne_b153_b159) (by decide) (by decide) rfl) 0 (by decide) (by decide) rfl (by rw [hml]; rfl) b159 Ec162 [] [] rfl (lenOf pd_8 rfl) rfl (Nat.le_of_eq rfl) (hb hby at_147) (by decide) (by decide) ?_
          rintro T164 _ L164 X164 hS164 hZ164 hown164 ⟨bo164, rfl, N164q, Kc164, Ec164, Fm164, Fp164⟩
          have N164 := Fr.app N162 N164q
          have hk164 := Nat.le_refl T164.heap.size
          have K164 := K162.trans Kc164 (allS (P := fun x => x ∈ ([] : List Addr) ∨ h0.size ≤ x) (Or.inr sz_b159) all0)
          show ows_R p e below s _ _ _ T164 (mkF m 150 #[.val (.int p0), .val (.int p1), .val (.int p2), .val (.int (2 : Int32)), .val (.ref b153), .val (.ref b159), .unset] [(.int bo164)])
          have Fq164 : Fld Z T164.heap b159 "com/example/authwright/authwright/engine/MessageReader" "position" "I" (.int (5 : Int32)) := Fp164
          refine ows_pop X164 hx (hb hby at_150) rfl ?_
          show ows_R p e below s _ _ _ T164 (mkF m 151 #[.val (.int p0), .val (.int p1), .val (.int p2), .val (.int (2 : Int32)), .val (.ref b153), .val (.ref b159), .unset] [])
          refine ows_aload X164 hx (hb hby at_151) rfl rfl ?_
          show ows_R p e below s _ _ _ T164 (mkF m 153 #[.val (.int p0), .val (.int p1), .val (.int p2), .val (.int (2 : Int32)), .val (.ref b153), .val (.ref b159), .unset] [(.ref b159)])
          have f165 := (f163.keep Kc164 (ninS ne_b153_b159 nin0))
          refine ows_callV X164 hx hZ164 (y := (⟨"com/example/authwright/authwright/engine/MessageReader", "expectEnd", "()V"⟩ : MethodName)) (z := (⟨"com/example/authwright/authwright/engine/MessageReader", "expectEnd", "()V"⟩ : MethodName)) hown164 (hw _ (List.mem_of_getElem? (i := 12) rfl)) (hw _ (List.mem_of_getElem? (i := 13) rfl)) (notFace_of_selects (args := #[]) (mvT hZ164 (hw _ (List.mem_of_getElem? (i := 15) rfl)))) (hw _ (List.mem_of_getElem? (i := 15) rfl)) (hw _ (List.mem_of_getElem? (i := 14) rfl)) (hw _ (List.mem_of_getElem? (i := 2) rfl)) (hw _ (List.mem_of_getElem? (i := 16) rfl)) (by decide) (rm3 l Z a0 hw [] b159 b153 k153 (5 : Int32) [(.int (((p1.toUInt32 >>> ((24 : Int32) &&& 31).toUInt32).toInt32).toInt8.toInt32)), (.int (((p1.toUInt32 >>> ((16 : Int32) &&& 31).toUInt32).toInt32).toInt8.toInt32)), (.int (((p1.toUInt32 >>> ((8 : Int32) &&& 31).toUInt32).toInt32).toInt8.toInt32)), (.int (p1.toInt8.toInt32)), (.int (p2.toInt8.toInt32))] (.int (0 : Int32)) T164.heap n0 (Nat.le_trans Z0 K164.1) Fm164 Fq164 f165) 0 (by decide) (by decide) rfl (by rw [hml]; rfl) b159 Ec164 [] [] rfl (lenOf pd_7 rfl) rfl (Nat.le_of_eq rfl) (hb hby at_153) (by decide) (by decide) ?_
          rintro T166 _ L166 X166 ⟨rfl, N166q, e166⟩
          have N166 := Fr.app N164 N166q
          show ows_R p e below s _ _ _ T166 (mkF m 156 #[.val (.int p0), .val (.int p1), .val (.int p2), .val (.int (2 : Int32)), .val (.ref b153), .val (.ref b159), .unset] [])
          refine ows_iconst X166 hx (1 : Int32) (hb hby at_156) rfl ?_
          show ows_R p e below s _ _ _ T166 (mkF m 157 #[.val (.int p0), .val (.int p1), .val (.int p2), .val (.int (2 : Int32)), .val (.ref b153), .val (.ref b159), .unset] [(.int (1 : Int32))])
          refine ows_retN X166 hS164 (by rw [e166]; exact hk164) hx (t := .boolean) Bd.returns (by simp) hlk (hb hby at_157) ?_ (by decide) (by decide)
          exact ⟨rfl, N166⟩
      · have hc29 : (2 : Int32) = (1 : Int32) := own_ne0 hc
        exact absurd hc29 (by decide)
    · have hc5 : (2 : Int32) = (0 : Int32) := own_ne0 hc
      exact absurd hc5 (by decide)
  ·
    show ows_R p e below s _ _ _ s₁ (mkF m 4 #[.val (.int p0), .val (.int p1), .val (.int p2), .val (.int (3 : Int32)), .unset, .unset, .unset] [])
    refine ows_iloadN X0 hx (hb hby at_4) rfl ?_
    show ows_R p e below s _ _ _ s₁ (mkF m 5 #[.val (.int p0), .val (.int p1), .val (.int p2), .val (.int (3 : Int32)), .unset, .unset, .unset] [(.int (3 : Int32))])
    refine ows_if X0 hx (hb hby at_5) (pc' := 27) (by decide) (by decide) (fun hc => ?_) (fun hc => ?_)
    · have hc5 : ¬ (3 : Int32) = (0 : Int32) := own_ne1 hc
      clear hc
      show ows_R p e below s _ _ _ s₁ (mkF m 27 #[.val (.int p0), .val (.int p1), .val (.int p2), .val (.int (3 : Int32)), .unset, .unset, .unset] [])
      refine ows_iloadN X0 hx (hb hby at_27) rfl ?_
      show ows_R p e below s _ _ _ s₁ (mkF m 28 #[.val (.int p0), .val (.int p1), .val (.int p2), .val (.int (3 : Int32)), .unset, .unset, .unset] [(.int (3 : Int32))])
      refine ows_iconst X0 hx (1 : Int32) (hb hby at_28) rfl ?_
      show ows_R p e below s _ _ _ s₁ (mkF m 29 #[.val (.int p0), .val (.int p1), .val (.int p2), .val (.int (3 : Int32)), .unset, .unset, .unset] [(.int (1 : Int32)), (.int (3 : Int32))])
      refine ows_icmp X0 hx (hb hby at_29) (pc' := 79) (by decide) (by decide) (fun hc => ?_) (fun hc => ?_)
      · have hc29 : ¬ (3 : Int32) = (1 : Int32) := own_ne1 hc
        clear hc
        show ows_R p e below s _ _ _ s₁ (mkF m 79 #[.val (.int p0), .val (.int p1), .val (.int p2), .val (.int (3 : Int32)), .unset, .unset, .unset] [])
        refine ows_iloadN X0 hx (hb hby at_79) rfl ?_
        show ows_R p e below s _ _ _ s₁ (mkF m 80 #[.val (.int p0), .val (.int p1), .val (.int p2), .val (.int (3 : Int32)), .unset, .unset, .unset] [(.int (3 : Int32))])
        refine ows_iconst X0 hx (2 : Int32) (hb hby at_80) rfl ?_
        show ows_R p e below s _ _ _ s₁ (mkF m 81 #[.val (.int p0), .val (.int p1), .val (.int p2), .val (.int (3 : Int32)), .unset, .unset, .unset] [(.int (2 : Int32)), (.int (3 : Int32))])
        refine ows_icmp X0 hx (hb hby at_81) (pc' := 158) (by decide) (by decide) (fun hc => ?_) (fun hc => ?_)
        · have hc81 : ¬ (3 : Int32) = (2 : Int32) := own_ne1 hc
          clear hc
          show ows_R p e below s _ _ _ s₁ (mkF m 158 #[.val (.int p0), .val (.int p1), .val (.int p2), .val (.int (3 : Int32)), .unset, .unset, .unset] [])
          refine ows_iloadN X0 hx (hb hby at_158) rfl ?_
          show ows_R p e below s _ _ _ s₁ (mkF m 159 #[.val (.int p0), .val (.int p1), .val (.int p2), .val (.int (3 : Int32)), .unset, .unset, .unset] [(.int p2)])
          refine ows_iconst X0 hx (3 : Int32) (hb hby at_159) rfl ?_
          show ows_R p e below s _ _ _ s₁ (mkF m 160 #[.val (.int p0), .val (.int p1), .val (.int p2), .val (.int (3 : Int32)), .unset, .unset, .unset] [(.int (3 : Int32)), (.int p2)])
          refine ows_iand X0 hx (hb hby at_160) ?_
          show ows_R p e below s _ _ _ s₁ (mkF m 161 #[.val (.int p0), .val (.int p1), .val (.int p2), .val (.int (3 : Int32)), .unset, .unset, .unset] [(.int (p2 &&& (3 : Int32)))])
          refine ows_istore X0 hx (hb hby at_161) (l' := #[.val (.int p0), .val (.int p1), .val (.int p2), .val (.int (3 : Int32)), .val (.int (p2 &&& (3 : Int32))), .unset, .unset]) rfl ?_
          show ows_R p e below s _ _ _ s₁ (mkF m 163 #[.val (.int p0), .val (.int p1), .val (.int p2), .val (.int (3 : Int32)), .val (.int (p2 &&& (3 : Int32))), .unset, .unset] [])
          obtain ⟨ln, hln, hl4⟩ : ∃ z : Int32, z = (p2 &&& (3 : Int32)) ∧ (z = 0 ∨ z = 1 ∨ z = 2 ∨ z = 3) := ⟨_, rfl, pl_4 _⟩
          rw [← hln]
          show ows_R p e below s _ _ _ s₁ (mkF m 163 #[.val (.int p0), .val (.int p1), .val (.int p2), .val (.int (3 : Int32)), .val (.int ln), .unset, .unset] [])
          rcases hl4 with rfl | rfl | rfl | rfl
          ·
            show ows_R p e below s _ _ _ s₁ (mkF m 163 #[.val (.int p0), .val (.int p1), .val (.int p2), .val (.int (3 : Int32)), .val (.int (0 : Int32)), .unset, .unset] [])
            refine ows_iconst X0 hx (4 : Int32) (hb hby at_163) rfl ?_
            show ows_R p e below s _ _ _ s₁ (mkF m 164 #[.val (.int p0), .val (.int p1), .val (.int p2), .val (.int (3 : Int32)), .val (.int (0 : Int32)), .unset, .unset] [(.int (4 : Int32))])
            refine ows_iload X0 hx (hb hby at_164) rfl ?_
            show ows_R p e below s _ _ _ s₁ (mkF m 166 #[.val (.int p0), .val (.int p1), .val (.int p2), .val (.int (3 : Int32)), .val (.int (0 : Int32)), .unset, .unset] [(.int (0 : Int32)), (.int (4 : Int32))])
            refine ows_iadd X0 hx (hb hby at_166) ?_
            show ows_R p e below s _ _ _ s₁ (mkF m 167 #[.val (.int p0), .val (.int p1), .val (.int p2), .val (.int (3 : Int32)), .val (.int (0 : Int32)), .unset, .unset] [(.int (4 : Int32))])
            refine ows_newA X0 hx hZ0 (hw _ (List.mem_of_getElem? (i := 3) rfl)) e0 (hb hby at_167) (by decide) 4 (by decide) (by decide) (by decide) (by decide) (ad := "[B") (by decide) 4 ?_
            intro T167 h167 b167 k167 g167 X167 e167 E167 V167 A167
            have sz_b167 : h0.size ≤ b167 := Nat.le_trans K0.1 (Nat.le_of_eq g167.symm)
            have n0_b167 : n0 ≤ b167 := Nat.le_trans Z0 sz_b167
            have hk167 := Nat.le_trans hk0 E167.1
            have K167 := K0.ext E167
            have V_b167 : Arv Z h167 b167 k167 .byte (4 : Int32) [(.int (0 : Int32)), (.int (0 : Int32)), (.int (0 : Int32)), (.int (0 : Int32))] (.int (0 : Int32)) := V167
            show ows_R p e below s _ _ _ T167 (mkF m 169 #[.val (.int p0), .val (.int p1), .val (.int p2), .val (.int (3 : Int32)), .val (.int (0 : Int32)), .unset, .unset] [(.ref b167)])
            refine ows_astore X167 hx (hb hby at_169) rfl (l' := #[.val (.int p0), .val (.int p1), .val (.int p2), .val (.int (3 : Int32)), .val (.int (0 : Int32)), .val (.ref b167), .unset]) rfl ?_
            show ows_R p e below s _ _ _ T167 (mkF m 171 #[.val (.int p0), .val (.int p1), .val (.int p2), .val (.int (3 : Int32)), .val (.int (0 : Int32)), .val (.ref b167), .unset] [])
            refine ows_aload X167 hx (hb hby at_171) rfl rfl ?_
            show ows_R p e below s _ _ _ T167 (mkF m 173 #[.val (.int p0), .val (.int p1), .val (.int p2), .val (.int (3 : Int32)), .val (.int (0 : Int32)), .val (.ref b167), .unset] [(.ref b167)])
            refine ows_iconst X167 hx (3 : Int32) (hb hby at_173) rfl ?_
            show ows_R p e below s _ _ _ T167 (mkF m 174 #[.val (.int p0), .val (.int p1), .val (.int p2), .val (.int (3 : Int32)), .val (.int (0 : Int32)), .val (.ref b167), .unset] [(.int (3 : Int32)), (.ref b167)])
            refine ows_iload X167 hx (hb hby at_174) rfl ?_
            show ows_R p e below s _ _ _ T167 (mkF m 176 #[.val (.int p0), .val (.int p1), .val (.int p2), .val (.int (3 : Int32)), .val (.int (0 : Int32)), .val (.ref b167), .unset] [(.int (0 : Int32)), (.int (3 : Int32)), (.ref b167)])
            refine ows_i2b X167 hx (hb hby at_176) ?_
            show ows_R p e below s _ _ _ T167 (mkF m 177 #[.val (.int p0), .val (.int p1), .val (.int p2), .val (.int (3 : Int32)), .val (.int (0 : Int32)), .val (.ref b167), .unset] [(.int ((0 : Int32).toInt8.toInt32)), (.int (3 : Int32)), (.ref b167)])
            refine ows_bastore X167 hx hZ0 e167 V_b167 (x' := (0 : Int32)) (by decide) ⟨by decide, by decide⟩ 3 rfl (Nat.le_of_ble_eq_true rfl) (hb hby at_177) ?_
            intro T168 h168 X168 e168 W168 V168
            have hk168 := Nat.le_trans hk167 (Keep.of_wr W168).1
            have K168 := K167.wr W168 (Or.inr sz_b167)
            have N168 := Fr.snoc X168 N0 n0_b167
            have V_b167_168 : Arv Z h168 b167 k167 .byte (4 : Int32) [(.int (0 : Int32)), (.int (0 : Int32)), (.int (0 : Int32)), (.int (0 : Int32))] (.int (0 : Int32)) := V168
            show ows_R p e below s _ _ _ T168 (mkF m 178 #[.val (.int p0), .val (.int p1), .val (.int p2), .val (.int (3 : Int32)), .val (.int (0 : Int32)), .val (.ref b167), .unset] [])
            refine ows_iload X168 hx (hb hby at_178) rfl ?_
            show ows_R p e below s _ _ _ T168 (mkF m 180 #[.val (.int p0), .val (.int p1), .val (.int p2), .val (.int (3 : Int32)), .val (.int (0 : Int32)), .val (.ref b167), .unset] [(.int (0 : Int32))])
            refine ows_if X168 hx (hb hby at_180) (pc' := 189) (by decide) (by decide) (fun hc => ?_) (fun hc => ?_)
            · have hc180 : ¬ (0 : Int32) < (0 : Int32) := own_le1 hc
              clear hc
              show ows_R p e below s _ _ _ T168 (mkF m 189 #[.val (.int p0), .val (.int p1), .val (.int p2), .val (.int (3 : Int32)), .val (.int (0 : Int32)), .val (.ref b167), .unset] [])
              refine ows_iload X168 hx (hb hby at_189) rfl ?_
              show ows_R p e below s _ _ _ T168 (mkF m 191 #[.val (.int p0), .val (.int p1), .val (.int p2), .val (.int (3 : Int32)), .val (.int (0 : Int32)), .val (.ref b167), .unset] [(.int (0 : Int32))])
              refine ows_iconst X168 hx (1 : Int32) (hb hby at_191) rfl ?_
              show ows_R p e below s _ _ _ T168 (mkF m 192 #[.val (.int p0), .val (.int p1), .val (.int p2), .val (.int (3 : Int32)), .val (.int (0 : Int32)), .val (.ref b167), .unset] [(.int (1 : Int32)), (.int (0 : Int32))])
              refine ows_icmp X168 hx (hb hby at_192) (pc' := 204) (by decide) (by decide) (fun hc => ?_) (fun hc => ?_)
              · have hc192 : ¬ (1 : Int32) < (0 : Int32) := own_le1 hc
                clear hc
                show ows_R p e below s _ _ _ T168 (mkF m 204 #[.val (.int p0), .val (.int p1), .val (.int p2), .val (.int (3 : Int32)), .val (.int (0 : Int32)), .val (.ref b167), .unset] [])
                refine ows_iload X168 hx (hb hby at_204) rfl ?_
                show ows_R p e below s _ _ _ T168 (mkF m 206 #[.val (.int p0), .val (.int p1), .val (.int p2), .val (.int (3 : Int32)), .val (.int (0 : Int32)), .val (.ref b167), .unset] [(.int (0 : Int32))])
                refine ows_iconst X168 hx (2 : Int32) (hb hby at_206) rfl ?_
                show ows_R p e below s _ _ _ T168 (mkF m 207 #[.val (.int p0), .val (.int p1), .val (.int p2), .val (.int (3 : Int32)), .val (.int (0 : Int32)), .val (.ref b167), .unset] [(.int (2 : Int32)), (.int (0 : Int32))])
                refine ows_icmp X168 hx (hb hby at_207) (pc' := 220) (by decide) (by decide) (fun hc => ?_) (fun hc => ?_)
                · have hc207 : ¬ (2 : Int32) < (0 : Int32) := own_le1 hc
                  clear hc
                  show ows_R p e below s _ _ _ T168 (mkF m 220 #[.val (.int p0), .val (.int p1), .val (.int p2), .val (.int (3 : Int32)), .val (.int (0 : Int32)), .val (.ref b167), .unset] [])
                  refine ows_new X168 hx hZ0 hown0 (hw _ (List.mem_of_getElem? (i := 0) rfl)) (hw _ (List.mem_of_getElem? (i := 1) rfl)) (hw _ (List.mem_of_getElem? (i := 2) rfl)) e168 (hb hby at_220) (by decide) (by decide) ?_
                  intro T169 h169 b169 g169 X169 e169 E169 A169 D169
                  have ne_b167_b169 : b167 ≠ b169 := Nat.ne_of_lt (Nat.lt_of_lt_of_le V_b167_168.lt (Nat.le_of_eq g169.symm))
                  have sz_b169 : h0.size ≤ b169 := Nat.le_trans K168.1 (Nat.le_of_eq g169.symm)
                  have n0_b169 : n0 ≤ b169 := Nat.le_trans Z0 sz_b169
                  have hk169 := Nat.le_trans hk168 E169.1
                  have K169 := K168.ext E169
                  have F_message_b169 : Fld Z h169 b169 "com/example/authwright/authwright/engine/MessageReader" "message" "[B" .null := D169 (Or.inr (hw _ (List.mem_of_getElem? (i := 11) rfl))) (ty := (.array .byte)) (by decide)
                  have F_position_b169 : Fld Z h169 b169 "com/example/authwright/authwright/engine/MessageReader" "position" "I" (.int (0 : Int32)) := D169 (Or.inl (hw _ (List.mem_of_getElem? (i := 18) rfl))) (ty := .int) (by decide)
                  show ows_R p e below s _ _ _ T169 (mkF m 223 #[.val (.int p0), .val (.int p1), .val (.int p2), .val (.int (3 : Int32)), .val (.int (0 : Int32)), .val (.ref b167), .unset] [(.ref b169)])
                  refine ows_dup X169 hx (hb hby at_223) rfl ?_
                  show ows_R p e below s _ _ _ T169 (mkF m 224 #[.val (.int p0), .val (.int p1), .val (.int p2), .val (.int (3 : Int32)), .val (.int (0 : Int32)), .val (.ref b167), .unset] [(.ref b169), (.ref b169)])
                  refine ows_aload X169 hx (hb hby at_224) rfl rfl ?_
                  show ows_R p e below s _ _ _ T169 (mkF m 226 #[.val (.int p0), .val (.int p1), .val (.int p2), .val (.int (3 : Int32)), .val (.int (0 : Int32)), .val (.ref b167), .unset] [(.ref b167), (.ref b169), (.ref b169)])
                  refine ows_callI X169 hx hZ0 (y := (⟨"com/example/authwright/authwright/engine/MessageReader", "<init>", "([B)V"⟩ : MethodName)) rfl hown0 (hw _ (List.mem_of_getElem? (i := 4) rfl)) (hw _ (List.mem_of_getElem? (i := 5) rfl)) (hw _ (List.mem_of_getElem? (i := 2) rfl)) (hw _ (List.mem_of_getElem? (i := 6) rfl)) (by decide) (rm1 l Z a0 hw [] b169 b167 h169 n0 (Nat.le_trans Z0 K169.1) A169 n0_b169 F_message_b169 F_position_b169) 1 (by decide) (by decide) e169 (by rw [hml]; rfl) b169 [(.ref b167)] [(.ref b169)] rfl (lenOf pd_6 rfl) rfl (Nat.le_of_eq rfl) (hb hby at_226) (by decide) (by decide) ?_
                  rintro T170 _ L170 X170 ⟨rfl, N170q, Kc170, Ec170, Fm170, Fp170⟩
                  have N170 := Fr.app N168 N170q
                  have hk170 := Nat.le_trans hk169 Kc170.1
                  have K170 := K169.trans Kc170 (allS (P := fun x => x ∈ ([] : List Addr) ∨ h0.size ≤ x) (Or.inr sz_b169) all0)
                  show ows_R p e below s _ _ _ T170 (mkF m 229 #[.val (.int p0), .val (.int p1), .val (.int p2), .val (.int (3 : Int32)), .val (.int (0 : Int32)), .val (.ref b167), .unset] [(.ref b169)])
                  refine ows_astore X170 hx (hb hby at_229) rfl (l' := #[.val (.int p0), .val (.int p1), .val (.int p2), .val (.int (3 : Int32)), .val (.int (0 : Int32)), .val (.ref b167), .val (.ref b169)]) rfl ?_
                  show ows_R p e below s _ _ _ T170 (mkF m 231 #[.val (.int p0), .val (.int p1), .val (.int p2), .val (.int (3 : Int32)), .val (.int (0 : Int32)), .val (.ref b167), .val (.ref b169)] [])
                  refine ows_iloadN X170 hx (hb hby at_231) rfl ?_
                  show ows_R p e below s _ _ _ T170 (mkF m 232 #[.val (.int p0), .val (.int p1), .val (.int p2), .val (.int (3 : Int32)), .val (.int (0 : Int32)), .val (.ref b167), .val (.ref b169)] [(.int p0)])
                  refine ows_iconst X170 hx (2 : Int32) (hb hby at_232) rfl ?_
                  show ows_R p e below s _ _ _ T170 (mkF m 233 #[.val (.int p0), .val (.int p1), .val (.int p2), .val (.int (3 : Int32)), .val (.int (0 : Int32)), .val (.ref b167), .val (.ref b169)] [(.int (2 : Int32)), (.int p0)])
                  refine ows_iushr X170 hx (hb hby at_233) ?_
                  show ows_R p e below s _ _ _ T170 (mkF m 234 #[.val (.int p0), .val (.int p1), .val (.int p2), .val (.int (3 : Int32)), .val (.int (0 : Int32)), .val (.ref b167), .val (.ref b169)] [(.int ((p0.toUInt32 >>> ((2 : Int32) &&& 31).toUInt32).toInt32))])
                  refine ows_iconst X170 hx (1 : Int32) (hb hby at_234) rfl ?_
                  show ows_R p e below s _ _ _ T170 (mkF m 235 #[.val (.int p0), .val (.int p1), .val (.int p2), .val (.int (3 : Int32)), .val (.int (0 : Int32)), .val (.ref b167), .val (.ref b169)] [(.int (1 : Int32)), (.int ((p0.toUInt32 >>> ((2 : Int32) &&& 31).toUInt32).toInt32))])
                  refine ows_iand X170 hx (hb hby at_235) ?_
                  show ows_R p e below s _ _ _ T170 (mkF m 236 #[.val (.int p0), .val (.int p1), .val (.int p2), .val (.int (3 : Int32)), .val (.int (0 : Int32)), .val (.ref b167), .val (.ref b169)] [(.int (((p0.toUInt32 >>> ((2 : Int32) &&& 31).toUInt32).toInt32) &&& (1 : Int32)))])
                  refine ows_if X170 hx (hb hby at_236) (pc' := 247) (by decide) (by decide) (fun hc => ?_) (fun hc => ?_)
                  · have hc236 : (((p0.toUInt32 >>> ((2 : Int32) &&& 31).toUInt32).toInt32) &&& (1 : Int32)) = (0 : Int32) := own_eq1 hc
                    clear hc
                    show ows_R p e below s _ _ _ T170 (mkF m 247 #[.val (.int p0), .val (.int p1), .val (.int p2), .val (.int (3 : Int32)), .val (.int (0 : Int32)), .val (.ref b167), .val (.ref b169)] [])
                    refine ows_aload X170 hx (hb hby at_247) rfl rfl ?_
                    show ows_R p e below s _ _ _ T170 (mkF m 249 #[.val (.int p0), .val (.int p1), .val (.int p2), .val (.int (3 : Int32)), .val (.int (0 : Int32)), .val (.ref b167), .val (.ref b169)] [(.ref b169)])
                    have f171 := ((V_b167_168.ext E169).keep Kc170 (ninS ne_b167_b169 nin0))
                    refine ows_callVS X170 hx hZ0 (y := (⟨"com/example/authwright/authwright/engine/MessageReader", "readString", "()[B"⟩ : MethodName)) (z := (⟨"com/example/authwright/authwright/engine/MessageReader", "readString", "()[B"⟩ : MethodName)) hown0 hS0 hk170 (hw _ (List.mem_of_getElem? (i := 51) rfl)) (hw _ (List.mem_of_getElem? (i := 52) rfl)) (notFace_of_selects (args := #[]) (mvT hZ0 (hw _ (List.mem_of_getElem? (i := 54) rfl)))) (hw _ (List.mem_of_getElem? (i := 54) rfl)) (hw _ (List.mem_of_getElem? (i := 53) rfl)) (hw _ (List.mem_of_getElem? (i := 2) rfl)) (hw _ (List.mem_of_getElem? (i := 55) rfl)) (by decide) (rm9_0 l Z a0 hw [] b169 b167 k167 [(.int (0 : Int32)), (.int (0 : Int32)), (.int (0 : Int32)), (.int (0 : Int32))] (.int (0 : Int32)) (0 : Int32) (0 : Int32) (0 : Int32) (0 : Int32) T170.heap n0 (Nat.le_trans Z0 K170.1) Fm170 Fp170 f171 Ec170 n0_b169 (Ne.symm ne_b167_b169) (by decide) rfl (by decide) rfl (by decide) rfl (by decide) rfl (by decide) (by decide) (by decide)) 0 (by decide) (by decide) rfl (by rw [hml]; rfl) b169 Ec170 [] [] rfl (lenOf pd_9 rfl) rfl (Nat.le_of_eq rfl) (hb hby at_249) (by decide) (by decide) ?_
                    rintro T172 _ L172 X172 hS172 hZ172 hown172 ⟨rs172, rfl, N172q, Kc172, Ec172, Fm172, Fp172⟩
                    have N172 := Fr.app N170 N172q
                    have hk172 := Nat.le_refl T172.heap.size
                    have K172 := K170.trans Kc172 (allS (P := fun x => x ∈ ([] : List Addr) ∨ h0.size ≤ x) (Or.inr sz_b169) all0)
                    show ows_R p e below s _ _ _ T172 (mkF m 252 #[.val (.int p0), .val (.int p1), .val (.int p2), .val (.int (3 : Int32)), .val (.int (0 : Int32)), .val (.ref b167), .val (.ref b169)] [(.ref rs172)])
                    have Fq172 : Fld Z T172.heap b169 "com/example/authwright/authwright/engine/MessageReader" "position" "I" (.int (4 : Int32)) := Fp172
                    refine ows_pop X172 hx (hb hby at_252) rfl ?_
                    show ows_R p e below s _ _ _ T172 (mkF m 253 #[.val (.int p0), .val (.int p1), .val (.int p2), .val (.int (3 : Int32)), .val (.int (0 : Int32)), .val (.ref b167), .val (.ref b169)] [])
                    refine ows_aload X172 hx (hb hby at_253) rfl rfl ?_
                    show ows_R p e below s _ _ _ T172 (mkF m 255 #[.val (.int p0), .val (.int p1), .val (.int p2), .val (.int (3 : Int32)), .val (.int (0 : Int32)), .val (.ref b167), .val (.ref b169)] [(.ref b169)])
                    have f173 := (f171.keep Kc172 (ninS ne_b167_b169 nin0))
                    refine ows_callV X172 hx hZ172 (y := (⟨"com/example/authwright/authwright/engine/MessageReader", "expectEnd", "()V"⟩ : MethodName)) (z := (⟨"com/example/authwright/authwright/engine/MessageReader", "expectEnd", "()V"⟩ : MethodName)) hown172 (hw _ (List.mem_of_getElem? (i := 12) rfl)) (hw _ (List.mem_of_getElem? (i := 13) rfl)) (notFace_of_selects (args := #[]) (mvT hZ172 (hw _ (List.mem_of_getElem? (i := 15) rfl)))) (hw _ (List.mem_of_getElem? (i := 15) rfl)) (hw _ (List.mem_of_getElem? (i := 14) rfl)) (hw _ (List.mem_of_getElem? (i := 2) rfl)) (hw _ (List.mem_of_getElem? (i := 16) rfl)) (by decide) (rm3 l Z a0 hw [] b169 b167 k167 (4 : Int32) [(.int (0 : Int32)), (.int (0 : Int32)), (.int (0 : Int32)), (.int (0 : Int32))] (.int (0 : Int32)) T172.heap n0 (Nat.le_trans Z0 K172.1) Fm172 Fq172 f173) 0 (by decide) (by decide) rfl (by rw [hml]; rfl) b169 Ec172 [] [] rfl (lenOf pd_7 rfl) rfl (Nat.le_of_eq rfl) (hb hby at_255) (by decide) (by decide) ?_
                    rintro T174 _ L174 X174 ⟨rfl, N174q, e174⟩
                    have N174 := Fr.app N172 N174q
                    show ows_R p e below s _ _ _ T174 (mkF m 258 #[.val (.int p0), .val (.int p1), .val (.int p2), .val (.int (3 : Int32)), .val (.int (0 : Int32)), .val (.ref b167), .val (.ref b169)] [])
                    refine ows_iconst X174 hx (1 : Int32) (hb hby at_258) rfl ?_
                    show ows_R p e below s _ _ _ T174 (mkF m 259 #[.val (.int p0), .val (.int p1), .val (.int p2), .val (.int (3 : Int32)), .val (.int (0 : Int32)), .val (.ref b167), .val (.ref b169)] [(.int (1 : Int32))])
                    refine ows_retN X174 hS172 (by rw [e174]; exact hk172) hx (t := .boolean) Bd.returns (by simp) hlk (hb hby at_259) ?_ (by decide) (by decide)
                    exact ⟨rfl, N174⟩
                  · have hc236 : ¬ (((p0.toUInt32 >>> ((2 : Int32) &&& 31).toUInt32).toInt32) &&& (1 : Int32)) = (0 : Int32) := own_eq0 hc
                    clear hc
                    show ows_R p e below s _ _ _ T170 (mkF m 239 #[.val (.int p0), .val (.int p1), .val (.int p2), .val (.int (3 : Int32)), .val (.int (0 : Int32)), .val (.ref b167), .val (.ref b169)] [])
                    refine ows_aload X170 hx (hb hby at_239) rfl rfl ?_
                    show ows_R p e below s _ _ _ T170 (mkF m 241 #[.val (.int p0), .val (.int p1), .val (.int p2), .val (.int (3 : Int32)), .val (.int (0 : Int32)), .val (.ref b167), .val (.ref b169)] [(.ref b169)])
                    have f175 := ((V_b167_168.ext E169).keep Kc170 (ninS ne_b167_b169 nin0))
                    refine ows_callVS X170 hx hZ0 (y := (⟨"com/example/authwright/authwright/engine/MessageReader", "skipString", "()V"⟩ : MethodName)) (z := (⟨"com/example/authwright/authwright/engine/MessageReader", "skipString", "()V"⟩ : MethodName)) hown0 hS0 hk170 (hw _ (List.mem_of_getElem? (i := 35) rfl)) (hw _ (List.mem_of_getElem? (i := 36) rfl)) (notFace_of_selects (args := #[]) (mvT hZ0 (hw _ (List.mem_of_getElem? (i := 38) rfl)))) (hw _ (List.mem_of_getElem? (i := 38) rfl)) (hw _ (List.mem_of_getElem? (i := 37) rfl)) (hw _ (List.mem_of_getElem? (i := 2) rfl)) (hw _ (List.mem_of_getElem? (i := 39) rfl)) (by decide) (rm6 l Z a0 hw [] b169 b167 k167 (4 : Int32) [(.int (0 : Int32)), (.int (0 : Int32)), (.int (0 : Int32)), (.int (0 : Int32))] (.int (0 : Int32)) (0 : Int32) (0 : Int32) (0 : Int32) (0 : Int32) (0 : Int32) T170.heap n0 (Nat.le_trans Z0 K170.1) Fm170 Fp170 f175 Ec170 n0_b169 (Ne.symm ne_b167_b169) (by decide) rfl (by decide) rfl (by decide) rfl (by decide) rfl (by decide) (by decide) (by decide)) 0 (by decide) (by decide) rfl (by rw [hml]; rfl) b169 Ec170 [] [] rfl (lenOf pd_7 rfl) rfl (Nat.le_of_eq rfl) (hb hby at_241) (by decide) (by decide) ?_
                    rintro T176 _ L176 X176 hS176 hZ176 hown176 ⟨rfl, N176q, Kc176, Ec176, Fm176, Fp176⟩
                    have N176 := Fr.app N170 N176q
                    have hk176 := Nat.le_refl T176.heap.size
                    have K176 := K170.trans Kc176 (allS (P := fun x => x ∈ ([] : List Addr) ∨ h0.size ≤ x) (Or.inr sz_b169) all0)
                    show ows_R p e below s _ _ _ T176 (mkF m 244 #[.val (.int p0), .val (.int p1), .val (.int p2), .val (.int (3 : Int32)), .val (.int (0 : Int32)), .val (.ref b167), .val (.ref b169)] [])
                    have Fq176 : Fld Z T176.heap b169 "com/example/authwright/authwright/engine/MessageReader" "position" "I" (.int (4 : Int32)) := Fp176
                    refine ows_goto X176 hx (hb hby at_244) (pc' := 253) (by decide) (by decide) ?_
                    show ows_R p e below s _ _ _ T176 (mkF m 253 #[.val (.int p0), .val (.int p1), .val (.int p2), .val (.int (3 : Int32)), .val (.int (0 : Int32)), .val (.ref b167), .val (.ref b169)] [])
                    refine ows_aload X176 hx (hb hby at_253) rfl rfl ?_
                    show ows_R p e below s _ _ _ T176 (mkF m 255 #[.val (.int p0), .val (.int p1), .val (.int p2), .val (.int (3 : Int32)), .val (.int (0 : Int32)), .val (.ref b167), .val (.ref b169)] [(.ref b169)])
                    have f177 := (f175.keep Kc176 (ninS ne_b167_b169 nin0))
                    refine ows_callV X176 hx hZ176 (y := (⟨"com/example/authwright/authwright/engine/MessageReader", "expectEnd", "()V"⟩ : MethodName)) (z := (⟨"com/example/authwright/authwright/engine/MessageReader", "expectEnd", "()V"⟩ : MethodName)) hown176 (hw _ (List.mem_of_getElem? (i := 12) rfl)) (hw _ (List.mem_of_getElem? (i := 13) rfl)) (notFace_of_selects (args := #[]) (mvT hZ176 (hw _ (List.mem_of_getElem? (i := 15) rfl)))) (hw _ (List.mem_of_getElem? (i := 15) rfl)) (hw _ (List.mem_of_getElem? (i := 14) rfl)) (hw _ (List.mem_of_getElem? (i := 2) rfl)) (hw _ (List.mem_of_getElem? (i := 16) rfl)) (by decide) (rm3 l Z a0 hw [] b169 b167 k167 (4 : Int32) [(.int (0 : Int32)), (.int (0 : Int32)), (.int (0 : Int32)), (.int (0 : Int32))] (.int (0 : Int32)) T176.heap n0 (Nat.le_trans Z0 K176.1) Fm176 Fq176 f177) 0 (by decide) (by decide) rfl (by rw [hml]; rfl) b169 Ec176 [] [] rfl (lenOf pd_7 rfl) rfl (Nat.le_of_eq rfl) (hb hby at_255) (by decide) (by decide) ?_
                    rintro T178 _ L178 X178 ⟨rfl, N178q, e178⟩
                    have N178 := Fr.app N176 N178q
                    show ows_R p e below s _ _ _ T178 (mkF m 258 #[.val (.int p0), .val (.int p1), .val (.int p2), .val (.int (3 : Int32)), .val (.int (0 : Int32)), .val (.ref b167), .val (.ref b169)] [])
                    refine ows_iconst X178 hx (1 : Int32) (hb hby at_258) rfl ?_
                    show ows_R p e below s _ _ _ T178 (mkF m 259 #[.val (.int p0), .val (.int p1), .val (.int p2), .val (.int (3 : Int32)), .val (.int (0 : Int32)), .val (.ref b167), .val (.ref b169)] [(.int (1 : Int32))])
                    refine ows_retN X178 hS176 (by rw [e178]; exact hk176) hx (t := .boolean) Bd.returns (by simp) hlk (hb hby at_259) ?_ (by decide) (by decide)
                    exact ⟨rfl, N178⟩
                · have hc207 : (2 : Int32) < (0 : Int32) := own_le0 hc
                  exact absurd hc207 (by decide)
              · have hc192 : (1 : Int32) < (0 : Int32) := own_le0 hc
                exact absurd hc192 (by decide)
            · have hc180 : (0 : Int32) < (0 : Int32) := own_le0 hc
              exact absurd hc180 (by decide)
          ·
            show ows_R p e below s _ _ _ s₁ (mkF m 163 #[.val (.int p0), .val (.int p1), .val (.int p2), .val (.int (3 : Int32)), .val (.int (1 : Int32)), .unset, .unset] [])
            refine ows_iconst X0 hx (4 : Int32) (hb hby at_163) rfl ?_
            show ows_R p e below s _ _ _ s₁ (mkF m 164 #[.val (.int p0), .val (.int p1), .val (.int p2), .val (.int (3 : Int32)), .val (.int (1 : Int32)), .unset, .unset] [(.int (4 : Int32))])
            refine ows_iload X0 hx (hb hby at_164) rfl ?_
            show ows_R p e below s _ _ _ s₁ (mkF m 166 #[.val (.int p0), .val (.int p1), .val (.int p2), .val (.int (3 : Int32)), .val (.int (1 : Int32)), .unset, .unset] [(.int (1 : Int32)), (.int (4 : Int32))])
            refine ows_iadd X0 hx (hb hby at_166) ?_
            show ows_R p e below s _ _ _ s₁ (mkF m 167 #[.val (.int p0), .val (.int p1), .val (.int p2), .val (.int (3 : Int32)), .val (.int (1 : Int32)), .unset, .unset] [(.int (5 : Int32))])
            refine ows_newA X0 hx hZ0 (hw _ (List.mem_of_getElem? (i := 3) rfl)) e0 (hb hby at_167) (by decide) 5 (by decide) (by decide) (by decide) (by decide) (ad := "[B") (by decide) 5 ?_
            intro T179 h179 b179 k179 g179 X179 e179 E179 V179 A179
            have sz_b179 : h0.size ≤ b179 := Nat.le_trans K0.1 (Nat.le_of_eq g179.symm)
            have n0_b179 : n0 ≤ b179 := Nat.le_trans Z0 sz_b179
            have hk179 := Nat.le_trans hk0 E179.1
            have K179 := K0.ext E179
            have V_b179 : Arv Z h179 b179 k179 .byte (5 : Int32) [(.int (0 : Int32)), (.int (0 : Int32)), (.int (0 : Int32)), (.int (0 : Int32)), (.int (0 : Int32))] (.int (0 : Int32)) := V179
            show ows_R p e below s _ _ _ T179 (mkF m 169 #[.val (.int p0), .val (.int p1), .val (.int p2), .val (.int (3 : Int32)), .val (.int (1 : Int32)), .unset, .unset] [(.ref b179)])
            refine ows_astore X179 hx (hb hby at_169) rfl (l' := #[.val (.int p0), .val (.int p1), .val (.int p2), .val (.int (3 : Int32)), .val (.int (1 : Int32)), .val (.ref b179), .unset]) rfl ?_
            show ows_R p e below s _ _ _ T179 (mkF m 171 #[.val (.int p0), .val (.int p1), .val (.int p2), .val (.int (3 : Int32)), .val (.int (1 : Int32)), .val (.ref b179), .unset] [])
            refine ows_aload X179 hx (hb hby at_171) rfl rfl ?_
            show ows_R p e below s _ _ _ T179 (mkF m 173 #[.val (.int p0), .val (.int p1), .val (.int p2), .val (.int (3 : Int32)), .val (.int (1 : Int32)), .val (.ref b179), .unset] [(.ref b179)])
            refine ows_iconst X179 hx (3 : Int32) (hb hby at_173) rfl ?_
            show ows_R p e below s _ _ _ T179 (mkF m 174 #[.val (.int p0), .val (.int p1), .val (.int p2), .val (.int (3 : Int32)), .val (.int (1 : Int32)), .val (.ref b179), .unset] [(.int (3 : Int32)), (.ref b179)])
            refine ows_iload X179 hx (hb hby at_174) rfl ?_
            show ows_R p e below s _ _ _ T179 (mkF m 176 #[.val (.int p0), .val (.int p1), .val (.int p2), .val (.int (3 : Int32)), .val (.int (1 : Int32)), .val (.ref b179), .unset] [(.int (1 : Int32)), (.int (3 : Int32)), (.ref b179)])
            refine ows_i2b X179 hx (hb hby at_176) ?_
            show ows_R p e below s _ _ _ T179 (mkF m 177 #[.val (.int p0), .val (.int p1), .val (.int p2), .val (.int (3 : Int32)), .val (.int (1 : Int32)), .val (.ref b179), .unset] [(.int ((1 : Int32).toInt8.toInt32)), (.int (3 : Int32)), (.ref b179)])
            refine ows_bastore X179 hx hZ0 e179 V_b179 (x' := (1 : Int32)) (by decide) ⟨by decide, by decide⟩ 3 rfl (Nat.le_of_ble_eq_true rfl) (hb hby at_177) ?_
            intro T180 h180 X180 e180 W180 V180
            have hk180 := Nat.le_trans hk179 (Keep.of_wr W180).1
            have K180 := K179.wr W180 (Or.inr sz_b179)
            have N180 := Fr.snoc X180 N0 n0_b179
            have V_b179_180 : Arv Z h180 b179 k179 .byte (5 : Int32) [(.int (0 : Int32)), (.int (0 : Int32)), (.int (0 : Int32)), (.int (1 : Int32)), (.int (0 : Int32))] (.int (0 : Int32)) := V180
            show ows_R p e below s _ _ _ T180 (mkF m 178 #[.val (.int p0), .val (.int p1), .val (.int p2), .val (.int (3 : Int32)), .val (.int (1 : Int32)), .val (.ref b179), .unset] [])
            refine ows_iload X180 hx (hb hby at_178) rfl ?_
            show ows_R p e below s _ _ _ T180 (mkF m 180 #[.val (.int p0), .val (.int p1), .val (.int p2), .val (.int (3 : Int32)), .val (.int (1 : Int32)), .val (.ref b179), .unset] [(.int (1 : Int32))])
            refine ows_if X180 hx (hb hby at_180) (pc' := 189) (by decide) (by decide) (fun hc => ?_) (fun hc => ?_)
            · have hc180 : ¬ (0 : Int32) < (1 : Int32) := own_le1 hc
              exact absurd (by decide) hc180
            · have hc180 : (0 : Int32) < (1 : Int32) := own_le0 hc
              clear hc
              show ows_R p e below s _ _ _ T180 (mkF m 183 #[.val (.int p0), .val (.int p1), .val (.int p2), .val (.int (3 : Int32)), .val (.int (1 : Int32)), .val (.ref b179), .unset] [])
              refine ows_aload X180 hx (hb hby at_183) rfl rfl ?_
              show ows_R p e below s _ _ _ T180 (mkF m 185 #[.val (.int p0), .val (.int p1), .val (.int p2), .val (.int (3 : Int32)), .val (.int (1 : Int32)), .val (.ref b179), .unset] [(.ref b179)])
              refine ows_iconst X180 hx (4 : Int32) (hb hby at_185) rfl ?_
              show ows_R p e below s _ _ _ T180 (mkF m 186 #[.val (.int p0), .val (.int p1), .val (.int p2), .val (.int (3 : Int32)), .val (.int (1 : Int32)), .val (.ref b179), .unset] [(.int (4 : Int32)), (.ref b179)])
              refine ows_iloadN X180 hx (hb hby at_186) rfl ?_
              show ows_R p e below s _ _ _ T180 (mkF m 187 #[.val (.int p0), .val (.int p1), .val (.int p2), .val (.int (3 : Int32)), .val (.int (1 : Int32)), .val (.ref b179), .unset] [(.int p1), (.int (4 : Int32)), (.ref b179)])
              refine ows_i2b X180 hx (hb hby at_187) ?_
              show ows_R p e below s _ _ _ T180 (mkF m 188 #[.val (.int p0), .val (.int p1), .val (.int p2), .val (.int (3 : Int32)), .val (.int (1 : Int32)), .val (.ref b179), .unset] [(.int (p1.toInt8.toInt32)), (.int (4 : Int32)), (.ref b179)])
              refine ows_bastore X180 hx hZ0 e180 V_b179_180 (x' := (p1.toInt8.toInt32)) (pl_nb _) ⟨by decide, by decide⟩ 4 rfl (Nat.le_of_ble_eq_true rfl) (hb hby at_188) ?_
              intro T181 h181 X181 e181 W181 V181
              have hk181 := Nat.le_trans hk180 (Keep.of_wr W181).1
              have K181 := K180.wr W181 (Or.inr sz_b179)
              have N181 := Fr.snoc X181 N180 n0_b179
              have V_b179_181 : Arv Z h181 b179 k179 .byte (5 : Int32) [(.int (0 : Int32)), (.int (0 : Int32)), (.int (0 : Int32)), (.int (1 : Int32)), (.int (p1.toInt8.toInt32))] (.int (0 : Int32)) := V181
              show ows_R p e below s _ _ _ T181 (mkF m 189 #[.val (.int p0), .val (.int p1), .val (.int p2), .val (.int (3 : Int32)), .val (.int (1 : Int32)), .val (.ref b179), .unset] [])
              refine ows_iload X181 hx (hb hby at_189) rfl ?_
              show ows_R p e below s _ _ _ T181 (mkF m 191 #[.val (.int p0), .val (.int p1), .val (.int p2), .val (.int (3 : Int32)), .val (.int (1 : Int32)), .val (.ref b179), .unset] [(.int (1 : Int32))])
              refine ows_iconst X181 hx (1 : Int32) (hb hby at_191) rfl ?_
              show ows_R p e below s _ _ _ T181 (mkF m 192 #[.val (.int p0), .val (.int p1), .val (.int p2), .val (.int (3 : Int32)), .val (.int (1 : Int32)), .val (.ref b179), .unset] [(.int (1 : Int32)), (.int (1 : Int32))])
              refine ows_icmp X181 hx (hb hby at_192) (pc' := 204) (by decide) (by decide) (fun hc => ?_) (fun hc => ?_)
              · have hc192 : ¬ (1 : Int32) < (1 : Int32) := own_le1 hc
                clear hc
                show ows_R p e below s _ _ _ T181 (mkF m 204 #[.val (.int p0), .val (.int p1), .val (.int p2), .val (.int (3 : Int32)), .val (.int (1 : Int32)), .val (.ref b179), .unset] [])
                refine ows_iload X181 hx (hb hby at_204) rfl ?_
                show ows_R p e below s _ _ _ T181 (mkF m 206 #[.val (.int p0), .val (.int p1), .val (.int p2), .val (.int (3 : Int32)), .val (.int (1 : Int32)), .val (.ref b179), .unset] [(.int (1 : Int32))])
                refine ows_iconst X181 hx (2 : Int32) (hb hby at_206) rfl ?_
                show ows_R p e below s _ _ _ T181 (mkF m 207 #[.val (.int p0), .val (.int p1), .val (.int p2), .val (.int (3 : Int32)), .val (.int (1 : Int32)), .val (.ref b179), .unset] [(.int (2 : Int32)), (.int (1 : Int32))])
                refine ows_icmp X181 hx (hb hby at_207) (pc' := 220) (by decide) (by decide) (fun hc => ?_) (fun hc => ?_)
                · have hc207 : ¬ (2 : Int32) < (1 : Int32) := own_le1 hc
                  clear hc
                  show ows_R p e below s _ _ _ T181 (mkF m 220 #[.val (.int p0), .val (.int p1), .val (.int p2), .val (.int (3 : Int32)), .val (.int (1 : Int32)), .val (.ref b179), .unset] [])
                  refine ows_new X181 hx hZ0 hown0 (hw _ (List.mem_of_getElem? (i := 0) rfl)) (hw _ (List.mem_of_getElem? (i := 1) rfl)) (hw _ (List.mem_of_getElem? (i := 2) rfl)) e181 (hb hby at_220) (by decide) (by decide) ?_
                  intro T182 h182 b182 g182 X182 e182 E182 A182 D182
                  have ne_b179_b182 : b179 ≠ b182 := Nat.ne_of_lt (Nat.lt_of_lt_of_le V_b179_181.lt (Nat.le_of_eq g182.symm))
                  have sz_b182 : h0.size ≤ b182 := Nat.le_trans K181.1 (Nat.le_of_eq g182.symm)
                  have n0_b182 : n0 ≤ b182 := Nat.le_trans Z0 sz_b182
                  have hk182 := Nat.le_trans hk181 E182.1
                  have K182 := K181.ext E182
                  have F_message_b182 : Fld Z h182 b182 "com/example/authwright/authwright/engine/MessageReader" "message" "[B" .null := D182 (Or.inr (hw _ (List.mem_of_getElem? (i := 11) rfl))) (ty := (.array .byte)) (by decide)
                  have F_position_b182 : Fld Z h182 b182 "com/example/authwright/authwright/engine/MessageReader" "position" "I" (.int (0 : Int32)) := D182 (Or.inl (hw _ (List.mem_of_getElem? (i := 18) rfl))) (ty := .int) (by decide)
                  show ows_R p e below s _ _ _ T182 (mkF m 223 #[.val (.int p0), .val (.int p1), .val (.int p2), .val (.int (3 : Int32)), .val (.int (1 : Int32)), .val (.ref b179), .unset] [(.ref b182)])
                  refine ows_dup X182 hx (hb hby at_223) rfl ?_
                  show ows_R p e below s _ _ _ T182 (mkF m 224 #[.val (.int p0), .val (.int p1), .val (.int p2), .val (.int (3 : Int32)), .val (.int (1 : Int32)), .val (.ref b179), .unset] [(.ref b182), (.ref b182)])
                  refine ows_aload X182 hx (hb hby at_224) rfl rfl ?_
                  show ows_R p e below s _ _ _ T182 (mkF m 226 #[.val (.int p0), .val (.int p1), .val (.int p2), .val (.int (3 : Int32)), .val (.int (1 : Int32)), .val (.ref b179), .unset] [(.ref b179), (.ref b182), (.ref b182)])
                  refine ows_callI X182 hx hZ0 (y := (⟨"com/example/authwright/authwright/engine/MessageReader", "<init>", "([B)V"⟩ : MethodName)) rfl hown0 (hw _ (List.mem_of_getElem? (i := 4) rfl)) (hw _ (List.mem_of_getElem? (i := 5) rfl)) (hw _ (List.mem_of_getElem? (i := 2) rfl)) (hw _ (List.mem_of_getElem? (i := 6) rfl)) (by decide) (rm1 l Z a0 hw [] b182 b179 h182 n0 (Nat.le_trans Z0 K182.1) A182 n0_b182 F_message_b182 F_position_b182) 1 (by decide) (by decide) e182 (by rw [hml]; rfl) b182 [(.ref b179)] [(.ref b182)] rfl (lenOf pd_6 rfl) rfl (Nat.le_of_eq rfl) (hb hby at_226) (by decide) (by decide) ?_
                  rintro T183 _ L183 X183 ⟨rfl, N183q, Kc183, Ec183, Fm183, Fp183⟩
                  have N183 := Fr.app N181 N183q
                  have hk183 := Nat.le_trans hk182 Kc183.1
                  have K183 := K182.trans Kc183 (allS (P := fun x => x ∈ ([] : List Addr) ∨ h0.size ≤ x) (Or.inr sz_b182) all0)
                  show ows_R p e below s _ _ _ T183 (mkF m 229 #[.val (.int p0), .val (.int p1), .val (.int p2), .val (.int (3 : Int32)), .val (.int (1 : Int32)), .val (.ref b179), .unset] [(.ref b182)])
                  refine ows_astore X183 hx (hb hby at_229) rfl (l' := #[.val (.int p0), .val (.int p1), .val (.int p2), .val (.int (3 : Int32)), .val (.int (1 : Int32)), .val (.ref b179), .val (.ref b182)]) rfl ?_
                  show ows_R p e below s _ _ _ T183 (mkF m 231 #[.val (.int p0), .val (.int p1), .val (.int p2), .val (.int (3 : Int32)), .val (.int (1 : Int32)), .val (.ref b179), .val (.ref b182)] [])
                  refine ows_iloadN X183 hx (hb hby at_231) rfl ?_
                  show ows_R p e below s _ _ _ T183 (mkF m 232 #[.val (.int p0), .val (.int p1), .val (.int p2), .val (.int (3 : Int32)), .val (.int (1 : Int32)), .val (.ref b179), .val (.ref b182)] [(.int p0)])
                  refine ows_iconst X183 hx (2 : Int32) (hb hby at_232) rfl ?_
                  show ows_R p e below s _ _ _ T183 (mkF m 233 #[.val (.int p0), .val (.int p1), .val (.int p2), .val (.int (3 : Int32)), .val (.int (1 : Int32)), .val (.ref b179), .val (.ref b182)] [(.int (2 : Int32)), (.int p0)])
                  refine ows_iushr X183 hx (hb hby at_233) ?_
                  show ows_R p e below s _ _ _ T183 (mkF m 234 #[.val (.int p0), .val (.int p1), .val (.int p2), .val (.int (3 : Int32)), .val (.int (1 : Int32)), .val (.ref b179), .val (.ref b182)] [(.int ((p0.toUInt32 >>> ((2 : Int32) &&& 31).toUInt32).toInt32))])
                  refine ows_iconst X183 hx (1 : Int32) (hb hby at_234) rfl ?_
                  show ows_R p e below s _ _ _ T183 (mkF m 235 #[.val (.int p0), .val (.int p1), .val (.int p2), .val (.int (3 : Int32)), .val (.int (1 : Int32)), .val (.ref b179), .val (.ref b182)] [(.int (1 : Int32)), (.int ((p0.toUInt32 >>> ((2 : Int32) &&& 31).toUInt32).toInt32))])
                  refine ows_iand X183 hx (hb hby at_235) ?_
                  show ows_R p e below s _ _ _ T183 (mkF m 236 #[.val (.int p0), .val (.int p1), .val (.int p2), .val (.int (3 : Int32)), .val (.int (1 : Int32)), .val (.ref b179), .val (.ref b182)] [(.int (((p0.toUInt32 >>> ((2 : Int32) &&& 31).toUInt32).toInt32) &&& (1 : Int32)))])
                  refine ows_if X183 hx (hb hby at_236) (pc' := 247) (by decide) (by decide) (fun hc => ?_) (fun hc => ?_)
                  · have hc236 : (((p0.toUInt32 >>> ((2 : Int32) &&& 31).toUInt32).toInt32) &&& (1 : Int32)) = (0 : Int32) := own_eq1 hc
                    clear hc
                    show ows_R p e below s _ _ _ T183 (mkF m 247 #[.val (.int p0), .val (.int p1), .val (.int p2), .val (.int (3 : Int32)), .val (.int (1 : Int32)), .val (.ref b179), .val (.ref b182)] [])
                    refine ows_aload X183 hx (hb hby at_247) rfl rfl ?_
                    show ows_R p e below s _ _ _ T183 (mkF m 249 #[.val (.int p0), .val (.int p1), .val (.int p2), .val (.int (3 : Int32)), .val (.int (1 : Int32)), .val (.ref b179), .val (.ref b182)] [(.ref b182)])
                    have f184 := ((V_b179_181.ext E182).keep Kc183 (ninS ne_b179_b182 nin0))
                    refine ows_callVS X183 hx hZ0 (y := (⟨"com/example/authwright/authwright/engine/MessageReader", "readString", "()[B"⟩ : MethodName)) (z := (⟨"com/example/authwright/authwright/engine/MessageReader", "readString", "()[B"⟩ : MethodName)) hown0 hS0 hk183 (hw _ (List.mem_of_getElem? (i := 51) rfl)) (hw _ (List.mem_of_getElem? (i := 52) rfl)) (notFace_of_selects (args := #[]) (mvT hZ0 (hw _ (List.mem_of_getElem? (i := 54) rfl)))) (hw _ (List.mem_of_getElem? (i := 54) rfl)) (hw _ (List.mem_of_getElem? (i := 53) rfl)) (hw _ (List.mem_of_getElem? (i := 2) rfl)) (hw _ (List.mem_of_getElem? (i := 55) rfl)) (by decide) (rm9_1 l Z a0 hw [] b182 b179 k179 [(.int (0 : Int32)), (.int (0 : Int32)), (.int (0 : Int32)), (.int (1 : Int32)), (.int (p1.toInt8.toInt32))] (.int (0 : Int32)) (0 : Int32) (0 : Int32) (0 : Int32) (1 : Int32) T183.heap n0 (Nat.le_trans Z0 K183.1) Fm183 Fp183 f184 Ec183 n0_b182 (Ne.symm ne_b179_b182) (by decide) rfl (by decide) rfl (by decide) rfl (by decide) rfl (by decide) (by decide) (by decide)) 0 (by decide) (by decide) rfl (by rw [hml]; rfl) b182 Ec183 [] [] rfl (lenOf pd_9 rfl) rfl (Nat.le_of_eq rfl) (hb hby at_249) (by decide) (by decide) ?_
                    rintro T185 _ L185 X185 hS185 hZ185 hown185 ⟨rs185, rfl, N185q, Kc185, Ec185, Fm185, Fp185⟩
                    have N185 := Fr.app N183 N185q
                    have hk185 := Nat.le_refl T185.heap.size
                    have K185 := K183.trans Kc185 (allS (P := fun x => x ∈ ([] : List Addr) ∨ h0.size ≤ x) (Or.inr sz_b182) all0)
                    show ows_R p e below s _ _ _ T185 (mkF m 252 #[.val (.int p0), .val (.int p1), .val (.int p2), .val (.int (3 : Int32)), .val (.int (1 : Int32)), .val (.ref b179), .val (.ref b182)] [(.ref rs185)])
                    have Fq185 : Fld Z T185.heap b182 "com/example/authwright/authwright/engine/MessageReader" "position" "I" (.int (5 : Int32)) := Fp185
                    refine ows_pop X185 hx (hb hby at_252) rfl ?_
                    show ows_R p e below s _ _ _ T185 (mkF m 253 #[.val (.int p0), .val (.int p1), .val (.int p2), .val (.int (3 : Int32)), .val (.int (1 : Int32)), .val (.ref b179), .val (.ref b182)] [])
                    refine ows_aload X185 hx (hb hby at_253) rfl rfl ?_
                    show ows_R p e below s _ _ _ T185 (mkF m 255 #[.val (.int p0), .val (.int p1), .val (.int p2), .val (.int (3 : Int32)), .val (.int (1 : Int32)), .val (.ref b179), .val (.ref b182)] [(.ref b182)])
                    have f186 := (f184.keep Kc185 (ninS ne_b179_b182 nin0))
                    refine ows_callV X185 hx hZ185 (y := (⟨"com/example/authwright/authwright/engine/MessageReader", "expectEnd", "()V"⟩ : MethodName)) (z := (⟨"com/example/authwright/authwright/engine/MessageReader", "expectEnd", "()V"⟩ : MethodName)) hown185 (hw _ (List.mem_of_getElem? (i := 12) rfl)) (hw _ (List.mem_of_getElem? (i := 13) rfl)) (notFace_of_selects (args := #[]) (mvT hZ185 (hw _ (List.mem_of_getElem? (i := 15) rfl)))) (hw _ (List.mem_of_getElem? (i := 15) rfl)) (hw _ (List.mem_of_getElem? (i := 14) rfl)) (hw _ (List.mem_of_getElem? (i := 2) rfl)) (hw _ (List.mem_of_getElem? (i := 16) rfl)) (by decide) (rm3 l Z a0 hw [] b182 b179 k179 (5 : Int32) [(.int (0 : Int32)), (.int (0 : Int32)), (.int (0 : Int32)), (.int (1 : Int32)), (.int (p1.toInt8.toInt32))] (.int (0 : Int32)) T185.heap n0 (Nat.le_trans Z0 K185.1) Fm185 Fq185 f186) 0 (by decide) (by decide) rfl (by rw [hml]; rfl) b182 Ec185 [] [] rfl (lenOf pd_7 rfl) rfl (Nat.le_of_eq rfl) (hb hby at_255) (by decide) (by decide) ?_
                    rintro T187 _ L187 X187 ⟨rfl, N187q, e187⟩
                    have N187 := Fr.app N185 N187q
                    show ows_R p e below s _ _ _ T187 (mkF m 258 #[.val (.int p0), .val (.int p1), .val (.int p2), .val (.int (3 : Int32)), .val (.int (1 : Int32)), .val (.ref b179), .val (.ref b182)] [])
                    refine ows_iconst X187 hx (1 : Int32) (hb hby at_258) rfl ?_
                    show ows_R p e below s _ _ _ T187 (mkF m 259 #[.val (.int p0), .val (.int p1), .val (.int p2), .val (.int (3 : Int32)), .val (.int (1 : Int32)), .val (.ref b179), .val (.ref b182)] [(.int (1 : Int32))])
                    refine ows_retN X187 hS185 (by rw [e187]; exact hk185) hx (t := .boolean) Bd.returns (by simp) hlk (hb hby at_259) ?_ (by decide) (by decide)
                    exact ⟨rfl, N187⟩
                  · have hc236 : ¬ (((p0.toUInt32 >>> ((2 : Int32) &&& 31).toUInt32).toInt32) &&& (1 : Int32)) = (0 : Int32) := own_eq0 hc
                    clear hc
                    show ows_R p e below s _ _ _ T183 (mkF m 239 #[.val (.int p0), .val (.int p1), .val (.int p2), .val (.int (3 : Int32)), .val (.int (1 : Int32)), .val (.ref b179), .val (.ref b182)] [])
                    refine ows_aload X183 hx (hb hby at_239) rfl rfl ?_
                    show ows_R p e below s _ _ _ T183 (mkF m 241 #[.val (.int p0), .val (.int p1), .val (.int p2), .val (.int (3 : Int32)), .val (.int (1 : Int32)), .val (.ref b179), .val (.ref b182)] [(.ref b182)])
                    have f188 := ((V_b179_181.ext E182).keep Kc183 (ninS ne_b179_b182 nin0))
                    refine ows_callVS X183 hx hZ0 (y := (⟨"com/example/authwright/authwright/engine/MessageReader", "skipString", "()V"⟩ : MethodName)) (z := (⟨"com/example/authwright/authwright/engine/MessageReader", "skipString", "()V"⟩ : MethodName)) hown0 hS0 hk183 (hw _ (List.mem_of_getElem? (i := 35) rfl)) (hw _ (List.mem_of_getElem? (i := 36) rfl)) (notFace_of_selects (args := #[]) (mvT hZ0 (hw _ (List.mem_of_getElem? (i := 38) rfl)))) (hw _ (List.mem_of_getElem? (i := 38) rfl)) (hw _ (List.mem_of_getElem? (i := 37) rfl)) (hw _ (List.mem_of_getElem? (i := 2) rfl)) (hw _ (List.mem_of_getElem? (i := 39) rfl)) (by decide) (rm6 l Z a0 hw [] b182 b179 k179 (5 : Int32) [(.int (0 : Int32)), (.int (0 : Int32)), (.int (0 : Int32)), (.int (1 : Int32)), (.int (p1.toInt8.toInt32))] (.int (0 : Int32)) (0 : Int32) (0 : Int32) (0 : Int32) (1 : Int32) (1 : Int32) T183.heap n0 (Nat.le_trans Z0 K183.1) Fm183 Fp183 f188 Ec183 n0_b182 (Ne.symm ne_b179_b182) (by decide) rfl (by decide) rfl (by decide) rfl (by decide) rfl (by decide) (by decide) (by decide)) 0 (by decide) (by decide) rfl (by rw [hml]; rfl) b182 Ec183 [] [] rfl (lenOf pd_7 rfl) rfl (Nat.le_of_eq rfl) (hb hby at_241) (by decide) (by decide) ?_
                    rintro T189 _ L189 X189 hS189 hZ189 hown189 ⟨rfl, N189q, Kc189, Ec189, Fm189, Fp189⟩
                    have N189 := Fr.app N183 N189q
                    have hk189 := Nat.le_refl T189.heap.size
                    have K189 := K183.trans Kc189 (allS (P := fun x => x ∈ ([] : List Addr) ∨ h0.size ≤ x) (Or.inr sz_b182) all0)
                    show ows_R p e below s _ _ _ T189 (mkF m 244 #[.val (.int p0), .val (.int p1), .val (.int p2), .val (.int (3 : Int32)), .val (.int (1 : Int32)), .val (.ref b179), .val (.ref b182)] [])
                    have Fq189 : Fld Z T189.heap b182 "com/example/authwright/authwright/engine/MessageReader" "position" "I" (.int (5 : Int32)) := Fp189
                    refine ows_goto X189 hx (hb hby at_244) (pc' := 253) (by decide) (by decide) ?_
                    show ows_R p e below s _ _ _ T189 (mkF m 253 #[.val (.int p0), .val (.int p1), .val (.int p2), .val (.int (3 : Int32)), .val (.int (1 : Int32)), .val (.ref b179), .val (.ref b182)] [])
                    refine ows_aload X189 hx (hb hby at_253) rfl rfl ?_
                    show ows_R p e below s _ _ _ T189 (mkF m 255 #[.val (.int p0), .val (.int p1), .val (.int p2), .val (.int (3 : Int32)), .val (.int (1 : Int32)), .val (.ref b179), .val (.ref b182)] [(.ref b182)])
                    have f190 := (f188.keep Kc189 (ninS ne_b179_b182 nin0))
                    refine ows_callV X189 hx hZ189 (y := (⟨"com/example/authwright/authwright/engine/MessageReader", "expectEnd", "()V"⟩ : MethodName)) (z := (⟨"com/example/authwright/authwright/engine/MessageReader", "expectEnd", "()V"⟩ : MethodName)) hown189 (hw _ (List.mem_of_getElem? (i := 12) rfl)) (hw _ (List.mem_of_getElem? (i := 13) rfl)) (notFace_of_selects (args := #[]) (mvT hZ189 (hw _ (List.mem_of_getElem? (i := 15) rfl)))) (hw _ (List.mem_of_getElem? (i := 15) rfl)) (hw _ (List.mem_of_getElem? (i := 14) rfl)) (hw _ (List.mem_of_getElem? (i := 2) rfl)) (hw _ (List.mem_of_getElem? (i := 16) rfl)) (by decide) (rm3 l Z a0 hw [] b182 b179 k179 (5 : Int32) [(.int (0 : Int32)), (.int (0 : Int32)), (.int (0 : Int32)), (.int (1 : Int32)), (.int (p1.toInt8.toInt32))] (.int (0 : Int32)) T189.heap n0 (Nat.le_trans Z0 K189.1) Fm189 Fq189 f190) 0 (by decide) (by decide) rfl (by rw [hml]; rfl) b182 Ec189 [] [] rfl (lenOf pd_7 rfl) rfl (Nat.le_of_eq rfl) (hb hby at_255) (by decide) (by decide) ?_
                    rintro T191 _ L191 X191 ⟨rfl, N191q, e191⟩
                    have N191 := Fr.app N189 N191q
                    show ows_R p e below s _ _ _ T191 (mkF m 258 #[.val (.int p0), .val (.int p1), .val (.int p2), .val (.int (3 : Int32)), .val (.int (1 : Int32)), .val (.ref b179), .val (.ref b182)] [])
                    refine ows_iconst X191 hx (1 : Int32) (hb hby at_258) rfl ?_
                    show ows_R p e below s _ _ _ T191 (mkF m 259 #[.val (.int p0), .val (.int p1), .val (.int p2), .val (.int (3 : Int32)), .val (.int (1 : Int32)), .val (.ref b179), .val (.ref b182)] [(.int (1 : Int32))])
                    refine ows_retN X191 hS189 (by rw [e191]; exact hk189) hx (t := .boolean) Bd.returns (by simp) hlk (hb hby at_259) ?_ (by decide) (by decide)
                    exact ⟨rfl, N191⟩
                · have hc207 : (2 : Int32) < (1 : Int32) := own_le0 hc
                  exact absurd hc207 (by decide)
              · have hc192 : (1 : Int32) < (1 : Int32) := own_le0 hc
                exact absurd hc192 (by decide)
          ·
            show ows_R p e below s _ _ _ s₁ (mkF m 163 #[.val (.int p0), .val (.int p1), .val (.int p2), .val (.int (3 : Int32)), .val (.int (2 : Int32)), .unset, .unset] [])
            refine ows_iconst X0 hx (4 : Int32) (hb hby at_163) rfl ?_
            show ows_R p e below s _ _ _ s₁ (mkF m 164 #[.val (.int p0), .val (.int p1), .val (.int p2), .val (.int (3 : Int32)), .val (.int (2 : Int32)), .unset, .unset] [(.int (4 : Int32))])
            refine ows_iload X0 hx (hb hby at_164) rfl ?_
            show ows_R p e below s _ _ _ s₁ (mkF m 166 #[.val (.int p0), .val (.int p1), .val (.int p2), .val (.int (3 : Int32)), .val (.int (2 : Int32)), .unset, .unset] [(.int (2 : Int32)), (.int (4 : Int32))])
            refine ows_iadd X0 hx (hb hby at_166) ?_
            show ows_R p e below s _ _ _ s₁ (mkF m 167 #[.val (.int p0), .val (.int p1), .val (.int p2), .val (.int (3 : Int32)), .val (.int (2 : Int32)), .unset, .unset] [(.int (6 : Int32))])
            refine ows_newA X0 hx hZ0 (hw _ (List.mem_of_getElem? (i := 3) rfl)) e0 (hb hby at_167) (by decide) 6 (by decide) (by decide) (by decide) (by decide) (ad := "[B") (by decide) 6 ?_
            intro T192 h192 b192 k192 g192 X192 e192 E192 V192 A192
            have sz_b192 : h0.size ≤ b192 := Nat.le_trans K0.1 (Nat.le_of_eq g192.symm)
            have n0_b192 : n0 ≤ b192 := Nat.le_trans Z0 sz_b192
            have hk192 := Nat.le_trans hk0 E192.1
            have K192 := K0.ext E192
            have V_b192 : Arv Z h192 b192 k192 .byte (6 : Int32) [(.int (0 : Int32)), (.int (0 : Int32)), (.int (0 : Int32)), (.int (0 : Int32)), (.int (0 : Int32)), (.int (0 : Int32))] (.int (0 : Int32)) := V192
            show ows_R p e below s _ _ _ T192 (mkF m 169 #[.val (.int p0), .val (.int p1), .val (.int p2), .val (.int (3 : Int32)), .val (.int (2 : Int32)), .unset, .unset] [(.ref b192)])
            refine ows_astore X192 hx (hb hby at_169) rfl (l' := #[.val (.int p0), .val (.int p1), .val (.int p2), .val (.int (3 : Int32)), .val (.int (2 : Int32)), .val (.ref b192), .unset]) rfl ?_
            show ows_R p e below s _ _ _ T192 (mkF m 171 #[.val (.int p0), .val (.int p1), .val (.int p2), .val (.int (3 : Int32)), .val (.int (2 : Int32)), .val (.ref b192), .unset] [])
            refine ows_aload X192 hx (hb hby at_171) rfl rfl ?_
            show ows_R p e below s _ _ _ T192 (mkF m 173 #[.val (.int p0), .val (.int p1), .val (.int p2), .val (.int (3 : Int32)), .val (.int (2 : Int32)), .val (.ref b192), .unset] [(.ref b192)])
            refine ows_iconst X192 hx (3 : Int32) (hb hby at_173) rfl ?_
            show ows_R p e below s _ _ _ T192 (mkF m 174 #[.val (.int p0), .val (.int p1), .val (.int p2), .val (.int (3 : Int32)), .val (.int (2 : Int32)), .val (.ref b192), .unset] [(.int (3 : Int32)), (.ref b192)])
            refine ows_iload X192 hx (hb hby at_174) rfl ?_
            show ows_R p e below s _ _ _ T192 (mkF m 176 #[.val (.int p0), .val (.int p1), .val (.int p2), .val (.int (3 : Int32)), .val (.int (2 : Int32)), .val (.ref b192), .unset] [(.int (2 : Int32)), (.int (3 : Int32)), (.ref b192)])
            refine ows_i2b X192 hx (hb hby at_176) ?_
            show ows_R p e below s _ _ _ T192 (mkF m 177 #[.val (.int p0), .val (.int p1), .val (.int p2), .val (.int (3 : Int32)), .val (.int (2 : Int32)), .val (.ref b192), .unset] [(.int ((2 : Int32).toInt8.toInt32)), (.int (3 : Int32)), (.ref b192)])
            refine ows_bastore X192 hx hZ0 e192 V_b192 (x' := (2 : Int32)) (by decide) ⟨by decide, by decide⟩ 3 rfl (Nat.le_of_ble_eq_true rfl) (hb hby at_177) ?_
            intro T193 h193 X193 e193 W193 V193
            have hk193 := Nat.le_trans hk192 (Keep.of_wr W193).1
            have K193 := K192.wr W193 (Or.inr sz_b192)
            have N193 := Fr.snoc X193 N0 n0_b192
            have V_b192_193 : Arv Z h193 b192 k192 .byte (6 : Int32) [(.int (0 : Int32)), (.int (0 : Int32)), (.int (0 : Int32)), (.int (2 : Int32)), (.int (0 : Int32)), (.int (0 : Int32))] (.int (0 : Int32)) := V193
            show ows_R p e below s _ _ _ T193 (mkF m 178 #[.val (.int p0), .val (.int p1), .val (.int p2), .val (.int (3 : Int32)), .val (.int (2 : Int32)), .val (.ref b192), .unset] [])
            refine ows_iload X193 hx (hb hby at_178) rfl ?_
            show ows_R p e below s _ _ _ T193 (mkF m 180 #[.val (.int p0), .val (.int p1), .val (.int p2), .val (.int (3 : Int32)), .val (.int (2 : Int32)), .val (.ref b192), .unset] [(.int (2 : Int32))])
            refine ows_if X193 hx (hb hby at_180) (pc' := 189) (by decide) (by decide) (fun hc => ?_) (fun hc => ?_)
            · have hc180 : ¬ (0 : Int32) < (2 : Int32) := own_le1 hc
              exact absurd (by decide) hc180
            · have hc180 : (0 : Int32) < (2 : Int32) := own_le0 hc
              clear hc
              show ows_R p e below s _ _ _ T193 (mkF m 183 #[.val (.int p0), .val (.int p1), .val (.int p2), .val (.int (3 : Int32)), .val (.int (2 : Int32)), .val (.ref b192), .unset] [])
              refine ows_aload X193 hx (hb hby at_183) rfl rfl ?_
              show ows_R p e below s _ _ _ T193 (mkF m 185 #[.val (.int p0), .val (.int p1), .val (.int p2), .val (.int (3 : Int32)), .val (.int (2 : Int32)), .val (.ref b192), .unset] [(.ref b192)])
              refine ows_iconst X193 hx (4 : Int32) (hb hby at_185) rfl ?_
              show ows_R p e below s _ _ _ T193 (mkF m 186 #[.val (.int p0), .val (.int p1), .val (.int p2), .val (.int (3 : Int32)), .val (.int (2 : Int32)), .val (.ref b192), .unset] [(.int (4 : Int32)), (.ref b192)])
              refine ows_iloadN X193 hx (hb hby at_186) rfl ?_
              show ows_R p e below s _ _ _ T193 (mkF m 187 #[.val (.int p0), .val (.int p1), .val (.int p2), .val (.int (3 : Int32)), .val (.int (2 : Int32)), .val (.ref b192), .unset] [(.int p1), (.int (4 : Int32)), (.ref b192)])
              refine ows_i2b X193 hx (hb hby at_187) ?_
              show ows_R p e below s _ _ _ T193 (mkF m 188 #[.val (.int p0), .val (.int p1), .val (.int p2), .val (.int (3 : Int32)), .val (.int (2 : Int32)), .val (.ref b192), .unset] [(.int (p1.toInt8.toInt32)), (.int (4 : Int32)), (.ref b192)])
              refine ows_bastore X193 hx hZ0 e193 V_b192_193 (x' := (p1.toInt8.toInt32)) (pl_nb _) ⟨by decide, by decide⟩ 4 rfl (Nat.le_of_ble_eq_true rfl) (hb hby at_188) ?_
              intro T194 h194 X194 e194 W194 V194
              have hk194 := Nat.le_trans hk193 (Keep.of_wr W194).1
              have K194 := K193.wr W194 (Or.inr sz_b192)
              have N194 := Fr.snoc X194 N193 n0_b192
              have V_b192_194 : Arv Z h194 b192 k192 .byte (6 : Int32) [(.int (0 : Int32)), (.int (0 : Int32)), (.int (0 : Int32)), (.int (2 : Int32)), (.int (p1.toInt8.toInt32)), (.int (0 : Int32))] (.int (0 : Int32)) := V194
              show ows_R p e below s _ _ _ T194 (mkF m 189 #[.val (.int p0), .val (.int p1), .val (.int p2), .val (.int (3 : Int32)), .val (.int (2 : Int32)), .val (.ref b192), .unset] [])
              refine ows_iload X194 hx (hb hby at_189) rfl ?_
              show ows_R p e below s _ _ _ T194 (mkF m 191 #[.val (.int p0), .val (.int p1), .val (.int p2), .val (.int (3 : Int32)), .val (.int (2 : Int32)), .val (.ref b192), .unset] [(.int (2 : Int32))])
              refine ows_iconst X194 hx (1 : Int32) (hb hby at_191) rfl ?_
              show ows_R p e below s _ _ _ T194 (mkF m 192 #[.val (.int p0), .val (.int p1), .val (.int p2), .val (.int (3 : Int32)), .val (.int (2 : Int32)), .val (.ref b192), .unset] [(.int (1 : Int32)), (.int (2 : Int32))])
              refine ows_icmp X194 hx (hb hby at_192) (pc' := 204) (by decide) (by decide) (fun hc => ?_) (fun hc => ?_)
              · have hc192 : ¬ (1 : Int32) < (2 : Int32) := own_le1 hc
                exact absurd (by decide) hc192
              · have hc192 : (1 : Int32) < (2 : Int32) := own_le0 hc
                clear hc
                show ows_R p e below s _ _ _ T194 (mkF m 195 #[.val (.int p0), .val (.int p1), .val (.int p2), .val (.int (3 : Int32)), .val (.int (2 : Int32)), .val (.ref b192), .unset] [])
                refine ows_aload X194 hx (hb hby at_195) rfl rfl ?_
                show ows_R p e below s _ _ _ T194 (mkF m 197 #[.val (.int p0), .val (.int p1), .val (.int p2), .val (.int (3 : Int32)), .val (.int (2 : Int32)), .val (.ref b192), .unset] [(.ref b192)])
                refine ows_iconst X194 hx (5 : Int32) (hb hby at_197) rfl ?_
                show ows_R p e below s _ _ _ T194 (mkF m 198 #[.val (.int p0), .val (.int p1), .val (.int p2), .val (.int (3 : Int32)), .val (.int (2 : Int32)), .val (.ref b192), .unset] [(.int (5 : Int32)), (.ref b192)])
                refine ows_iloadN X194 hx (hb hby at_198) rfl ?_
                show ows_R p e below s _ _ _ T194 (mkF m 199 #[.val (.int p0), .val (.int p1), .val (.int p2), .val (.int (3 : Int32)), .val (.int (2 : Int32)), .val (.ref b192), .unset] [(.int p1), (.int (5 : Int32)), (.ref b192)])
                refine ows_bipush X194 hx (8 : Int32) (hb hby at_199) rfl ?_
                show ows_R p e below s _ _ _ T194 (mkF m 201 #[.val (.int p0), .val (.int p1), .val (.int p2), .val (.int (3 : Int32)), .val (.int (2 : Int32)), .val (.ref b192), .unset] [(.int (8 : Int32)), (.int p1), (.int (5 : Int32)), (.ref b192)])
                refine ows_iushr X194 hx (hb hby at_201) ?_
                show ows_R p e below s _ _ _ T194 (mkF m 202 #[.val (.int p0), .val (.int p1), .val (.int p2), .val (.int (3 : Int32)), .val (.int (2 : Int32)), .val (.ref b192), .unset] [(.int ((p1.toUInt32 >>> ((8 : Int32) &&& 31).toUInt32).toInt32)), (.int (5 : Int32)), (.ref b192)])
                refine ows_i2b X194 hx (hb hby at_202) ?_
                show ows_R p e below s _ _ _ T194 (mkF m 203 #[.val (.int p0), .val (.int p1), .val (.int p2), .val (.int (3 : Int32)), .val (.int (2 : Int32)), .val (.ref b192), .unset] [(.int (((p1.toUInt32 >>> ((8 : Int32) &&& 31).toUInt32).toInt32).toInt8.toInt32)), (.int (5 : Int32)), (.ref b192)])
                refine ows_bastore X194 hx hZ0 e194 V_b192_194 (x' := (((p1.toUInt32 >>> ((8 : Int32) &&& 31).toUInt32).toInt32).toInt8.toInt32)) (pl_nb _) ⟨by decide, by decide⟩ 5 rfl (Nat.le_of_ble_eq_true rfl) (hb hby at_203) ?_
                intro T195 h195 X195 e195 W195 V195
                have hk195 := Nat.le_trans hk194 (Keep.of_wr W195).1
                have K195 := K194.wr W195 (Or.inr sz_b192)
                have N195 := Fr.snoc X195 N194 n0_b192
                have V_b192_195 : Arv Z h195 b192 k192 .byte (6 : Int32) [(.int (0 : Int32)), (.int (0 : Int32)), (.int (0 : Int32)), (.int (2 : Int32)), (.int (p1.toInt8.toInt32)), (.int (((p1.toUInt32 >>> ((8 : Int32) &&& 31).toUInt32).toInt32).toInt8.toInt32))] (.int (0 : Int32)) := V195
                show ows_R p e below s _ _ _ T195 (mkF m 204 #[.val (.int p0), .val (.int p1), .val (.int p2), .val (.int (3 : Int32)), .val (.int (2 : Int32)), .val (.ref b192), .unset] [])
                refine ows_iload X195 hx (hb hby at_204) rfl ?_
                show ows_R p e below s _ _ _ T195 (mkF m 206 #[.val (.int p0), .val (.int p1), .val (.int p2), .val (.int (3 : Int32)), .val (.int (2 : Int32)), .val (.ref b192), .unset] [(.int (2 : Int32))])
                refine ows_iconst X195 hx (2 : Int32) (hb hby at_206) rfl ?_
                show ows_R p e below s _ _ _ T195 (mkF m 207 #[.val (.int p0), .val (.int p1), .val (.int p2), .val (.int (3 : Int32)), .val (.int (2 : Int32)), .val (.ref b192), .unset] [(.int (2 : Int32)), (.int (2 : Int32))])
                refine ows_icmp X195 hx (hb hby at_207) (pc' := 220) (by decide) (by decide) (fun hc => ?_) (fun hc => ?_)
                · have hc207 : ¬ (2 : Int32) < (2 : Int32) := own_le1 hc
                  clear hc
                  show ows_R p e below s _ _ _ T195 (mkF m 220 #[.val (.int p0), .val (.int p1), .val (.int p2), .val (.int (3 : Int32)), .val (.int (2 : Int32)), .val (.ref b192), .unset] [])
                  refine ows_new X195 hx hZ0 hown0 (hw _ (List.mem_of_getElem? (i := 0) rfl)) (hw _ (List.mem_of_getElem? (i := 1) rfl)) (hw _ (List.mem_of_getElem? (i := 2) rfl)) e195 (hb hby at_220) (by decide) (by decide) ?_
                  intro T196 h196 b196 g196 X196 e196 E196 A196 D196
                  have ne_b192_b196 : b192 ≠ b196 := Nat.ne_of_lt (Nat.lt_of_lt_of_le V_b192_195.lt (Nat.le_of_eq g196.symm))
                  have sz_b196 : h0.size ≤ b196 := Nat.le_trans K195.1 (Nat.le_of_eq g196.symm)
                  have n0_b196 : n0 ≤ b196 := Nat.le_trans Z0 sz_b196
                  have hk196 := Nat.le_trans hk195 E196.1
                  have K196 := K195.ext E196
                  have F_message_b196 : Fld Z h196 b196 "com/example/authwright/authwright/engine/MessageReader" "message" "[B" .null := D196 (Or.inr (hw _ (List.mem_of_getElem? (i := 11) rfl))) (ty := (.array .byte)) (by decide)
                  have F_position_b196 : Fld Z h196 b196 "com/example/authwright/authwright/engine/MessageReader" "position" "I" (.int (0 : Int32)) := D196 (Or.inl (hw _ (List.mem_of_getElem? (i := 18) rfl))) (ty := .int) (by decide)
                  show ows_R p e below s _ _ _ T196 (mkF m 223 #[.val (.int p0), .val (.int p1), .val (.int p2), .val (.int (3 : Int32)), .val (.int (2 : Int32)), .val (.ref b192), .unset] [(.ref b196)])
                  refine ows_dup X196 hx (hb hby at_223) rfl ?_
                  show ows_R p e below s _ _ _ T196 (mkF m 224 #[.val (.int p0), .val (.int p1), .val (.int p2), .val (.int (3 : Int32)), .val (.int (2 : Int32)), .val (.ref b192), .unset] [(.ref b196), (.ref b196)])
                  refine ows_aload X196 hx (hb hby at_224) rfl rfl ?_
                  show ows_R p e below s _ _ _ T196 (mkF m 226 #[.val (.int p0), .val (.int p1), .val (.int p2), .val (.int (3 : Int32)), .val (.int (2 : Int32)), .val (.ref b192), .unset] [(.ref b192), (.ref b196), (.ref b196)])
                  refine ows_callI X196 hx hZ0 (y := (⟨"com/example/authwright/authwright/engine/MessageReader", "<init>", "([B)V"⟩ : MethodName)) rfl hown0 (hw _ (List.mem_of_getElem? (i := 4) rfl)) (hw _ (List.mem_of_getElem? (i := 5) rfl)) (hw _ (List.mem_of_getElem? (i := 2) rfl)) (hw _ (List.mem_of_getElem? (i := 6) rfl)) (by decide) (rm1 l Z a0 hw [] b196 b192 h196 n0 (Nat.le_trans Z0 K196.1) A196 n0_b196 F_message_b196 F_position_b196) 1 (by decide) (by decide) e196 (by rw [hml]; rfl) b196 [(.ref b192)] [(.ref b196)] rfl (lenOf pd_6 rfl) rfl (Nat.le_of_eq rfl) (hb hby at_226) (by decide) (by decide) ?_
                  rintro T197 _ L197 X197 ⟨rfl, N197q, Kc197, Ec197, Fm197, Fp197⟩
                  have N197 := Fr.app N195 N197q
                  have hk197 := Nat.le_trans hk196 Kc197.1
                  have K197 := K196.trans Kc197 (allS (P := fun x => x ∈ ([] : List Addr) ∨ h0.size ≤ x) (Or.inr sz_b196) all0)
                  show ows_R p e below s _ _ _ T197 (mkF m 229 #[.val (.int p0), .val (.int p1), .val (.int p2), .val (.int (3 : Int32)), .val (.int (2 : Int32)), .val (.ref b192), .unset] [(.ref b196)])
                  refine ows_astore X197 hx (hb hby at_229) rfl (l' := #[.val (.int p0), .val (.int p1), .val (.int p2), .val (.int (3 : Int32)), .val (.int (2 : Int32)), .val (.ref b192), .val (.ref b196)]) rfl ?_
                  show ows_R p e below s _ _ _ T197 (mkF m 231 #[.val (.int p0), .val (.int p1), .val (.int p2), .val (.int (3 : Int32)), .val (.int (2 : Int32)), .val (.ref b192), .val (.ref b196)] [])
                  refine ows_iloadN X197 hx (hb hby at_231) rfl ?_
                  show ows_R p e below s _ _ _ T197 (mkF m 232 #[.val (.int p0), .val (.int p1), .val (.int p2), .val (.int (3 : Int32)), .val (.int (2 : Int32)), .val (.ref b192), .val (.ref b196)] [(.int p0)])
                  refine ows_iconst X197 hx (2 : Int32) (hb hby at_232) rfl ?_
                  show ows_R p e below s _ _ _ T197 (mkF m 233 #[.val (.int p0), .val (.int p1), .val (.int p2), .val (.int (3 : Int32)), .val (.int (2 : Int32)), .val (.ref b192), .val (.ref b196)] [(.int (2 : Int32)), (.int p0)])
                  refine ows_iushr X197 hx (hb hby at_233) ?_
                  show ows_R p e below s _ _ _ T197 (mkF m 234 #[.val (.int p0), .val (.int p1), .val (.int p2), .val (.int (3 : Int32)), .val (.int (2 : Int32)), .val (.ref b192), .val (.ref b196)] [(.int ((p0.toUInt32 >>> ((2 : Int32) &&& 31).toUInt32).toInt32))])
                  refine ows_iconst X197 hx (1 : Int32) (hb hby at_234) rfl ?_
                  show ows_R p e below s _ _ _ T197 (mkF m 235 #[.val (.int p0), .val (.int p1), .val (.int p2), .val (.int (3 : Int32)), .val (.int (2 : Int32)), .val (.ref b192), .val (.ref b196)] [(.int (1 : Int32)), (.int ((p0.toUInt32 >>> ((2 : Int32) &&& 31).toUInt32).toInt32))])
                  refine ows_iand X197 hx (hb hby at_235) ?_
                  show ows_R p e below s _ _ _ T197 (mkF m 236 #[.val (.int p0), .val (.int p1), .val (.int p2), .val (.int (3 : Int32)), .val (.int (2 : Int32)), .val (.ref b192), .val (.ref b196)] [(.int (((p0.toUInt32 >>> ((2 : Int32) &&& 31).toUInt32).toInt32) &&& (1 : Int32)))])
                  refine ows_if X197 hx (hb hby at_236) (pc' := 247) (by decide) (by decide) (fun hc => ?_) (fun hc => ?_)
                  · have hc236 : (((p0.toUInt32 >>> ((2 : Int32) &&& 31).toUInt32).toInt32) &&& (1 : Int32)) = (0 : Int32) := own_eq1 hc
                    clear hc
                    show ows_R p e below s _ _ _ T197 (mkF m 247 #[.val (.int p0), .val (.int p1), .val (.int p2), .val (.int (3 : Int32)), .val (.int (2 : Int32)), .val (.ref b192), .val (.ref b196)] [])
                    refine ows_aload X197 hx (hb hby at_247) rfl rfl ?_
                    show ows_R p e below s _ _ _ T197 (mkF m 249 #[.val (.int p0), .val (.int p1), .val (.int p2), .val (.int (3 : Int32)), .val (.int (2 : Int32)), .val (.ref b192), .val (.ref b196)] [(.ref b196)])
                    have f198 := ((V_b192_195.ext E196).keep Kc197 (ninS ne_b192_b196 nin0))
                    refine ows_callVS X197 hx hZ0 (y := (⟨"com/example/authwright/authwright/engine/MessageReader", "readString", "()[B"⟩ : MethodName)) (z := (⟨"com/example/authwright/authwright/engine/MessageReader", "readString", "()[B"⟩ : MethodName)) hown0 hS0 hk197 (hw _ (List.mem_of_getElem? (i := 51) rfl)) (hw _ (List.mem_of_getElem? (i := 52) rfl)) (notFace_of_selects (args := #[]) (mvT hZ0 (hw _ (List.mem_of_getElem? (i := 54) rfl)))) (hw _ (List.mem_of_getElem? (i := 54) rfl)) (hw _ (List.mem_of_getElem? (i := 53) rfl)) (hw _ (List.mem_of_getElem? (i := 2) rfl)) (hw _ (List.mem_of_getElem? (i := 55) rfl)) (by decide) (rm9_2 l Z a0 hw [] b196 b192 k192 [(.int (0 : Int32)), (.int (0 : Int32)), (.int (0 : Int32)), (.int (2 : Int32)), (.int (p1.toInt8.toInt32)), (.int (((p1.toUInt32 >>> ((8 : Int32) &&& 31).toUInt32).toInt32).toInt8.toInt32))] (.int (0 : Int32)) (0 : Int32) (0 : Int32) (0 : Int32) (2 : Int32) T197.heap n0 (Nat.le_trans Z0 K197.1) Fm197 Fp197 f198 Ec197 n0_b196 (Ne.symm ne_b192_b196) (by decide) rfl (by decide) rfl (by decide) rfl (by decide) rfl (by decide) (by decide) (by decide)) 0 (by decide) (by decide) rfl (by rw [hml]; rfl) b196 Ec197 [] [] rfl (lenOf pd_9 rfl) rfl (Nat.le_of_eq rfl) (hb hby at_249) (by decide) (by decide) ?_
                    rintro T199 _ L199 X199 hS199 hZ199 hown199 ⟨rs199, rfl, N199q, Kc199, Ec199, Fm199, Fp199⟩
                    have N199 := Fr.app N197 N199q
                    have hk199 := Nat.le_refl T199.heap.size
                    have K199 := K197.trans Kc199 (allS (P := fun x => x ∈ ([] : List Addr) ∨ h0.size ≤ x) (Or.inr sz_b196) all0)
                    show ows_R p e below s _ _ _ T199 (mkF m 252 #[.val (.int p0), .val (.int p1), .val (.int p2), .val (.int (3 : Int32)), .val (.int (2 : Int32)), .val (.ref b192), .val (.ref b196)] [(.ref rs199)])
                    have Fq199 : Fld Z T199.heap b196 "com/example/authwright/authwright/engine/MessageReader" "position" "I" (.int (6 : Int32)) := Fp199
                    refine ows_pop X199 hx (hb hby at_252) rfl ?_
                    show ows_R p e below s _ _ _ T199 (mkF m 253 #[.val (.int p0), .val (.int p1), .val (.int p2), .val (.int (3 : Int32)), .val (.int (2 : Int32)), .val (.ref b192), .val (.ref b196)] [])
                    refine ows_aload X199 hx (hb hby at_253) rfl rfl ?_
                    show ows_R p e below s _ _ _ T199 (mkF m 255 #[.val (.int p0), .val (.int p1), .val (.int p2), .val (.int (3 : Int32)), .val (.int (2 : Int32)), .val (.ref b192), .val (.ref b196)] [(.ref b196)])
                    have f200 := (f198.keep Kc199 (ninS ne_b192_b196 nin0))
                    refine ows_callV X199 hx hZ199 (y := (⟨"com/example/authwright/authwright/engine/MessageReader", "expectEnd", "()V"⟩ : MethodName)) (z := (⟨"com/example/authwright/authwright/engine/MessageReader", "expectEnd", "()V"⟩ : MethodName)) hown199 (hw _ (List.mem_of_getElem? (i := 12) rfl)) (hw _ (List.mem_of_getElem? (i := 13) rfl)) (notFace_of_selects (args := #[]) (mvT hZ199 (hw _ (List.mem_of_getElem? (i := 15) rfl)))) (hw _ (List.mem_of_getElem? (i := 15) rfl)) (hw _ (List.mem_of_getElem? (i := 14) rfl)) (hw _ (List.mem_of_getElem? (i := 2) rfl)) (hw _ (List.mem_of_getElem? (i := 16) rfl)) (by decide) (rm3 l Z a0 hw [] b196 b192 k192 (6 : Int32) [(.int (0 : Int32)), (.int (0 : Int32)), (.int (0 : Int32)), (.int (2 : Int32)), (.int (p1.toInt8.toInt32)), (.int (((p1.toUInt32 >>> ((8 : Int32) &&& 31).toUInt32).toInt32).toInt8.toInt32))] (.int (0 : Int32)) T199.heap n0 (Nat.le_trans Z0 K199.1) Fm199 Fq199 f200) 0 (by decide) (by decide) rfl (by rw [hml]; rfl) b196 Ec199 [] [] rfl (lenOf pd_7 rfl) rfl (Nat.le_of_eq rfl) (hb hby at_255) (by decide) (by decide) ?_
                    rintro T201 _ L201 X201 ⟨rfl, N201q, e201⟩
                    have N201 := Fr.app N199 N201q
                    show ows_R p e below s _ _ _ T201 (mkF m 258 #[.val (.int p0), .val (.int p1), .val (.int p2), .val (.int (3 : Int32)), .val (.int (2 : Int32)), .val (.ref b192), .val (.ref b196)] [])
                    refine ows_iconst X201 hx (1 : Int32) (hb hby at_258) rfl ?_
                    show ows_R p e below s _ _ _ T201 (mkF m 259 #[.val (.int p0), .val (.int p1), .val (.int p2), .val (.int (3 : Int32)), .val (.int (2 : Int32)), .val (.ref b192), .val (.ref b196)] [(.int (1 : Int32))])
                    refine ows_retN X201 hS199 (by rw [e201]; exact hk199) hx (t := .boolean) Bd.returns (by simp) hlk (hb hby at_259) ?_ (by decide) (by decide)
                    exact ⟨rfl, N201⟩
                  · have hc236 : ¬ (((p0.toUInt32 >>> ((2 : Int32) &&& 31).toUInt32).toInt32) &&& (1 : Int32)) = (0 : Int32) := own_eq0 hc
                    clear hc
                    show ows_R p e below s _ _ _ T197 (mkF m 239 #[.val (.int p0), .val (.int p1), .val (.int p2), .val (.int (3 : Int32)), .val (.int (2 : Int32)), .val (.ref b192), .val (.ref b196)] [])
                    refine ows_aload X197 hx (hb hby at_239) rfl rfl ?_
                    show ows_R p e below s _ _ _ T197 (mkF m 241 #[.val (.int p0), .val (.int p1), .val (.int p2), .val (.int (3 : Int32)), .val (.int (2 : Int32)), .val (.ref b192), .val (.ref b196)] [(.ref b196)])
                    have f202 := ((V_b192_195.ext E196).keep Kc197 (ninS ne_b192_b196 nin0))
                    refine ows_callVS X197 hx hZ0 (y := (⟨"com/example/authwright/authwright/engine/MessageReader", "skipString", "()V"⟩ : MethodName)) (z := (⟨"com/example/authwright/authwright/engine/MessageReader", "skipString", "()V"⟩ : MethodName)) hown0 hS0 hk197 (hw _ (List.mem_of_getElem? (i := 35) rfl)) (hw _ (List.mem_of_getElem? (i := 36) rfl)) (notFace_of_selects (args := #[]) (mvT hZ0 (hw _ (List.mem_of_getElem? (i := 38) rfl)))) (hw _ (List.mem_of_getElem? (i := 38) rfl)) (hw _ (List.mem_of_getElem? (i := 37) rfl)) (hw _ (List.mem_of_getElem? (i := 2) rfl)) (hw _ (List.mem_of_getElem? (i := 39) rfl)) (by decide) (rm6 l Z a0 hw [] b196 b192 k192 (6 : Int32) [(.int (0 : Int32)), (.int (0 : Int32)), (.int (0 : Int32)), (.int (2 : Int32)), (.int (p1.toInt8.toInt32)), (.int (((p1.toUInt32 >>> ((8 : Int32) &&& 31).toUInt32).toInt32).toInt8.toInt32))] (.int (0 : Int32)) (0 : Int32) (0 : Int32) (0 : Int32) (2 : Int32) (2 : Int32) T197.heap n0 (Nat.le_trans Z0 K197.1) Fm197 Fp197 f202 Ec197 n0_b196 (Ne.symm ne_b192_b196) (by decide) rfl (by decide) rfl (by decide) rfl (by decide) rfl (by decide) (by decide) (by decide)) 0 (by decide) (by decide) rfl (by rw [hml]; rfl) b196 Ec197 [] [] rfl (lenOf pd_7 rfl) rfl (Nat.le_of_eq rfl) (hb hby at_241) (by decide) (by decide) ?_
                    rintro T203 _ L203 X203 hS203 hZ203 hown203 ⟨rfl, N203q, Kc203, Ec203, Fm203, Fp203⟩
                    have N203 := Fr.app N197 N203q
                    have hk203 := Nat.le_refl T203.heap.size
                    have K203 := K197.trans Kc203 (allS (P := fun x => x ∈ ([] : List Addr) ∨ h0.size ≤ x) (Or.inr sz_b196) all0)
                    show ows_R p e below s _ _ _ T203 (mkF m 244 #[.val (.int p0), .val (.int p1), .val (.int p2), .val (.int (3 : Int32)), .val (.int (2 : Int32)), .val (.ref b192), .val (.ref b196)] [])
                    have Fq203 : Fld Z T203.heap b196 "com/example/authwright/authwright/engine/MessageReader" "position" "I" (.int (6 : Int32)) := Fp203
                    refine ows_goto X203 hx (hb hby at_244) (pc' := 253) (by decide) (by decide) ?_
                    show ows_R p e below s _ _ _ T203 (mkF m 253 #[.val (.int p0), .val (.int p1), .val (.int p2), .val (.int (3 : Int32)), .val (.int (2 : Int32)), .val (.ref b192), .val (.ref b196)] [])
                    refine ows_aload X203 hx (hb hby at_253) rfl rfl ?_
                    show ows_R p e below s _ _ _ T203 (mkF m 255 #[.val (.int p0), .val (.int p1), .val (.int p2), .val (.int (3 : Int32)), .val (.int (2 : Int32)), .val (.ref b192), .val (.ref b196)] [(.ref b196)])
                    have f204 := (f202.keep Kc203 (ninS ne_b192_b196 nin0))
                    refine ows_callV X203 hx hZ203 (y := (⟨"com/example/authwright/authwright/engine/MessageReader", "expectEnd", "()V"⟩ : MethodName)) (z := (⟨"com/example/authwright/authwright/engine/MessageReader", "expectEnd", "()V"⟩ : MethodName)) hown203 (hw _ (List.mem_of_getElem? (i := 12) rfl)) (hw _ (List.mem_of_getElem? (i := 13) rfl)) (notFace_of_selects (args := #[]) (mvT hZ203 (hw _ (List.mem_of_getElem? (i := 15) rfl)))) (hw _ (List.mem_of_getElem? (i := 15) rfl)) (hw _ (List.mem_of_getElem? (i := 14) rfl)) (hw _ (List.mem_of_getElem? (i := 2) rfl)) (hw _ (List.mem_of_getElem? (i := 16) rfl)) (by decide) (rm3 l Z a0 hw [] b196 b192 k192 (6 : Int32) [(.int (0 : Int32)), (.int (0 : Int32)), (.int (0 : Int32)), (.int (2 : Int32)), (.int (p1.toInt8.toInt32)), (.int (((p1.toUInt32 >>> ((8 : Int32) &&& 31).toUInt32).toInt32).toInt8.toInt32))] (.int (0 : Int32)) T203.heap n0 (Nat.le_trans Z0 K203.1) Fm203 Fq203 f204) 0 (by decide) (by decide) rfl (by rw [hml]; rfl) b196 Ec203 [] [] rfl (lenOf pd_7 rfl) rfl (Nat.le_of_eq rfl) (hb hby at_255) (by decide) (by decide) ?_
                    rintro T205 _ L205 X205 ⟨rfl, N205q, e205⟩
                    have N205 := Fr.app N203 N205q
                    show ows_R p e below s _ _ _ T205 (mkF m 258 #[.val (.int p0), .val (.int p1), .val (.int p2), .val (.int (3 : Int32)), .val (.int (2 : Int32)), .val (.ref b192), .val (.ref b196)] [])
                    refine ows_iconst X205 hx (1 : Int32) (hb hby at_258) rfl ?_
                    show ows_R p e below s _ _ _ T205 (mkF m 259 #[.val (.int p0), .val (.int p1), .val (.int p2), .val (.int (3 : Int32)), .val (.int (2 : Int32)), .val (.ref b192), .val (.ref b196)] [(.int (1 : Int32))])
                    refine ows_retN X205 hS203 (by rw [e205]; exact hk203) hx (t := .boolean) Bd.returns (by simp) hlk (hb hby at_259) ?_ (by decide) (by decide)
                    exact ⟨rfl, N205⟩
                · have hc207 : (2 : Int32) < (2 : Int32) := own_le0 hc
                  exact absurd hc207 (by decide)
          ·
            show ows_R p e below s _ _ _ s₁ (mkF m 163 #[.val (.int p0), .val (.int p1), .val (.int p2), .val (.int (3 : Int32)), .val (.int (3 : Int32)), .unset, .unset] [])
            refine ows_iconst X0 hx (4 : Int32) (hb hby at_163) rfl ?_
            show ows_R p e below s _ _ _ s₁ (mkF m 164 #[.val (.int p0), .val (.int p1), .val (.int p2), .val (.int (3 : Int32)), .val (.int (3 : Int32)), .unset, .unset] [(.int (4 : Int32))])
            refine ows_iload X0 hx (hb hby at_164) rfl ?_
            show ows_R p e below s _ _ _ s₁ (mkF m 166 #[.val (.int p0), .val (.int p1), .val (.int p2), .val (.int (3 : Int32)), .val (.int (3 : Int32)), .unset, .unset] [(.int (3 : Int32)), (.int (4 : Int32))])
            refine ows_iadd X0 hx (hb hby at_166) ?_
            show ows_R p e below s _ _ _ s₁ (mkF m 167 #[.val (.int p0), .val (.int p1), .val (.int p2), .val (.int (3 : Int32)), .val (.int (3 : Int32)), .unset, .unset] [(.int (7 : Int32))])
            refine ows_newA X0 hx hZ0 (hw _ (List.mem_of_getElem? (i := 3) rfl)) e0 (hb hby at_167) (by decide) 7 (by decide) (by decide) (by decide) (by decide) (ad := "[B") (by decide) 7 ?_
            intro T206 h206 b206 k206 g206 X206 e206 E206 V206 A206
            have sz_b206 : h0.size ≤ b206 := Nat.le_trans K0.1 (Nat.le_of_eq g206.symm)
            have n0_b206 : n0 ≤ b206 := Nat.le_trans Z0 sz_b206
            have hk206 := Nat.le_trans hk0 E206.1
            have K206 := K0.ext E206
            have V_b206 : Arv Z h206 b206 k206 .byte (7 : Int32) [(.int (0 : Int32)), (.int (0 : Int32)), (.int (0 : Int32)), (.int (0 : Int32)), (.int (0 : Int32)), (.int (0 : Int32)), (.int (0 : Int32))] (.int (0 : Int32)) := V206
            show ows_R p e below s _ _ _ T206 (mkF m 169 #[.val (.int p0), .val (.int p1), .val (.int p2), .val (.int (3 : Int32)), .val (.int (3 : Int32)), .unset, .unset] [(.ref b206)])
            refine ows_astore X206 hx (hb hby at_169) rfl (l' := #[.val (.int p0), .val (.int p1), .val (.int p2), .val (.int (3 : Int32)), .val (.int (3 : Int32)), .val (.ref b206), .unset]) rfl ?_
            show ows_R p e below s _ _ _ T206 (mkF m 171 #[.val (.int p0), .val (.int p1), .val (.int p2), .val (.int (3 : Int32)), .val (.int (3 : Int32)), .val (.ref b206), .unset] [])
            refine ows_aload X206 hx (hb hby at_171) rfl rfl ?_
            show ows_R p e below s _ _ _ T206 (mkF m 173 #[.val (.int p0), .val (.int p1), .val (.int p2), .val (.int (3 : Int32)), .val (.int (3 : Int32)), .val (.ref b206), .unset] [(.ref b206)])
            refine ows_iconst X206 hx (3 : Int32) (hb hby at_173) rfl ?_
            show ows_R p e below s _ _ _ T206 (mkF m 174 #[.val (.int p0), .val (.int p1), .val (.int p2), .val (.int (3 : Int32)), .val (.int (3 : Int32)), .val (.ref b206), .unset] [(.int (3 : Int32)), (.ref b206)])
            refine ows_iload X206 hx (hb hby at_174) rfl ?_
            show ows_R p e below s _ _ _ T206 (mkF m 176 #[.val (.int p0), .val (.int p1), .val (.int p2), .val (.int (3 : Int32)), .val (.int (3 : Int32)), .val (.ref b206), .unset] [(.int (3 : Int32)), (.int (3 : Int32)), (.ref b206)])
            refine ows_i2b X206 hx (hb hby at_176) ?_
            show ows_R p e below s _ _ _ T206 (mkF m 177 #[.val (.int p0), .val (.int p1), .val (.int p2), .val (.int (3 : Int32)), .val (.int (3 : Int32)), .val (.ref b206), .unset] [(.int ((3 : Int32).toInt8.toInt32)), (.int (3 : Int32)), (.ref b206)])
            refine ows_bastore X206 hx hZ0 e206 V_b206 (x' := (3 : Int32)) (by decide) ⟨by decide, by decide⟩ 3 rfl (Nat.le_of_ble_eq_true rfl) (hb hby at_177) ?_
            intro T207 h207 X207 e207 W207 V207
            have hk207 := Nat.le_trans hk206 (Keep.of_wr W207).1
            have K207 := K206.wr W207 (Or.inr sz_b206)
            have N207 := Fr.snoc X207 N0 n0_b206
            have V_b206_207 : Arv Z h207 b206 k206 .byte (7 : Int32) [(.int (0 : Int32)), (.int (0 : Int32)), (.int (0 : Int32)), (.int (3 : Int32)), (.int (0 : Int32)), (.int (0 : Int32)), (.int (0 : Int32))] (.int (0 : Int32)) := V207
            show ows_R p e below s _ _ _ T207 (mkF m 178 #[.val (.int p0), .val (.int p1), .val (.int p2), .val (.int (3 : Int32)), .val (.int (3 : Int32)), .val (.ref b206), .unset] [])
            refine ows_iload X207 hx (hb hby at_178) rfl ?_
            show ows_R p e below s _ _ _ T207 (mkF m 180 #[.val (.int p0), .val (.int p1), .val (.int p2), .val (.int (3 : Int32)), .val (.int (3 : Int32)), .val (.ref b206), .unset] [(.int (3 : Int32))])
            refine ows_if X207 hx (hb hby at_180) (pc' := 189) (by decide) (by decide) (fun hc => ?_) (fun hc => ?_)
            · have hc180 : ¬ (0 : Int32) < (3 : Int32) := own_le1 hc
              exact absurd (by decide) hc180
            · have hc180 : (0 : Int32) < (3 : Int32) := own_le0 hc
              clear hc
              show ows_R p e below s _ _ _ T207 (mkF m 183 #[.val (.int p0), .val (.int p1), .val (.int p2), .val (.int (3 : Int32)), .val (.int (3 : Int32)), .val (.ref b206), .unset] [])
              refine ows_aload X207 hx (hb hby at_183) rfl rfl ?_
              show ows_R p e below s _ _ _ T207 (mkF m 185 #[.val (.int p0), .val (.int p1), .val (.int p2), .val (.int (3 : Int32)), .val (.int (3 : Int32)), .val (.ref b206), .unset] [(.ref b206)])
              refine ows_iconst X207 hx (4 : Int32) (hb hby at_185) rfl ?_
              show ows_R p e below s _ _ _ T207 (mkF m 186 #[.val (.int p0), .val (.int p1), .val (.int p2), .val (.int (3 : Int32)), .val (.int (3 : Int32)), .val (.ref b206), .unset] [(.int (4 : Int32)), (.ref b206)])
              refine ows_iloadN X207 hx (hb hby at_186) rfl ?_
              show ows_R p e below s _ _ _ T207 (mkF m 187 #[.val (.int p0), .val (.int p1), .val (.int p2), .val (.int (3 : Int32)), .val (.int (3 : Int32)), .val (.ref b206), .unset] [(.int p1), (.int (4 : Int32)), (.ref b206)])
              refine ows_i2b X207 hx (hb hby at_187) ?_
              show ows_R p e below s _ _ _ T207 (mkF m 188 #[.val (.int p0), .val (.int p1), .val (.int p2), .val (.int (3 : Int32)), .val (.int (3 : Int32)), .val (.ref b206), .unset] [(.int (p1.toInt8.toInt32)), (.int (4 : Int32)), (.ref b206)])
              refine ows_bastore X207 hx hZ0 e207 V_b206_207 (x' := (p1.toInt8.toInt32)) (pl_nb _) ⟨by decide, by decide⟩ 4 rfl (Nat.le_of_ble_eq_true rfl) (hb hby at_188) ?_
              intro T208 h208 X208 e208 W208 V208
              have hk208 := Nat.le_trans hk207 (Keep.of_wr W208).1
              have K208 := K207.wr W208 (Or.inr sz_b206)
              have N208 := Fr.snoc X208 N207 n0_b206
              have V_b206_208 : Arv Z h208 b206 k206 .byte (7 : Int32) [(.int (0 : Int32)), (.int (0 : Int32)), (.int (0 : Int32)), (.int (3 : Int32)), (.int (p1.toInt8.toInt32)), (.int (0 : Int32)), (.int (0 : Int32))] (.int (0 : Int32)) := V208
              show ows_R p e below s _ _ _ T208 (mkF m 189 #[.val (.int p0), .val (.int p1), .val (.int p2), .val (.int (3 : Int32)), .val (.int (3 : Int32)), .val (.ref b206), .unset] [])
              refine ows_iload X208 hx (hb hby at_189) rfl ?_
              show ows_R p e below s _ _ _ T208 (mkF m 191 #[.val (.int p0), .val (.int p1), .val (.int p2), .val (.int (3 : Int32)), .val (.int (3 : Int32)), .val (.ref b206), .unset] [(.int (3 : Int32))])
              refine ows_iconst X208 hx (1 : Int32) (hb hby at_191) rfl ?_
              show ows_R p e below s _ _ _ T208 (mkF m 192 #[.val (.int p0), .val (.int p1), .val (.int p2), .val (.int (3 : Int32)), .val (.int (3 : Int32)), .val (.ref b206), .unset] [(.int (1 : Int32)), (.int (3 : Int32))])
              refine ows_icmp X208 hx (hb hby at_192) (pc' := 204) (by decide) (by decide) (fun hc => ?_) (fun hc => ?_)
              · have hc192 : ¬ (1 : Int32) < (3 : Int32) := own_le1 hc
                exact absurd (by decide) hc192
              · have hc192 : (1 : Int32) < (3 : Int32) := own_le0 hc
                clear hc
                show ows_R p e below s _ _ _ T208 (mkF m 195 #[.val (.int p0), .val (.int p1), .val (.int p2), .val (.int (3 : Int32)), .val (.int (3 : Int32)), .val (.ref b206), .unset] [])
                refine ows_aload X208 hx (hb hby at_195) rfl rfl ?_
                show ows_R p e below s _ _ _ T208 (mkF m 197 #[.val (.int p0), .val (.int p1), .val (.int p2), .val (.int (3 : Int32)), .val (.int (3 : Int32)), .val (.ref b206), .unset] [(.ref b206)])
                refine ows_iconst X208 hx (5 : Int32) (hb hby at_197) rfl ?_
                show ows_R p e below s _ _ _ T208 (mkF m 198 #[.val (.int p0), .val (.int p1), .val (.int p2), .val (.int (3 : Int32)), .val (.int (3 : Int32)), .val (.ref b206), .unset] [(.int (5 : Int32)), (.ref b206)])
                refine ows_iloadN X208 hx (hb hby at_198) rfl ?_
                show ows_R p e below s _ _ _ T208 (mkF m 199 #[.val (.int p0), .val (.int p1), .val (.int p2), .val (.int (3 : Int32)), .val (.int (3 : Int32)), .val (.ref b206), .unset] [(.int p1), (.int (5 : Int32)), (.ref b206)])
                refine ows_bipush X208 hx (8 : Int32) (hb hby at_199) rfl ?_
                show ows_R p e below s _ _ _ T208 (mkF m 201 #[.val (.int p0), .val (.int p1), .val (.int p2), .val (.int (3 : Int32)), .val (.int (3 : Int32)), .val (.ref b206), .unset] [(.int (8 : Int32)), (.int p1), (.int (5 : Int32)), (.ref b206)])
                refine ows_iushr X208 hx (hb hby at_201) ?_
                show ows_R p e below s _ _ _ T208 (mkF m 202 #[.val (.int p0), .val (.int p1), .val (.int p2), .val (.int (3 : Int32)), .val (.int (3 : Int32)), .val (.ref b206), .unset] [(.int ((p1.toUInt32 >>> ((8 : Int32) &&& 31).toUInt32).toInt32)), (.int (5 : Int32)), (.ref b206)])
                refine ows_i2b X208 hx (hb hby at_202) ?_
                show ows_R p e below s _ _ _ T208 (mkF m 203 #[.val (.int p0), .val (.int p1), .val (.int p2), .val (.int (3 : Int32)), .val (.int (3 : Int32)), .val (.ref b206), .unset] [(.int (((p1.toUInt32 >>> ((8 : Int32) &&& 31).toUInt32).toInt32).toInt8.toInt32)), (.int (5 : Int32)), (.ref b206)])
                refine ows_bastore X208 hx hZ0 e208 V_b206_208 (x' := (((p1.toUInt32 >>> ((8 : Int32) &&& 31).toUInt32).toInt32).toInt8.toInt32)) (pl_nb _) ⟨by decide, by decide⟩ 5 rfl (Nat.le_of_ble_eq_true rfl) (hb hby at_203) ?_
                intro T209 h209 X209 e209 W209 V209
                have hk209 := Nat.le_trans hk208 (Keep.of_wr W209).1
                have K209 := K208.wr W209 (Or.inr sz_b206)
                have N209 := Fr.snoc X209 N208 n0_b206
                have V_b206_209 : Arv Z h209 b206 k206 .byte (7 : Int32) [(.int (0 : Int32)), (.int (0 : Int32)), (.int (0 : Int32)), (.int (3 : Int32)), (.int (p1.toInt8.toInt32)), (.int (((p1.toUInt32 >>> ((8 : Int32) &&& 31).toUInt32).toInt32).toInt8.toInt32)), (.int (0 : Int32))] (.int (0 : Int32)) := V209
                show ows_R p e below s _ _ _ T209 (mkF m 204 #[.val (.int p0), .val (.int p1), .val (.int p2), .val (.int (3 : Int32)), .val (.int (3 : Int32)), .val (.ref b206), .unset] [])
                refine ows_iload X209 hx (hb hby at_204) rfl ?_
                show ows_R p e below s _ _ _ T209 (mkF m 206 #[.val (.int p0), .val (.int p1), .val (.int p2), .val (.int (3 : Int32)), .val (.int (3 : Int32)), .val (.ref b206), .unset] [(.int (3 : Int32))])
                refine ows_iconst X209 hx (2 : Int32) (hb hby at_206) rfl ?_
                show ows_R p e below s _ _ _ T209 (mkF m 207 #[.val (.int p0), .val (.int p1), .val (.int p2), .val (.int (3 : Int32)), .val (.int (3 : Int32)), .val (.ref b206), .unset] [(.int (2 : Int32)), (.int (3 : Int32))])
                refine ows_icmp X209 hx (hb hby at_207) (pc' := 220) (by decide) (by decide) (fun hc => ?_) (fun hc => ?_)
                · have hc207 : ¬ (2 : Int32) < (3 : Int32) := own_le1 hc
                  exact absurd (by decide) hc207
                · have hc207 : (2 : Int32) < (3 : Int32) := own_le0 hc
                  clear hc
                  show ows_R p e below s _ _ _ T209 (mkF m 210 #[.val (.int p0), .val (.int p1), .val (.int p2), .val (.int (3 : Int32)), .val (.int (3 : Int32)), .val (.ref b206), .unset] [])
                  refine ows_aload X209 hx (hb hby at_210) rfl rfl ?_
                  show ows_R p e below s _ _ _ T209 (mkF m 212 #[.val (.int p0), .val (.int p1), .val (.int p2), .val (.int (3 : Int32)), .val (.int (3 : Int32)), .val (.ref b206), .unset] [(.ref b206)])
                  refine ows_bipush X209 hx (6 : Int32) (hb hby at_212) rfl ?_
                  show ows_R p e below s _ _ _ T209 (mkF m 214 #[.val (.int p0), .val (.int p1), .val (.int p2), .val (.int (3 : Int32)), .val (.int (3 : Int32)), .val (.ref b206), .unset] [(.int (6 : Int32)), (.ref b206)])
                  refine ows_iloadN X209 hx (hb hby at_214) rfl ?_
                  show ows_R p e below s _ _ _ T209 (mkF m 215 #[.val (.int p0), .val (.int p1), .val (.int p2), .val (.int (3 : Int32)), .val (.int (3 : Int32)), .val (.ref b206), .unset] [(.int p1), (.int (6 : Int32)), (.ref b206)])
                  refine ows_bipush X209 hx (16 : Int32) (hb hby at_215) rfl ?_
                  show ows_R p e below s _ _ _ T209 (mkF m 217 #[.val (.int p0), .val (.int p1), .val (.int p2), .val (.int (3 : Int32)), .val (.int (3 : Int32)), .val (.ref b206), .unset] [(.int (16 : Int32)), (.int p1), (.int (6 : Int32)), (.ref b206)])
                  refine ows_iushr X209 hx (hb hby at_217) ?_
                  show ows_R p e below s _ _ _ T209 (mkF m 218 #[.val (.int p0), .val (.int p1), .val (.int p2), .val (.int (3 : Int32)), .val (.int (3 : Int32)), .val (.ref b206), .unset] [(.int ((p1.toUInt32 >>> ((16 : Int32) &&& 31).toUInt32).toInt32)), (.int (6 : Int32)), (.ref b206)])
                  refine ows_i2b X209 hx (hb hby at_218) ?_
                  show ows_R p e below s _ _ _ T209 (mkF m 219 #[.val (.int p0), .val (.int p1), .val (.int p2), .val (.int (3 : Int32)), .val (.int (3 : Int32)), .val (.ref b206), .unset] [(.int (((p1.toUInt32 >>> ((16 : Int32) &&& 31).toUInt32).toInt32).toInt8.toInt32)), (.int (6 : Int32)), (.ref b206)])
                  refine ows_bastore X209 hx hZ0 e209 V_b206_209 (x' := (((p1.toUInt32 >>> ((16 : Int32) &&& 31).toUInt32).toInt32).toInt8.toInt32)) (pl_nb _) ⟨by decide, by decide⟩ 6 rfl (Nat.le_of_ble_eq_true rfl) (hb hby at_219) ?_
                  intro T210 h210 X210 e210 W210 V210
                  have hk210 := Nat.le_trans hk209 (Keep.of_wr W210).1
                  have K210 := K209.wr W210 (Or.inr sz_b206)
                  have N210 := Fr.snoc X210 N209 n0_b206
                  have V_b206_210 : Arv Z h210 b206 k206 .byte (7 : Int32) [(.int (0 : Int32)), (.int (0 : Int32)), (.int (0 : Int32)), (.int (3 : Int32)), (.int (p1.toInt8.toInt32)), (.int (((p1.toUInt32 >>> ((8 : Int32) &&& 31).toUInt32).toInt32).toInt8.toInt32)), (.int (((p1.toUInt32 >>> ((16 : Int32) &&& 31).toUInt32).toInt32).toInt8.toInt32))] (.int (0 : Int32)) := V210
                  show ows_R p e below s _ _ _ T210 (mkF m 220 #[.val (.int p0), .val (.int p1), .val (.int p2), .val (.int (3 : Int32)), .val (.int (3 : Int32)), .val (.ref b206), .unset] [])
                  refine ows_new X210 hx hZ0 hown0 (hw _ (List.mem_of_getElem? (i := 0) rfl)) (hw _ (List.mem_of_getElem? (i := 1) rfl)) (hw _ (List.mem_of_getElem? (i := 2) rfl)) e210 (hb hby at_220) (by decide) (by decide) ?_
                  intro T211 h211 b211 g211 X211 e211 E211 A211 D211
                  have ne_b206_b211 : b206 ≠ b211 := Nat.ne_of_lt (Nat.lt_of_lt_of_le V_b206_210.lt (Nat.le_of_eq g211.symm))
                  have sz_b211 : h0.size ≤ b211 := Nat.le_trans K210.1 (Nat.le_of_eq g211.symm)
                  have n0_b211 : n0 ≤ b211 := Nat.le_trans Z0 sz_b211
                  have hk211 := Nat.le_trans hk210 E211.1
                  have K211 := K210.ext E211
                  have F_message_b211 : Fld Z h211 b211 "com/example/authwright/authwright/engine/MessageReader" "message" "[B" .null := D211 (Or.inr (hw _ (List.mem_of_getElem? (i := 11) rfl))) (ty := (.array .byte)) (by decide)
                  have F_position_b211 : Fld Z h211 b211 "com/example/authwright/authwright/engine/MessageReader" "position" "I" (.int (0 : Int32)) := D211 (Or.inl (hw _ (List.mem_of_getElem? (i := 18) rfl))) (ty := .int) (by decide)
                  show ows_R p e below s _ _ _ T211 (mkF m 223 #[.val (.int p0), .val (.int p1), .val (.int p2), .val (.int (3 : Int32)), .val (.int (3 : Int32)), .val (.ref b206), .unset] [(.ref b211)])
                  refine ows_dup X211 hx (hb hby at_223) rfl ?_
                  show ows_R p e below s _ _ _ T211 (mkF m 224 #[.val (.int p0), .val (.int p1), .val (.int p2), .val (.int (3 : Int32)), .val (.int (3 : Int32)), .val (.ref b206), .unset] [(.ref b211), (.ref b211)])
                  refine ows_aload X211 hx (hb hby at_224) rfl rfl ?_
                  show ows_R p e below s _ _ _ T211 (mkF m 226 #[.val (.int p0), .val (.int p1), .val (.int p2), .val (.int (3 : Int32)), .val (.int (3 : Int32)), .val (.ref b206), .unset] [(.ref b206), (.ref b211), (.ref b211)])
                  refine ows_callI X211 hx hZ0 (y := (⟨"com/example/authwright/authwright/engine/MessageReader", "<init>", "([B)V"⟩ : MethodName)) rfl hown0 (hw _ (List.mem_of_getElem? (i := 4) rfl)) (hw _ (List.mem_of_getElem? (i := 5) rfl)) (hw _ (List.mem_of_getElem? (i := 2) rfl)) (hw _ (List.mem_of_getElem? (i := 6) rfl)) (by decide) (rm1 l Z a0 hw [] b211 b206 h211 n0 (Nat.le_trans Z0 K211.1) A211 n0_b211 F_message_b211 F_position_b211) 1 (by decide) (by decide) e211 (by rw [hml]; rfl) b211 [(.ref b206)] [(.ref b211)] rfl (lenOf pd_6 rfl) rfl (Nat.le_of_eq rfl) (hb hby at_226) (by decide) (by decide) ?_
                  rintro T212 _ L212 X212 ⟨rfl, N212q, Kc212, Ec212, Fm212, Fp212⟩
                  have N212 := Fr.app N210 N212q
                  have hk212 := Nat.le_trans hk211 Kc212.1
                  have K212 := K211.trans Kc212 (allS (P := fun x => x ∈ ([] : List Addr) ∨ h0.size ≤ x) (Or.inr sz_b211) all0)
                  show ows_R p e below s _ _ _ T212 (mkF m 229 #[.val (.int p0), .val (.int p1), .val (.int p2), .val (.int (3 : Int32)), .val (.int (3 : Int32)), .val (.ref b206), .unset] [(.ref b211)])
                  refine ows_astore X212 hx (hb hby at_229) rfl (l' := #[.val (.int p0), .val (.int p1), .val (.int p2), .val (.int (3 : Int32)), .val (.int (3 : Int32)), .val (.ref b206), .val (.ref b211)]) rfl ?_
                  show ows_R p e below s _ _ _ T212 (mkF m 231 #[.val (.int p0), .val (.int p1), .val (.int p2), .val (.int (3 : Int32)), .val (.int (3 : Int32)), .val (.ref b206), .val (.ref b211)] [])
                  refine ows_iloadN X212 hx (hb hby at_231) rfl ?_
                  show ows_R p e below s _ _ _ T212 (mkF m 232 #[.val (.int p0), .val (.int p1), .val (.int p2), .val (.int (3 : Int32)), .val (.int (3 : Int32)), .val (.ref b206), .val (.ref b211)] [(.int p0)])
                  refine ows_iconst X212 hx (2 : Int32) (hb hby at_232) rfl ?_
                  show ows_R p e below s _ _ _ T212 (mkF m 233 #[.val (.int p0), .val (.int p1), .val (.int p2), .val (.int (3 : Int32)), .val (.int (3 : Int32)), .val (.ref b206), .val (.ref b211)] [(.int (2 : Int32)), (.int p0)])
                  refine ows_iushr X212 hx (hb hby at_233) ?_
                  show ows_R p e below s _ _ _ T212 (mkF m 234 #[.val (.int p0), .val (.int p1), .val (.int p2), .val (.int (3 : Int32)), .val (.int (3 : Int32)), .val (.ref b206), .val (.ref b211)] [(.int ((p0.toUInt32 >>> ((2 : Int32) &&& 31).toUInt32).toInt32))])
                  refine ows_iconst X212 hx (1 : Int32) (hb hby at_234) rfl ?_
                  show ows_R p e below s _ _ _ T212 (mkF m 235 #[.val (.int p0), .val (.int p1), .val (.int p2), .val (.int (3 : Int32)), .val (.int (3 : Int32)), .val (.ref b206), .val (.ref b211)] [(.int (1 : Int32)), (.int ((p0.toUInt32 >>> ((2 : Int32) &&& 31).toUInt32).toInt32))])
                  refine ows_iand X212 hx (hb hby at_235) ?_
                  show ows_R p e below s _ _ _ T212 (mkF m 236 #[.val (.int p0), .val (.int p1), .val (.int p2), .val (.int (3 : Int32)), .val (.int (3 : Int32)), .val (.ref b206), .val (.ref b211)] [(.int (((p0.toUInt32 >>> ((2 : Int32) &&& 31).toUInt32).toInt32) &&& (1 : Int32)))])
                  refine ows_if X212 hx (hb hby at_236) (pc' := 247) (by decide) (by decide) (fun hc => ?_) (fun hc => ?_)
                  · have hc236 : (((p0.toUInt32 >>> ((2 : Int32) &&& 31).toUInt32).toInt32) &&& (1 : Int32)) = (0 : Int32) := own_eq1 hc
                    clear hc
                    show ows_R p e below s _ _ _ T212 (mkF m 247 #[.val (.int p0), .val (.int p1), .val (.int p2), .val (.int (3 : Int32)), .val (.int (3 : Int32)), .val (.ref b206), .val (.ref b211)] [])
                    refine ows_aload X212 hx (hb hby at_247) rfl rfl ?_
                    show ows_R p e below s _ _ _ T212 (mkF m 249 #[.val (.int p0), .val (.int p1), .val (.int p2), .val (.int (3 : Int32)), .val (.int (3 : Int32)), .val (.ref b206), .val (.ref b211)] [(.ref b211)])
                    have f213 := ((V_b206_210.ext E211).keep Kc212 (ninS ne_b206_b211 nin0))
                    refine ows_callVS X212 hx hZ0 (y := (⟨"com/example/authwright/authwright/engine/MessageReader", "readString", "()[B"⟩ : MethodName)) (z := (⟨"com/example/authwright/authwright/engine/MessageReader", "readString", "()[B"⟩ : MethodName)) hown0 hS0 hk212 (hw _ (List.mem_of_getElem? (i := 51) rfl)) (hw _ (List.mem_of_getElem? (i := 52) rfl)) (notFace_of_selects (args := #[]) (mvT hZ0 (hw _ (List.mem_of_getElem? (i := 54) rfl)))) (hw _ (List.mem_of_getElem? (i := 54) rfl)) (hw _ (List.mem_of_getElem? (i := 53) rfl)) (hw _ (List.mem_of_getElem? (i := 2) rfl)) (hw _ (List.mem_of_getElem? (i := 55) rfl)) (by decide) (rm9_3 l Z a0 hw [] b211 b206 k206 [(.int (0 : Int32)), (.int (0 : Int32)), (.int (0 : Int32)), (.int (3 : Int32)), (.int (p1.toInt8.toInt32)), (.int (((p1.toUInt32 >>> ((8 : Int32) &&& 31).toUInt32).toInt32).toInt8.toInt32)), (.int (((p1.toUInt32 >>> ((16 : Int32) &&& 31).toUInt32).toInt32).toInt8.toInt32))] (.int (0 : Int32)) (0 : Int32) (0 : Int32) (0 : Int32) (3 : Int32) T212.heap n0 (Nat.le_trans Z0 K212.1) Fm212 Fp212 f213 Ec212 n0_b211 (Ne.symm ne_b206_b211) (by decide) rfl (by decide) rfl (by decide) rfl (by decide) rfl (by decide) (by decide) (by decide)) 0 (by decide) (by decide) rfl (by rw [hml]; rfl) b211 Ec212 [] [] rfl (lenOf pd_9 rfl) rfl (Nat.le_of_eq rfl) (hb hby at_249) (by decide) (by decide) ?_
                    rintro T214 _ L214 X214 hS214 hZ214 hown214 ⟨rs214, rfl, N214q, Kc214, Ec214, Fm214, Fp214⟩
                    have N214 := Fr.app N212 N214q
                    have hk214 := Nat.le_refl T214.heap.size
                    have K214 := K212.trans Kc214 (allS (P := fun x => x ∈ ([] : List Addr) ∨ h0.size ≤ x) (Or.inr sz_b211) all0)
                    show ows_R p e below s _ _ _ T214 (mkF m 252 #[.val (.int p0), .val (.int p1), .val (.int p2), .val (.int (3 : Int32)), .val (.int (3 : Int32)), .val (.ref b206), .val (.ref b211)] [(.ref rs214)])
                    have Fq214 : Fld Z T214.heap b211 "com/example/authwright/authwright/engine/MessageReader" "position" "I" (.int (7 : Int32)) := Fp214
                    refine ows_pop X214 hx (hb hby at_252) rfl ?_
                    show ows_R p e below s _ _ _ T214 (mkF m 253 #[.val (.int p0), .val (.int p1), .val (.int p2), .val (.int (3 : Int32)), .val (.int (3 : Int32)), .val (.ref b206), .val (.ref b211)] [])
                    refine ows_aload X214 hx (hb hby at_253) rfl rfl ?_
                    show ows_R p e below s _ _ _ T214 (mkF m 255 #[.val (.int p0), .val (.int p1), .val (.int p2), .val (.int (3 : Int32)), .val (.int (3 : Int32)), .val (.ref b206), .val (.ref b211)] [(.ref b211)])
                    have f215 := (f213.keep Kc214 (ninS ne_b206_b211 nin0))
                    refine ows_callV X214 hx hZ214 (y := (⟨"com/example/authwright/authwright/engine/MessageReader", "expectEnd", "()V"⟩ : MethodName)) (z := (⟨"com/example/authwright/authwright/engine/MessageReader", "expectEnd", "()V"⟩ : MethodName)) hown214 (hw _ (List.mem_of_getElem? (i := 12) rfl)) (hw _ (List.mem_of_getElem? (i := 13) rfl)) (notFace_of_selects (args := #[]) (mvT hZ214 (hw _ (List.mem_of_getElem? (i := 15) rfl)))) (hw _ (List.mem_of_getElem? (i := 15) rfl)) (hw _ (List.mem_of_getElem? (i := 14) rfl)) (hw _ (List.mem_of_getElem? (i := 2) rfl)) (hw _ (List.mem_of_getElem? (i := 16) rfl)) (by decide) (rm3 l Z a0 hw [] b211 b206 k206 (7 : Int32) [(.int (0 : Int32)), (.int (0 : Int32)), (.int (0 : Int32)), (.int (3 : Int32)), (.int (p1.toInt8.toInt32)), (.int (((p1.toUInt32 >>> ((8 : Int32) &&& 31).toUInt32).toInt32).toInt8.toInt32)), (.int (((p1.toUInt32 >>> ((16 : Int32) &&& 31).toUInt32).toInt32).toInt8.toInt32))] (.int (0 : Int32)) T214.heap n0 (Nat.le_trans Z0 K214.1) Fm214 Fq214 f215) 0 (by decide) (by decide) rfl (by rw [hml]; rfl) b211 Ec214 [] [] rfl (lenOf pd_7 rfl) rfl (Nat.le_of_eq rfl) (hb hby at_255) (by decide) (by decide) ?_
                    rintro T216 _ L216 X216 ⟨rfl, N216q, e216⟩
                    have N216 := Fr.app N214 N216q
                    show ows_R p e below s _ _ _ T216 (mkF m 258 #[.val (.int p0), .val (.int p1), .val (.int p2), .val (.int (3 : Int32)), .val (.int (3 : Int32)), .val (.ref b206), .val (.ref b211)] [])
                    refine ows_iconst X216 hx (1 : Int32) (hb hby at_258) rfl ?_
                    show ows_R p e below s _ _ _ T216 (mkF m 259 #[.val (.int p0), .val (.int p1), .val (.int p2), .val (.int (3 : Int32)), .val (.int (3 : Int32)), .val (.ref b206), .val (.ref b211)] [(.int (1 : Int32))])
                    refine ows_retN X216 hS214 (by rw [e216]; exact hk214) hx (t := .boolean) Bd.returns (by simp) hlk (hb hby at_259) ?_ (by decide) (by decide)
                    exact ⟨rfl, N216⟩
                  · have hc236 : ¬ (((p0.toUInt32 >>> ((2 : Int32) &&& 31).toUInt32).toInt32) &&& (1 : Int32)) = (0 : Int32) := own_eq0 hc
                    clear hc
                    show ows_R p e below s _ _ _ T212 (mkF m 239 #[.val (.int p0), .val (.int p1), .val (.int p2), .val (.int (3 : Int32)), .val (.int (3 : Int32)), .val (.ref b206), .val (.ref b211)] [])
                    refine ows_aload X212 hx (hb hby at_239) rfl rfl ?_
                    show ows_R p e below s _ _ _ T212 (mkF m 241 #[.val (.int p0), .val (.int p1), .val (.int p2), .val (.int (3 : Int32)), .val (.int (3 : Int32)), .val (.ref b206), .val (.ref b211)] [(.ref b211)])
                    have f217 := ((V_b206_210.ext E211).keep Kc212 (ninS ne_b206_b211 nin0))
                    refine ows_callVS X212 hx hZ0 (y := (⟨"com/example/authwright/authwright/engine/MessageReader", "skipString", "()V"⟩ : MethodName)) (z := (⟨"com/example/authwright/authwright/engine/MessageReader", "skipString", "()V"⟩ : MethodName)) hown0 hS0 hk212 (hw _ (List.mem_of_getElem? (i := 35) rfl)) (hw _ (List.mem_of_getElem? (i := 36) rfl)) (notFace_of_selects (args := #[]) (mvT hZ0 (hw _ (List.mem_of_getElem? (i := 38) rfl)))) (hw _ (List.mem_of_getElem? (i := 38) rfl)) (hw _ (List.mem_of_getElem? (i := 37) rfl)) (hw _ (List.mem_of_getElem? (i := 2) rfl)) (hw _ (List.mem_of_getElem? (i := 39) rfl)) (by decide) (rm6 l Z a0 hw [] b211 b206 k206 (7 : Int32) [(.int (0 : Int32)), (.int (0 : Int32)), (.int (0 : Int32)), (.int (3 : Int32)), (.int (p1.toInt8.toInt32)), (.int (((p1.toUInt32 >>> ((8 : Int32) &&& 31).toUInt32).toInt32).toInt8.toInt32)), (.int (((p1.toUInt32 >>> ((16 : Int32) &&& 31).toUInt32).toInt32).toInt8.toInt32))] (.int (0 : Int32)) (0 : Int32) (0 : Int32) (0 : Int32) (3 : Int32) (3 : Int32) T212.heap n0 (Nat.le_trans Z0 K212.1) Fm212 Fp212 f217 Ec212 n0_b211 (Ne.symm ne_b206_b211) (by decide) rfl (by decide) rfl (by decide) rfl (by decide) rfl (by decide) (by decide) (by decide)) 0 (by decide) (by decide) rfl (by rw [hml]; rfl) b211 Ec212 [] [] rfl (lenOf pd_7 rfl) rfl (Nat.le_of_eq rfl) (hb hby at_241) (by decide) (by decide) ?_
                    rintro T218 _ L218 X218 hS218 hZ218 hown218 ⟨rfl, N218q, Kc218, Ec218, Fm218, Fp218⟩
                    have N218 := Fr.app N212 N218q
                    have hk218 := Nat.le_refl T218.heap.size
                    have K218 := K212.trans Kc218 (allS (P := fun x => x ∈ ([] : List Addr) ∨ h0.size ≤ x) (Or.inr sz_b211) all0)
                    show ows_R p e below s _ _ _ T218 (mkF m 244 #[.val (.int p0), .val (.int p1), .val (.int p2), .val (.int (3 : Int32)), .val (.int (3 : Int32)), .val (.ref b206), .val (.ref b211)] [])
                    have Fq218 : Fld Z T218.heap b211 "com/example/authwright/authwright/engine/MessageReader" "position" "I" (.int (7 : Int32)) := Fp218
                    refine ows_goto X218 hx (hb hby at_244) (pc' := 253) (by decide) (by decide) ?_
                    show ows_R p e below s _ _ _ T218 (mkF m 253 #[.val (.int p0), .val (.int p1), .val (.int p2), .val (.int (3 : Int32)), .val (.int (3 : Int32)), .val (.ref b206), .val (.ref b211)] [])
                    refine ows_aload X218 hx (hb hby at_253) rfl rfl ?_
                    show ows_R p e below s _ _ _ T218 (mkF m 255 #[.val (.int p0), .val (.int p1), .val (.int p2), .val (.int (3 : Int32)), .val (.int (3 : Int32)), .val (.ref b206), .val (.ref b211)] [(.ref b211)])
                    have f219 := (f217.keep Kc218 (ninS ne_b206_b211 nin0))
                    refine ows_callV X218 hx hZ218 (y := (⟨"com/example/authwright/authwright/engine/MessageReader", "expectEnd", "()V"⟩ : MethodName)) (z := (⟨"com/example/authwright/authwright/engine/MessageReader", "expectEnd", "()V"⟩ : MethodName)) hown218 (hw _ (List.mem_of_getElem? (i := 12) rfl)) (hw _ (List.mem_of_getElem? (i := 13) rfl)) (notFace_of_selects (args := #[]) (mvT hZ218 (hw _ (List.mem_of_getElem? (i := 15) rfl)))) (hw _ (List.mem_of_getElem? (i := 15) rfl)) (hw _ (List.mem_of_getElem? (i := 14) rfl)) (hw _ (List.mem_of_getElem? (i := 2) rfl)) (hw _ (List.mem_of_getElem? (i := 16) rfl)) (by decide) (rm3 l Z a0 hw [] b211 b206 k206 (7 : Int32) [(.int (0 : Int32)), (.int (0 : Int32)), (.int (0 : Int32)), (.int (3 : Int32)), (.int (p1.toInt8.toInt32)), (.int (((p1.toUInt32 >>> ((8 : Int32) &&& 31).toUInt32).toInt32).toInt8.toInt32)), (.int (((p1.toUInt32 >>> ((16 : Int32) &&& 31).toUInt32).toInt32).toInt8.toInt32))] (.int (0 : Int32)) T218.heap n0 (Nat.le_trans Z0 K218.1) Fm218 Fq218 f219) 0 (by decide) (by decide) rfl (by rw [hml]; rfl) b211 Ec218 [] [] rfl (lenOf pd_7 rfl) rfl (Nat.le_of_eq rfl) (hb hby at_255) (by decide) (by decide) ?_
                    rintro T220 _ L220 X220 ⟨rfl, N220q, e220⟩
                    have N220 := Fr.app N218 N220q
                    show ows_R p e below s _ _ _ T220 (mkF m 258 #[.val (.int p0), .val (.int p1), .val (.int p2), .val (.int (3 : Int32)), .val (.int (3 : Int32)), .val (.ref b206), .val (.ref b211)] [])
                    refine ows_iconst X220 hx (1 : Int32) (hb hby at_258) rfl ?_
                    show ows_R p e below s _ _ _ T220 (mkF m 259 #[.val (.int p0), .val (.int p1), .val (.int p2), .val (.int (3 : Int32)), .val (.int (3 : Int32)), .val (.ref b206), .val (.ref b211)] [(.int (1 : Int32))])
                    refine ows_retN X220 hS218 (by rw [e220]; exact hk218) hx (t := .boolean) Bd.returns (by simp) hlk (hb hby at_259) ?_ (by decide) (by decide)
                    exact ⟨rfl, N220⟩
        · have hc81 : (3 : Int32) = (2 : Int32) := own_ne0 hc
          exact absurd hc81 (by decide)
      · have hc29 : (3 : Int32) = (1 : Int32) := own_ne0 hc
        exact absurd hc29 (by decide)
    · have hc5 : (3 : Int32) = (0 : Int32) := own_ne0 hc
      exact absurd hc5 (by decide)
set_option maxRecDepth 65536 in
set_option maxHeartbeats 40000000 in
theorem comes_1 {Post : Tables → Env → Array Value → State → Outcome → State → Prop} (hpost : ∀ tb e args s v u, (limb_1_1.after args s (.returned v) u = true ∧ limb_1_2.after args s (.returned v) u = true) → ReturnedEndW s (.returned v) u (Jvm.fieldLocs frame_1_writes args s ++ Jvm.arrayLocs frame_1_arrays args s ++ Jvm.staticLocs frame_1_statics s) 24 2176 → Post tb e args s (.returned v) u) :
    ArmFor flags0 classFile x code maxLocals ret World_1 tables_1 room_1 Calls_1 rest_1 Pre_1 Post := by
  intro l hfl _ _ p e ha hc hk s m args below hf hA hF happ hP
  obtain ⟨hcalls, hrest, hpre⟩ := hP
  obtain ⟨-, -, -, hnamed, -, -, -, hat⟩ := (Spec.applies_iff hf).mp happ
  obtain ⟨hg, hn⟩ := and_e (Cond.before_iff.mp (show (Jvm.Cond.and given_1 narrow_1).before args s = true from hpre))
  obtain ⟨g1, g2⟩ := and_e hg
  obtain ⟨g3, g4⟩ := and_e g2
  obtain ⟨g5, g6⟩ := and_e g4
  obtain ⟨w0, w1, w2, rfl⟩ : ∃ w0 w1 w2 : Value, args = #[w0, w1, w2] := by
    have hs : args.size = 3 := by simpa [Cond.value, given_1] using g1
    obtain ⟨L⟩ := args
    match L, hs with
    | [w0, w1, w2], _ => exact ⟨w0, w1, w2, rfl⟩
  have hw := fun d (hd : d ∈ tables_1) => atoms_spec (ws := Jvm.Cond.code x code maxLocals ret :: tables_1) hat d (List.mem_cons_of_mem _ hd)
  obtain ⟨i0, ei0⟩ := is_v g3
  obtain rfl : w0 = (.int i0) := Option.some.inj ei0
  obtain ⟨i1, ei1⟩ := is_v g5
  obtain rfl : w1 = (.int i1) := Option.some.inj ei1
  obtain ⟨i2, ei2⟩ := is_v g6
  obtain rfl : w2 = (.int i2) := Option.some.inj ei2
  obtain ⟨n, o, h1, h2, h3, _, L, rfl, ⟨rfl, N⟩, hq⟩ := rm0 l s _ hw tables_1 i0 i1 i2 s.heap s.heap.size (Nat.le_refl _) p e ha hc hk s m _ below hf ((Spec.applies_iff_loose hf).mp happ).1 ⟨rfl, State.Warmed39.refl s, rfl⟩ trivial
  refine ⟨n, _, h1, h2, h3, hpost _ _ _ _ _ _ ⟨Cond.after_iff.mpr rfl, Cond.after_iff.mpr (eq_i res_at (Term.int_eval (1)) rfl)⟩ ⟨hq.1, hq.2.1, hq.2.2.1, (hq.2.2.2.sift fun y hy => Or.inr (N y hy)).mono (by decide) (by decide)⟩⟩
theorem main_1_1 : Claimed_1_1 := comes_1 fun _ _ _ _ _ _ h hF => ⟨h.1, hF⟩
theorem main_1_2 : Claimed_1_2 := comes_1 fun _ _ _ _ _ _ h hF => ⟨h.2, hF⟩
end Jvm.Pilot.@@N@@
namespace Jvm.Pilot.@@N@@
open Jvm Jvm.ClassFile Sem Op Lib Jvm.Free Jvm.Stand Jvm.Pilot.@@N@@.Jvm.D
/-! MADE BY PROGRAM (witnessworld.py) out of the Statement's table words and the real class files: 17 classes; the members and pool entries that the words name. The judged class is class 1, her method 1. -/
namespace start1
open Jvm.ClassFile
def u (s : String) : CpInfo := .utf8 (stringToUtf16 s)
/-- a pool by its gaps: so many unusable entries, then the entry; so many at the end -/
def gap : Nat → List CpInfo → List CpInfo
  | 0, r => r
  | n + 1, r => .unusable :: gap n r
def poolList (es : List (Nat × CpInfo)) (last : Nat) : List CpInfo := es.foldr (fun e r => gap e.1 (e.2 :: r)) (gap last [])
def pool (es : List (Nat × CpInfo)) (last : Nat) : Array CpInfo := ⟨poolList es last⟩
def fileOf (pool : Array CpInfo) (this : Nat) (attrs : Array Attribute := #[]) (ms : Array MethodInfo := #[]) (fl : Nat := 33) (sup : Nat := 0) (ifs : Array Nat := #[]) (fds : Array FieldInfo := #[]) : ClassFile where
  minorVersion := 0
  majorVersion := 65
  constantPool := pool
  accessFlags := fl
  thisClass := this
  superClass := sup
  interfaces := ifs
  fields := fds
  methods := ms
  attributes := attrs
def plain (name : String) (sup : Option ClassId) : Class where
  name := name
  kind := .ordinary
  loader := none
  accessFlags := 33
  super := sup
  interfaces := #[]
  cf := none
  fields := #[]
  methods := #[]
  instanceTypes := #[]
  staticTypes := #[]
  resolved := #[]
  callSites := []
  init := .initialized
  statics := none
  mirror := none

def pool0 : Array CpInfo := pool [(5, u "<init>"), (0, u "()V"), (1, .class_ 10), (1, u "java/lang/Object")] 113

def k0c0 : Code := { maxStack := 0, maxLocals := 1, code := object_method_1_code, exceptionTable := #[], attributes := #[] }
def k0m0 : Method := { name := "<init>", desc := "()V", sig := { parameters := [], returnType := none }, accessFlags := 1, code := some k0c0 }
/-- java/lang/Object -/
def k0 : Class := { plain "java/lang/Object" none with
  accessFlags := 33
  interfaces := #[]
  cf := some (fileOf pool0 8 #[] #[{ accessFlags := 1, nameIndex := 5, descriptorIndex := 6, attributes := #[] }] 33 0 #[] #[])
  fields := #[]
  methods := #[k0m0]
  instanceTypes := #[]
  staticTypes := #[]
  resolved := Array.replicate 124 none
  statics := none }

def pool1 : Array CpInfo := pool [(2, .class_ 4), (1, u "java/lang/Object"), (0, u "<init>"), (0, u "()V"), (0, .class_ 8), (0, u "com/example/authwright/authwright/engine/MessageReader"), (0, .methodref 7 10), (0, .nameAndType 5 11), (0, u "([B)V"), (0, .methodref 7 13), (0, .nameAndType 14 6), (0, u "expectEnd"), (0, .methodref 7 16), (0, .nameAndType 17 18), (0, u "readBoolean"), (0, u "()Z"), (0, .methodref 7 20), (0, .nameAndType 21 22), (0, u "readUint32"), (0, u "()J"), (0, .methodref 7 24), (0, .nameAndType 25 6), (0, u "skipString"), (0, .methodref 7 27), (0, .nameAndType 28 29), (0, u "readString"), (0, u "()[B"), (0, .class_ 31), (0, u "com/example/authwright/authwright/engine/MessageReaderExpectEndPinLaw"), (2, u "law"), (0, u "(III)Z")] 8

def k1m0 : Method := { name := "<init>", desc := "()V", sig := { parameters := [], returnType := none }, accessFlags := 2, code := none }
def k1c1 : Code := { maxStack := 4, maxLocals := 7, code := code, exceptionTable := #[], attributes := #[] }
def k1m1 : Method := { name := "law", desc := "(III)Z", sig := { parameters := [.int, .int, .int], returnType := some .boolean }, accessFlags := 9, code := some k1c1 }
/-- com/example/authwright/authwright/engine/MessageReaderExpectEndPinLaw -/
def k1 : Class := { plain "com/example/authwright/authwright/engine/MessageReaderExpectEndPinLaw" (some 0) with
  accessFlags := 49
  interfaces := #[]
  cf := some (fileOf pool1 30 #[] #[{ accessFlags := 2, nameIndex := 5, descriptorIndex := 6, attributes := #[] }, { accessFlags := 9, nameIndex := 34, descriptorIndex := 35, attributes := #[] }] 49 2 #[] #[])
  fields := #[]
  methods := #[k1m0, k1m1]
  instanceTypes := #[]
  staticTypes := #[]
  resolved := Array.replicate 44 none
  statics := none }

def pool2 : Array CpInfo := pool [(1, .methodref 2 3), (0, .class_ 4), (0, .nameAndType 5 6), (0, u "java/lang/Object"), (0, u "<init>"), (0, u "()V"), (0, .fieldref 8 9), (0, .class_ 10), (0, .nameAndType 11 12), (0, u "com/example/authwright/authwright/engine/MessageReader"), (0, u "message"), (0, u "[B"), (0, .string 14), (0, u "boolean"), (0, .methodref 8 16), (0, .nameAndType 17 18), (0, u "require"), (0, u "(ILjava/lang/String;)V"), (0, .fieldref 8 20), (0, .nameAndType 21 22), (0, u "position"), (0, u "I"), (0, .string 24), (0, u "uint32"), (0, .methodref 8 26), (0, .nameAndType 27 28), (0, u "readLength"), (0, u "()I"), (0, .methodref 30 31), (0, .class_ 32), (0, .nameAndType 33 34), (0, u "java/util/Arrays"), (0, u "copyOfRange"), (0, u "([BII)[B"), (2, u "readString"), (0, u "()[B"), (8, u "([B)V"), (56, .methodref 8 105), (0, .nameAndType 106 107), (0, u "readUint32"), (0, u "()J"), (8, u "readBoolean"), (0, u "()Z"), (6, u "skipString"), (0, u "expectEnd")] 21

def k2c0 : Code := { maxStack := 2, maxLocals := 2, code := prog_23_method_1_code, exceptionTable := #[], attributes := #[] }
def k2m0 : Method := { name := "<init>", desc := "([B)V", sig := { parameters := [(.array .byte)], returnType := none }, accessFlags := 0, code := some k2c0 }
def k2c1 : Code := { maxStack := 5, maxLocals := 1, code := prog_23_method_2_code, exceptionTable := #[], attributes := #[] }
def k2m1 : Method := { name := "readBoolean", desc := "()Z", sig := { parameters := [], returnType := some .boolean }, accessFlags := 0, code := some k2c1 }
def k2c2 : Code := { maxStack := 7, maxLocals := 4, code := prog_23_method_3_code, exceptionTable := #[], attributes := #[] }
def k2m2 : Method := { name := "readUint32", desc := "()J", sig := { parameters := [], returnType := some .long }, accessFlags := 0, code := some k2c2 }
def k2c3 : Code := { maxStack := 4, maxLocals := 3, code := prog_23_method_4_code, exceptionTable := #[], attributes := #[] }
def k2m3 : Method := { name := "readString", desc := "()[B", sig := { parameters := [], returnType := some (.array .byte) }, accessFlags := 0, code := some k2c3 }
def k2c4 : Code := { maxStack := 3, maxLocals := 2, code := prog_23_method_7_code, exceptionTable := #[], attributes := #[] }
def k2m4 : Method := { name := "skipString", desc := "()V", sig := { parameters := [], returnType := none }, accessFlags := 0, code := some k2c4 }
def k2c5 : Code := { maxStack := 4, maxLocals := 1, code := prog_23_method_8_code, exceptionTable := #[], attributes := #[] }
def k2m5 : Method := { name := "expectEnd", desc := "()V", sig := { parameters := [], returnType := none }, accessFlags := 0, code := some k2c5 }
def k2c6 : Code := { maxStack := 4, maxLocals := 3, code := prog_23_method_9_code, exceptionTable := #[], attributes := #[] }
def k2m6 : Method := { name := "readLength", desc := "()I", sig := { parameters := [], returnType := some .int }, accessFlags := 2, code := some k2c6 }
def k2c7 : Code := { maxStack := 3, maxLocals := 3, code := prog_23_method_10_code, exceptionTable := #[], attributes := #[] }
def k2m7 : Method := { name := "require", desc := "(ILjava/lang/String;)V", sig := { parameters := [.int, (.object "java/lang/String")], returnType := none }, accessFlags := 2, code := some k2c7 }
/-- com/example/authwright/authwright/engine/MessageReader -/
def k2 : Class := { plain "com/example/authwright/authwright/engine/MessageReader" (some 0) with
  accessFlags := 48
  interfaces := #[]
  cf := some (fileOf pool2 8 #[] #[{ accessFlags := 0, nameIndex := 5, descriptorIndex := 47, attributes := #[] }, { accessFlags := 0, nameIndex := 116, descriptorIndex := 117, attributes := #[] }, { accessFlags := 0, nameIndex := 106, descriptorIndex := 107, attributes := #[] }, { accessFlags := 0, nameIndex := 37, descriptorIndex := 38, attributes := #[] }, { accessFlags := 0, nameIndex := 124, descriptorIndex := 6, attributes := #[] }, { accessFlags := 0, nameIndex := 125, descriptorIndex := 6, attributes := #[] }, { accessFlags := 2, nameIndex := 27, descriptorIndex := 28, attributes := #[] }, { accessFlags := 2, nameIndex := 17, descriptorIndex := 18, attributes := #[] }] 48 2 #[] #[{ accessFlags := 18, nameIndex := 11, descriptorIndex := 12, attributes := #[] }, { accessFlags := 2, nameIndex := 21, descriptorIndex := 22, attributes := #[] }])
  fields := #[{ name := "message", type := (.array .byte), accessFlags := 18, slot := 0, constantValue := 0 }, { name := "position", type := .int, accessFlags := 2, slot := 1, constantValue := 0 }]
  methods := #[k2m0, k2m1, k2m2, k2m3, k2m4, k2m5, k2m6, k2m7]
  instanceTypes := #[(.array .byte), .int]
  staticTypes := #[]
  resolved := Array.replicate 147 none
  statics := none }

def pool3 : Array CpInfo := pool [(1, .class_ 2), (0, u "java/io/Serializable"), (0, .class_ 4), (0, u "java/lang/Object")] 2

/-- java/io/Serializable -/
def k3 : Class := { plain "java/io/Serializable" (some 0) with
  accessFlags := 1537
  interfaces := #[]
  cf := some (fileOf pool3 1 #[] #[] 1537 3 #[] #[])
  fields := #[]
  methods := #[]
  instanceTypes := #[]
  staticTypes := #[]
  resolved := Array.replicate 7 none
  statics := none }

def pool4 : Array CpInfo := pool [(1, .class_ 2), (0, u "java/lang/Comparable"), (0, .class_ 4), (0, u "java/lang/Object")] 7

/-- java/lang/Comparable -/
def k4 : Class := { plain "java/lang/Comparable" (some 0) with
  accessFlags := 1537
  interfaces := #[]
  cf := some (fileOf pool4 1 #[] #[] 1537 3 #[] #[])
  fields := #[]
  methods := #[]
  instanceTypes := #[]
  staticTypes := #[]
  resolved := Array.replicate 12 none
  statics := none }

def pool5 : Array CpInfo := pool [(2, .class_ 4), (1, u "java/lang/CharSequence"), (42, .class_ 48), (0, u "java/lang/CharSequence$1CodePointIterator"), (10, .class_ 60), (0, u "java/lang/CharSequence$1CharIterator"), (5, .class_ 67), (0, u "java/lang/Object")] 63

/-- java/lang/CharSequence -/
def k5 : Class := { plain "java/lang/CharSequence" (some 0) with
  accessFlags := 1537
  interfaces := #[]
  cf := some (fileOf pool5 2 #[.nestMembers #[47, 59]] #[] 1537 66 #[] #[])
  fields := #[]
  methods := #[]
  instanceTypes := #[]
  staticTypes := #[]
  resolved := Array.replicate 131 none
  statics := none }

def pool6 : Array CpInfo := pool [(1, .class_ 2), (0, u "java/lang/constant/Constable"), (0, .class_ 4), (0, u "java/lang/Object")] 6

/-- java/lang/constant/Constable -/
def k6 : Class := { plain "java/lang/constant/Constable" (some 0) with
  accessFlags := 1537
  interfaces := #[]
  cf := some (fileOf pool6 1 #[] #[] 1537 3 #[] #[])
  fields := #[]
  methods := #[]
  instanceTypes := #[]
  staticTypes := #[]
  resolved := Array.replicate 11 none
  statics := none }

def pool7 : Array CpInfo := pool [(1, .class_ 2), (0, u "java/lang/constant/ConstantDesc"), (0, .class_ 4), (0, u "java/lang/Object")] 32

/-- java/lang/constant/ConstantDesc -/
def k7 : Class := { plain "java/lang/constant/ConstantDesc" (some 0) with
  accessFlags := 1537
  interfaces := #[]
  cf := some (fileOf pool7 1 #[] #[] 1537 3 #[] #[])
  fields := #[]
  methods := #[]
  instanceTypes := #[]
  staticTypes := #[]
  resolved := Array.replicate 37 none
  statics := none }

def pool8 : Array CpInfo := pool [(2, .class_ 4), (1, u "java/lang/Object"), (0, u "<init>"), (0, u "()V"), (3, .class_ 12), (1, u "java/lang/String"), (0, u "value"), (0, u "[B"), (2, u "coder"), (0, u "B"), (2, u "hash"), (0, u "I"), (2, u "hashIsZero"), (0, u "Z"), (13, u "COMPACT_STRINGS"), (534, .class_ 576), (0, u "java/lang/CharSequence"), (22, u "CASE_INSENSITIVE_ORDER"), (0, u "Ljava/util/Comparator;"), (500, u "serialPersistentFields"), (0, u "[Ljava/io/ObjectStreamField;"), (0, .class_ 1104), (0, u "java/lang/String$CaseInsensitiveComparator"), (1, .class_ 1107), (0, u "java/io/Serializable"), (0, .class_ 1109), (0, u "java/lang/Comparable"), (0, .class_ 1111), (0, u "java/lang/constant/Constable"), (0, .class_ 1113), (0, u "java/lang/constant/ConstantDesc"), (2, u "serialVersionUID"), (0, u "J"), (3, u "REPL"), (0, u "C"), (2, u "LATIN1"), (1, u "UTF16")] 323

def k8m0 : Method := { name := "<init>", desc := "()V", sig := { parameters := [], returnType := none }, accessFlags := 1, code := none }
/-- java/lang/String -/
def k8 : Class := { plain "java/lang/String" (some 0) with
  accessFlags := 49
  interfaces := #[3, 4, 5, 6, 7]
  cf := some (fileOf pool8 10 #[.nestMembers #[1103]] #[{ accessFlags := 1, nameIndex := 5, descriptorIndex := 6, attributes := #[] }] 49 2 #[1106, 1108, 575, 1110, 1112] #[{ accessFlags := 18, nameIndex := 13, descriptorIndex := 14, attributes := #[] }, { accessFlags := 18, nameIndex := 17, descriptorIndex := 18, attributes := #[] }, { accessFlags := 2, nameIndex := 21, descriptorIndex := 22, attributes := #[] }, { accessFlags := 2, nameIndex := 25, descriptorIndex := 26, attributes := #[] }, { accessFlags := 26, nameIndex := 1116, descriptorIndex := 1117, attributes := #[] }, { accessFlags := 24, nameIndex := 40, descriptorIndex := 26, attributes := #[] }, { accessFlags := 26, nameIndex := 1101, descriptorIndex := 1102, attributes := #[] }, { accessFlags := 26, nameIndex := 1121, descriptorIndex := 1122, attributes := #[] }, { accessFlags := 25, nameIndex := 599, descriptorIndex := 600, attributes := #[] }, { accessFlags := 24, nameIndex := 1125, descriptorIndex := 18, attributes := #[] }, { accessFlags := 24, nameIndex := 1127, descriptorIndex := 18, attributes := #[] }])
  fields := #[{ name := "value", type := (.array .byte), accessFlags := 18, slot := 0, constantValue := 0 }, { name := "coder", type := .byte, accessFlags := 18, slot := 1, constantValue := 0 }, { name := "hash", type := .int, accessFlags := 2, slot := 2, constantValue := 0 }, { name := "hashIsZero", type := .boolean, accessFlags := 2, slot := 3, constantValue := 0 }, { name := "serialVersionUID", type := .long, accessFlags := 26, slot := 0, constantValue := 0 }, { name := "COMPACT_STRINGS", type := .boolean, accessFlags := 24, slot := 1, constantValue := 0 }, { name := "serialPersistentFields", type := (.array (.object "java/io/ObjectStreamField")), accessFlags := 26, slot := 2, constantValue := 0 }, { name := "REPL", type := .char, accessFlags := 26, slot := 3, constantValue := 0 }, { name := "CASE_INSENSITIVE_ORDER", type := (.object "java/util/Comparator"), accessFlags := 25, slot := 4, constantValue := 0 }, { name := "LATIN1", type := .byte, accessFlags := 24, slot := 5, constantValue := 0 }, { name := "UTF16", type := .byte, accessFlags := 24, slot := 6, constantValue := 0 }]
  methods := #[k8m0]
  instanceTypes := #[(.array .byte), .byte, .int, .boolean]
  staticTypes := #[.long, .boolean, (.array (.object "java/io/ObjectStreamField")), .char, (.object "java/util/Comparator"), .byte, .byte]
  resolved := Array.replicate 1451 none
  statics := none }

def pool9 : Array CpInfo := pool [(2, .class_ 4), (1, u "java/lang/Object"), (0, u "<init>"), (0, u "()V"), (7, .class_ 16), (1, u "java/util/Arrays"), (57, .class_ 76), (1, u "java/util/Arrays$NaturalOrder"), (36, .class_ 115), (1, u "java/util/Arrays$LegacyMergeSort"), (1, u "Z"), (21, u "copyOfRange"), (10, .methodref 151 152), (0, .class_ 153), (0, .nameAndType 154 155), (0, u "java/lang/System"), (0, u "arraycopy"), (0, u "(Ljava/lang/Object;ILjava/lang/Object;II)V"), (148, .methodref 305 306), (0, .class_ 307), (0, .nameAndType 308 309), (0, u "java/lang/Math"), (0, u "min"), (0, u "(II)I"), (29, .methodref 14 340), (0, .nameAndType 341 342), (0, u "copyOfRangeByte"), (0, u "([BII)[B"), (0, .methodref 14 344), (0, .nameAndType 345 346), (0, u "checkLength"), (0, u "(II)V"), (28, .class_ 376), (0, u "java/util/Arrays$ArrayList"), (68, u "$assertionsDisabled"), (269, u "MIN_ARRAY_SORT_GRAN"), (0, u "I"), (2, u "INSERTIONSORT_THRESHOLD"), (255, .class_ 976), (0, u "java/util/Arrays$ArrayItr")] 52

def k9m0 : Method := { name := "<init>", desc := "()V", sig := { parameters := [], returnType := none }, accessFlags := 2, code := none }
def k9c1 : Code := { maxStack := 4, maxLocals := 2, code := jdk_65_method_131_code, exceptionTable := #[], attributes := #[] }
def k9m1 : Method := { name := "checkLength", desc := "(II)V", sig := { parameters := [.int, .int], returnType := none }, accessFlags := 10, code := some k9c1 }
def k9c2 : Code := { maxStack := 3, maxLocals := 3, code := jdk_65_method_132_code, exceptionTable := #[], attributes := #[] }
def k9m2 : Method := { name := "copyOfRange", desc := "([BII)[B", sig := { parameters := [(.array .byte), .int, .int], returnType := some (.array .byte) }, accessFlags := 9, code := some k9c2 }
def k9c3 : Code := { maxStack := 6, maxLocals := 5, code := jdk_65_method_133_code, exceptionTable := #[], attributes := #[] }
def k9m3 : Method := { name := "copyOfRangeByte", desc := "([BII)[B", sig := { parameters := [(.array .byte), .int, .int], returnType := some (.array .byte) }, accessFlags := 10, code := some k9c3 }
/-- java/util/Arrays -/
def k9 : Class := { plain "java/util/Arrays" (some 0) with
  accessFlags := 49
  interfaces := #[]
  cf := some (fileOf pool9 14 #[.nestMembers #[975, 375, 113, 74]] #[{ accessFlags := 2, nameIndex := 5, descriptorIndex := 6, attributes := #[] }, { accessFlags := 10, nameIndex := 345, descriptorIndex := 346, attributes := #[] }, { accessFlags := 9, nameIndex := 139, descriptorIndex := 342, attributes := #[] }, { accessFlags := 10, nameIndex := 341, descriptorIndex := 342, attributes := #[] }] 49 2 #[] #[{ accessFlags := 26, nameIndex := 715, descriptorIndex := 716, attributes := #[] }, { accessFlags := 26, nameIndex := 719, descriptorIndex := 716, attributes := #[] }, { accessFlags := 4120, nameIndex := 445, descriptorIndex := 117, attributes := #[] }])
  fields := #[{ name := "MIN_ARRAY_SORT_GRAN", type := .int, accessFlags := 26, slot := 0, constantValue := 0 }, { name := "INSERTIONSORT_THRESHOLD", type := .int, accessFlags := 26, slot := 1, constantValue := 0 }, { name := "$assertionsDisabled", type := .boolean, accessFlags := 4120, slot := 2, constantValue := 0 }]
  methods := #[k9m0, k9m1, k9m2, k9m3]
  instanceTypes := #[]
  staticTypes := #[.int, .int, .boolean]
  resolved := Array.replicate 1029 none
  statics := none }

def pool10 : Array CpInfo := pool [(1, .class_ 2), (0, u "java/lang/Math"), (1, .class_ 6), (1, u "java/lang/Object"), (0, u "<init>"), (0, u "()V"), (89, .class_ 100), (1, u "java/lang/Math$RandomNumberGeneratorHolder"), (71, u "negativeZeroFloatBits"), (0, u "J"), (2, u "negativeZeroDoubleBits"), (24, u "min"), (43, u "$assertionsDisabled"), (0, u "Z"), (88, u "(II)I"), (2, u "twoToTheDoubleScaleDown"), (0, u "D"), (4, u "twoToTheDoubleScaleUp"), (9, u "E"), (3, u "PI"), (2, u "TAU"), (2, u "DEGREES_TO_RADIANS"), (0, u "RADIANS_TO_DEGREES")] 94

def k10m0 : Method := { name := "<init>", desc := "()V", sig := { parameters := [], returnType := none }, accessFlags := 2, code := none }
def k10c1 : Code := { maxStack := 2, maxLocals := 2, code := jdk_29_method_69_code, exceptionTable := #[], attributes := #[] }
def k10m1 : Method := { name := "min", desc := "(II)I", sig := { parameters := [.int, .int], returnType := some .int }, accessFlags := 9, code := some k10c1 }
/-- java/lang/Math -/
def k10 : Class := { plain "java/lang/Math" (some 0) with
  accessFlags := 49
  interfaces := #[]
  cf := some (fileOf pool10 1 #[.nestMembers #[98]] #[{ accessFlags := 2, nameIndex := 7, descriptorIndex := 8, attributes := #[] }, { accessFlags := 9, nameIndex := 201, descriptorIndex := 335, attributes := #[] }] 49 4 #[] #[{ accessFlags := 25, nameIndex := 354, descriptorIndex := 339, attributes := #[] }, { accessFlags := 25, nameIndex := 358, descriptorIndex := 339, attributes := #[] }, { accessFlags := 25, nameIndex := 361, descriptorIndex := 339, attributes := #[] }, { accessFlags := 26, nameIndex := 364, descriptorIndex := 339, attributes := #[] }, { accessFlags := 26, nameIndex := 365, descriptorIndex := 339, attributes := #[] }, { accessFlags := 26, nameIndex := 172, descriptorIndex := 173, attributes := #[] }, { accessFlags := 26, nameIndex := 176, descriptorIndex := 173, attributes := #[] }, { accessFlags := 8, nameIndex := 344, descriptorIndex := 339, attributes := #[] }, { accessFlags := 8, nameIndex := 338, descriptorIndex := 339, attributes := #[] }, { accessFlags := 4120, nameIndex := 245, descriptorIndex := 246, attributes := #[] }])
  fields := #[{ name := "E", type := .double, accessFlags := 25, slot := 0, constantValue := 0 }, { name := "PI", type := .double, accessFlags := 25, slot := 1, constantValue := 0 }, { name := "TAU", type := .double, accessFlags := 25, slot := 2, constantValue := 0 }, { name := "DEGREES_TO_RADIANS", type := .double, accessFlags := 26, slot := 3, constantValue := 0 }, { name := "RADIANS_TO_DEGREES", type := .double, accessFlags := 26, slot := 4, constantValue := 0 }, { name := "negativeZeroFloatBits", type := .long, accessFlags := 26, slot := 5, constantValue := 0 }, { name := "negativeZeroDoubleBits", type := .long, accessFlags := 26, slot := 6, constantValue := 0 }, { name := "twoToTheDoubleScaleUp", type := .double, accessFlags := 8, slot := 7, constantValue := 0 }, { name := "twoToTheDoubleScaleDown", type := .double, accessFlags := 8, slot := 8, constantValue := 0 }, { name := "$assertionsDisabled", type := .boolean, accessFlags := 4120, slot := 9, constantValue := 0 }]
  methods := #[k10m0, k10m1]
  instanceTypes := #[]
  staticTypes := #[.double, .double, .double, .double, .double, .long, .long, .double, .double, .boolean]
  resolved := Array.replicate 460 none
  statics := none }

def pool11 : Array CpInfo := pool [(2, .class_ 4), (1, u "java/lang/Object"), (0, u "<init>"), (0, u "()V"), (1, .class_ 10), (1, u "java/lang/System"), (0, u "allowSecurityManager"), (0, u "I"), (16, u "cons"), (0, u "Ljava/io/Console;"), (77, .class_ 110), (1, u "java/lang/System$CallersHolder"), (43, u "initialErrStream"), (0, u "Ljava/io/PrintStream;"), (19, u "security"), (0, u "Ljava/lang/SecurityManager;"), (31, .class_ 209), (0, u "java/lang/System$1"), (7, u "props"), (0, u "Ljava/util/Properties;"), (2, u "lineSeparator"), (0, u "Ljava/lang/String;"), (96, .class_ 321), (1, u "java/lang/System$LoggerFinder"), (5, .class_ 328), (0, u "java/lang/System$Logger"), (67, u "err"), (2, u "out"), (91, u "notSupportedJnuEncoding"), (15, u "in"), (17, u "initialIn"), (0, u "Ljava/io/InputStream;"), (35, u "bootLayer"), (0, u "Ljava/lang/ModuleLayer;"), (99, .class_ 664), (0, u "java/lang/System$2"), (9, u "NEVER"), (2, u "MAYBE"), (49, u "arraycopy"), (0, u "(Ljava/lang/Object;ILjava/lang/Object;II)V"), (72, .class_ 802), (0, u "java/lang/System$Logger$Level")] 31

def k11m0 : Method := { name := "<init>", desc := "()V", sig := { parameters := [], returnType := none }, accessFlags := 2, code := none }
def k11m1 : Method := { name := "arraycopy", desc := "(Ljava/lang/Object;ILjava/lang/Object;II)V", sig := { parameters := [(.object "java/lang/Object"), .int, (.object "java/lang/Object"), .int, .int], returnType := none }, accessFlags := 265, code := none }
/-- java/lang/System -/
def k11 : Class := { plain "java/lang/System" (some 0) with
  accessFlags := 49
  interfaces := #[]
  cf := some (fileOf pool11 8 #[.nestMembers #[319, 327, 801, 108, 663, 208]] #[{ accessFlags := 2, nameIndex := 5, descriptorIndex := 6, attributes := #[] }, { accessFlags := 265, nameIndex := 727, descriptorIndex := 728, attributes := #[] }] 49 2 #[] #[{ accessFlags := 25, nameIndex := 507, descriptorIndex := 526, attributes := #[] }, { accessFlags := 25, nameIndex := 399, descriptorIndex := 155, attributes := #[] }, { accessFlags := 25, nameIndex := 396, descriptorIndex := 155, attributes := #[] }, { accessFlags := 10, nameIndex := 525, descriptorIndex := 526, attributes := #[] }, { accessFlags := 26, nameIndex := 674, descriptorIndex := 12, attributes := #[] }, { accessFlags := 26, nameIndex := 677, descriptorIndex := 12, attributes := #[] }, { accessFlags := 10, nameIndex := 11, descriptorIndex := 12, attributes := #[] }, { accessFlags := 74, nameIndex := 175, descriptorIndex := 176, attributes := #[] }, { accessFlags := 10, nameIndex := 491, descriptorIndex := 222, attributes := #[] }, { accessFlags := 74, nameIndex := 29, descriptorIndex := 30, attributes := #[] }, { accessFlags := 74, nameIndex := 154, descriptorIndex := 155, attributes := #[] }, { accessFlags := 10, nameIndex := 217, descriptorIndex := 218, attributes := #[] }, { accessFlags := 10, nameIndex := 221, descriptorIndex := 222, attributes := #[] }, { accessFlags := 8, nameIndex := 562, descriptorIndex := 563, attributes := #[] }])
  fields := #[{ name := "in", type := (.object "java/io/InputStream"), accessFlags := 25, slot := 0, constantValue := 0 }, { name := "out", type := (.object "java/io/PrintStream"), accessFlags := 25, slot := 1, constantValue := 0 }, { name := "err", type := (.object "java/io/PrintStream"), accessFlags := 25, slot := 2, constantValue := 0 }, { name := "initialIn", type := (.object "java/io/InputStream"), accessFlags := 10, slot := 3, constantValue := 0 }, { name := "NEVER", type := .int, accessFlags := 26, slot := 4, constantValue := 0 }, { name := "MAYBE", type := .int, accessFlags := 26, slot := 5, constantValue := 0 }, { name := "allowSecurityManager", type := .int, accessFlags := 10, slot := 6, constantValue := 0 }, { name := "security", type := (.object "java/lang/SecurityManager"), accessFlags := 74, slot := 7, constantValue := 0 }, { name := "notSupportedJnuEncoding", type := (.object "java/lang/String"), accessFlags := 10, slot := 8, constantValue := 0 }, { name := "cons", type := (.object "java/io/Console"), accessFlags := 74, slot := 9, constantValue := 0 }, { name := "initialErrStream", type := (.object "java/io/PrintStream"), accessFlags := 74, slot := 10, constantValue := 0 }, { name := "props", type := (.object "java/util/Properties"), accessFlags := 10, slot := 11, constantValue := 0 }, { name := "lineSeparator", type := (.object "java/lang/String"), accessFlags := 10, slot := 12, constantValue := 0 }, { name := "bootLayer", type := (.object "java/lang/ModuleLayer"), accessFlags := 8, slot := 13, constantValue := 0 }]
  methods := #[k11m0, k11m1]
  instanceTypes := #[]
  staticTypes := #[(.object "java/io/InputStream"), (.object "java/io/PrintStream"), (.object "java/io/PrintStream"), (.object "java/io/InputStream"), .int, .int, .int, (.object "java/lang/SecurityManager"), (.object "java/lang/String"), (.object "java/io/Console"), (.object "java/io/PrintStream"), (.object "java/util/Properties"), (.object "java/lang/String"), (.object "java/lang/ModuleLayer")]
  resolved := Array.replicate 834 none
  statics := none }

def pool12 : Array CpInfo := pool [(1, u "java/lang/Cloneable"), (0, .class_ 1), (0, u "java/lang/Object"), (0, .class_ 3)] 3

/-- java/lang/Cloneable -/
def k12 : Class := { plain "java/lang/Cloneable" (some 0) with
  accessFlags := 1537
  interfaces := #[]
  cf := some (fileOf pool12 2 #[] #[] 1537 4 #[] #[])
  fields := #[]
  methods := #[]
  instanceTypes := #[]
  staticTypes := #[]
  resolved := Array.replicate 8 none
  statics := none }

/-- the primitive byte -/
def k13 : Class := { plain "byte" none with kind := .primitive 'B', accessFlags := 0x411 }
/-- [B -/
def k14 : Class := { plain "[B" (some 0) with kind := .array 13 .byte, interfaces := #[12, 3], accessFlags := 1041 }

/-- the primitive int -/
def k15 : Class := { plain "int" none with kind := .primitive 'I', accessFlags := 0x411 }
/-- [I -/
def k16 : Class := { plain "[I" (some 0) with kind := .array 15 .int, interfaces := #[12, 3], accessFlags := 1041 }

def heap : Heap := #[]
def classes : Array Class := #[k0, k1, k2, k3, k4, k5, k6, k7, k8, k9, k10, k11, k12, k13, k14, k15, k16]
def interned : List (Array UInt16 × Addr) := []
def slotsUsed : Nat := 0
def theMethod : MethodId := ⟨1, 1⟩
def args0 : Array Value := #[.int 3, .int 7, .int 1]
def aboutOver (below : List Frame) : State where
  vm := { classes := classes, interned := interned.toArray }
  heap := heap
  slotsUsed := slotsUsed
  threads := #[{ frames := .invoking theMethod args0 :: below }]
def below0 : List Frame := [.native { method := ⟨0, 0⟩, args := #[] }]
def about1 : State := aboutOver below0
def p0 : Program := .bare "" "" ""
def e0 : Env := launch0.env 0 0 0
theorem w_frames : about1.frames = Frame.invoking theMethod args0 :: below0 := rfl
set_option maxRecDepth 65536 in
theorem w_args : argsFit about1.vm theMethod args0 = true := by decide +kernel
set_option maxRecDepth 65536 in
theorem w_heap : heapFits about1 = true := by decide +kernel
set_option maxRecDepth 65536 in
theorem w_runnable : about1.curStatus? = some .runnable := by decide +kernel
set_option maxRecDepth 65536 in
theorem w_alone : about1.alone = true := by decide +kernel
set_option maxRecDepth 65536 in
theorem w_named : about1.methodNamed? x = some theMethod := by decide +kernel
set_option maxRecDepth 65536 in
theorem w_hears : about1.hears theMethod below0 = true := by decide +kernel
set_option maxRecDepth 65536 in
theorem w_ripe : about1.ripe theMethod args0 below0 = true := by decide +kernel
theorem w_running : about1.status = .running := rfl
set_option maxRecDepth 65536 in
theorem w_room : about1.hasRoom e0.platform room_1 = true :=
  launch0.hasRoom_least _ room_1 (by decide +kernel) (by decide +kernel) (by decide +kernel) (by decide +kernel) (by decide +kernel) (by decide +kernel)
theorem allAtoms_all (ts : List Jvm.Cond) (a : Array Jvm.Value) (st : Jvm.State) : (allAtoms ts).before a st = ts.all (fun c => c.before a st) := by
  induction ts with
  | nil => rfl
  | cons c t ih =>
    show (Jvm.Cond.and c (allAtoms t)).before a st = _
    rw [Jvm.Cond.before_and, ih, List.all_cons]
def words1 : List Jvm.Cond := Jvm.Cond.code x code maxLocals ret :: tables_1
/-- a 'code' word, met by the world's own term for the bytes: nothing is compared byte by byte -/
theorem code_word {y : MethodName} {bytes : ByteArray} {mx : Nat} {rt : Option FieldType} {a : Array Value} {s : State} {m : MethodId} {meth : Method} {c : Code} (h1 : s.methodNamed? y = some m) (h2 : s.vm.method? m = some meth) (h3 : meth.code = some c) (h4 : c.code = bytes)
    (h5 : (c.maxLocals == mx && c.exceptionTable.isEmpty && decide (c.maxStack ≤ mostOperands) && decide (meth.sig.returnType = rt) && !meth.locks && decide (parseMethodDescriptor y.desc = some meth.sig)) = true) : (Jvm.Cond.code y bytes mx rt).before a s = true := by
  simp only [Bool.and_eq_true, beq_iff_eq, Bool.not_eq_true', decide_eq_true_eq] at h5
  obtain ⟨⟨⟨⟨⟨g1, g2⟩, g3⟩, g4⟩, g5⟩, g6⟩ := h5
  simp [Cond.before, Cond.holds, Cond.value, h1, h2, h3, h4, g1, g2, g3, g4, g5, g6]
def isCode : Jvm.Cond → Bool
  | .code _ _ _ _ => true
  | _ => false
theorem all_split {L : List Jvm.Cond} {P : Jvm.Cond → Bool} (h1 : L.all (fun c => isCode c || P c) = true) (h2 : ∀ c ∈ L.filter isCode, P c = true) : L.all P = true := by
  refine List.all_eq_true.mpr fun c hc => ?_
  have h := List.all_eq_true.mp h1 c hc
  rcases Bool.eq_false_or_eq_true (isCode c) with hi | hi
  · exact h2 c (List.mem_filter.mpr ⟨hc, hi⟩)
  · simpa [hi] using h
set_option maxRecDepth 65536 in
theorem w_c0 : (Jvm.Cond.code x code maxLocals ret).before args0 about1 = true := code_word (m := ⟨1, 1⟩) (meth := k1m1) (c := k1c1) (by decide +kernel) rfl rfl rfl (by decide +kernel)
set_option maxRecDepth 65536 in
theorem w_c1 : (Jvm.Cond.code ({ cls := "com/example/authwright/authwright/engine/MessageReader", name := "<init>", desc := "([B)V" } : Jvm.MethodName) prog_23_method_1_code (2 : Nat) (Option.none : Option Jvm.ClassFile.FieldType)).before args0 about1 = true := code_word (m := ⟨2, 0⟩) (meth := k2m0) (c := k2c0) (by decide +kernel) rfl rfl rfl (by decide +kernel)
set_option maxRecDepth 65536 in
theorem w_c2 : (Jvm.Cond.code ({ cls := "java/lang/Object", name := "<init>", desc := "()V" } : Jvm.MethodName) object_method_1_code (1 : Nat) (Option.none : Option Jvm.ClassFile.FieldType)).before args0 about1 = true := code_word (m := ⟨0, 0⟩) (meth := k0m0) (c := k0c0) (by decide +kernel) rfl rfl rfl (by decide +kernel)
set_option maxRecDepth 65536 in
theorem w_c3 : (Jvm.Cond.code ({ cls := "com/example/authwright/authwright/engine/MessageReader", name := "expectEnd", desc := "()V" } : Jvm.MethodName) prog_23_method_8_code (1 : Nat) (Option.none : Option Jvm.ClassFile.FieldType)).before args0 about1 = true := code_word (m := ⟨2, 5⟩) (meth := k2m5) (c := k2c5) (by decide +kernel) rfl rfl rfl (by decide +kernel)
set_option maxRecDepth 65536 in
theorem w_c4 : (Jvm.Cond.code ({ cls := "com/example/authwright/authwright/engine/MessageReader", name := "readBoolean", desc := "()Z" } : Jvm.MethodName) prog_23_method_2_code (1 : Nat) (Option.some Jvm.ClassFile.FieldType.boolean)).before args0 about1 = true := code_word (m := ⟨2, 1⟩) (meth := k2m1) (c := k2c1) (by decide +kernel) rfl rfl rfl (by decide +kernel)
set_option maxRecDepth 65536 in
theorem w_c5 : (Jvm.Cond.code ({ cls := "com/example/authwright/authwright/engine/MessageReader", name := "require", desc := "(ILjava/lang/String;)V" } : Jvm.MethodName) prog_23_method_10_code (3 : Nat) (Option.none : Option Jvm.ClassFile.FieldType)).before args0 about1 = true := code_word (m := ⟨2, 7⟩) (meth := k2m7) (c := k2c7) (by decide +kernel) rfl rfl rfl (by decide +kernel)
set_option maxRecDepth 65536 in
theorem w_c6 : (Jvm.Cond.code ({ cls := "com/example/authwright/authwright/engine/MessageReader", name := "skipString", desc := "()V" } : Jvm.MethodName) prog_23_method_7_code (2 : Nat) (Option.none : Option Jvm.ClassFile.FieldType)).before args0 about1 = true := code_word (m := ⟨2, 4⟩) (meth := k2m4) (c := k2c4) (by decide +kernel) rfl rfl rfl (by decide +kernel)
set_option maxRecDepth 65536 in
theorem w_c7 : (Jvm.Cond.code ({ cls := "com/example/authwright/authwright/engine/MessageReader", name := "readLength", desc := "()I" } : Jvm.MethodName) prog_23_method_9_code (3 : Nat) (Option.some Jvm.ClassFile.FieldType.int)).before args0 about1 = true := code_word (m := ⟨2, 6⟩) (meth := k2m6) (c := k2c6) (by decide +kernel) rfl rfl rfl (by decide +kernel)
set_option maxRecDepth 65536 in
theorem w_c8 : (Jvm.Cond.code ({ cls := "com/example/authwright/authwright/engine/MessageReader", name := "readUint32", desc := "()J" } : Jvm.MethodName) prog_23_method_3_code (4 : Nat) (Option.some Jvm.ClassFile.FieldType.long)).before args0 about1 = true := code_word (m := ⟨2, 2⟩) (meth := k2m2) (c := k2c2) (by decide +kernel) rfl rfl rfl (by decide +kernel)
set_option maxRecDepth 65536 in
theorem w_c9 : (Jvm.Cond.code ({ cls := "com/example/authwright/authwright/engine/MessageReader", name := "readString", desc := "()[B" } : Jvm.MethodName) prog_23_method_4_code (3 : Nat) (Option.some (Jvm.ClassFile.FieldType.array Jvm.ClassFile.FieldType.byte))).before args0 about1 = true := code_word (m := ⟨2, 3⟩) (meth := k2m3) (c := k2c3) (by decide +kernel) rfl rfl rfl (by decide +kernel)
set_option maxRecDepth 65536 in
theorem w_c10 : (Jvm.Cond.code ({ cls := "java/util/Arrays", name := "copyOfRange", desc := "([BII)[B" } : Jvm.MethodName) jdk_65_method_132_code (3 : Nat) (Option.some (Jvm.ClassFile.FieldType.array Jvm.ClassFile.FieldType.byte))).before args0 about1 = true := code_word (m := ⟨9, 2⟩) (meth := k9m2) (c := k9c2) (by decide +kernel) rfl rfl rfl (by decide +kernel)
set_option maxRecDepth 65536 in
theorem w_c11 : (Jvm.Cond.code ({ cls := "java/util/Arrays", name := "copyOfRangeByte", desc := "([BII)[B" } : Jvm.MethodName) jdk_65_method_133_code (5 : Nat) (Option.some (Jvm.ClassFile.FieldType.array Jvm.ClassFile.FieldType.byte))).before args0 about1 = true := code_word (m := ⟨9, 3⟩) (meth := k9m3) (c := k9c3) (by decide +kernel) rfl rfl rfl (by decide +kernel)
set_option maxRecDepth 65536 in
theorem w_c12 : (Jvm.Cond.code ({ cls := "java/util/Arrays", name := "checkLength", desc := "(II)V" } : Jvm.MethodName) jdk_65_method_131_code (2 : Nat) (Option.none : Option Jvm.ClassFile.FieldType)).before args0 about1 = true := code_word (m := ⟨9, 1⟩) (meth := k9m1) (c := k9c1) (by decide +kernel) rfl rfl rfl (by decide +kernel)
set_option maxRecDepth 65536 in
theorem w_c13 : (Jvm.Cond.code ({ cls := "java/lang/Math", name := "min", desc := "(II)I" } : Jvm.MethodName) jdk_29_method_69_code (2 : Nat) (Option.some Jvm.ClassFile.FieldType.int)).before args0 about1 = true := code_word (m := ⟨10, 1⟩) (meth := k10m1) (c := k10c1) (by decide +kernel) rfl rfl rfl (by decide +kernel)
def codes1 : List Jvm.Cond := [Jvm.Cond.code x code maxLocals ret, Jvm.Cond.code ({ cls := "com/example/authwright/authwright/engine/MessageReader", name := "<init>", desc := "([B)V" } : Jvm.MethodName) prog_23_method_1_code (2 : Nat) (Option.none : Option Jvm.ClassFile.FieldType), Jvm.Cond.code ({ cls := "java/lang/Object", name := "<init>", desc := "()V" } : Jvm.MethodName) object_method_1_code (1 : Nat) (Option.none : Option Jvm.ClassFile.FieldType), Jvm.Cond.code ({ cls := "com/example/authwright/authwright/engine/MessageReader", name := "expectEnd", desc := "()V" } : Jvm.MethodName) prog_23_method_8_code (1 : Nat) (Option.none : Option Jvm.ClassFile.FieldType), Jvm.Cond.code ({ cls := "com/example/authwright/authwright/engine/MessageReader", name := "readBoolean", desc := "()Z" } : Jvm.MethodName) prog_23_method_2_code (1 : Nat) (Option.some Jvm.ClassFile.FieldType.boolean), Jvm.Cond.code ({ cls := "com/example/authwright/authwright/engine/MessageReader", name := "require", desc := "(ILjava/lang/String;)V" } : Jvm.MethodName) prog_23_method_10_code (3 : Nat) (Option.none : Option Jvm.ClassFile.FieldType), Jvm.Cond.code ({ cls := "com/example/authwright/authwright/engine/MessageReader", name := "skipString", desc := "()V" } : Jvm.MethodName) prog_23_method_7_code (2 : Nat) (Option.none : Option Jvm.ClassFile.FieldType), Jvm.Cond.code ({ cls := "com/example/authwright/authwright/engine/MessageReader", name := "readLength", desc := "()I" } : Jvm.MethodName) prog_23_method_9_code (3 : Nat) (Option.some Jvm.ClassFile.FieldType.int), Jvm.Cond.code ({ cls := "com/example/authwright/authwright/engine/MessageReader", name := "readUint32", desc := "()J" } : Jvm.MethodName) prog_23_method_3_code (4 : Nat) (Option.some Jvm.ClassFile.FieldType.long), Jvm.Cond.code ({ cls := "com/example/authwright/authwright/engine/MessageReader", name := "readString", desc := "()[B" } : Jvm.MethodName) prog_23_method_4_code (3 : Nat) (Option.some (Jvm.ClassFile.FieldType.array Jvm.ClassFile.FieldType.byte)), Jvm.Cond.code ({ cls := "java/util/Arrays", name := "copyOfRange", desc := "([BII)[B" } : Jvm.MethodName) jdk_65_method_132_code (3 : Nat) (Option.some (Jvm.ClassFile.FieldType.array Jvm.ClassFile.FieldType.byte)), Jvm.Cond.code ({ cls := "java/util/Arrays", name := "copyOfRangeByte", desc := "([BII)[B" } : Jvm.MethodName) jdk_65_method_133_code (5 : Nat) (Option.some (Jvm.ClassFile.FieldType.array Jvm.ClassFile.FieldType.byte)), Jvm.Cond.code ({ cls := "java/util/Arrays", name := "checkLength", desc := "(II)V" } : Jvm.MethodName) jdk_65_method_131_code (2 : Nat) (Option.none : Option Jvm.ClassFile.FieldType), Jvm.Cond.code ({ cls := "java/lang/Math", name := "min", desc := "(II)I" } : Jvm.MethodName) jdk_29_method_69_code (2 : Nat) (Option.some Jvm.ClassFile.FieldType.int)]
set_option maxRecDepth 65536 in
theorem codes_eq : words1.filter isCode = codes1 := rfl
theorem w_codes : ∀ c ∈ words1.filter isCode, c.before args0 about1 = true := by
  rw [codes_eq]
  intro c hc
  simp only [codes1, List.mem_cons, List.not_mem_nil, or_false] at hc
  rcases hc with rfl | rfl | rfl | rfl | rfl | rfl | rfl | rfl | rfl | rfl | rfl | rfl | rfl | rfl
  · exact w_c0
  · exact w_c1
  · exact w_c2
  · exact w_c3
  · exact w_c4
  · exact w_c5
  · exact w_c6
  · exact w_c7
  · exact w_c8
  · exact w_c9
  · exact w_c10
  · exact w_c11
  · exact w_c12
  · exact w_c13
set_option maxRecDepth 65536 in
theorem w_t1 : (words1.take 24).all (fun c => isCode c || c.before args0 about1) = true := by decide +kernel
set_option maxRecDepth 65536 in
theorem w_t2 : ((words1.drop 24).take 24).all (fun c => isCode c || c.before args0 about1) = true := by decide +kernel
set_option maxRecDepth 65536 in
theorem w_t3 : (((words1.drop 24).drop 24).take 24).all (fun c => isCode c || c.before args0 about1) = true := by decide +kernel
set_option maxRecDepth 65536 in
theorem w_t4 : (((words1.drop 24).drop 24).drop 24).all (fun c => isCode c || c.before args0 about1) = true := by decide +kernel
theorem w_tables : (allAtoms (Jvm.Cond.code x code maxLocals ret :: tables_1)).before args0 about1 = true := by
  rw [allAtoms_all]
  show words1.all (fun c => c.before args0 about1) = true
  refine all_split ?_ w_codes
  rw [← List.take_append_drop 24 words1, List.all_append, w_t1, ← List.take_append_drop 24 (words1.drop 24), List.all_append, w_t2, ← List.take_append_drop 24 ((words1.drop 24).drop 24), List.all_append, w_t3, w_t4]
  rfl
set_option maxRecDepth 65536 in
theorem w_case : (Jvm.Cond.and given_1 narrow_1).before args0 about1 = true := by decide +kernel
theorem w_applies : (headSpec (Jvm.Cond.code x code maxLocals ret :: tables_1) room_1).applies x e0.platform about1 = true :=
  (Spec.applies_iff w_frames).mpr ⟨w_running, w_runnable, w_alone, w_named, w_hears, w_ripe, w_room, w_tables⟩
theorem atStart : AtStart classFile x code maxLocals ret World_1 tables_1 room_1 Calls_1 rest_1 Pre_1 launch0 p0 e0 about1 theMethod args0 below0 :=
  ⟨lists_1, trivial, launch0.admits_env _ _ _, launch0.least_env, fairChoices_fair.cas, fairChoices_fair.clock, w_frames, w_args, w_heap, w_applies, trivial, trivial, w_case⟩
end start1
theorem witness_1 : WitnessClaimed_1 := ⟨start1.p0, start1.e0, start1.about1, start1.theMethod, start1.args0, start1.below0, start1.atStart⟩
end Jvm.Pilot.@@N@@
