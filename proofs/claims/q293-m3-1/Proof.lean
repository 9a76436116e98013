import JvmDerived
import JvmDerived.Pilot.@@N@@Statement
import JvmDerived.Pilot.@@N@@Code
set_option linter.unusedVariables false
set_option linter.unusedSimpArgs false
namespace Jvm.Pilot.@@N@@
open Jvm Jvm.ClassFile Sem Op Lib Jvm.Free Jvm.Stand Jvm.LawKit Jvm.RoadKit Bundle Jvm.Pilot.@@N@@.Jvm.D
section OwnKit
variable {p : Program} {l : Launch} {e : Env} {R : Room} {s : State} {m : MethodId} {args : Array Value} {below : List Frame} {meth : Method} {c : Code} {T : State} {locs : List Loc} {cells slots : Nat} {Z : State} {a0 : Array Value} {h : Heap} {Q : Option Value → Heap → List Loc → Prop} {ck sk : Nat}
/-- from the state T with the frame g on top the run comes to a return that answers Q -/
def own_R (p : Program) (e : Env) (below : List Frame) (s : State) (Q : Option Value → Heap → List Loc → Prop) (ck sk : Nat) (T : State) (g : JFrame) : Prop :=
  ∃ (t : State) (o : Outcome), Steps p.tables e below (T.setTop g) t ∧ t.status = .running ∧ Ended t below o ∧ ∃ v L, o = .returned v ∧ Q v t.heap L ∧ FrameEnd s o t L ck sk
theorem own_lift {T' : State} {g g' : JFrame} (h : ∀ target, Steps p.tables e below (T'.setTop g') target → Steps p.tables e below (T.setTop g) target) (k : own_R p e below s Q ck sk T' g') : own_R p e below s Q ck sk T g := by
  obtain ⟨t, o, h1, h2⟩ := k
  exact ⟨t, o, h _ h1, h2⟩
theorem own_cast {g g' : JFrame} (q : g = g') (k : own_R p e below s Q ck sk T g') : own_R p e below s Q ck sk T g := q ▸ k
theorem own_iadd (X : Stand p l e R s m args below meth c T locs cells slots) (hx : p.tables.exec = Jvm.exec) {pc : Nat} {Ls : Array Slot} {St : List Value} {x y : Int32} (hd : decode c.code pc = .ok (.iadd, 1)) (k : own_R p e below s Q ck sk T (mkF m (pc + 1) Ls (.int (x + y) :: St))) : own_R p e below s Q ck sk T (mkF m pc Ls (.int y :: .int x :: St)) :=
  own_lift (fun _ q => XS.iadd X.here hx rfl hd rfl q) k
theorem own_isub (X : Stand p l e R s m args below meth c T locs cells slots) (hx : p.tables.exec = Jvm.exec) {pc : Nat} {Ls : Array Slot} {St : List Value} {x y : Int32} (hd : decode c.code pc = .ok (.isub, 1)) (k : own_R p e below s Q ck sk T (mkF m (pc + 1) Ls (.int (x - y) :: St))) : own_R p e below s Q ck sk T (mkF m pc Ls (.int y :: .int x :: St)) :=
  own_lift (fun _ q => XS.isub X.here hx rfl hd rfl q) k
theorem own_imul (X : Stand p l e R s m args below meth c T locs cells slots) (hx : p.tables.exec = Jvm.exec) {pc : Nat} {Ls : Array Slot} {St : List Value} {x y : Int32} (hd : decode c.code pc = .ok (.imul, 1)) (k : own_R p e below s Q ck sk T (mkF m (pc + 1) Ls (.int (x * y) :: St))) : own_R p e below s Q ck sk T (mkF m pc Ls (.int y :: .int x :: St)) :=
  own_lift (fun _ q => XS.imul X.here hx rfl hd rfl q) k
theorem own_iand (X : Stand p l e R s m args below meth c T locs cells slots) (hx : p.tables.exec = Jvm.exec) {pc : Nat} {Ls : Array Slot} {St : List Value} {x y : Int32} (hd : decode c.code pc = .ok (.iand, 1)) (k : own_R p e below s Q ck sk T (mkF m (pc + 1) Ls (.int (x &&& y) :: St))) : own_R p e below s Q ck sk T (mkF m pc Ls (.int y :: .int x :: St)) :=
  own_lift (fun _ q => XS.iand X.here hx rfl hd rfl q) k
theorem own_ior (X : Stand p l e R s m args below meth c T locs cells slots) (hx : p.tables.exec = Jvm.exec) {pc : Nat} {Ls : Array Slot} {St : List Value} {x y : Int32} (hd : decode c.code pc = .ok (.ior, 1)) (k : own_R p e below s Q ck sk T (mkF m (pc + 1) Ls (.int (x ||| y) :: St))) : own_R p e below s Q ck sk T (mkF m pc Ls (.int y :: .int x :: St)) :=
  own_lift (fun _ q => XS.ior X.here hx rfl hd rfl q) k
theorem own_ixor (X : Stand p l e R s m args below meth c T locs cells slots) (hx : p.tables.exec = Jvm.exec) {pc : Nat} {Ls : Array Slot} {St : List Value} {x y : Int32} (hd : decode c.code pc = .ok (.ixor, 1)) (k : own_R p e below s Q ck sk T (mkF m (pc + 1) Ls (.int (x ^^^ y) :: St))) : own_R p e below s Q ck sk T (mkF m pc Ls (.int y :: .int x :: St)) :=
  own_lift (fun _ q => XS.ixor X.here hx rfl hd rfl q) k
theorem own_ishl (X : Stand p l e R s m args below meth c T locs cells slots) (hx : p.tables.exec = Jvm.exec) {pc : Nat} {Ls : Array Slot} {St : List Value} {x y : Int32} (hd : decode c.code pc = .ok (.ishl, 1)) (k : own_R p e below s Q ck sk T (mkF m (pc + 1) Ls (.int (x <<< (y &&& 31)) :: St))) : own_R p e below s Q ck sk T (mkF m pc Ls (.int y :: .int x :: St)) :=
  own_lift (fun _ q => XS.ishl X.here hx rfl hd rfl q) k
theorem own_ishr (X : Stand p l e R s m args below meth c T locs cells slots) (hx : p.tables.exec = Jvm.exec) {pc : Nat} {Ls : Array Slot} {St : List Value} {x y : Int32} (hd : decode c.code pc = .ok (.ishr, 1)) (k : own_R p e below s Q ck sk T (mkF m (pc + 1) Ls (.int (x >>> (y &&& 31)) :: St))) : own_R p e below s Q ck sk T (mkF m pc Ls (.int y :: .int x :: St)) :=
  own_lift (fun _ q => XS.ishr X.here hx rfl hd rfl q) k
theorem own_iushr (X : Stand p l e R s m args below meth c T locs cells slots) (hx : p.tables.exec = Jvm.exec) {pc : Nat} {Ls : Array Slot} {St : List Value} {x y : Int32} (hd : decode c.code pc = .ok (.iushr, 1)) (k : own_R p e below s Q ck sk T (mkF m (pc + 1) Ls (.int ((x.toUInt32 >>> (y &&& 31).toUInt32).toInt32) :: St))) : own_R p e below s Q ck sk T (mkF m pc Ls (.int y :: .int x :: St)) :=
  own_lift (fun _ q => XS.iushr X.here hx rfl hd rfl q) k
theorem own_ladd (X : Stand p l e R s m args below meth c T locs cells slots) (hx : p.tables.exec = Jvm.exec) {pc : Nat} {Ls : Array Slot} {St : List Value} {x y : Int64} (hd : decode c.code pc = .ok (.ladd, 1)) (k : own_R p e below s Q ck sk T (mkF m (pc + 1) Ls (.long (x + y) :: St))) : own_R p e below s Q ck sk T (mkF m pc Ls (.long y :: .long x :: St)) :=
  own_lift (fun _ q => XS.ladd X.here hx rfl hd rfl q) k
theorem own_lsub (X : Stand p l e R s m args below meth c T locs cells slots) (hx : p.tables.exec = Jvm.exec) {pc : Nat} {Ls : Array Slot} {St : List Value} {x y : Int64} (hd : decode c.code pc = .ok (.lsub, 1)) (k : own_R p e below s Q ck sk T (mkF m (pc + 1) Ls (.long (x - y) :: St))) : own_R p e below s Q ck sk T (mkF m pc Ls (.long y :: .long x :: St)) :=
  own_lift (fun _ q => XS.lsub X.here hx rfl hd rfl q) k
theorem own_lmul (X : Stand p l e R s m args below meth c T locs cells slots) (hx : p.tables.exec = Jvm.exec) {pc : Nat} {Ls : Array Slot} {St : List Value} {x y : Int64} (hd : decode c.code pc = .ok (.lmul, 1)) (k : own_R p e below s Q ck sk T (mkF m (pc + 1) Ls (.long (x * y) :: St))) : own_R p e below s Q ck sk T (mkF m pc Ls (.long y :: .long x :: St)) :=
  own_lift (fun _ q => XS.lmul X.here hx rfl hd rfl q) k
theorem own_land (X : Stand p l e R s m args below meth c T locs cells slots) (hx : p.tables.exec = Jvm.exec) {pc : Nat} {Ls : Array Slot} {St : List Value} {x y : Int64} (hd : decode c.code pc = .ok (.land, 1)) (k : own_R p e below s Q ck sk T (mkF m (pc + 1) Ls (.long (x &&& y) :: St))) : own_R p e below s Q ck sk T (mkF m pc Ls (.long y :: .long x :: St)) :=
  own_lift (fun _ q => XS.land X.here hx rfl hd rfl q) k
theorem own_lor (X : Stand p l e R s m args below meth c T locs cells slots) (hx : p.tables.exec = Jvm.exec) {pc : Nat} {Ls : Array Slot} {St : List Value} {x y : Int64} (hd : decode c.code pc = .ok (.lor, 1)) (k : own_R p e below s Q ck sk T (mkF m (pc + 1) Ls (.long (x ||| y) :: St))) : own_R p e below s Q ck sk T (mkF m pc Ls (.long y :: .long x :: St)) :=
  own_lift (fun _ q => XS.lor X.here hx rfl hd rfl q) k
theorem own_lshl (X : Stand p l e R s m args below meth c T locs cells slots) (hx : p.tables.exec = Jvm.exec) {pc : Nat} {Ls : Array Slot} {St : List Value} {x : Int64} {y : Int32} (hd : decode c.code pc = .ok (.lshl, 1)) (k : own_R p e below s Q ck sk T (mkF m (pc + 1) Ls (.long (x <<< (y &&& 0x3f).toInt64) :: St))) : own_R p e below s Q ck sk T (mkF m pc Ls (.int y :: .long x :: St)) :=
  own_lift (fun _ q => XS.lshl X.here hx rfl hd rfl q) k
theorem own_lshr (X : Stand p l e R s m args below meth c T locs cells slots) (hx : p.tables.exec = Jvm.exec) {pc : Nat} {Ls : Array Slot} {St : List Value} {x : Int64} {y : Int32} (hd : decode c.code pc = .ok (.lshr, 1)) (k : own_R p e below s Q ck sk T (mkF m (pc + 1) Ls (.long (x >>> (y &&& 0x3f).toInt64) :: St))) : own_R p e below s Q ck sk T (mkF m pc Ls (.int y :: .long x :: St)) :=
  own_lift (fun _ q => XS.lshr X.here hx rfl hd rfl q) k
theorem own_lushr (X : Stand p l e R s m args below meth c T locs cells slots) (hx : p.tables.exec = Jvm.exec) {pc : Nat} {Ls : Array Slot} {St : List Value} {x : Int64} {y : Int32} (hd : decode c.code pc = .ok (.lushr, 1)) (k : own_R p e below s Q ck sk T (mkF m (pc + 1) Ls (.long ((x.toUInt64 >>> (y &&& 0x3f).toInt64.toUInt64).toInt64) :: St))) : own_R p e below s Q ck sk T (mkF m pc Ls (.int y :: .long x :: St)) :=
  own_lift (fun _ q => XS.lushr X.here hx rfl hd rfl q) k
theorem own_i2b (X : Stand p l e R s m args below meth c T locs cells slots) (hx : p.tables.exec = Jvm.exec) {pc : Nat} {Ls : Array Slot} {St : List Value} {x : Int32} (hd : decode c.code pc = .ok (.i2b, 1)) (k : own_R p e below s Q ck sk T (mkF m (pc + 1) Ls (.int x.toInt8.toInt32 :: St))) : own_R p e below s Q ck sk T (mkF m pc Ls (.int x :: St)) :=
  own_lift (fun _ q => XS.i2b X.here hx rfl hd rfl q) k
theorem own_i2s (X : Stand p l e R s m args below meth c T locs cells slots) (hx : p.tables.exec = Jvm.exec) {pc : Nat} {Ls : Array Slot} {St : List Value} {x : Int32} (hd : decode c.code pc = .ok (.i2s, 1)) (k : own_R p e below s Q ck sk T (mkF m (pc + 1) Ls (.int x.toInt16.toInt32 :: St))) : own_R p e below s Q ck sk T (mkF m pc Ls (.int x :: St)) :=
  own_lift (fun _ q => XS.i2s X.here hx rfl hd rfl q) k
theorem own_i2c (X : Stand p l e R s m args below meth c T locs cells slots) (hx : p.tables.exec = Jvm.exec) {pc : Nat} {Ls : Array Slot} {St : List Value} {x : Int32} (hd : decode c.code pc = .ok (.i2c, 1)) (k : own_R p e below s Q ck sk T (mkF m (pc + 1) Ls (.int x.toUInt32.toUInt16.toUInt32.toInt32 :: St))) : own_R p e below s Q ck sk T (mkF m pc Ls (.int x :: St)) :=
  own_lift (fun _ q => XS.i2c X.here hx rfl hd rfl q) k
theorem own_i2l (X : Stand p l e R s m args below meth c T locs cells slots) (hx : p.tables.exec = Jvm.exec) {pc : Nat} {Ls : Array Slot} {St : List Value} {x : Int32} (hd : decode c.code pc = .ok (.i2l, 1)) (k : own_R p e below s Q ck sk T (mkF m (pc + 1) Ls (.long x.toInt64 :: St))) : own_R p e below s Q ck sk T (mkF m pc Ls (.int x :: St)) :=
  own_lift (fun _ q => XS.i2l X.here hx rfl hd rfl q) k
theorem own_l2i (X : Stand p l e R s m args below meth c T locs cells slots) (hx : p.tables.exec = Jvm.exec) {pc : Nat} {Ls : Array Slot} {St : List Value} {x : Int64} (hd : decode c.code pc = .ok (.l2i, 1)) (k : own_R p e below s Q ck sk T (mkF m (pc + 1) Ls (.int x.toInt32 :: St))) : own_R p e below s Q ck sk T (mkF m pc Ls (.long x :: St)) :=
  own_lift (fun _ q => XS.l2i X.here hx rfl hd rfl q) k
theorem own_ineg (X : Stand p l e R s m args below meth c T locs cells slots) (hx : p.tables.exec = Jvm.exec) {pc : Nat} {Ls : Array Slot} {St : List Value} {x : Int32} (hd : decode c.code pc = .ok (.ineg, 1)) (k : own_R p e below s Q ck sk T (mkF m (pc + 1) Ls (.int (-x) :: St))) : own_R p e below s Q ck sk T (mkF m pc Ls (.int x :: St)) :=
  own_lift (fun _ q => XS.ineg X.here hx rfl hd rfl q) k
theorem own_lneg (X : Stand p l e R s m args below meth c T locs cells slots) (hx : p.tables.exec = Jvm.exec) {pc : Nat} {Ls : Array Slot} {St : List Value} {x : Int64} (hd : decode c.code pc = .ok (.lneg, 1)) (k : own_R p e below s Q ck sk T (mkF m (pc + 1) Ls (.long (-x) :: St))) : own_R p e below s Q ck sk T (mkF m pc Ls (.long x :: St)) :=
  own_lift (fun _ q => XS.lneg X.here hx rfl hd rfl q) k
theorem own_iloadN (X : Stand p l e R s m args below meth c T locs cells slots) (hx : p.tables.exec = Jvm.exec) {pc : Nat} {Ls : Array Slot} {St : List Value} {i : Fin 4} {v : Int32} (hd : decode c.code pc = .ok (.iload_n i, 1)) (hl : Ls[i.val]? = some (.val (.int v))) (k : own_R p e below s Q ck sk T (mkF m (pc + 1) Ls (.int v :: St))) : own_R p e below s Q ck sk T (mkF m pc Ls St) :=
  own_lift (fun _ q => XS.iloadN X.here hx rfl hd hl q) k
theorem own_iload (X : Stand p l e R s m args below meth c T locs cells slots) (hx : p.tables.exec = Jvm.exec) {pc : Nat} {Ls : Array Slot} {St : List Value} {i : Nat} {v : Int32} (hd : decode c.code pc = .ok (.iload i, 2)) (hl : Ls[i]? = some (.val (.int v))) (k : own_R p e below s Q ck sk T (mkF m (pc + 2) Ls (.int v :: St))) : own_R p e below s Q ck sk T (mkF m pc Ls St) :=
  own_lift (fun _ q => XS.iload X.here hx rfl hd hl q) k
theorem own_istoreN (X : Stand p l e R s m args below meth c T locs cells slots) (hx : p.tables.exec = Jvm.exec) {pc : Nat} {Ls : Array Slot} {St : List Value} {i : Fin 4} {v : Int32} {l' : Array Slot} (hd : decode c.code pc = .ok (.istore_n i, 1)) (hl : storeLocals Ls i.val (.int v) = some l') (k : own_R p e below s Q ck sk T (mkF m (pc + 1) l' St)) : own_R p e below s Q ck sk T (mkF m pc Ls (.int v :: St)) :=
  own_lift (fun _ q => XS.istoreN X.here hx rfl hd rfl hl q) k
theorem own_istore (X : Stand p l e R s m args below meth c T locs cells slots) (hx : p.tables.exec = Jvm.exec) {pc : Nat} {Ls : Array Slot} {St : List Value} {i : Nat} {v : Int32} {l' : Array Slot} (hd : decode c.code pc = .ok (.istore i, 2)) (hl : storeLocals Ls i (.int v) = some l') (k : own_R p e below s Q ck sk T (mkF m (pc + 2) l' St)) : own_R p e below s Q ck sk T (mkF m pc Ls (.int v :: St)) :=
  own_lift (fun _ q => XS.istore X.here hx rfl hd rfl hl q) k
theorem own_lloadN (X : Stand p l e R s m args below meth c T locs cells slots) (hx : p.tables.exec = Jvm.exec) {pc : Nat} {Ls : Array Slot} {St : List Value} {i : Fin 4} {v : Int64} (hd : decode c.code pc = .ok (.lload_n i, 1)) (hl : Ls[i.val]? = some (.val (.long v))) (k : own_R p e below s Q ck sk T (mkF m (pc + 1) Ls (.long v :: St))) : own_R p e below s Q ck sk T (mkF m pc Ls St) :=
  own_lift (fun _ q => XS.lloadN X.here hx rfl hd hl q) k
theorem own_lload (X : Stand p l e R s m args below meth c T locs cells slots) (hx : p.tables.exec = Jvm.exec) {pc : Nat} {Ls : Array Slot} {St : List Value} {i : Nat} {v : Int64} (hd : decode c.code pc = .ok (.lload i, 2)) (hl : Ls[i]? = some (.val (.long v))) (k : own_R p e below s Q ck sk T (mkF m (pc + 2) Ls (.long v :: St))) : own_R p e below s Q ck sk T (mkF m pc Ls St) :=
  own_lift (fun _ q => XS.lload X.here hx rfl hd hl q) k
theorem own_lstoreN (X : Stand p l e R s m args below meth c T locs cells slots) (hx : p.tables.exec = Jvm.exec) {pc : Nat} {Ls : Array Slot} {St : List Value} {i : Fin 4} {v : Int64} {l' : Array Slot} (hd : decode c.code pc = .ok (.lstore_n i, 1)) (hl : storeLocals Ls i.val (.long v) = some l') (k : own_R p e below s Q ck sk T (mkF m (pc + 1) l' St)) : own_R p e below s Q ck sk T (mkF m pc Ls (.long v :: St)) :=
  own_lift (fun _ q => XS.lstoreN X.here hx rfl hd rfl hl q) k
theorem own_lstore (X : Stand p l e R s m args below meth c T locs cells slots) (hx : p.tables.exec = Jvm.exec) {pc : Nat} {Ls : Array Slot} {St : List Value} {i : Nat} {v : Int64} {l' : Array Slot} (hd : decode c.code pc = .ok (.lstore i, 2)) (hl : storeLocals Ls i (.long v) = some l') (k : own_R p e below s Q ck sk T (mkF m (pc + 2) l' St)) : own_R p e below s Q ck sk T (mkF m pc Ls (.long v :: St)) :=
  own_lift (fun _ q => XS.lstore X.here hx rfl hd rfl hl q) k
theorem own_aloadN (X : Stand p l e R s m args below meth c T locs cells slots) (hx : p.tables.exec = Jvm.exec) {pc : Nat} {Ls : Array Slot} {St : List Value} {i : Fin 4} {v : Value} (hd : decode c.code pc = .ok (.aload_n i, 1)) (hl : Ls[i.val]? = some (.val v)) (hv : v.isRef = true) (k : own_R p e below s Q ck sk T (mkF m (pc + 1) Ls (v :: St))) : own_R p e below s Q ck sk T (mkF m pc Ls St) :=
  own_lift (fun _ q => XS.aloadN X.here hx rfl hd hl hv q) k
theorem own_aload (X : Stand p l e R s m args below meth c T locs cells slots) (hx : p.tables.exec = Jvm.exec) {pc : Nat} {Ls : Array Slot} {St : List Value} {i : Nat} {v : Value} (hd : decode c.code pc = .ok (.aload i, 2)) (hl : Ls[i]? = some (.val v)) (hv : v.isRef = true) (k : own_R p e below s Q ck sk T (mkF m (pc + 2) Ls (v :: St))) : own_R p e below s Q ck sk T (mkF m pc Ls St) :=
  own_lift (fun _ q => XS.aload X.here hx rfl hd hl hv q) k
theorem own_astoreN (X : Stand p l e R s m args below meth c T locs cells slots) (hx : p.tables.exec = Jvm.exec) {pc : Nat} {Ls : Array Slot} {St : List Value} {i : Fin 4} {v : Value} {l' : Array Slot} (hd : decode c.code pc = .ok (.astore_n i, 1)) (hv : v.isRef = true) (hl : storeLocals Ls i.val v = some l') (k : own_R p e below s Q ck sk T (mkF m (pc + 1) l' St)) : own_R p e below s Q ck sk T (mkF m pc Ls (v :: St)) :=
  own_lift (fun _ q => XS.astoreN X.here hx rfl hd rfl hv hl q) k
theorem own_astore (X : Stand p l e R s m args below meth c T locs cells slots) (hx : p.tables.exec = Jvm.exec) {pc : Nat} {Ls : Array Slot} {St : List Value} {i : Nat} {v : Value} {l' : Array Slot} (hd : decode c.code pc = .ok (.astore i, 2)) (hv : v.isRef = true) (hl : storeLocals Ls i v = some l') (k : own_R p e below s Q ck sk T (mkF m (pc + 2) l' St)) : own_R p e below s Q ck sk T (mkF m pc Ls (v :: St)) :=
  own_lift (fun _ q => XS.astore X.here hx rfl hd rfl hv hl q) k
theorem own_iconst (X : Stand p l e R s m args below meth c T locs cells slots) (hx : p.tables.exec = Jvm.exec) {pc : Nat} {Ls : Array Slot} {St : List Value} {i : Int} (v : Int32) (hd : decode c.code pc = .ok (.iconst i, 1)) (hv : Int32.ofInt i = v) (k : own_R p e below s Q ck sk T (mkF m (pc + 1) Ls (.int v :: St))) : own_R p e below s Q ck sk T (mkF m pc Ls St) :=
  own_lift (fun _ q => XS.iconst X.here hx rfl hd (hv ▸ q)) k
theorem own_bipush (X : Stand p l e R s m args below meth c T locs cells slots) (hx : p.tables.exec = Jvm.exec) {pc : Nat} {Ls : Array Slot} {St : List Value} {i : Int} (v : Int32) (hd : decode c.code pc = .ok (.bipush i, 2)) (hv : (Int8.ofInt i).toInt32 = v) (k : own_R p e below s Q ck sk T (mkF m (pc + 2) Ls (.int v :: St))) : own_R p e below s Q ck sk T (mkF m pc Ls St) :=
  own_lift (fun _ q => XS.bipush X.here hx rfl hd (hv ▸ q)) k
theorem own_sipush (X : Stand p l e R s m args below meth c T locs cells slots) (hx : p.tables.exec = Jvm.exec) {pc : Nat} {Ls : Array Slot} {St : List Value} {i : Int} (v : Int32) (hd : decode c.code pc = .ok (.sipush i, 3)) (hv : (Int16.ofInt i).toInt32 = v) (k : own_R p e below s Q ck sk T (mkF m (pc + 3) Ls (.int v :: St))) : own_R p e below s Q ck sk T (mkF m pc Ls St) :=
  own_lift (fun _ q => XS.sipush X.here hx rfl hd (hv ▸ q)) k
theorem own_lconst (X : Stand p l e R s m args below meth c T locs cells slots) (hx : p.tables.exec = Jvm.exec) {pc : Nat} {Ls : Array Slot} {St : List Value} {i : Fin 2} (v : Int64) (hd : decode c.code pc = .ok (.lconst i, 1)) (hv : Int64.ofNat i = v) (k : own_R p e below s Q ck sk T (mkF m (pc + 1) Ls (.long v :: St))) : own_R p e below s Q ck sk T (mkF m pc Ls St) :=
  own_lift (fun _ q => XS.lconst X.here hx rfl hd (hv ▸ q)) k
theorem own_iinc (X : Stand p l e R s m args below meth c T locs cells slots) (hx : p.tables.exec = Jvm.exec) {pc : Nat} {Ls : Array Slot} {St : List Value} {i : Nat} {cst : Int} {x : Int32} (v : Int32) {l' : Array Slot} (hd : decode c.code pc = .ok (.iinc i cst, 3)) (hv : Int32.ofInt cst = v) (hl : Ls[i]? = some (.val (.int x))) (hl' : storeLocals Ls i (.int (x + v)) = some l') (k : own_R p e below s Q ck sk T (mkF m (pc + 3) l' St)) : own_R p e below s Q ck sk T (mkF m pc Ls St) :=
  own_lift (fun _ q => XS.iinc X.here hx rfl hd hl (hv ▸ hl') q) k
theorem own_aconst_null (X : Stand p l e R s m args below meth c T locs cells slots) (hx : p.tables.exec = Jvm.exec) {pc : Nat} {Ls : Array Slot} {St : List Value}  (hd : decode c.code pc = .ok (.aconst_null, 1)) (k : own_R p e below s Q ck sk T (mkF m (pc + 1) Ls (.null :: St))) : own_R p e below s Q ck sk T (mkF m pc Ls St) :=
  own_lift (fun _ q => XS.aconstNull X.here hx rfl hd q) k
theorem own_dup (X : Stand p l e R s m args below meth c T locs cells slots) (hx : p.tables.exec = Jvm.exec) {pc : Nat} {Ls : Array Slot} {St : List Value} {x : Value} (hd : decode c.code pc = .ok (.dup, 1)) (hc : x.category = 1) (k : own_R p e below s Q ck sk T (mkF m (pc + 1) Ls (x :: x :: St))) : own_R p e below s Q ck sk T (mkF m pc Ls (x :: St)) :=
  own_lift (fun _ q => XS.dup X.here hx rfl hd rfl hc q) k
theorem own_dup_x1 (X : Stand p l e R s m args below meth c T locs cells slots) (hx : p.tables.exec = Jvm.exec) {pc : Nat} {Ls : Array Slot} {St : List Value} {x y : Value} (hd : decode c.code pc = .ok (.dup_x1, 1)) (hc : x.category = 1) (hc2 : y.category = 1) (k : own_R p e below s Q ck sk T (mkF m (pc + 1) Ls (x :: y :: x :: St))) : own_R p e below s Q ck sk T (mkF m pc Ls (x :: y :: St)) :=
  own_lift (fun _ q => XS.dupX1 X.here hx rfl hd rfl hc hc2 q) k
theorem own_pop (X : Stand p l e R s m args below meth c T locs cells slots) (hx : p.tables.exec = Jvm.exec) {pc : Nat} {Ls : Array Slot} {St : List Value} {x : Value} (hd : decode c.code pc = .ok (.pop, 1)) (hc : x.category = 1) (k : own_R p e below s Q ck sk T (mkF m (pc + 1) Ls St)) : own_R p e below s Q ck sk T (mkF m pc Ls (x :: St)) :=
  own_lift (fun _ q => XS.pop X.here hx rfl hd rfl hc q) k
theorem own_goto (X : Stand p l e R s m args below meth c T locs cells slots) (hx : p.tables.exec = Jvm.exec) {pc : Nat} {Ls : Array Slot} {St : List Value} {o : Int} {pc' : Nat} (hd : decode c.code pc = .ok (.goto o, 3)) (ho : 0 ≤ (pc : Int) + o) (hp : ((pc : Int) + o).toNat = pc') (k : own_R p e below s Q ck sk T (mkF m pc' Ls St)) : own_R p e below s Q ck sk T (mkF m pc Ls St) :=
  own_lift (fun _ q => XS.goto X.here hx rfl (pc0 := pc) rfl hd ho hp q) k
theorem own_ifnullY (X : Stand p l e R s m args below meth c T locs cells slots) (hx : p.tables.exec = Jvm.exec) {pc : Nat} {Ls : Array Slot} {St : List Value} {o : Int} {pc' : Nat} (hd : decode c.code pc = .ok (.ifnull o, 3)) (ho : 0 ≤ (pc : Int) + o) (hp : ((pc : Int) + o).toNat = pc') (k : own_R p e below s Q ck sk T (mkF m pc' Ls St)) : own_R p e below s Q ck sk T (mkF m pc Ls (.null :: St)) :=
  own_lift (fun _ q => XS.ifnullYes X.here hx rfl (pc0 := pc) rfl hd rfl ho hp q) k
theorem own_ifnullN (X : Stand p l e R s m args below meth c T locs cells slots) (hx : p.tables.exec = Jvm.exec) {pc : Nat} {Ls : Array Slot} {St : List Value} {o : Int} {b : Addr} (hd : decode c.code pc = .ok (.ifnull o, 3)) (k : own_R p e below s Q ck sk T (mkF m (pc + 3) Ls St)) : own_R p e below s Q ck sk T (mkF m pc Ls (.ref b :: St)) :=
  own_lift (fun _ q => XS.ifnullNo X.here hx rfl hd rfl q) k
theorem own_ifnonnullY (X : Stand p l e R s m args below meth c T locs cells slots) (hx : p.tables.exec = Jvm.exec) {pc : Nat} {Ls : Array Slot} {St : List Value} {o : Int} {pc' : Nat} {b : Addr} (hd : decode c.code pc = .ok (.ifnonnull o, 3)) (ho : 0 ≤ (pc : Int) + o) (hp : ((pc : Int) + o).toNat = pc') (k : own_R p e below s Q ck sk T (mkF m pc' Ls St)) : own_R p e below s Q ck sk T (mkF m pc Ls (.ref b :: St)) :=
  own_lift (fun _ q => XS.ifnonnullYes X.here hx rfl (pc0 := pc) rfl hd rfl ho hp q) k
theorem own_ifnonnullN (X : Stand p l e R s m args below meth c T locs cells slots) (hx : p.tables.exec = Jvm.exec) {pc : Nat} {Ls : Array Slot} {St : List Value} {o : Int} (hd : decode c.code pc = .ok (.ifnonnull o, 3)) (k : own_R p e below s Q ck sk T (mkF m (pc + 3) Ls St)) : own_R p e below s Q ck sk T (mkF m pc Ls (.null :: St)) :=
  own_lift (fun _ q => XS.ifnonnullNo X.here hx rfl hd rfl q) k
theorem own_irem (X : Stand p l e R s m args below meth c T locs cells slots) (hx : p.tables.exec = Jvm.exec) {pc : Nat} {Ls : Array Slot} {St : List Value} {x y : Int32} (hd : decode c.code pc = .ok (.irem, 1)) (hy : y ≠ 0) (k : own_R p e below s Q ck sk T (mkF m (pc + 1) Ls (.int (x % y) :: St))) : own_R p e below s Q ck sk T (mkF m pc Ls (.int y :: .int x :: St)) :=
  own_lift (fun _ q => iremM X hx rfl hd rfl hy q) k
theorem own_ldc (X : Stand p l e R s m args below meth c T locs cells slots) (hx : p.tables.exec = Jvm.exec) (hZ : Z.Warmed39 s.vm) {own : String} {index : Nat} {v : Int32} (hown : s.vm.findClass own = some m.cls) (w : (Cond.constant own index v).before a0 Z = true) {pc : Nat} {Ls : Array Slot} {St : List Value} (hd : decode c.code pc = .ok (.ldc index, 2)) (k : own_R p e below s Q ck sk T (mkF m (pc + 2) Ls (.int v :: St))) : own_R p e below s Q ck sk T (mkF m pc Ls St) :=
  own_lift (fun _ q => X.ldcInt hx hown (mvT hZ w) (g := mkF m pc Ls St) rfl hd _ q) k
theorem own_ldc2 (X : Stand p l e R s m args below meth c T locs cells slots) (hx : p.tables.exec = Jvm.exec) (hZ : Z.Warmed39 s.vm) {own : String} {index : Nat} {v : Int64} (hown : s.vm.findClass own = some m.cls) (w : (Cond.constantLong own index v).before a0 Z = true) {pc : Nat} {Ls : Array Slot} {St : List Value} (hd : decode c.code pc = .ok (.ldc2_w index, 3)) (k : own_R p e below s Q ck sk T (mkF m (pc + 3) Ls (.long v :: St))) : own_R p e below s Q ck sk T (mkF m pc Ls St) :=
  own_lift (fun _ q => X.ldc2Long hx hown (mvT hZ w) (g := mkF m pc Ls St) rfl hd _ q) k
theorem own_dup2 (X : Stand p l e R s m args below meth c T locs cells slots) (hx : p.tables.exec = Jvm.exec) {pc : Nat} {Ls : Array Slot} {St : List Value} {x y : Value} (hd : decode c.code pc = .ok (.dup2, 1)) (h1 : x.category = 1) (h2 : y.category = 1) (k : own_R p e below s Q ck sk T (mkF m (pc + 1) Ls (x :: y :: x :: y :: St))) : own_R p e below s Q ck sk T (mkF m pc Ls (x :: y :: St)) :=
  own_lift (fun _ q => by
    show Steps p.tables e below (T.setTop { method := m, pc := pc, locals := Ls, stack := x :: y :: St, locked := none }) _
    jvm_step X.here [X.here.top, hx, hd, h1, h2]
    exact q) k
/-! branches: both ways -/
theorem own_icmp (X : Stand p l e R s m args below meth c T locs cells slots) (hx : p.tables.exec = Jvm.exec) {pc pc' : Nat} {Ls : Array Slot} {St : List Value} {x y : Int32} {cd : ClassFile.Cond} {o : Int} (hd : decode c.code pc = .ok (.if_icmp cd o, 3)) (ho : 0 ≤ (pc : Int) + o) (hp : ((pc : Int) + o).toNat = pc')
    (k1 : if_icmp.holds cd x y = true → own_R p e below s Q ck sk T (mkF m pc' Ls St)) (k2 : if_icmp.holds cd x y = false → own_R p e below s Q ck sk T (mkF m (pc + 3) Ls St)) : own_R p e below s Q ck sk T (mkF m pc Ls (.int y :: .int x :: St)) := by
  cases hc : if_icmp.holds cd x y
  · exact own_lift (fun _ q => XS.icmpNo X.here hx rfl hd rfl hc q) (k2 hc)
  · exact own_lift (fun _ q => XS.icmpYes X.here hx rfl (pc0 := pc) rfl hd rfl hc ho hp q) (k1 hc)
theorem own_if (X : Stand p l e R s m args below meth c T locs cells slots) (hx : p.tables.exec = Jvm.exec) {pc pc' : Nat} {Ls : Array Slot} {St : List Value} {x : Int32} {cd : ClassFile.Cond} {o : Int} (hd : decode c.code pc = .ok (.ifCond cd o, 3)) (ho : 0 ≤ (pc : Int) + o) (hp : ((pc : Int) + o).toNat = pc')
    (k1 : if_icmp.holds cd x 0 = true → own_R p e below s Q ck sk T (mkF m pc' Ls St)) (k2 : if_icmp.holds cd x 0 = false → own_R p e below s Q ck sk T (mkF m (pc + 3) Ls St)) : own_R p e below s Q ck sk T (mkF m pc Ls (.int x :: St)) := by
  cases hc : if_icmp.holds cd x 0
  · exact own_lift (fun _ q => XS.ifNo X.here hx rfl hd rfl ((if0 _ _).trans hc) q) (k2 hc)
  · exact own_lift (fun _ q => XS.ifYes X.here hx rfl (pc0 := pc) rfl hd rfl ((if0 _ _).trans hc) ho hp q) (k1 hc)
theorem own_lt1 {x y : Int32} (q : if_icmp.holds .lt x y = true) : x < y := by simpa [if_icmp.holds] using q
theorem own_lt0 {x y : Int32} (q : if_icmp.holds .lt x y = false) : ¬ x < y := by simpa [if_icmp.holds] using q
theorem own_ge1 {x y : Int32} (q : if_icmp.holds .ge x y = true) : ¬ x < y := by simpa [if_icmp.holds] using q
theorem own_ge0 {x y : Int32} (q : if_icmp.holds .ge x y = false) : x < y := by simpa [if_icmp.holds] using q
theorem own_gt1 {x y : Int32} (q : if_icmp.holds .gt x y = true) : y < x := by simpa [if_icmp.holds] using q
theorem own_gt0 {x y : Int32} (q : if_icmp.holds .gt x y = false) : ¬ y < x := by simpa [if_icmp.holds] using q
theorem own_le1 {x y : Int32} (q : if_icmp.holds .le x y = true) : ¬ y < x := by simpa [if_icmp.holds] using q
theorem own_le0 {x y : Int32} (q : if_icmp.holds .le x y = false) : y < x := by simpa [if_icmp.holds] using q
theorem own_eq1 {x y : Int32} (q : if_icmp.holds .eq x y = true) : x = y := by simpa [if_icmp.holds] using q
theorem own_eq0 {x y : Int32} (q : if_icmp.holds .eq x y = false) : ¬ x = y := by simpa [if_icmp.holds] using q
theorem own_ne1 {x y : Int32} (q : if_icmp.holds .ne x y = true) : ¬ x = y := by simpa [if_icmp.holds] using q
theorem own_ne0 {x y : Int32} (q : if_icmp.holds .ne x y = false) : x = y := by simpa [if_icmp.holds] using q
/-! lcmp and the branch behind it, in one -/
theorem own_lcmp (X : Stand p l e R s m args below meth c T locs cells slots) (hx : p.tables.exec = Jvm.exec) {pc pc' : Nat} {Ls : Array Slot} {St : List Value} {x y : Int64} {cd : ClassFile.Cond} {o : Int} (hd1 : decode c.code pc = .ok (.lcmp, 1)) (hd : decode c.code (pc + 1) = .ok (.ifCond cd o, 3)) (ho : 0 ≤ ((pc + 1 : Nat) : Int) + o) (hp : (((pc + 1 : Nat) : Int) + o).toNat = pc')
    (k1 : if_icmp.holds cd (lcmpW x y) 0 = true → own_R p e below s Q ck sk T (mkF m pc' Ls St)) (k2 : if_icmp.holds cd (lcmpW x y) 0 = false → own_R p e below s Q ck sk T (mkF m (pc + 4) Ls St)) : own_R p e below s Q ck sk T (mkF m pc Ls (.long y :: .long x :: St)) :=
  own_lift (fun _ q => XS.lcmp X.here hx rfl hd1 rfl q) (own_if X hx hd ho hp k1 k2)
theorem own_llt1 {x y : Int64} (q : if_icmp.holds .lt (lcmpW x y) 0 = true) : x < y := (lw_lt x y).mp (own_lt1 q)
theorem own_llt0 {x y : Int64} (q : if_icmp.holds .lt (lcmpW x y) 0 = false) : ¬ x < y := fun z => own_lt0 q ((lw_lt x y).mpr z)
theorem own_lge1 {x y : Int64} (q : if_icmp.holds .ge (lcmpW x y) 0 = true) : ¬ x < y := fun z => own_ge1 q ((lw_lt x y).mpr z)
theorem own_lge0 {x y : Int64} (q : if_icmp.holds .ge (lcmpW x y) 0 = false) : x < y := (lw_lt x y).mp (own_ge0 q)
theorem own_lgt1 {x y : Int64} (q : if_icmp.holds .gt (lcmpW x y) 0 = true) : y < x := (lw_gt x y).mp (own_gt1 q)
theorem own_lgt0 {x y : Int64} (q : if_icmp.holds .gt (lcmpW x y) 0 = false) : ¬ y < x := fun z => own_gt0 q ((lw_gt x y).mpr z)
theorem own_lle1 {x y : Int64} (q : if_icmp.holds .le (lcmpW x y) 0 = true) : ¬ y < x := fun z => own_le1 q ((lw_gt x y).mpr z)
theorem own_lle0 {x y : Int64} (q : if_icmp.holds .le (lcmpW x y) 0 = false) : y < x := (lw_gt x y).mp (own_le0 q)
theorem own_leq1 {x y : Int64} (q : if_icmp.holds .eq (lcmpW x y) 0 = true) : x = y := (lw_eq x y).mp (own_eq1 q)
theorem own_leq0 {x y : Int64} (q : if_icmp.holds .eq (lcmpW x y) 0 = false) : ¬ x = y := fun z => own_eq0 q ((lw_eq x y).mpr z)
theorem own_lne1 {x y : Int64} (q : if_icmp.holds .ne (lcmpW x y) 0 = true) : ¬ x = y := fun z => own_ne1 q ((lw_eq x y).mpr z)
theorem own_lne0 {x y : Int64} (q : if_icmp.holds .ne (lcmpW x y) 0 = false) : x = y := (lw_eq x y).mp (own_ne0 q)
/-! returns -/
theorem own_ret0 (X : Stand p l e R s m args below meth c T locs cells slots) (hx : p.tables.exec = Jvm.exec) {pc : Nat} {Ls : Array Slot} (hret : meth.sig.returnType = none) (hlk : meth.locks = false) (hd : decode c.code pc = .ok (.return_, 1)) (hQ : Q none T.heap locs) (hc : cells ≤ ck) (hs : slots ≤ sk) : own_R p e below s Q ck sk T (mkF m pc Ls []) := by
  obtain ⟨fs, hr, hrun, hended, hW, hsame⟩ := X.leave (v := none) (fun _ => rfl) hlk
  exact ⟨_, _, X.returnOut hx hret hd hr, hrun, hended, _, _, rfl, hQ, ⟨_, rfl⟩, hW, hsame.mono hc hs⟩
theorem own_retN (X : Stand p l e R s m args below meth c T locs cells slots) (hx : p.tables.exec = Jvm.exec) {pc : Nat} {Ls : Array Slot} {St : List Value} {z : Int32} {t : FieldType} (hret : meth.sig.returnType = some t) (ht : t = .boolean ∨ t = .byte ∨ t = .char ∨ t = .short) (hlk : meth.locks = false) (hd : decode c.code pc = .ok (.ireturn, 1)) (hQ : Q (some (.int (nar t z))) T.heap locs) (hc : cells ≤ ck) (hs : slots ≤ sk) : own_R p e below s Q ck sk T (mkF m pc Ls (.int z :: St)) := by
  obtain ⟨fs, hr, hrun, hended, hW, hsame⟩ := X.leave (v := some (.int (nar t z))) (fun h => by rw [hret] at h; cases h) hlk
  exact ⟨_, _, retN X hx hret ht hd hr, hrun, hended, _, _, rfl, hQ, ⟨_, rfl⟩, hW, hsame.mono hc hs⟩
theorem own_retV (X : Stand p l e R s m args below meth c T locs cells slots) (hx : p.tables.exec = Jvm.exec) {pc : Nat} {Ls : Array Slot} {St : List Value} {w : Value} {t : FieldType} {i : Instr} (hret : meth.sig.returnType = some t) (hn : narrow t w = w)
    (hi : (i = .ireturn ∧ (t = .int ∨ t = .boolean ∨ t = .byte ∨ t = .char ∨ t = .short) ∧ ∃ z, w = .int z) ∨ (i = .lreturn ∧ t = .long ∧ ∃ z, w = .long z) ∨ (i = .dreturn ∧ t = .double ∧ ∃ z, w = .double z) ∨ (i = .freturn ∧ t = .float ∧ ∃ z, w = .float z) ∨ (i = .areturn ∧ t.isReference = true ∧ w.isRef = true)) (hlk : meth.locks = false)
    (hd : decode c.code pc = .ok (i, 1)) (hQ : Q (some w) T.heap locs) (hc : cells ≤ ck) (hs : slots ≤ sk) : own_R p e below s Q ck sk T (mkF m pc Ls (w :: St)) := by
  obtain ⟨fs, hr, hrun, hended, hW, hsame⟩ := X.leave (v := some w) (fun h => by rw [hret] at h; cases h) hlk
  exact ⟨_, _, retOut X hx hret hn hi hd hr, hrun, hended, _, _, rfl, hQ, ⟨_, rfl⟩, hW, hsame.mono hc hs⟩
theorem own_retI (X : Stand p l e R s m args below meth c T locs cells slots) (hx : p.tables.exec = Jvm.exec) {pc : Nat} {Ls : Array Slot} {St : List Value} {z : Int32} (hret : meth.sig.returnType = some .int) (hlk : meth.locks = false) (hd : decode c.code pc = .ok (.ireturn, 1)) (hQ : Q (some (.int z)) T.heap locs) (hc : cells ≤ ck) (hs : slots ≤ sk) : own_R p e below s Q ck sk T (mkF m pc Ls (.int z :: St)) :=
  own_retV X hx hret rfl (Or.inl ⟨rfl, Or.inl rfl, _, rfl⟩) hlk hd hQ hc hs
theorem own_retJ (X : Stand p l e R s m args below meth c T locs cells slots) (hx : p.tables.exec = Jvm.exec) {pc : Nat} {Ls : Array Slot} {St : List Value} {z : Int64} (hret : meth.sig.returnType = some .long) (hlk : meth.locks = false) (hd : decode c.code pc = .ok (.lreturn, 1)) (hQ : Q (some (.long z)) T.heap locs) (hc : cells ≤ ck) (hs : slots ≤ sk) : own_R p e below s Q ck sk T (mkF m pc Ls (.long z :: St)) :=
  own_retV X hx hret rfl (Or.inr (Or.inl ⟨rfl, rfl, _, rfl⟩)) hlk hd hQ hc hs
theorem own_retA (X : Stand p l e R s m args below meth c T locs cells slots) (hx : p.tables.exec = Jvm.exec) {pc : Nat} {Ls : Array Slot} {St : List Value} {w : Value} {t : FieldType} (hret : meth.sig.returnType = some t) (ht : t.isReference = true) (hw : w.isRef = true) (hlk : meth.locks = false) (hd : decode c.code pc = .ok (.areturn, 1)) (hQ : Q (some w) T.heap locs) (hc : cells ≤ ck) (hs : slots ≤ sk) : own_R p e below s Q ck sk T (mkF m pc Ls (w :: St)) :=
  own_retV X hx hret (by rcases ref_cases hw with rfl | ⟨a, rfl⟩ <;> cases t <;> first | rfl | (cases ht)) (Or.inr (Or.inr (Or.inr (Or.inr ⟨rfl, ht, hw⟩)))) hlk hd hQ hc hs
/-! the heap -/
theorem own_getF (X : Stand p l e R s m args below meth c T locs cells slots) (hx : p.tables.exec = Jvm.exec) (hZ : Z.Warmed39 s.vm) {own R0 O n d host : String} {index : Nat} (hown : s.vm.findClass own = some m.cls) (w : (Cond.fieldLink own index R0 n d).before a0 Z = true ∨ (Cond.fieldLinkNest own index R0 n d host).before a0 Z = true) (via : Via Z R0 O n d) (eT : T.heap = h) {a : Addr} {v : Value} (F : Fld Z h a O n d v) {pc : Nat} {Ls : Array Slot} {St : List Value} (hd : decode c.code pc = .ok (.getfield index, 3))
    (k : ∀ T', Stand p l e R s m args below meth c T' locs cells slots → T'.heap = h → own_R p e below s Q ck sk T' (mkF m (pc + 3) Ls (v :: St))) : own_R p e below s Q ck sk T (mkF m pc Ls (.ref a :: St)) := by
  obtain ⟨T', X', e', st⟩ := getF X hx hZ hown w via eT F (g := mkF m pc Ls (.ref a :: St)) rfl rfl hd
  exact own_lift st (k T' X' e')
theorem own_putF (X : Stand p l e R s m args below meth c T locs cells slots) (hx : p.tables.exec = Jvm.exec) (hZ : Z.Warmed39 s.vm) {own R0 O n d host C : String} {index kk : Nat} {ty : FieldType} (hown : s.vm.findClass own = some m.cls) (w : (Cond.fieldLink own index R0 n d).before a0 Z = true ∨ (Cond.fieldLinkNest own index R0 n d host).before a0 Z = true) (via : Via Z R0 O n d)
    (eT : T.heap = h) {a : Addr} {v old : Value} (F : Fld Z h a O n d old) (E : Exa Z h a C) (L : (Cond.lays C O n d).before a0 Z = true ∨ ((Cond.laysFinal C O n d).before a0 Z = true ∧ own = O ∧ meth.name = "<init>")) (wi : (Cond.instantiable C kk).before a0 Z = true)
    (hty : parseFieldDescriptor d = some ty) (hn : narrow ty v = v) (hf : fits ty v = true) {pc : Nat} {Ls : Array Slot} {St : List Value} (hd : decode c.code pc = .ok (.putfield index, 3))
    (k : ∀ T' h', Stand p l e R s m args below meth c T' (locs ++ [⟨a, Jvm.RoadKit.slotOf Z O n d⟩]) cells slots → T'.heap = h' → Wr h h' a (Jvm.RoadKit.slotOf Z O n d) v → own_R p e below s Q ck sk T' (mkF m (pc + 3) Ls St)) : own_R p e below s Q ck sk T (mkF m pc Ls (v :: .ref a :: St)) := by
  obtain ⟨T', h', X', e', W, st⟩ := putF X hx hZ hown w via eT F E L wi hty hn hf (g := mkF m pc Ls (v :: .ref a :: St)) rfl rfl hd
  exact own_lift st (k T' h' X' e' W)
theorem own_putFN (X : Stand p l e R s m args below meth c T locs cells slots) (hx : p.tables.exec = Jvm.exec) (hZ : Z.Warmed39 s.vm) {own R0 O n d C : String} {index kk : Nat} {ty : FieldType} (hown : s.vm.findClass own = some m.cls) (w : (Cond.fieldLink own index R0 n d).before a0 Z = true) (via : Via Z R0 O n d)
    (eT : T.heap = h) {a : Addr} {v v' old : Value} (F : Fld Z h a O n d old) (E : Exa Z h a C) (L : (Cond.lays C O n d).before a0 Z = true ∨ ((Cond.laysFinal C O n d).before a0 Z = true ∧ own = O ∧ meth.name = "<init>")) (wi : (Cond.instantiable C kk).before a0 Z = true)
    (hty : parseFieldDescriptor d = some ty) (hn : narrow ty v = v') (hf : fits ty v' = true) {pc : Nat} {Ls : Array Slot} {St : List Value} (hd : decode c.code pc = .ok (.putfield index, 3))
    (k : ∀ T' h', Stand p l e R s m args below meth c T' (locs ++ [⟨a, Jvm.RoadKit.slotOf Z O n d⟩]) cells slots → T'.heap = h' → Wr h h' a (Jvm.RoadKit.slotOf Z O n d) v' → own_R p e below s Q ck sk T' (mkF m (pc + 3) Ls St)) : own_R p e below s Q ck sk T (mkF m pc Ls (v :: .ref a :: St)) := by
  obtain ⟨T', h', X', e', W, st⟩ := putFN X hx hZ hown w via eT F E L wi hty hn hf (g := mkF m pc Ls (v :: .ref a :: St)) rfl rfl hd
  exact own_lift st (k T' h' X' e' W)
theorem own_new (X : Stand p l e R s m args below meth c T locs cells slots) (hx : p.tables.exec = Jvm.exec) (hZ : Z.Warmed39 s.vm) {own C : String} {index n : Nat} (hown : s.vm.findClass own = some m.cls) (w : (Cond.classLink own index C).before a0 Z = true) (wi : (Cond.instantiable C n).before a0 Z = true) (wz : (Cond.initialized C).before a0 Z = true) (eT : T.heap = h) {pc : Nat} {Ls : Array Slot} {St : List Value} (hd : decode c.code pc = .ok (.new index, 3)) (hc : cells + 1 ≤ R.cells) (hl : slots + n ≤ R.slots)
    (k : ∀ T' h' b, b = h.size → Stand p l e R s m args below meth c T' locs (cells + 1) (slots + n) → T'.heap = h' → Ext h h' → Exa Z h' b C → (∀ {O nm d : String} {ty : FieldType}, Laid Z a0 C O nm d → parseFieldDescriptor d = some ty → Fld Z h' b O nm d (defaultValue ty)) → own_R p e below s Q ck sk T' (mkF m (pc + 3) Ls (.ref b :: St))) : own_R p e below s Q ck sk T (mkF m pc Ls St) := by
  obtain ⟨T', h', X', e', E, A, D, -, st⟩ := newO X hx hZ hown w wi wz eT (g := mkF m pc Ls St) rfl hd hc hl
  exact own_lift st (k T' h' _ rfl X' e' E A D)
theorem own_newA (X : Stand p l e R s m args below meth c T locs cells slots) (hx : p.tables.exec = Jvm.exec) (hZ : Z.Warmed39 s.vm) {aty : ArrayType} (w : (Cond.arrayClass (newarray.typeOf aty)).before a0 Z = true) (eT : T.heap = h) {pc : Nat} {Ls : Array Slot} {St : List Value} {n : Int32} (hd : decode c.code pc = .ok (.newarray aty, 2)) (hn : ¬ n < 0) (cap : Nat) (hcap : n.toNatClampNeg ≤ cap) (hb : cap * 8 ≤ 536870912) (hc : cells + 1 ≤ R.cells) (hl : slots + cap ≤ R.slots) {ad : String} (had : "[" ++ (newarray.typeOf aty).toString = ad) (N : Nat)
    (k : ∀ T' h' b kA, b = h.size → Stand p l e R s m args below meth c T' locs (cells + 1) (slots + cap) → T'.heap = h' → Ext h h' → Arv Z h' b kA (newarray.typeOf aty) n (List.replicate N (defaultValue (newarray.typeOf aty))) (defaultValue (newarray.typeOf aty)) → Exa Z h' b ad → own_R p e below s Q ck sk T' (mkF m (pc + 2) Ls (.ref b :: St))) : own_R p e below s Q ck sk T (mkF m pc Ls (.int n :: St)) := by
  obtain ⟨T', h', kA, X', e', E, A, EA, st⟩ := newPE X hx hZ w eT (g := mkF m pc Ls (.int n :: St)) rfl hd rfl hn hcap hb hc hl had
  have V := (Arv.new A hn).pad (vs' := List.replicate N (defaultValue (newarray.typeOf aty))) (fun i => pad_rep [] (defaultValue (newarray.typeOf aty)) N i)
  exact own_lift st (k T' h' _ kA rfl X' e' E V EA)
theorem own_len (X : Stand p l e R s m args below meth c T locs cells slots) (hx : p.tables.exec = Jvm.exec) (hZ : Z.Warmed39 s.vm) (eT : T.heap = h) {a : Addr} {kA : ClassId} {ty : FieldType} {n : Int32} {vs : List Value} {dv : Value} (V : Arv Z h a kA ty n vs dv) {pc : Nat} {Ls : Array Slot} {St : List Value} (hd : decode c.code pc = .ok (.arraylength, 1))
    (k : own_R p e below s Q ck sk T (mkF m (pc + 1) Ls (.int n :: St))) : own_R p e below s Q ck sk T (mkF m pc Ls (.ref a :: St)) := by
  obtain ⟨cl, A, -, S, N, -⟩ := V
  rw [← len_of S N] at k
  exact own_lift (fun _ q => X.arraylength hx (by rw [eT]; exact A.1) (State.isArrayOf_alike hZ.alike A.2.1) (g := mkF m pc Ls (.ref a :: St)) rfl rfl hd _ q) k
theorem own_baload (X : Stand p l e R s m args below meth c T locs cells slots) (hx : p.tables.exec = Jvm.exec) (hZ : Z.Warmed39 s.vm) (eT : T.heap = h) {a : Addr} {kA : ClassId} {n : Int32} {vs : List Value} {dv v : Value} (V : Arv Z h a kA .byte n vs dv) {pc : Nat} {Ls : Array Slot} {St : List Value} {j : Int32} (hj : ¬ j < 0 ∧ j < n) (hv : vs.getD j.toNatClampNeg dv = v) (hd : decode c.code pc = .ok (.baload, 1))
    (k : own_R p e below s Q ck sk T (mkF m (pc + 1) Ls (v :: St))) : own_R p e below s Q ck sk T (mkF m pc Ls (.int j :: .ref a :: St)) := by
  obtain ⟨cl, A, -, S, N, H, -⟩ := V
  have hin := inb_of S hj
  exact own_lift (fun _ q => X.baloadBytes hx (by rw [eT]; exact A.1) (State.isArrayOf_alike hZ.alike A.2.1) A.2.2 hin (H.at hin hv) (g := mkF m pc Ls (.int j :: .ref a :: St)) rfl rfl hd _ q) k
theorem own_zaload (X : Stand p l e R s m args below meth c T locs cells slots) (hx : p.tables.exec = Jvm.exec) (hZ : Z.Warmed39 s.vm) (eT : T.heap = h) {a : Addr} {kA : ClassId} {n : Int32} {vs : List Value} {dv v : Value} (V : Arv Z h a kA .boolean n vs dv) {pc : Nat} {Ls : Array Slot} {St : List Value} {j : Int32} (hj : ¬ j < 0 ∧ j < n) (hv : vs.getD j.toNatClampNeg dv = v) (hd : decode c.code pc = .ok (.baload, 1))
    (k : own_R p e below s Q ck sk T (mkF m (pc + 1) Ls (v :: St))) : own_R p e below s Q ck sk T (mkF m pc Ls (.int j :: .ref a :: St)) := by
  obtain ⟨cl, A, -, S, N, H, -⟩ := V
  have hin := inb_of S hj
  exact own_lift (fun _ q => X.baloadBooleans hx (by rw [eT]; exact A.1) (State.isArrayOf_alike hZ.alike A.2.1) A.2.2 hin (H.at hin hv) (g := mkF m pc Ls (.int j :: .ref a :: St)) rfl rfl hd _ q) k
theorem own_caload (X : Stand p l e R s m args below meth c T locs cells slots) (hx : p.tables.exec = Jvm.exec) (hZ : Z.Warmed39 s.vm) (eT : T.heap = h) {a : Addr} {kA : ClassId} {n : Int32} {vs : List Value} {dv v : Value} (V : Arv Z h a kA .char n vs dv) {pc : Nat} {Ls : Array Slot} {St : List Value} {j : Int32} (hj : ¬ j < 0 ∧ j < n) (hv : vs.getD j.toNatClampNeg dv = v) (hd : decode c.code pc = .ok (.caload, 1))
    (k : own_R p e below s Q ck sk T (mkF m (pc + 1) Ls (v :: St))) : own_R p e below s Q ck sk T (mkF m pc Ls (.int j :: .ref a :: St)) := by
  obtain ⟨cl, A, -, S, N, H, -⟩ := V
  have hin := inb_of S hj
  exact own_lift (fun _ q => X.caload hx (by rw [eT]; exact A.1) (State.isArrayOf_alike hZ.alike A.2.1) A.2.2 hin (H.at hin hv) (g := mkF m pc Ls (.int j :: .ref a :: St)) rfl rfl hd _ q) k
theorem own_iaload (X : Stand p l e R s m args below meth c T locs cells slots) (hx : p.tables.exec = Jvm.exec) (hZ : Z.Warmed39 s.vm) (eT : T.heap = h) {a : Addr} {kA : ClassId} {n : Int32} {vs : List Value} {dv v : Value} (V : Arv Z h a kA .int n vs dv) {pc : Nat} {Ls : Array Slot} {St : List Value} {j : Int32} (hj : ¬ j < 0 ∧ j < n) (hv : vs.getD j.toNatClampNeg dv = v) (hd : decode c.code pc = .ok (.iaload, 1))
    (k : own_R p e below s Q ck sk T (mkF m (pc + 1) Ls (v :: St))) : own_R p e below s Q ck sk T (mkF m pc Ls (.int j :: .ref a :: St)) := by
  obtain ⟨cl, A, -, S, N, H, -⟩ := V
  have hin := inb_of S hj
  exact own_lift (fun _ q => X.iaload hx (by rw [eT]; exact A.1) (State.isArrayOf_alike hZ.alike A.2.1) A.2.2 hin (H.at hin hv) (g := mkF m pc Ls (.int j :: .ref a :: St)) rfl rfl hd _ q) k
theorem own_bastore (X : Stand p l e R s m args below meth c T locs cells slots) (hx : p.tables.exec = Jvm.exec) (hZ : Z.Warmed39 s.vm) (eT : T.heap = h) {a : Addr} {kA : ClassId} {n : Int32} {vs : List Value} {dv : Value} (V : Arv Z h a kA .byte n vs dv) {pc : Nat} {Ls : Array Slot} {St : List Value} {j x x' : Int32} (hn : nar .byte x = x') (hj : ¬ j < 0 ∧ j < n) (i : Nat) (hi : j.toNatClampNeg = i) (hl : i < vs.length) (hd : decode c.code pc = .ok (.bastore, 1))
    (k : ∀ T' h', Stand p l e R s m args below meth c T' (locs ++ [⟨a, j.toNatClampNeg⟩]) cells slots → T'.heap = h' → Wr h h' a j.toNatClampNeg (.int x') → Arv Z h' a kA .byte n (vs.set i (.int x')) dv → own_R p e below s Q ck sk T' (mkF m (pc + 1) Ls St)) : own_R p e below s Q ck sk T (mkF m pc Ls (.int x :: .int j :: .ref a :: St)) := by
  obtain ⟨cl, A, q1, S, N, H, G⟩ := V
  have hin := inb_of S hj
  obtain ⟨T', h', X', e', W, st⟩ := stB X hx hZ eT A hin (g := mkF m pc Ls (.int x :: .int j :: .ref a :: St)) rfl rfl hd
  subst hn
  exact own_lift st (k T' h' X' e' W (Arv.set A q1 S N H G (fits_nar_byte _) W i hi hl))
theorem own_zastore (X : Stand p l e R s m args below meth c T locs cells slots) (hx : p.tables.exec = Jvm.exec) (hZ : Z.Warmed39 s.vm) (eT : T.heap = h) {a : Addr} {kA : ClassId} {n : Int32} {vs : List Value} {dv : Value} (V : Arv Z h a kA .boolean n vs dv) {pc : Nat} {Ls : Array Slot} {St : List Value} {j x x' : Int32} (hn : nar .boolean x = x') (hj : ¬ j < 0 ∧ j < n) (i : Nat) (hi : j.toNatClampNeg = i) (hl : i < vs.length) (hd : decode c.code pc = .ok (.bastore, 1))
    (k : ∀ T' h', Stand p l e R s m args below meth c T' (locs ++ [⟨a, j.toNatClampNeg⟩]) cells slots → T'.heap = h' → Wr h h' a j.toNatClampNeg (.int x') → Arv Z h' a kA .boolean n (vs.set i (.int x')) dv → own_R p e below s Q ck sk T' (mkF m (pc + 1) Ls St)) : own_R p e below s Q ck sk T (mkF m pc Ls (.int x :: .int j :: .ref a :: St)) := by
  obtain ⟨cl, A, q1, S, N, H, G⟩ := V
  have hin := inb_of S hj
  obtain ⟨T', h', X', e', W, st⟩ := stZ X hx hZ eT A hin (g := mkF m pc Ls (.int x :: .int j :: .ref a :: St)) rfl rfl hd
  subst hn
  exact own_lift st (k T' h' X' e' W (Arv.set A q1 S N H G (fits_nar_bool _) W i hi hl))
theorem own_castore (X : Stand p l e R s m args below meth c T locs cells slots) (hx : p.tables.exec = Jvm.exec) (hZ : Z.Warmed39 s.vm) (eT : T.heap = h) {a : Addr} {kA : ClassId} {n : Int32} {vs : List Value} {dv : Value} (V : Arv Z h a kA .char n vs dv) {pc : Nat} {Ls : Array Slot} {St : List Value} {j x x' : Int32} (hn : nar .char x = x') (hj : ¬ j < 0 ∧ j < n) (i : Nat) (hi : j.toNatClampNeg = i) (hl : i < vs.length) (hd : decode c.code pc = .ok (.castore, 1))
    (k : ∀ T' h', Stand p l e R s m args below meth c T' (locs ++ [⟨a, j.toNatClampNeg⟩]) cells slots → T'.heap = h' → Wr h h' a j.toNatClampNeg (.int x') → Arv Z h' a kA .char n (vs.set i (.int x')) dv → own_R p e below s Q ck sk T' (mkF m (pc + 1) Ls St)) : own_R p e below s Q ck sk T (mkF m pc Ls (.int x :: .int j :: .ref a :: St)) := by
  obtain ⟨cl, A, q1, S, N, H, G⟩ := V
  have hin := inb_of S hj
  obtain ⟨T', h', X', e', W, st⟩ := stC X hx hZ eT A hin (g := mkF m pc Ls (.int x :: .int j :: .ref a :: St)) rfl rfl hd
  subst hn
  exact own_lift st (k T' h' X' e' W (Arv.set A q1 S N H G (fits_nar_char _) W i hi hl))
theorem own_iastore (X : Stand p l e R s m args below meth c T locs cells slots) (hx : p.tables.exec = Jvm.exec) (hZ : Z.Warmed39 s.vm) (eT : T.heap = h) {a : Addr} {kA : ClassId} {n : Int32} {vs : List Value} {dv : Value} (V : Arv Z h a kA .int n vs dv) {pc : Nat} {Ls : Array Slot} {St : List Value} {j x x' : Int32} (hn : x = x') (hj : ¬ j < 0 ∧ j < n) (i : Nat) (hi : j.toNatClampNeg = i) (hl : i < vs.length) (hd : decode c.code pc = .ok (.iastore, 1))
    (k : ∀ T' h', Stand p l e R s m args below meth c T' (locs ++ [⟨a, j.toNatClampNeg⟩]) cells slots → T'.heap = h' → Wr h h' a j.toNatClampNeg (.int x') → Arv Z h' a kA .int n (vs.set i (.int x')) dv → own_R p e below s Q ck sk T' (mkF m (pc + 1) Ls St)) : own_R p e below s Q ck sk T (mkF m pc Ls (.int x :: .int j :: .ref a :: St)) := by
  obtain ⟨cl, A, q1, S, N, H, G⟩ := V
  have hin := inb_of S hj
  obtain ⟨T', h', X', e', W, st⟩ := stI X hx hZ eT A hin (g := mkF m pc Ls (.int x :: .int j :: .ref a :: St)) rfl rfl hd
  subst hn
  exact own_lift st (k T' h' X' e' W (Arv.set A q1 S N H G rfl W i hi hl))
theorem own_initO (X : Stand p l e R s m args below meth c T locs cells slots) (hx : p.tables.exec = Jvm.exec) (hZ : Z.Warmed39 s.vm) {own : String} {idx : Nat} (hown : s.vm.findClass own = some m.cls) (w1 : (Cond.methodLink own idx Lib.objectInit).before a0 Z = true) (w2 : (Cond.instanceMethod Lib.objectInit).before a0 Z = true)
    (w3 : (Cond.code Lib.objectInit ⟨#[0xb1]⟩ 1 none).before a0 Z = true) (eT : T.heap = h) {pc : Nat} {Ls : Array Slot} {St : List Value} {a : Addr} (hsize : Ls.size = c.maxLocals) (hd : decode c.code pc = .ok (.invokespecial idx, 3)) (hf : 1 ≤ R.frames) {W : Nat} (hW : (St.map fun v => v.category).sum ≤ W) (hl : W + 12 ≤ R.locals)
    (k : ∀ T', Stand p l e R s m args below meth c T' locs cells slots → T'.heap = h → own_R p e below s Q ck sk T' (mkF m (pc + 3) Ls St)) : own_R p e below s Q ck sk T (mkF m pc Ls (.ref a :: St)) := by
  obtain ⟨T', X', e', st⟩ := initO X hx hZ hown w1 w2 w3 eT (g := mkF m pc Ls (.ref a :: St)) rfl hsize rfl hd hf (W := W) (by show 2 * 0 + _ ≤ _; omega) hl
  exact own_lift st (k T' X' e')
/-! calls by contract -/
theorem own_callS (X : Stand p l e R s m args below meth c T locs cells slots) (hx : p.tables.exec = Jvm.exec) (hZ : Z.Warmed39 s.vm) {own : String} {index : Nat} {y : MethodName} {bytes : ByteArray} {maxL : Nat} {ret : Option FieldType} {rm : Room} {as' : Array Value} {Q' : Option Value → Heap → List Loc → Prop}
    (hown : s.vm.findClass own = some m.cls) (w1 : (Cond.methodLink own index y).before a0 Z = true) (w2 : (Cond.static y).before a0 Z = true) (w3 : (Cond.initialized y.cls).before a0 Z = true) (w4 : (Cond.code y bytes maxL ret).before a0 Z = true) (hy : y.cls ≠ "java/lang/invoke/MethodHandle" ∧ y.cls ≠ "java/lang/invoke/VarHandle")
    (hM : MetFree l y (head1 [Cond.code y bytes maxL ret] rm) (fun a U => a = as' ∧ Z.Warmed39 U.vm ∧ U.heap = h) (fun _ _ _ _ _ => True) (fun _ U o U' => ∃ v L, o = .returned v ∧ Q' v U'.heap L ∧ FrameEnd U o U' L rm.cells rm.slots))
    (W : Nat) (hf : rm.frames + 1 ≤ R.frames) (hl : W + (maxL + 11) + rm.locals ≤ R.locals) (eT : T.heap = h) {pc : Nat} {Ls : Array Slot} {St : List Value} (hsize : Ls.size = c.maxLocals) (argsL rest : List Value) (has : as' = argsL.toArray) (hlen : ∀ sig, parseMethodDescriptor y.desc = some sig → argsL.length = sig.parameters.length) (hst : St = argsL.reverse ++ rest) (hW : (rest.map fun v => v.category).sum ≤ W)
    (hd : decode c.code pc = .ok (.invokestatic index, 3)) (hc : cells + rm.cells ≤ R.cells) (hs : slots + rm.slots ≤ R.slots)
    (k : ∀ T' v L, Stand p l e R s m args below meth c T' (locs ++ L) (cells + rm.cells) (slots + rm.slots) → Q' v T'.heap L → own_R p e below s Q ck sk T' (mkF m (pc + 3) Ls (v.toList ++ rest))) : own_R p e below s Q ck sk T (mkF m pc Ls St) := by
  obtain ⟨v, _, ⟨T', L', k', n'⟩, -, X', ⟨Lc, hQ, l', y', z'⟩, st⟩ := Jvm.LawKit.callS X hx (y := y) hown (mvT hZ w1) (mvT hZ w2) (mvT hZ w3) (mvT hZ w4) hy (backOf (W := W) hM hZ w4 w3 hf hl) (g := mkF m pc Ls St) rfl hsize (argsL := argsL) (rest := rest) hlen hst (by show 2 * 0 + _ ≤ _; omega) hd (fun _ _ => ⟨has.symm, eT, hc, hs⟩)
  dsimp only [Pt.U, Pt.locs, Pt.cells, Pt.slots] at X' l' y' z' st hQ
  subst l' y' z'
  exact own_lift st (k T' v Lc X' hQ)
theorem own_callI (X : Stand p l e R s m args below meth c T locs cells slots) (hx : p.tables.exec = Jvm.exec) (hZ : Z.Warmed39 s.vm) {own : String} {index : Nat} {y : MethodName} {bytes : ByteArray} {maxL : Nat} {rm : Room} {as' : Array Value} {Q' : Option Value → Heap → List Loc → Prop} (hy1 : y.name = "<init>")
    (hown : s.vm.findClass own = some m.cls) (w1 : (Cond.methodLink own index y).before a0 Z = true) (w2 : (Cond.instanceMethod y).before a0 Z = true) (w3 : (Cond.initialized y.cls).before a0 Z = true) (w4 : (Cond.code y bytes maxL none).before a0 Z = true) (hy : y.cls ≠ "java/lang/invoke/MethodHandle" ∧ y.cls ≠ "java/lang/invoke/VarHandle")
    (hM : MetFree l y (head1 [Cond.code y bytes maxL none] rm) (fun a U => a = as' ∧ Z.Warmed39 U.vm ∧ U.heap = h) (fun _ _ _ _ _ => True) (fun _ U o U' => ∃ v L, o = .returned v ∧ Q' v U'.heap L ∧ FrameEnd U o U' L rm.cells rm.slots))
    (W : Nat) (hf : rm.frames + 1 ≤ R.frames) (hl : W + (maxL + 11) + rm.locals ≤ R.locals) (eT : T.heap = h) {pc : Nat} {Ls : Array Slot} {St : List Value} (hsize : Ls.size = c.maxLocals) (a : Addr) (argsL rest : List Value) (has : as' = (.ref a :: argsL).toArray) (hlen : ∀ sig, parseMethodDescriptor y.desc = some sig → argsL.length = sig.parameters.length) (hst : St = argsL.reverse ++ .ref a :: rest) (hW : (rest.map fun v => v.category).sum ≤ W)
    (hd : decode c.code pc = .ok (.invokespecial index, 3)) (hc : cells + rm.cells ≤ R.cells) (hs : slots + rm.slots ≤ R.slots)
    (k : ∀ T' v L, Stand p l e R s m args below meth c T' (locs ++ L) (cells + rm.cells) (slots + rm.slots) → Q' v T'.heap L → own_R p e below s Q ck sk T' (mkF m (pc + 3) Ls (v.toList ++ rest))) : own_R p e below s Q ck sk T (mkF m pc Ls St) := by
  obtain ⟨v, _, ⟨T', L', k', n'⟩, -, X', ⟨Lc, hQ, l', y', z'⟩, st⟩ := X.specialBack hx (y := y) hy1 hown (mvT hZ w1) (mvT hZ w2) (mvT hZ w4) hy (backOf (W := W) hM hZ w4 w3 hf hl) (g := mkF m pc Ls St) rfl hsize (Steps.refl _) (a := a) (argsL := argsL) (rest := rest) hlen hst (by show 2 * 0 + _ ≤ _; omega) hd (fun _ _ => ⟨has.symm, eT, hc, hs⟩)
  dsimp only [Pt.U, Pt.locs, Pt.cells, Pt.slots] at X' l' y' z' st hQ
  subst l' y' z'
  exact own_lift (fun _ q => st.trans q) (k T' v Lc X' hQ)
theorem own_callV (X : Stand p l e R s m args below meth c T locs cells slots) (hx : p.tables.exec = Jvm.exec) (hZ : Z.Warmed39 s.vm) {own C : String} {index : Nat} {y z : MethodName} {bytes : ByteArray} {maxL : Nat} {ret : Option FieldType} {rm : Room} {as' : Array Value} {Q' : Option Value → Heap → List Loc → Prop}
    (hown : s.vm.findClass own = some m.cls) (w1 : (Cond.methodLink own index y).before a0 Z = true) (w2 : (Cond.declares y).before a0 Z = true) (nf : NotFace s y) (w5 : (Cond.selects C y z).before a0 Z = true) (w6 : (Cond.instanceMethod z).before a0 Z = true) (w3 : (Cond.initialized z.cls).before a0 Z = true) (w4 : (Cond.code z bytes maxL ret).before a0 Z = true) (hy : y.cls ≠ "java/lang/invoke/MethodHandle" ∧ y.cls ≠ "java/lang/invoke/VarHandle")
    (hM : MetFree l z (head1 [Cond.code z bytes maxL ret] rm) (fun a U => a = as' ∧ Z.Warmed39 U.vm ∧ U.heap = h) (fun _ _ _ _ _ => True) (fun _ U o U' => ∃ v L, o = .returned v ∧ Q' v U'.heap L ∧ FrameEnd U o U' L rm.cells rm.slots))
    (W : Nat) (hf : rm.frames + 1 ≤ R.frames) (hl : W + (maxL + 11) + rm.locals ≤ R.locals) (eT : T.heap = h) {pc : Nat} {Ls : Array Slot} {St : List Value} (hsize : Ls.size = c.maxLocals) (a : Addr) (E : Exa Z h a C) (argsL rest : List Value) (has : as' = (.ref a :: argsL).toArray) (hlen : ∀ sig, parseMethodDescriptor y.desc = some sig → argsL.length = sig.parameters.length) (hst : St = argsL.reverse ++ .ref a :: rest) (hW : (rest.map fun v => v.category).sum ≤ W)
    (hd : decode c.code pc = .ok (.invokevirtual index, 3)) (hc : cells + rm.cells ≤ R.cells) (hs : slots + rm.slots ≤ R.slots)
    (k : ∀ T' v L, Stand p l e R s m args below meth c T' (locs ++ L) (cells + rm.cells) (slots + rm.slots) → Q' v T'.heap L → own_R p e below s Q ck sk T' (mkF m (pc + 3) Ls (v.toList ++ rest))) : own_R p e below s Q ck sk T (mkF m pc Ls St) := by
  obtain ⟨cq, kq, qa, qb, qc⟩ := isOf hZ eT E
  obtain ⟨v, _, ⟨T', L', k', n'⟩, -, X', ⟨Lc, hQ, l', y', z'⟩, st⟩ := X.virtualBack hx (y := y) (z := z) hown (mvT hZ w1) (mvT hZ w2) nf (mvT hZ w5) (mvT hZ w6) hy (backOf (W := W) hM hZ w4 w3 hf hl) qa qc (g := mkF m pc Ls St) rfl hsize (Steps.refl _) (argsL := argsL) (rest := rest) hlen hst (by show 2 * 0 + _ ≤ _; omega) hd (fun _ _ => ⟨has.symm, eT, hc, hs⟩)
  dsimp only [Pt.U, Pt.locs, Pt.cells, Pt.slots] at X' l' y' z' st hQ
  subst l' y' z'
  exact own_lift (fun _ q => st.trans q) (k T' v Lc X' hQ)
end OwnKit

theorem pl_4 (x : Int32) : (x &&& (3 : Int32)) = 0 ∨ (x &&& (3 : Int32)) = 1 ∨ (x &&& (3 : Int32)) = 2 ∨ (x &&& (3 : Int32)) = 3 := by
  have h := c_mask x (3 : Int32) 2 (by decide) (by decide)
  simp only [← Int32.toInt_inj, show (0 : Int32).toInt = 0 from by decide, show (1 : Int32).toInt = 1 from by decide, show (2 : Int32).toInt = 2 from by decide, show (3 : Int32).toInt = 3 from by decide]
  omega
theorem pl_nb (x : Int32) : nar .byte x.toInt8.toInt32 = x.toInt8.toInt32 := by
  show x.toInt8.toInt32.toInt8.toInt32 = x.toInt8.toInt32
  apply Int32.toInt_inj.mp
  have := c_i2b x
  have := c_i2b x.toInt8.toInt32
  omega

theorem d1_0 : decode prog_41_method_5_code 0 = .ok (.new 8, 3) := by decide +kernel
theorem d1_3 : decode prog_41_method_5_code 3 = .ok (.dup, 1) := by decide +kernel
theorem d1_4 : decode prog_41_method_5_code 4 = .ok (.iconst 0, 1) := by decide +kernel
theorem d1_5 : decode prog_41_method_5_code 5 = .ok (.iconst 0, 1) := by decide +kernel
theorem d1_6 : decode prog_41_method_5_code 6 = .ok (.iconst 0, 1) := by decide +kernel
theorem d1_7 : decode prog_41_method_5_code 7 = .ok (.aload_n 0, 1) := by decide +kernel
theorem d1_8 : decode prog_41_method_5_code 8 = .ok (.iconst 0, 1) := by decide +kernel
theorem d1_9 : decode prog_41_method_5_code 9 = .ok (.aconst_null, 1) := by decide +kernel
theorem d1_10 : decode prog_41_method_5_code 10 = .ok (.invokespecial 41, 3) := by decide +kernel
theorem d1_13 : decode prog_41_method_5_code 13 = .ok (.areturn, 1) := by decide +kernel
theorem d2_0 : decode prog_41_method_1_code 0 = .ok (.aload_n 0, 1) := by decide +kernel
theorem d2_1 : decode prog_41_method_1_code 1 = .ok (.invokespecial 1, 3) := by decide +kernel
theorem d2_4 : decode prog_41_method_1_code 4 = .ok (.aload_n 0, 1) := by decide +kernel
theorem d2_5 : decode prog_41_method_1_code 5 = .ok (.iload_n 1, 1) := by decide +kernel
theorem d2_6 : decode prog_41_method_1_code 6 = .ok (.putfield 7, 3) := by decide +kernel
theorem d2_9 : decode prog_41_method_1_code 9 = .ok (.aload_n 0, 1) := by decide +kernel
theorem d2_10 : decode prog_41_method_1_code 10 = .ok (.iload_n 2, 1) := by decide +kernel
theorem d2_11 : decode prog_41_method_1_code 11 = .ok (.putfield 13, 3) := by decide +kernel
theorem d2_14 : decode prog_41_method_1_code 14 = .ok (.aload_n 0, 1) := by decide +kernel
theorem d2_15 : decode prog_41_method_1_code 15 = .ok (.iload_n 3, 1) := by decide +kernel
theorem d2_16 : decode prog_41_method_1_code 16 = .ok (.putfield 16, 3) := by decide +kernel
theorem d2_19 : decode prog_41_method_1_code 19 = .ok (.aload_n 0, 1) := by decide +kernel
theorem d2_20 : decode prog_41_method_1_code 20 = .ok (.aload 4, 2) := by decide +kernel
theorem d2_22 : decode prog_41_method_1_code 22 = .ok (.putfield 19, 3) := by decide +kernel
theorem d2_25 : decode prog_41_method_1_code 25 = .ok (.aload_n 0, 1) := by decide +kernel
theorem d2_26 : decode prog_41_method_1_code 26 = .ok (.iload 5, 2) := by decide +kernel
theorem d2_28 : decode prog_41_method_1_code 28 = .ok (.putfield 23, 3) := by decide +kernel
theorem d2_31 : decode prog_41_method_1_code 31 = .ok (.aload_n 0, 1) := by decide +kernel
theorem d2_32 : decode prog_41_method_1_code 32 = .ok (.aload 6, 2) := by decide +kernel
theorem d2_34 : decode prog_41_method_1_code 34 = .ok (.putfield 27, 3) := by decide +kernel
theorem d2_37 : decode prog_41_method_1_code 37 = .ok (.return_, 1) := by decide +kernel
theorem d4_0 : decode prog_41_method_12_code 0 = .ok (.aload_n 0, 1) := by decide +kernel
theorem d4_1 : decode prog_41_method_12_code 1 = .ok (.getfield 19, 3) := by decide +kernel
theorem d4_4 : decode prog_41_method_12_code 4 = .ok (.areturn, 1) := by decide +kernel
theorem d5_0 : decode prog_41_method_9_code 0 = .ok (.aload_n 0, 1) := by decide +kernel
theorem d5_1 : decode prog_41_method_9_code 1 = .ok (.getfield 7, 3) := by decide +kernel
theorem d5_4 : decode prog_41_method_9_code 4 = .ok (.ireturn, 1) := by decide +kernel
theorem d6_0 : decode prog_41_method_10_code 0 = .ok (.aload_n 0, 1) := by decide +kernel
theorem d6_1 : decode prog_41_method_10_code 1 = .ok (.getfield 13, 3) := by decide +kernel
theorem d6_4 : decode prog_41_method_10_code 4 = .ok (.ireturn, 1) := by decide +kernel
theorem d7_0 : decode prog_41_method_11_code 0 = .ok (.aload_n 0, 1) := by decide +kernel
theorem d7_1 : decode prog_41_method_11_code 1 = .ok (.getfield 16, 3) := by decide +kernel
theorem d7_4 : decode prog_41_method_11_code 4 = .ok (.ireturn, 1) := by decide +kernel
theorem d8_0 : decode prog_41_method_13_code 0 = .ok (.aload_n 0, 1) := by decide +kernel
theorem d8_1 : decode prog_41_method_13_code 1 = .ok (.getfield 23, 3) := by decide +kernel
theorem d8_4 : decode prog_41_method_13_code 4 = .ok (.ireturn, 1) := by decide +kernel
theorem d9_0 : decode prog_41_method_14_code 0 = .ok (.aload_n 0, 1) := by decide +kernel
theorem d9_1 : decode prog_41_method_14_code 1 = .ok (.getfield 27, 3) := by decide +kernel
theorem d9_4 : decode prog_41_method_14_code 4 = .ok (.areturn, 1) := by decide +kernel
theorem pd_0 : parseMethodDescriptor "(ZZZ[BILcom/example/authwright/authwright/engine/Step$Continuation;)V" = some ⟨[.boolean, .boolean, .boolean, (.array .byte), .int, (.object "com/example/authwright/authwright/engine/Step$Continuation")], none⟩ := by decide +kernel
theorem pd_1 : parseMethodDescriptor "([B)Lcom/example/authwright/authwright/engine/Step;" = some ⟨[(.array .byte)], some (.object "com/example/authwright/authwright/engine/Step")⟩ := by decide +kernel
theorem pd_2 : parseMethodDescriptor "()[B" = some ⟨[], some (.array .byte)⟩ := by decide +kernel
theorem pd_3 : parseMethodDescriptor "()Z" = some ⟨[], some .boolean⟩ := by decide +kernel
theorem pd_4 : parseMethodDescriptor "()I" = some ⟨[], some .int⟩ := by decide +kernel
theorem pd_5 : parseMethodDescriptor "()Lcom/example/authwright/authwright/engine/Step$Continuation;" = some ⟨[], some (.object "com/example/authwright/authwright/engine/Step$Continuation")⟩ := by decide +kernel
theorem pn_2 : plainFor (⟨"com/example/authwright/authwright/engine/Step", "<init>", "(ZZZ[BILcom/example/authwright/authwright/engine/Step$Continuation;)V"⟩ : MethodName) = true := by decide +kernel
theorem ef_2 (m : MethodId) (a1 : Addr) (a5 : Addr) : entryFrame m #[(.ref a1), (.int (0 : Int32)), (.int (0 : Int32)), (.int (0 : Int32)), (.ref a5), (.int (0 : Int32)), .null] 7 = mkF m 0 #[.val (.ref a1), .val (.int (0 : Int32)), .val (.int (0 : Int32)), .val (.int (0 : Int32)), .val (.ref a5), .val (.int (0 : Int32)), .val .null] [] := by first | (simp [entryFrame, mkF, argsToLocals, Value.category]; done) | rfl
def Q2 (Z : State) (a1 : Addr) (a5 : Addr) (h0 : Heap) (n0 : Nat) (v : Option Value) (h : Heap) (L : List Loc) : Prop := v = none ∧ Fr n0 L ∧ Keep h0 h [a1] ∧ Exa Z h a1 "com/example/authwright/authwright/engine/Step" ∧ Fld Z h a1 "com/example/authwright/authwright/engine/Step" "success" "Z" (.int (0 : Int32)) ∧ Fld Z h a1 "com/example/authwright/authwright/engine/Step" "failed" "Z" (.int (0 : Int32)) ∧ Fld Z h a1 "com/example/authwright/authwright/engine/Step" "delayed" "Z" (.int (0 : Int32)) ∧ Fld Z h a1 "com/example/authwright/authwright/engine/Step" "message" "[B" (.ref a5) ∧ Fld Z h a1 "com/example/authwright/authwright/engine/Step" "replyNumber" "I" (.int (0 : Int32)) ∧ Fld Z h a1 "com/example/authwright/authwright/engine/Step" "next" "Lcom/example/authwright/authwright/engine/Step$Continuation;" .null
set_option maxRecDepth 65536 in
set_option maxHeartbeats 40000000 in
theorem rm2 (l : Launch) (Z : State) (a0 : Array Value) (hw : ∀ d ∈ tables_1, d.before a0 Z = true) (ws : List Jvm.Cond) (a1 : Addr) (a5 : Addr) (h0 : Heap) (n0 : Nat) (Z0 : n0 ≤ h0.size) (hE : Exa Z h0 a1 "com/example/authwright/authwright/engine/Step") (hn0 : n0 ≤ a1) (hsuccess : Fld Z h0 a1 "com/example/authwright/authwright/engine/Step" "success" "Z" (.int (0 : Int32))) (hfailed : Fld Z h0 a1 "com/example/authwright/authwright/engine/Step" "failed" "Z" (.int (0 : Int32))) (hdelayed : Fld Z h0 a1 "com/example/authwright/authwright/engine/Step" "delayed" "Z" (.int (0 : Int32))) (hmessage : Fld Z h0 a1 "com/example/authwright/authwright/engine/Step" "message" "[B" .null) (hreplyNumber : Fld Z h0 a1 "com/example/authwright/authwright/engine/Step" "replyNumber" "I" (.int (0 : Int32))) (hnext : Fld Z h0 a1 "com/example/authwright/authwright/engine/Step" "next" "Lcom/example/authwright/authwright/engine/Step$Continuation;" .null) :
    MetFree l (⟨"com/example/authwright/authwright/engine/Step", "<init>", "(ZZZ[BILcom/example/authwright/authwright/engine/Step$Continuation;)V"⟩ : MethodName) (head1 (Jvm.Cond.code (⟨"com/example/authwright/authwright/engine/Step", "<init>", "(ZZZ[BILcom/example/authwright/authwright/engine/Step$Continuation;)V"⟩ : MethodName) prog_41_method_1_code 7 none :: ws) ({ frames := 1, cells := 0, slots := 0, locals := 12 } : Room)) (fun a U => a = #[(.ref a1), (.int (0 : Int32)), (.int (0 : Int32)), (.int (0 : Int32)), (.ref a5), (.int (0 : Int32)), .null] ∧ Z.Warmed39 U.vm ∧ U.heap = h0) (fun _ _ _ _ _ => True) (fun _ U o U' => ∃ v L, o = .returned v ∧ Q2 Z a1 a5 h0 n0 v U'.heap L ∧ FrameEnd U o U' L ({ frames := 1, cells := 0, slots := 0, locals := 12 } : Room).cells ({ frames := 1, cells := 0, slots := 0, locals := 12 } : Room).slots) := by
  refine MetFree.of_bodySF pn_2 hisR ?_
  intro p e s m args below meth c s₁ Bd hml0 hP hK
  obtain ⟨rfl, hZ, hh⟩ := hP
  have hx := Bd.exec
  have hby := Bd.bytes
  have hml : c.maxLocals = 7 := hml0
  have hown : s.vm.findClass "com/example/authwright/authwright/engine/Step" = some m.cls := findClass_of_methodNamed Bd.named
  have hnm := (name_of_methodNamed Bd.named Bd.method).1
  have hlk := BodyLoose.notSynchronized Bd
  have X0 : Stand p l e ({ frames := 1, cells := 0, slots := 0, locals := 12 } : Room) s m #[(.ref a1), (.int (0 : Int32)), (.int (0 : Int32)), (.int (0 : Int32)), (.ref a5), (.int (0 : Int32)), .null] below meth c s₁ [] 0 0 := Stand.of_body Bd
  have e0 : s₁.heap = h0 := by rw [← hh, Bd.state]; rfl
  have N0 := Fr.nil n0
  show own_R p e below s (Q2 Z a1 a5 h0 n0) ({ frames := 1, cells := 0, slots := 0, locals := 12 } : Room).cells ({ frames := 1, cells := 0, slots := 0, locals := 12 } : Room).slots s₁ (entryFrame m #[(.ref a1), (.int (0 : Int32)), (.int (0 : Int32)), (.int (0 : Int32)), (.ref a5), (.int (0 : Int32)), .null] 7)
  refine own_cast (ef_2 m a1 a5) ?_
  show own_R p e below s _ _ _ s₁ (mkF m 0 #[.val (.ref a1), .val (.int (0 : Int32)), .val (.int (0 : Int32)), .val (.int (0 : Int32)), .val (.ref a5), .val (.int (0 : Int32)), .val .null] [])
  have K0 := Keep.refl h0 ([a1] : List Addr)
  have n0_a1 := hn0
  refine own_aloadN X0 hx (hb hby d2_0) rfl rfl ?_
  show own_R p e below s _ _ _ s₁ (mkF m 1 #[.val (.ref a1), .val (.int (0 : Int32)), .val (.int (0 : Int32)), .val (.int (0 : Int32)), .val (.ref a5), .val (.int (0 : Int32)), .val .null] [(.ref a1)])
  refine own_initO X0 hx hZ hown (hw _ (List.mem_of_getElem? (i := 10) rfl)) (hw _ (List.mem_of_getElem? (i := 11) rfl)) (hw _ (List.mem_of_getElem? (i := 12) rfl)) e0 (by rw [hml]; rfl) (hb hby d2_1) (by decide) (W := 0) (Nat.le_of_eq rfl) (by decide) ?_
  intro T1 X1 e1
  show own_R p e below s _ _ _ T1 (mkF m 4 #[.val (.ref a1), .val (.int (0 : Int32)), .val (.int (0 : Int32)), .val (.int (0 : Int32)), .val (.ref a5), .val (.int (0 : Int32)), .val .null] [])
  refine own_aloadN X1 hx (hb hby d2_4) rfl rfl ?_
  show own_R p e below s _ _ _ T1 (mkF m 5 #[.val (.ref a1), .val (.int (0 : Int32)), .val (.int (0 : Int32)), .val (.int (0 : Int32)), .val (.ref a5), .val (.int (0 : Int32)), .val .null] [(.ref a1)])
  refine own_iloadN X1 hx (hb hby d2_5) rfl ?_
  show own_R p e below s _ _ _ T1 (mkF m 6 #[.val (.ref a1), .val (.int (0 : Int32)), .val (.int (0 : Int32)), .val (.int (0 : Int32)), .val (.ref a5), .val (.int (0 : Int32)), .val .null] [(.int (0 : Int32)), (.ref a1)])
  refine own_putFN X1 hx hZ hown (hw _ (List.mem_of_getElem? (i := 13) rfl)) Via.refl e1 hsuccess hE (Or.inr ⟨(hw _ (List.mem_of_getElem? (i := 14) rfl)), rfl, hnm⟩) (hw _ (List.mem_of_getElem? (i := 6) rfl)) (ty := .boolean) (v' := .int (0 : Int32)) (by decide) rfl (by decide) (hb hby d2_6) ?_
  intro T2 h2 X2 e2 W2
  have K2 := K0.wr W2 (Or.inl (List.mem_of_getElem? (i := 0) rfl))
  have N2 := Fr.snoc X2 N0 n0_a1
  have Fw2 := Fld.same W2 hsuccess
  show own_R p e below s _ _ _ T2 (mkF m 9 #[.val (.ref a1), .val (.int (0 : Int32)), .val (.int (0 : Int32)), .val (.int (0 : Int32)), .val (.ref a5), .val (.int (0 : Int32)), .val .null] [])
  refine own_aloadN X2 hx (hb hby d2_9) rfl rfl ?_
  show own_R p e below s _ _ _ T2 (mkF m 10 #[.val (.ref a1), .val (.int (0 : Int32)), .val (.int (0 : Int32)), .val (.int (0 : Int32)), .val (.ref a5), .val (.int (0 : Int32)), .val .null] [(.ref a1)])
  refine own_iloadN X2 hx (hb hby d2_10) rfl ?_
  show own_R p e below s _ _ _ T2 (mkF m 11 #[.val (.ref a1), .val (.int (0 : Int32)), .val (.int (0 : Int32)), .val (.int (0 : Int32)), .val (.ref a5), .val (.int (0 : Int32)), .val .null] [(.int (0 : Int32)), (.ref a1)])
  have f3 := (Fld.other W2 hfailed (Or.inr (slot_ne (Or.inr (hw _ (List.mem_of_getElem? (i := 16) rfl))) (Or.inr (hw _ (List.mem_of_getElem? (i := 14) rfl))) (by decide) (t := .boolean) (t' := .boolean) (by decide) (by decide))))
  have f4 := (Exa.wr W2 hE)
  refine own_putFN X2 hx hZ hown (hw _ (List.mem_of_getElem? (i := 15) rfl)) Via.refl e2 f3 f4 (Or.inr ⟨(hw _ (List.mem_of_getElem? (i := 16) rfl)), rfl, hnm⟩) (hw _ (List.mem_of_getElem? (i := 6) rfl)) (ty := .boolean) (v' := .int (0 : Int32)) (by decide) rfl (by decide) (hb hby d2_11) ?_
  intro T5 h5 X5 e5 W5
  have K5 := K2.wr W5 (Or.inl (List.mem_of_getElem? (i := 0) rfl))
  have N5 := Fr.snoc X5 N2 n0_a1
  have Fw5 := Fld.same W5 f3
  show own_R p e below s _ _ _ T5 (mkF m 14 #[.val (.ref a1), .val (.int (0 : Int32)), .val (.int (0 : Int32)), .val (.int (0 : Int32)), .val (.ref a5), .val (.int (0 : Int32)), .val .null] [])
  refine own_aloadN X5 hx (hb hby d2_14) rfl rfl ?_
  show own_R p e below s _ _ _ T5 (mkF m 15 #[.val (.ref a1), .val (.int (0 : Int32)), .val (.int (0 : Int32)), .val (.int (0 : Int32)), .val (.ref a5), .val (.int (0 : Int32)), .val .null] [(.ref a1)])
  refine own_iloadN X5 hx (hb hby d2_15) rfl ?_
  show own_R p e below s _ _ _ T5 (mkF m 16 #[.val (.ref a1), .val (.int (0 : Int32)), .val (.int (0 : Int32)), .val (.int (0 : Int32)), .val (.ref a5), .val (.int (0 : Int32)), .val .null] [(.int (0 : Int32)), (.ref a1)])
  have f6 := (Fld.other W5 (Fld.other W2 hdelayed (Or.inr (slot_ne (Or.inr (hw _ (List.mem_of_getElem? (i := 18) rfl))) (Or.inr (hw _ (List.mem_of_getElem? (i := 14) rfl))) (by decide) (t := .boolean) (t' := .boolean) (by decide) (by decide)))) (Or.inr (slot_ne (Or.inr (hw _ (List.mem_of_getElem? (i := 18) rfl))) (Or.inr (hw _ (List.mem_of_getElem? (i := 16) rfl))) (by decide) (t := .boolean) (t' := .boolean) (by decide) (by decide))))
  have f7 := (Exa.wr W5 f4)
  refine own_putFN X5 hx hZ hown (hw _ (List.mem_of_getElem? (i := 17) rfl)) Via.refl e5 f6 f7 (Or.inr ⟨(hw _ (List.mem_of_getElem? (i := 18) rfl)), rfl, hnm⟩) (hw _ (List.mem_of_getElem? (i := 6) rfl)) (ty := .boolean) (v' := .int (0 : Int32)) (by decide) rfl (by decide) (hb hby d2_16) ?_
  intro T8 h8 X8 e8 W8
  have K8 := K5.wr W8 (Or.inl (List.mem_of_getElem? (i := 0) rfl))
  have N8 := Fr.snoc X8 N5 n0_a1
  have Fw8 := Fld.same W8 f6
  show own_R p e below s _ _ _ T8 (mkF m 19 #[.val (.ref a1), .val (.int (0 : Int32)), .val (.int (0 : Int32)), .val (.int (0 : Int32)), .val (.ref a5), .val (.int (0 : Int32)), .val .null] [])
  refine own_aloadN X8 hx (hb hby d2_19) rfl rfl ?_
  show own_R p e below s _ _ _ T8 (mkF m 20 #[.val (.ref a1), .val (.int (0 : Int32)), .val (.int (0 : Int32)), .val (.int (0 : Int32)), .val (.ref a5), .val (.int (0 : Int32)), .val .null] [(.ref a1)])
  refine own_aload X8 hx (hb hby d2_20) rfl rfl ?_
  show own_R p e below s _ _ _ T8 (mkF m 22 #[.val (.ref a1), .val (.int (0 : Int32)), .val (.int (0 : Int32)), .val (.int (0 : Int32)), .val (.ref a5), .val (.int (0 : Int32)), .val .null] [(.ref a5), (.ref a1)])
  have f9 := (Fld.other W8 (Fld.other W5 (Fld.other W2 hmessage (Or.inr (slot_ne (Or.inr (hw _ (List.mem_of_getElem? (i := 20) rfl))) (Or.inr (hw _ (List.mem_of_getElem? (i := 14) rfl))) (by decide) (t := (.array .byte)) (t' := .boolean) (by decide) (by decide)))) (Or.inr (slot_ne (Or.inr (hw _ (List.mem_of_getElem? (i := 20) rfl))) (Or.inr (hw _ (List.mem_of_getElem? (i := 16) rfl))) (by decide) (t := (.array .byte)) (t' := .boolean) (by decide) (by decide)))) (Or.inr (slot_ne (Or.inr (hw _ (List.mem_of_getElem? (i := 20) rfl))) (Or.inr (hw _ (List.mem_of_getElem? (i := 18) rfl))) (by decide) (t := (.array .byte)) (t' := .boolean) (by decide) (by decide))))
  have f10 := (Exa.wr W8 f7)
  refine own_putF X8 hx hZ hown (host := "") (Or.inl (hw _ (List.mem_of_getElem? (i := 19) rfl))) Via.refl e8 f9 f10 (Or.inr ⟨(hw _ (List.mem_of_getElem? (i := 20) rfl)), rfl, hnm⟩) (hw _ (List.mem_of_getElem? (i := 6) rfl)) (ty := (.array .byte)) (by decide) rfl rfl (hb hby d2_22) ?_
  intro T11 h11 X11 e11 W11
  have K11 := K8.wr W11 (Or.inl (List.mem_of_getElem? (i := 0) rfl))
  have N11 := Fr.snoc X11 N8 n0_a1
  have Fw11 := Fld.same W11 f9
  show own_R p e below s _ _ _ T11 (mkF m 25 #[.val (.ref a1), .val (.int (0 : Int32)), .val (.int (0 : Int32)), .val (.int (0 : Int32)), .val (.ref a5), .val (.int (0 : Int32)), .val .null] [])
  refine own_aloadN X11 hx (hb hby d2_25) rfl rfl ?_
  show own_R p e below s _ _ _ T11 (mkF m 26 #[.val (.ref a1), .val (.int (0 : Int32)), .val (.int (0 : Int32)), .val (.int (0 : Int32)), .val (.ref a5), .val (.int (0 : Int32)), .val .null] [(.ref a1)])
  refine own_iload X11 hx (hb hby d2_26) rfl ?_
  show own_R p e below s _ _ _ T11 (mkF m 28 #[.val (.ref a1), .val (.int (0 : Int32)), .val (.int (0 : Int32)), .val (.int (0 : Int32)), .val (.ref a5), .val (.int (0 : Int32)), .val .null] [(.int (0 : Int32)), (.ref a1)])
  have f12 := (Fld.other W11 (Fld.other W8 (Fld.other W5 (Fld.other W2 hreplyNumber (Or.inr (slot_ne (Or.inr (hw _ (List.mem_of_getElem? (i := 22) rfl))) (Or.inr (hw _ (List.mem_of_getElem? (i := 14) rfl))) (by decide) (t := .int) (t' := .boolean) (by decide) (by decide)))) (Or.inr (slot_ne (Or.inr (hw _ (List.mem_of_getElem? (i := 22) rfl))) (Or.inr (hw _ (List.mem_of_getElem? (i := 16) rfl))) (by decide) (t := .int) (t' := .boolean) (by decide) (by decide)))) (Or.inr (slot_ne (Or.inr (hw _ (List.mem_of_getElem? (i := 22) rfl))) (Or.inr (hw _ (List.mem_of_getElem? (i := 18) rfl))) (by decide) (t := .int) (t' := .boolean) (by decide) (by decide)))) (Or.inr (slot_ne (Or.inr (hw _ (List.mem_of_getElem? (i := 22) rfl))) (Or.inr (hw _ (List.mem_of_getElem? (i := 20) rfl))) (by decide) (t := .int) (t' := (.array .byte)) (by decide) (by decide))))
  have f13 := (Exa.wr W11 f10)
  refine own_putF X11 hx hZ hown (host := "") (Or.inl (hw _ (List.mem_of_getElem? (i := 21) rfl))) Via.refl e11 f12 f13 (Or.inr ⟨(hw _ (List.mem_of_getElem? (i := 22) rfl)), rfl, hnm⟩) (hw _ (List.mem_of_getElem? (i := 6) rfl)) (ty := .int) (by decide) rfl rfl (hb hby d2_28) ?_
  intro T14 h14 X14 e14 W14
  have K14 := K11.wr W14 (Or.inl (List.mem_of_getElem? (i := 0) rfl))
  have N14 := Fr.snoc X14 N11 n0_a1
  have Fw14 := Fld.same W14 f12
  show own_R p e below s _ _ _ T14 (mkF m 31 #[.val (.ref a1), .val (.int (0 : Int32)), .val (.int (0 : Int32)), .val (.int (0 : Int32)), .val (.ref a5), .val (.int (0 : Int32)), .val .null] [])
  refine own_aloadN X14 hx (hb hby d2_31) rfl rfl ?_
  show own_R p e below s _ _ _ T14 (mkF m 32 #[.val (.ref a1), .val (.int (0 : Int32)), .val (.int (0 : Int32)), .val (.int (0 : Int32)), .val (.ref a5), .val (.int (0 : Int32)), .val .null] [(.ref a1)])
  refine own_aload X14 hx (hb hby d2_32) rfl rfl ?_
  show own_R p e below s _ _ _ T14 (mkF m 34 #[.val (.ref a1), .val (.int (0 : Int32)), .val (.int (0 : Int32)), .val (.int (0 : Int32)), .val (.ref a5), .val (.int (0 : Int32)), .val .null] [.null, (.ref a1)])
  have f15 := (Fld.other W14 (Fld.other W11 (Fld.other W8 (Fld.other W5 (Fld.other W2 hnext (Or.inr (slot_ne (Or.inr (hw _ (List.mem_of_getElem? (i := 24) rfl))) (Or.inr (hw _ (List.mem_of_getElem? (i := 14) rfl))) (by decide) (t := (.object "com/example/authwright/authwright/engine/Step$Continuation")) (t' := .boolean) (by decide) (by decide)))) (Or.inr (slot_ne (Or.inr (hw _ (List.mem_of_getElem? (i := 24) rfl))) (Or.inr (hw _ (List.mem_of_getElem? (i := 16) rfl))) (by decide) (t := (.object "com/example/authwright/authwright/engine/Step$Continuation")) (t' := .boolean) (by decide) (by decide)))) (Or.inr (slot_ne (Or.inr (hw _ (List.mem_of_getElem? (i := 24) rfl))) (Or.inr (hw _ (List.mem_of_getElem? (i := 18) rfl))) (by decide) (t := (.object "com/example/authwright/authwright/engine/Step$Continuation")) (t' := .boolean) (by decide) (by decide)))) (Or.inr (slot_ne (Or.inr (hw _ (List.mem_of_getElem? (i := 24) rfl))) (Or.inr (hw _ (List.mem_of_getElem? (i := 20) rfl))) (by decide) (t := (.object "com/example/authwright/authwright/engine/Step$Continuation")) (t' := (.array .byte)) (by decide) (by decide)))) (Or.inr (slot_ne (Or.inr (hw _ (List.mem_of_getElem? (i := 24) rfl))) (Or.inr (hw _ (List.mem_of_getElem? (i := 22) rfl))) (by decide) (t := (.object "com/example/authwright/authwright/engine/Step$Continuation")) (t' := .int) (by decide) (by decide))))
  have f16 := (Exa.wr W14 f13)
  refine own_putF X14 hx hZ hown (host := "") (Or.inl (hw _ (List.mem_of_getElem? (i := 23) rfl))) Via.refl e14 f15 f16 (Or.inr ⟨(hw _ (List.mem_of_getElem? (i := 24) rfl)), rfl, hnm⟩) (hw _ (List.mem_of_getElem? (i := 6) rfl)) (ty := (.object "com/example/authwright/authwright/engine/Step$Continuation")) (by decide) rfl rfl (hb hby d2_34) ?_
  intro T17 h17 X17 e17 W17
  have K17 := K14.wr W17 (Or.inl (List.mem_of_getElem? (i := 0) rfl))
  have N17 := Fr.snoc X17 N14 n0_a1
  have Fw17 := Fld.same W17 f15
  show own_R p e below s _ _ _ T17 (mkF m 37 #[.val (.ref a1), .val (.int (0 : Int32)), .val (.int (0 : Int32)), .val (.int (0 : Int32)), .val (.ref a5), .val (.int (0 : Int32)), .val .null] [])
  have f18 := (Exa.wr W17 f16)
  have f19 := (Fld.other W17 (Fld.other W14 (Fld.other W11 (Fld.other W8 (Fld.other W5 Fw2 (Or.inr (slot_ne (Or.inr (hw _ (List.mem_of_getElem? (i := 14) rfl))) (Or.inr (hw _ (List.mem_of_getElem? (i := 16) rfl))) (by decide) (t := .boolean) (t' := .boolean) (by decide) (by decide)))) (Or.inr (slot_ne (Or.inr (hw _ (List.mem_of_getElem? (i := 14) rfl))) (Or.inr (hw _ (List.mem_of_getElem? (i := 18) rfl))) (by decide) (t := .boolean) (t' := .boolean) (by decide) (by decide)))) (Or.inr (slot_ne (Or.inr (hw _ (List.mem_of_getElem? (i := 14) rfl))) (Or.inr (hw _ (List.mem_of_getElem? (i := 20) rfl))) (by decide) (t := .boolean) (t' := (.array .byte)) (by decide) (by decide)))) (Or.inr (slot_ne (Or.inr (hw _ (List.mem_of_getElem? (i := 14) rfl))) (Or.inr (hw _ (List.mem_of_getElem? (i := 22) rfl))) (by decide) (t := .boolean) (t' := .int) (by decide) (by decide)))) (Or.inr (slot_ne (Or.inr (hw _ (List.mem_of_getElem? (i := 14) rfl))) (Or.inr (hw _ (List.mem_of_getElem? (i := 24) rfl))) (by decide) (t := .boolean) (t' := (.object "com/example/authwright/authwright/engine/Step$Continuation")) (by decide) (by decide))))
  have f20 := (Fld.other W17 (Fld.other W14 (Fld.other W11 (Fld.other W8 Fw5 (Or.inr (slot_ne (Or.inr (hw _ (List.mem_of_getElem? (i := 16) rfl))) (Or.inr (hw _ (List.mem_of_getElem? (i := 18) rfl))) (by decide) (t := .boolean) (t' := .boolean) (by decide) (by decide)))) (Or.inr (slot_ne (Or.inr (hw _ (List.mem_of_getElem? (i := 16) rfl))) (Or.inr (hw _ (List.mem_of_getElem? (i := 20) rfl))) (by decide) (t := .boolean) (t' := (.array .byte)) (by decide) (by decide)))) (Or.inr (slot_ne (Or.inr (hw _ (List.mem_of_getElem? (i := 16) rfl))) (Or.inr (hw _ (List.mem_of_getElem? (i := 22) rfl))) (by decide) (t := .boolean) (t' := .int) (by decide) (by decide)))) (Or.inr (slot_ne (Or.inr (hw _ (List.mem_of_getElem? (i := 16) rfl))) (Or.inr (hw _ (List.mem_of_getElem? (i := 24) rfl))) (by decide) (t := .boolean) (t' := (.object "com/example/authwright/authwright/engine/Step$Continuation")) (by decide) (by decide))))
  have f21 := (Fld.other W17 (Fld.other W14 (Fld.other W11 Fw8 (Or.inr (slot_ne (Or.inr (hw _ (List.mem_of_getElem? (i := 18) rfl))) (Or.inr (hw _ (List.mem_of_getElem? (i := 20) rfl))) (by decide) (t := .boolean) (t' := (.array .byte)) (by decide) (by decide)))) (Or.inr (slot_ne (Or.inr (hw _ (List.mem_of_getElem? (i := 18) rfl))) (Or.inr (hw _ (List.mem_of_getElem? (i := 22) rfl))) (by decide) (t := .boolean) (t' := .int) (by decide) (by decide)))) (Or.inr (slot_ne (Or.inr (hw _ (List.mem_of_getElem? (i := 18) rfl))) (Or.inr (hw _ (List.mem_of_getElem? (i := 24) rfl))) (by decide) (t := .boolean) (t' := (.object "com/example/authwright/authwright/engine/Step$Continuation")) (by decide) (by decide))))
  have f22 := (Fld.other W17 (Fld.other W14 Fw11 (Or.inr (slot_ne (Or.inr (hw _ (List.mem_of_getElem? (i := 20) rfl))) (Or.inr (hw _ (List.mem_of_getElem? (i := 22) rfl))) (by decide) (t := (.array .byte)) (t' := .int) (by decide) (by decide)))) (Or.inr (slot_ne (Or.inr (hw _ (List.mem_of_getElem? (i := 20) rfl))) (Or.inr (hw _ (List.mem_of_getElem? (i := 24) rfl))) (by decide) (t := (.array .byte)) (t' := (.object "com/example/authwright/authwright/engine/Step$Continuation")) (by decide) (by decide))))
  have f23 := (Fld.other W17 Fw14 (Or.inr (slot_ne (Or.inr (hw _ (List.mem_of_getElem? (i := 22) rfl))) (Or.inr (hw _ (List.mem_of_getElem? (i := 24) rfl))) (by decide) (t := .int) (t' := (.object "com/example/authwright/authwright/engine/Step$Continuation")) (by decide) (by decide))))
  refine own_ret0 X17 hx Bd.returns hlk (hb hby d2_37) ?_ (by decide) (by decide)
  rw [e17]
  exact ⟨rfl, N17, K17, f18, f19, f20, f21, f22, f23, Fw17⟩
theorem pn_1 : plainFor (⟨"com/example/authwright/authwright/engine/Step", "answer", "([B)Lcom/example/authwright/authwright/engine/Step;"⟩ : MethodName) = true := by decide +kernel
theorem ef_1 (m : MethodId) (a5 : Addr) : entryFrame m #[(.ref a5)] 1 = mkF m 0 #[.val (.ref a5)] [] := by first | (simp [entryFrame, mkF, argsToLocals, Value.category]; done) | rfl
def Q1 (Z : State) (a5 : Addr) (h0 : Heap) (n0 : Nat) (v : Option Value) (h : Heap) (L : List Loc) : Prop := ∃ b, v = some (.ref b) ∧ Fr n0 L ∧ Keep h0 h [] ∧ n0 ≤ b ∧ Exa Z h b "com/example/authwright/authwright/engine/Step" ∧ Fld Z h b "com/example/authwright/authwright/engine/Step" "success" "Z" (.int (0 : Int32)) ∧ Fld Z h b "com/example/authwright/authwright/engine/Step" "failed" "Z" (.int (0 : Int32)) ∧ Fld Z h b "com/example/authwright/authwright/engine/Step" "delayed" "Z" (.int (0 : Int32)) ∧ Fld Z h b "com/example/authwright/authwright/engine/Step" "message" "[B" (.ref a5) ∧ Fld Z h b "com/example/authwright/authwright/engine/Step" "replyNumber" "I" (.int (0 : Int32)) ∧ Fld Z h b "com/example/authwright/authwright/engine/Step" "next" "Lcom/example/authwright/authwright/engine/Step$Continuation;" .null
set_option maxRecDepth 65536 in
set_option maxHeartbeats 40000000 in
theorem rm1 (l : Launch) (Z : State) (a0 : Array Value) (hw : ∀ d ∈ tables_1, d.before a0 Z = true) (ws : List Jvm.Cond) (a5 : Addr) (h0 : Heap) (n0 : Nat) (Z0 : n0 ≤ h0.size) :
    MetFree l (⟨"com/example/authwright/authwright/engine/Step", "answer", "([B)Lcom/example/authwright/authwright/engine/Step;"⟩ : MethodName) (head1 (Jvm.Cond.code (⟨"com/example/authwright/authwright/engine/Step", "answer", "([B)Lcom/example/authwright/authwright/engine/Step;"⟩ : MethodName) prog_41_method_5_code 1 (some (.object "com/example/authwright/authwright/engine/Step")) :: ws) ({ frames := 2, cells := 1, slots := 6, locals := 40 } : Room)) (fun a U => a = #[(.ref a5)] ∧ Z.Warmed39 U.vm ∧ U.heap = h0) (fun _ _ _ _ _ => True) (fun _ U o U' => ∃ v L, o = .returned v ∧ Q1 Z a5 h0 n0 v U'.heap L ∧ FrameEnd U o U' L ({ frames := 2, cells := 1, slots := 6, locals := 40 } : Room).cells ({ frames := 2, cells := 1, slots := 6, locals := 40 } : Room).slots) := by
  refine MetFree.of_bodySF pn_1 hisR ?_
  intro p e s m args below meth c s₁ Bd hml0 hP hK
  obtain ⟨rfl, hZ, hh⟩ := hP
  have hx := Bd.exec
  have hby := Bd.bytes
  have hml : c.maxLocals = 1 := hml0
  have hown : s.vm.findClass "com/example/authwright/authwright/engine/Step" = some m.cls := findClass_of_methodNamed Bd.named
  have hnm := (name_of_methodNamed Bd.named Bd.method).1
  have hlk := BodyLoose.notSynchronized Bd
  have X0 : Stand p l e ({ frames := 2, cells := 1, slots := 6, locals := 40 } : Room) s m #[(.ref a5)] below meth c s₁ [] 0 0 := Stand.of_body Bd
  have e0 : s₁.heap = h0 := by rw [← hh, Bd.state]; rfl
  have N0 := Fr.nil n0
  show own_R p e below s (Q1 Z a5 h0 n0) ({ frames := 2, cells := 1, slots := 6, locals := 40 } : Room).cells ({ frames := 2, cells := 1, slots := 6, locals := 40 } : Room).slots s₁ (entryFrame m #[(.ref a5)] 1)
  refine own_cast (ef_1 m a5) ?_
  show own_R p e below s _ _ _ s₁ (mkF m 0 #[.val (.ref a5)] [])
  have K0 := Keep.refl h0 ([] : List Addr)
  refine own_new X0 hx hZ hown (hw _ (List.mem_of_getElem? (i := 5) rfl)) (hw _ (List.mem_of_getElem? (i := 6) rfl)) (hw _ (List.mem_of_getElem? (i := 3) rfl)) e0 (hb hby d1_0) (by decide) (by decide) ?_
  intro T24 h24 b24 g24 X24 e24 E24 A24 D24
  have sz_b24 : h0.size ≤ b24 := Nat.le_trans K0.1 (Nat.le_of_eq g24.symm)
  have n0_b24 : n0 ≤ b24 := Nat.le_trans Z0 sz_b24
  have K24 := K0.ext E24
  have F_success_b24 : Fld Z h24 b24 "com/example/authwright/authwright/engine/Step" "success" "Z" (.int (0 : Int32)) := D24 (Or.inr (hw _ (List.mem_of_getElem? (i := 14) rfl))) (ty := .boolean) (by decide)
  have F_failed_b24 : Fld Z h24 b24 "com/example/authwright/authwright/engine/Step" "failed" "Z" (.int (0 : Int32)) := D24 (Or.inr (hw _ (List.mem_of_getElem? (i := 16) rfl))) (ty := .boolean) (by decide)
  have F_delayed_b24 : Fld Z h24 b24 "com/example/authwright/authwright/engine/Step" "delayed" "Z" (.int (0 : Int32)) := D24 (Or.inr (hw _ (List.mem_of_getElem? (i := 18) rfl))) (ty := .boolean) (by decide)
  have F_message_b24 : Fld Z h24 b24 "com/example/authwright/authwright/engine/Step" "message" "[B" .null := D24 (Or.inr (hw _ (List.mem_of_getElem? (i := 20) rfl))) (ty := (.array .byte)) (by decide)
  have F_replyNumber_b24 : Fld Z h24 b24 "com/example/authwright/authwright/engine/Step" "replyNumber" "I" (.int (0 : Int32)) := D24 (Or.inr (hw _ (List.mem_of_getElem? (i := 22) rfl))) (ty := .int) (by decide)
  have F_next_b24 : Fld Z h24 b24 "com/example/authwright/authwright/engine/Step" "next" "Lcom/example/authwright/authwright/engine/Step$Continuation;" .null := D24 (Or.inr (hw _ (List.mem_of_getElem? (i := 24) rfl))) (ty := (.object "com/example/authwright/authwright/engine/Step$Continuation")) (by decide)
  show own_R p e below s _ _ _ T24 (mkF m 3 #[.val (.ref a5)] [(.ref b24)])
  refine own_dup X24 hx (hb hby d1_3) rfl ?_
  show own_R p e below s _ _ _ T24 (mkF m 4 #[.val (.ref a5)] [(.ref b24), (.ref b24)])
  refine own_iconst X24 hx (0 : Int32) (hb hby d1_4) rfl ?_
  show own_R p e below s _ _ _ T24 (mkF m 5 #[.val (.ref a5)] [(.int (0 : Int32)), (.ref b24), (.ref b24)])
  refine own_iconst X24 hx (0 : Int32) (hb hby d1_5) rfl ?_
  show own_R p e below s _ _ _ T24 (mkF m 6 #[.val (.ref a5)] [(.int (0 : Int32)), (.int (0 : Int32)), (.ref b24), (.ref b24)])
  refine own_iconst X24 hx (0 : Int32) (hb hby d1_6) rfl ?_
  show own_R p e below s _ _ _ T24 (mkF m 7 #[.val (.ref a5)] [(.int (0 : Int32)), (.int (0 : Int32)), (.int (0 : Int32)), (.ref b24), (.ref b24)])
  refine own_aloadN X24 hx (hb hby d1_7) rfl rfl ?_
  show own_R p e below s _ _ _ T24 (mkF m 8 #[.val (.ref a5)] [(.ref a5), (.int (0 : Int32)), (.int (0 : Int32)), (.int (0 : Int32)), (.ref b24), (.ref b24)])
  refine own_iconst X24 hx (0 : Int32) (hb hby d1_8) rfl ?_
  show own_R p e below s _ _ _ T24 (mkF m 9 #[.val (.ref a5)] [(.int (0 : Int32)), (.ref a5), (.int (0 : Int32)), (.int (0 : Int32)), (.int (0 : Int32)), (.ref b24), (.ref b24)])
  refine own_aconst_null X24 hx (hb hby d1_9) ?_
  show own_R p e below s _ _ _ T24 (mkF m 10 #[.val (.ref a5)] [.null, (.int (0 : Int32)), (.ref a5), (.int (0 : Int32)), (.int (0 : Int32)), (.int (0 : Int32)), (.ref b24), (.ref b24)])
  refine own_callI X24 hx hZ (y := (⟨"com/example/authwright/authwright/engine/Step", "<init>", "(ZZZ[BILcom/example/authwright/authwright/engine/Step$Continuation;)V"⟩ : MethodName)) rfl hown (hw _ (List.mem_of_getElem? (i := 7) rfl)) (hw _ (List.mem_of_getElem? (i := 8) rfl)) (hw _ (List.mem_of_getElem? (i := 3) rfl)) (hw _ (List.mem_of_getElem? (i := 9) rfl)) (by decide) (rm2 l Z a0 hw [] b24 a5 h24 n0 (Nat.le_trans Z0 K24.1) A24 n0_b24 F_success_b24 F_failed_b24 F_delayed_b24 F_message_b24 F_replyNumber_b24 F_next_b24) 1 (by decide) (by decide) e24 (by rw [hml]; rfl) b24 [(.int (0 : Int32)), (.int (0 : Int32)), (.int (0 : Int32)), (.ref a5), (.int (0 : Int32)), .null] [(.ref b24)] rfl (lenOf pd_0 rfl) rfl (Nat.le_of_eq rfl) (hb hby d1_10) (by decide) (by decide) ?_
  rintro T25 _ L25 X25 ⟨rfl, N25q, Kc25, Ec25, F25success, F25failed, F25delayed, F25message, F25replyNumber, F25next⟩
  have N25 := Fr.app N0 N25q
  have K25 := K24.trans Kc25 (allS (P := fun x => x ∈ ([] : List Addr) ∨ h0.size ≤ x) (Or.inr sz_b24) all0)
  show own_R p e below s _ _ _ T25 (mkF m 13 #[.val (.ref a5)] [(.ref b24)])
  refine own_retA X25 hx Bd.returns rfl rfl hlk (hb hby d1_13) ?_ (by decide) (by decide)
  exact ⟨_, rfl, N25, K25, n0_b24, Ec25, F25success, F25failed, F25delayed, F25message, F25replyNumber, F25next⟩
theorem pn_4 : plainFor (⟨"com/example/authwright/authwright/engine/Step", "message", "()[B"⟩ : MethodName) = true := by decide +kernel
theorem ef_4 (m : MethodId) (a1 : Addr) : entryFrame m #[(.ref a1)] 1 = mkF m 0 #[.val (.ref a1)] [] := by first | (simp [entryFrame, mkF, argsToLocals, Value.category]; done) | rfl
def Q4 (Z : State) (a1 : Addr) (a5 : Addr) (h0 : Heap) (n0 : Nat) (v : Option Value) (h : Heap) (L : List Loc) : Prop := v = some (.ref a5) ∧ Fr n0 L ∧ h = h0
set_option maxRecDepth 65536 in
set_option maxHeartbeats 40000000 in
theorem rm4 (l : Launch) (Z : State) (a0 : Array Value) (hw : ∀ d ∈ tables_1, d.before a0 Z = true) (ws : List Jvm.Cond) (a1 : Addr) (a5 : Addr) (h0 : Heap) (n0 : Nat) (Z0 : n0 ≤ h0.size) (hF : Fld Z h0 a1 "com/example/authwright/authwright/engine/Step" "message" "[B" (.ref a5)) :
    MetFree l (⟨"com/example/authwright/authwright/engine/Step", "message", "()[B"⟩ : MethodName) (head1 (Jvm.Cond.code (⟨"com/example/authwright/authwright/engine/Step", "message", "()[B"⟩ : MethodName) prog_41_method_12_code 1 (some (.array .byte)) :: ws) ({ frames := 0, cells := 0, slots := 0, locals := 0 } : Room)) (fun a U => a = #[(.ref a1)] ∧ Z.Warmed39 U.vm ∧ U.heap = h0) (fun _ _ _ _ _ => True) (fun _ U o U' => ∃ v L, o = .returned v ∧ Q4 Z a1 a5 h0 n0 v U'.heap L ∧ FrameEnd U o U' L ({ frames := 0, cells := 0, slots := 0, locals := 0 } : Room).cells ({ frames := 0, cells := 0, slots := 0, locals := 0 } : Room).slots) := by
  refine MetFree.of_bodySF pn_4 hisR ?_
  intro p e s m args below meth c s₁ Bd hml0 hP hK
  obtain ⟨rfl, hZ, hh⟩ := hP
  have hx := Bd.exec
  have hby := Bd.bytes
  have hml : c.maxLocals = 1 := hml0
  have hown : s.vm.findClass "com/example/authwright/authwright/engine/Step" = some m.cls := findClass_of_methodNamed Bd.named
  have hnm := (name_of_methodNamed Bd.named Bd.method).1
  have hlk := BodyLoose.notSynchronized Bd
  have X0 : Stand p l e ({ frames := 0, cells := 0, slots := 0, locals := 0 } : Room) s m #[(.ref a1)] below meth c s₁ [] 0 0 := Stand.of_body Bd
  have e0 : s₁.heap = h0 := by rw [← hh, Bd.state]; rfl
  have N0 := Fr.nil n0
  show own_R p e below s (Q4 Z a1 a5 h0 n0) ({ frames := 0, cells := 0, slots := 0, locals := 0 } : Room).cells ({ frames := 0, cells := 0, slots := 0, locals := 0 } : Room).slots s₁ (entryFrame m #[(.ref a1)] 1)
  refine own_cast (ef_4 m a1) ?_
  show own_R p e below s _ _ _ s₁ (mkF m 0 #[.val (.ref a1)] [])
  have K0 := Keep.refl h0 ([] : List Addr)
  refine own_aloadN X0 hx (hb hby d4_0) rfl rfl ?_
  show own_R p e below s _ _ _ s₁ (mkF m 1 #[.val (.ref a1)] [(.ref a1)])
  refine own_getF X0 hx hZ hown (host := "") (Or.inl (hw _ (List.mem_of_getElem? (i := 19) rfl))) Via.refl e0 hF (hb hby d4_1) ?_
  intro T26 X26 e26
  show own_R p e below s _ _ _ T26 (mkF m 4 #[.val (.ref a1)] [(.ref a5)])
  refine own_retA X26 hx Bd.returns rfl rfl hlk (hb hby d4_4) ?_ (by decide) (by decide)
  exact ⟨rfl, N0, e26⟩
theorem pn_5 : plainFor (⟨"com/example/authwright/authwright/engine/Step", "isSuccess", "()Z"⟩ : MethodName) = true := by decide +kernel
theorem ef_5 (m : MethodId) (a1 : Addr) : entryFrame m #[(.ref a1)] 1 = mkF m 0 #[.val (.ref a1)] [] := by first | (simp [entryFrame, mkF, argsToLocals, Value.category]; done) | rfl
def Q5 (Z : State) (a1 : Addr) (a5 : Addr) (h0 : Heap) (n0 : Nat) (v : Option Value) (h : Heap) (L : List Loc) : Prop := v = some (.int (0 : Int32)) ∧ Fr n0 L ∧ h = h0
set_option maxRecDepth 65536 in
set_option maxHeartbeats 40000000 in
theorem rm5 (l : Launch) (Z : State) (a0 : Array Value) (hw : ∀ d ∈ tables_1, d.before a0 Z = true) (ws : List Jvm.Cond) (a1 : Addr) (a5 : Addr) (h0 : Heap) (n0 : Nat) (Z0 : n0 ≤ h0.size) (hF : Fld Z h0 a1 "com/example/authwright/authwright/engine/Step" "success" "Z" (.int (0 : Int32))) :
    MetFree l (⟨"com/example/authwright/authwright/engine/Step", "isSuccess", "()Z"⟩ : MethodName) (head1 (Jvm.Cond.code (⟨"com/example/authwright/authwright/engine/Step", "isSuccess", "()Z"⟩ : MethodName) prog_41_method_9_code 1 (some .boolean) :: ws) ({ frames := 0, cells := 0, slots := 0, locals := 0 } : Room)) (fun a U => a = #[(.ref a1)] ∧ Z.Warmed39 U.vm ∧ U.heap = h0) (fun _ _ _ _ _ => True) (fun _ U o U' => ∃ v L, o = .returned v ∧ Q5 Z a1 a5 h0 n0 v U'.heap L ∧ FrameEnd U o U' L ({ frames := 0, cells := 0, slots := 0, locals := 0 } : Room).cells ({ frames := 0, cells := 0, slots := 0, locals := 0 } : Room).slots) := by
  refine MetFree.of_bodySF pn_5 hisR ?_
  intro p e s m args below meth c s₁ Bd hml0 hP hK
  obtain ⟨rfl, hZ, hh⟩ := hP
  have hx := Bd.exec
  have hby := Bd.bytes
  have hml : c.maxLocals = 1 := hml0
  have hown : s.vm.findClass "com/example/authwright/authwright/engine/Step" = some m.cls := findClass_of_methodNamed Bd.named
  have hnm := (name_of_methodNamed Bd.named Bd.method).1
  have hlk := BodyLoose.notSynchronized Bd
  have X0 : Stand p l e ({ frames := 0, cells := 0, slots := 0, locals := 0 } : Room) s m #[(.ref a1)] below meth c s₁ [] 0 0 := Stand.of_body Bd
  have e0 : s₁.heap = h0 := by rw [← hh, Bd.state]; rfl
  have N0 := Fr.nil n0
  show own_R p e below s (Q5 Z a1 a5 h0 n0) ({ frames := 0, cells := 0, slots := 0, locals := 0 } : Room).cells ({ frames := 0, cells := 0, slots := 0, locals := 0 } : Room).slots s₁ (entryFrame m #[(.ref a1)] 1)
  refine own_cast (ef_5 m a1) ?_
  show own_R p e below s _ _ _ s₁ (mkF m 0 #[.val (.ref a1)] [])
  have K0 := Keep.refl h0 ([] : List Addr)
  refine own_aloadN X0 hx (hb hby d5_0) rfl rfl ?_
  show own_R p e below s _ _ _ s₁ (mkF m 1 #[.val (.ref a1)] [(.ref a1)])
  refine own_getF X0 hx hZ hown (host := "") (Or.inl (hw _ (List.mem_of_getElem? (i := 13) rfl))) Via.refl e0 hF (hb hby d5_1) ?_
  intro T27 X27 e27
  show own_R p e below s _ _ _ T27 (mkF m 4 #[.val (.ref a1)] [(.int (0 : Int32))])
  refine own_retN X27 hx (t := .boolean) Bd.returns (by simp) hlk (hb hby d5_4) ?_ (by decide) (by decide)
  exact ⟨rfl, N0, e27⟩
theorem pn_6 : plainFor (⟨"com/example/authwright/authwright/engine/Step", "isFailure", "()Z"⟩ : MethodName) = true := by decide +kernel
theorem ef_6 (m : MethodId) (a1 : Addr) : entryFrame m #[(.ref a1)] 1 = mkF m 0 #[.val (.ref a1)] [] := by first | (simp [entryFrame, mkF, argsToLocals, Value.category]; done) | rfl
def Q6 (Z : State) (a1 : Addr) (a5 : Addr) (h0 : Heap) (n0 : Nat) (v : Option Value) (h : Heap) (L : List Loc) : Prop := v = some (.int (0 : Int32)) ∧ Fr n0 L ∧ h = h0
set_option maxRecDepth 65536 in
set_option maxHeartbeats 40000000 in
theorem rm6 (l : Launch) (Z : State) (a0 : Array Value) (hw : ∀ d ∈ tables_1, d.before a0 Z = true) (ws : List Jvm.Cond) (a1 : Addr) (a5 : Addr) (h0 : Heap) (n0 : Nat) (Z0 : n0 ≤ h0.size) (hF : Fld Z h0 a1 "com/example/authwright/authwright/engine/Step" "failed" "Z" (.int (0 : Int32))) :
    MetFree l (⟨"com/example/authwright/authwright/engine/Step", "isFailure", "()Z"⟩ : MethodName) (head1 (Jvm.Cond.code (⟨"com/example/authwright/authwright/engine/Step", "isFailure", "()Z"⟩ : MethodName) prog_41_method_10_code 1 (some .boolean) :: ws) ({ frames := 0, cells := 0, slots := 0, locals := 0 } : Room)) (fun a U => a = #[(.ref a1)] ∧ Z.Warmed39 U.vm ∧ U.heap = h0) (fun _ _ _ _ _ => True) (fun _ U o U' => ∃ v L, o = .returned v ∧ Q6 Z a1 a5 h0 n0 v U'.heap L ∧ FrameEnd U o U' L ({ frames := 0, cells := 0, slots := 0, locals := 0 } : Room).cells ({ frames := 0, cells := 0, slots := 0, locals := 0 } : Room).slots) := by
  refine MetFree.of_bodySF pn_6 hisR ?_
  intro p e s m args below meth c s₁ Bd hml0 hP hK
  obtain ⟨rfl, hZ, hh⟩ := hP
  have hx := Bd.exec
  have hby := Bd.bytes
  have hml : c.maxLocals = 1 := hml0
  have hown : s.vm.findClass "com/example/authwright/authwright/engine/Step" = some m.cls := findClass_of_methodNamed Bd.named
  have hnm := (name_of_methodNamed Bd.named Bd.method).1
  have hlk := BodyLoose.notSynchronized Bd
  have X0 : Stand p l e ({ frames := 0, cells := 0, slots := 0, locals := 0 } : Room) s m #[(.ref a1)] below meth c s₁ [] 0 0 := Stand.of_body Bd
  have e0 : s₁.heap = h0 := by rw [← hh, Bd.state]; rfl
  have N0 := Fr.nil n0
  show own_R p e below s (Q6 Z a1 a5 h0 n0) ({ frames := 0, cells := 0, slots := 0, locals := 0 } : Room).cells ({ frames := 0, cells := 0, slots := 0, locals := 0 } : Room).slots s₁ (entryFrame m #[(.ref a1)] 1)
  refine own_cast (ef_6 m a1) ?_
  show own_R p e below s _ _ _ s₁ (mkF m 0 #[.val (.ref a1)] [])
  have K0 := Keep.refl h0 ([] : List Addr)
  refine own_aloadN X0 hx (hb hby d6_0) rfl rfl ?_
  show own_R p e below s _ _ _ s₁ (mkF m 1 #[.val (.ref a1)] [(.ref a1)])
  refine own_getF X0 hx hZ hown (host := "") (Or.inl (hw _ (List.mem_of_getElem? (i := 15) rfl))) Via.refl e0 hF (hb hby d6_1) ?_
  intro T28 X28 e28
  show own_R p e below s _ _ _ T28 (mkF m 4 #[.val (.ref a1)] [(.int (0 : Int32))])
  refine own_retN X28 hx (t := .boolean) Bd.returns (by simp) hlk (hb hby d6_4) ?_ (by decide) (by decide)
  exact ⟨rfl, N0, e28⟩
theorem pn_7 : plainFor (⟨"com/example/authwright/authwright/engine/Step", "isDelayed", "()Z"⟩ : MethodName) = true := by decide +kernel
theorem ef_7 (m : MethodId) (a1 : Addr) : entryFrame m #[(.ref a1)] 1 = mkF m 0 #[.val (.ref a1)] [] := by first | (simp [entryFrame, mkF, argsToLocals, Value.category]; done) | rfl
def Q7 (Z : State) (a1 : Addr) (a5 : Addr) (h0 : Heap) (n0 : Nat) (v : Option Value) (h : Heap) (L : List Loc) : Prop := v = some (.int (0 : Int32)) ∧ Fr n0 L ∧ h = h0
set_option maxRecDepth 65536 in
set_option maxHeartbeats 40000000 in
theorem rm7 (l : Launch) (Z : State) (a0 : Array Value) (hw : ∀ d ∈ tables_1, d.before a0 Z = true) (ws : List Jvm.Cond) (a1 : Addr) (a5 : Addr) (h0 : Heap) (n0 : Nat) (Z0 : n0 ≤ h0.size) (hF : Fld Z h0 a1 "com/example/authwright/authwright/engine/Step" "delayed" "Z" (.int (0 : Int32))) :
    MetFree l (⟨"com/example/authwright/authwright/engine/Step", "isDelayed", "()Z"⟩ : MethodName) (head1 (Jvm.Cond.code (⟨"com/example/authwright/authwright/engine/Step", "isDelayed", "()Z"⟩ : MethodName) prog_41_method_11_code 1 (some .boolean) :: ws) ({ frames := 0, cells := 0, slots := 0, locals := 0 } : Room)) (fun a U => a = #[(.ref a1)] ∧ Z.Warmed39 U.vm ∧ U.heap = h0) (fun _ _ _ _ _ => True) (fun _ U o U' => ∃ v L, o = .returned v ∧ Q7 Z a1 a5 h0 n0 v U'.heap L ∧ FrameEnd U o U' L ({ frames := 0, cells := 0, slots := 0, locals := 0 } : Room).cells ({ frames := 0, cells := 0, slots := 0, locals := 0 } : Room).slots) := by
  refine MetFree.of_bodySF pn_7 hisR ?_
  intro p e s m args below meth c s₁ Bd hml0 hP hK
  obtain ⟨rfl, hZ, hh⟩ := hP
  have hx := Bd.exec
  have hby := Bd.bytes
  have hml : c.maxLocals = 1 := hml0
  have hown : s.vm.findClass "com/example/authwright/authwright/engine/Step" = some m.cls := findClass_of_methodNamed Bd.named
  have hnm := (name_of_methodNamed Bd.named Bd.method).1
  have hlk := BodyLoose.notSynchronized Bd
  have X0 : Stand p l e ({ frames := 0, cells := 0, slots := 0, locals := 0 } : Room) s m #[(.ref a1)] below meth c s₁ [] 0 0 := Stand.of_body Bd
  have e0 : s₁.heap = h0 := by rw [← hh, Bd.state]; rfl
  have N0 := Fr.nil n0
  show own_R p e below s (Q7 Z a1 a5 h0 n0) ({ frames := 0, cells := 0, slots := 0, locals := 0 } : Room).cells ({ frames := 0, cells := 0, slots := 0, locals := 0 } : Room).slots s₁ (entryFrame m #[(.ref a1)] 1)
  refine own_cast (ef_7 m a1) ?_
  show own_R p e below s _ _ _ s₁ (mkF m 0 #[.val (.ref a1)] [])
  have K0 := Keep.refl h0 ([] : List Addr)
  refine own_aloadN X0 hx (hb hby d7_0) rfl rfl ?_
  show own_R p e below s _ _ _ s₁ (mkF m 1 #[.val (.ref a1)] [(.ref a1)])
  refine own_getF X0 hx hZ hown (host := "") (Or.inl (hw _ (List.mem_of_getElem? (i := 17) rfl))) Via.refl e0 hF (hb hby d7_1) ?_
  intro T29 X29 e29
  show own_R p e below s _ _ _ T29 (mkF m 4 #[.val (.ref a1)] [(.int (0 : Int32))])
  refine own_retN X29 hx (t := .boolean) Bd.returns (by simp) hlk (hb hby d7_4) ?_ (by decide) (by decide)
  exact ⟨rfl, N0, e29⟩
theorem pn_8 : plainFor (⟨"com/example/authwright/authwright/engine/Step", "replyNumber", "()I"⟩ : MethodName) = true := by decide +kernel
theorem ef_8 (m : MethodId) (a1 : Addr) : entryFrame m #[(.ref a1)] 1 = mkF m 0 #[.val (.ref a1)] [] := by first | (simp [entryFrame, mkF, argsToLocals, Value.category]; done) | rfl
def Q8 (Z : State) (a1 : Addr) (a5 : Addr) (h0 : Heap) (n0 : Nat) (v : Option Value) (h : Heap) (L : List Loc) : Prop := v = some (.int (0 : Int32)) ∧ Fr n0 L ∧ h = h0
set_option maxRecDepth 65536 in
set_option maxHeartbeats 40000000 in
theorem rm8 (l : Launch) (Z : State) (a0 : Array Value) (hw : ∀ d ∈ tables_1, d.before a0 Z = true) (ws : List Jvm.Cond) (a1 : Addr) (a5 : Addr) (h0 : Heap) (n0 : Nat) (Z0 : n0 ≤ h0.size) (hF : Fld Z h0 a1 "com/example/authwright/authwright/engine/Step" "replyNumber" "I" (.int (0 : Int32))) :
    MetFree l (⟨"com/example/authwright/authwright/engine/Step", "replyNumber", "()I"⟩ : MethodName) (head1 (Jvm.Cond.code (⟨"com/example/authwright/authwright/engine/Step", "replyNumber", "()I"⟩ : MethodName) prog_41_method_13_code 1 (some .int) :: ws) ({ frames := 0, cells := 0, slots := 0, locals := 0 } : Room)) (fun a U => a = #[(.ref a1)] ∧ Z.Warmed39 U.vm ∧ U.heap = h0) (fun _ _ _ _ _ => True) (fun _ U o U' => ∃ v L, o = .returned v ∧ Q8 Z a1 a5 h0 n0 v U'.heap L ∧ FrameEnd U o U' L ({ frames := 0, cells := 0, slots := 0, locals := 0 } : Room).cells ({ frames := 0, cells := 0, slots := 0, locals := 0 } : Room).slots) := by
  refine MetFree.of_bodySF pn_8 hisR ?_
  intro p e s m args below meth c s₁ Bd hml0 hP hK
  obtain ⟨rfl, hZ, hh⟩ := hP
  have hx := Bd.exec
  have hby := Bd.bytes
  have hml : c.maxLocals = 1 := hml0
  have hown : s.vm.findClass "com/example/authwright/authwright/engine/Step" = some m.cls := findClass_of_methodNamed Bd.named
  have hnm := (name_of_methodNamed Bd.named Bd.method).1
  have hlk := BodyLoose.notSynchronized Bd
  have X0 : Stand p l e ({ frames := 0, cells := 0, slots := 0, locals := 0 } : Room) s m #[(.ref a1)] below meth c s₁ [] 0 0 := Stand.of_body Bd
  have e0 : s₁.heap = h0 := by rw [← hh, Bd.state]; rfl
  have N0 := Fr.nil n0
  show own_R p e below s (Q8 Z a1 a5 h0 n0) ({ frames := 0, cells := 0, slots := 0, locals := 0 } : Room).cells ({ frames := 0, cells := 0, slots := 0, locals := 0 } : Room).slots s₁ (entryFrame m #[(.ref a1)] 1)
  refine own_cast (ef_8 m a1) ?_
  show own_R p e below s _ _ _ s₁ (mkF m 0 #[.val (.ref a1)] [])
  have K0 := Keep.refl h0 ([] : List Addr)
  refine own_aloadN X0 hx (hb hby d8_0) rfl rfl ?_
  show own_R p e below s _ _ _ s₁ (mkF m 1 #[.val (.ref a1)] [(.ref a1)])
  refine own_getF X0 hx hZ hown (host := "") (Or.inl (hw _ (List.mem_of_getElem? (i := 21) rfl))) Via.refl e0 hF (hb hby d8_1) ?_
  intro T30 X30 e30
  show own_R p e below s _ _ _ T30 (mkF m 4 #[.val (.ref a1)] [(.int (0 : Int32))])
  refine own_retI X30 hx Bd.returns hlk (hb hby d8_4) ?_ (by decide) (by decide)
  exact ⟨rfl, N0, e30⟩
theorem pn_9 : plainFor (⟨"com/example/authwright/authwright/engine/Step", "next", "()Lcom/example/authwright/authwright/engine/Step$Continuation;"⟩ : MethodName) = true := by decide +kernel
theorem ef_9 (m : MethodId) (a1 : Addr) : entryFrame m #[(.ref a1)] 1 = mkF m 0 #[.val (.ref a1)] [] := by first | (simp [entryFrame, mkF, argsToLocals, Value.category]; done) | rfl
def Q9 (Z : State) (a1 : Addr) (a5 : Addr) (h0 : Heap) (n0 : Nat) (v : Option Value) (h : Heap) (L : List Loc) : Prop := v = some .null ∧ Fr n0 L ∧ h = h0
set_option maxRecDepth 65536 in
set_option maxHeartbeats 40000000 in
theorem rm9 (l : Launch) (Z : State) (a0 : Array Value) (hw : ∀ d ∈ tables_1, d.before a0 Z = true) (ws : List Jvm.Cond) (a1 : Addr) (a5 : Addr) (h0 : Heap) (n0 : Nat) (Z0 : n0 ≤ h0.size) (hF : Fld Z h0 a1 "com/example/authwright/authwright/engine/Step" "next" "Lcom/example/authwright/authwright/engine/Step$Continuation;" .null) :
    MetFree l (⟨"com/example/authwright/authwright/engine/Step", "next", "()Lcom/example/authwright/authwright/engine/Step$Continuation;"⟩ : MethodName) (head1 (Jvm.Cond.code (⟨"com/example/authwright/authwright/engine/Step", "next", "()Lcom/example/authwright/authwright/engine/Step$Continuation;"⟩ : MethodName) prog_41_method_14_code 1 (some (.object "com/example/authwright/authwright/engine/Step$Continuation")) :: ws) ({ frames := 0, cells := 0, slots := 0, locals := 0 } : Room)) (fun a U => a = #[(.ref a1)] ∧ Z.Warmed39 U.vm ∧ U.heap = h0) (fun _ _ _ _ _ => True) (fun _ U o U' => ∃ v L, o = .returned v ∧ Q9 Z a1 a5 h0 n0 v U'.heap L ∧ FrameEnd U o U' L ({ frames := 0, cells := 0, slots := 0, locals := 0 } : Room).cells ({ frames := 0, cells := 0, slots := 0, locals := 0 } : Room).slots) := by
  refine MetFree.of_bodySF pn_9 hisR ?_
  intro p e s m args below meth c s₁ Bd hml0 hP hK
  obtain ⟨rfl, hZ, hh⟩ := hP
  have hx := Bd.exec
  have hby := Bd.bytes
  have hml : c.maxLocals = 1 := hml0
  have hown : s.vm.findClass "com/example/authwright/authwright/engine/Step" = some m.cls := findClass_of_methodNamed Bd.named
  have hnm := (name_of_methodNamed Bd.named Bd.method).1
  have hlk := BodyLoose.notSynchronized Bd
  have X0 : Stand p l e ({ frames := 0, cells := 0, slots := 0, locals := 0 } : Room) s m #[(.ref a1)] below meth c s₁ [] 0 0 := Stand.of_body Bd
  have e0 : s₁.heap = h0 := by rw [← hh, Bd.state]; rfl
  have N0 := Fr.nil n0
  show own_R p e below s (Q9 Z a1 a5 h0 n0) ({ frames := 0, cells := 0, slots := 0, locals := 0 } : Room).cells ({ frames := 0, cells := 0, slots := 0, locals := 0 } : Room).slots s₁ (entryFrame m #[(.ref a1)] 1)
  refine own_cast (ef_9 m a1) ?_
  show own_R p e below s _ _ _ s₁ (mkF m 0 #[.val (.ref a1)] [])
  have K0 := Keep.refl h0 ([] : List Addr)
  refine own_aloadN X0 hx (hb hby d9_0) rfl rfl ?_
  show own_R p e below s _ _ _ s₁ (mkF m 1 #[.val (.ref a1)] [(.ref a1)])
  refine own_getF X0 hx hZ hown (host := "") (Or.inl (hw _ (List.mem_of_getElem? (i := 23) rfl))) Via.refl e0 hF (hb hby d9_1) ?_
  intro T31 X31 e31
  show own_R p e below s _ _ _ T31 (mkF m 4 #[.val (.ref a1)] [.null])
  refine own_retA X31 hx Bd.returns rfl rfl hlk (hb hby d9_4) ?_ (by decide) (by decide)
  exact ⟨rfl, N0, e31⟩
theorem pn_0 : plainFor (⟨"com/example/authwright/authwright/engine/StepAnswerPinLaw", "law", "(IIII)Z"⟩ : MethodName) = true := by decide +kernel
theorem ef_0 (m : MethodId) (p0 : Int32) (p1 : Int32) (p2 : Int32) (p3 : Int32) : entryFrame m #[(.int p0), (.int p1), (.int p2), (.int p3)] maxLocals = mkF m 0 #[.val (.int p0), .val (.int p1), .val (.int p2), .val (.int p3), .unset, .unset, .unset, .unset] [] := by first | (simp [entryFrame, mkF, argsToLocals, Value.category, maxLocals]; done) | rfl
def Q0 (Z : State) (p0 : Int32) (p1 : Int32) (p2 : Int32) (p3 : Int32) (h0 : Heap) (n0 : Nat) (v : Option Value) (h : Heap) (L : List Loc) : Prop := v = some (.int 1) ∧ Fr n0 L
set_option maxRecDepth 65536 in
set_option maxHeartbeats 40000000 in
theorem rm0 (l : Launch) (Z : State) (a0 : Array Value) (hw : ∀ d ∈ tables_1, d.before a0 Z = true) (ws : List Jvm.Cond) (p0 : Int32) (p1 : Int32) (p2 : Int32) (p3 : Int32) (h0 : Heap) (n0 : Nat) (Z0 : n0 ≤ h0.size) :
    MetFree l x (head1 (Jvm.Cond.code x code maxLocals ret :: ws) room_1) (fun a U => a = #[(.int p0), (.int p1), (.int p2), (.int p3)] ∧ Z.Warmed39 U.vm ∧ U.heap = h0) (fun _ _ _ _ _ => True) (fun _ U o U' => ∃ v L, o = .returned v ∧ Q0 Z p0 p1 p2 p3 h0 n0 v U'.heap L ∧ FrameEnd U o U' L room_1.cells room_1.slots) := by
  refine MetFree.of_bodySF pn_0 hisR ?_
  intro p e s m args below meth c s₁ Bd hml0 hP hK
  obtain ⟨rfl, hZ, hh⟩ := hP
  have hx := Bd.exec
  have hby := Bd.bytes
  have hml : c.maxLocals = 8 := hml0
  have hown : s.vm.findClass "com/example/authwright/authwright/engine/StepAnswerPinLaw" = some m.cls := findClass_of_methodNamed Bd.named
  have hnm := (name_of_methodNamed Bd.named Bd.method).1
  have hlk := BodyLoose.notSynchronized Bd
  have X0 : Stand p l e room_1 s m #[(.int p0), (.int p1), (.int p2), (.int p3)] below meth c s₁ [] 0 0 := Stand.of_body Bd
  have e0 : s₁.heap = h0 := by rw [← hh, Bd.state]; rfl
  have N0 := Fr.nil n0
  show own_R p e below s (Q0 Z p0 p1 p2 p3 h0 n0) room_1.cells room_1.slots s₁ (entryFrame m #[(.int p0), (.int p1), (.int p2), (.int p3)] maxLocals)
  refine own_cast (ef_0 m p0 p1 p2 p3) ?_
  show own_R p e below s _ _ _ s₁ (mkF m 0 #[.val (.int p0), .val (.int p1), .val (.int p2), .val (.int p3), .unset, .unset, .unset, .unset] [])
  refine own_iloadN X0 hx (hb hby at_0) rfl ?_
  show own_R p e below s _ _ _ s₁ (mkF m 1 #[.val (.int p0), .val (.int p1), .val (.int p2), .val (.int p3), .unset, .unset, .unset, .unset] [(.int p0)])
  refine own_iconst X0 hx (3 : Int32) (hb hby at_1) rfl ?_
  show own_R p e below s _ _ _ s₁ (mkF m 2 #[.val (.int p0), .val (.int p1), .val (.int p2), .val (.int p3), .unset, .unset, .unset, .unset] [(.int (3 : Int32)), (.int p0)])
  refine own_iand X0 hx (hb hby at_2) ?_
  show own_R p e below s _ _ _ s₁ (mkF m 3 #[.val (.int p0), .val (.int p1), .val (.int p2), .val (.int p3), .unset, .unset, .unset, .unset] [(.int (p0 &&& (3 : Int32)))])
  refine own_istore X0 hx (hb hby at_3) (l' := #[.val (.int p0), .val (.int p1), .val (.int p2), .val (.int p3), .val (.int (p0 &&& (3 : Int32))), .unset, .unset, .unset]) rfl ?_
  show own_R p e below s _ _ _ s₁ (mkF m 5 #[.val (.int p0), .val (.int p1), .val (.int p2), .val (.int p3), .val (.int (p0 &&& (3 : Int32))), .unset, .unset, .unset] [])
  obtain ⟨n, hn, hn4⟩ : ∃ z : Int32, z = (p0 &&& (3 : Int32)) ∧ (z = 0 ∨ z = 1 ∨ z = 2 ∨ z = 3) := ⟨_, rfl, pl_4 _⟩
  rw [← hn]
  show own_R p e below s _ _ _ s₁ (mkF m 5 #[.val (.int p0), .val (.int p1), .val (.int p2), .val (.int p3), .val (.int n), .unset, .unset, .unset] [])
  rcases hn4 with rfl | rfl | rfl | rfl
  ·
    show own_R p e below s _ _ _ s₁ (mkF m 5 #[.val (.int p0), .val (.int p1), .val (.int p2), .val (.int p3), .val (.int (0 : Int32)), .unset, .unset, .unset] [])
    have K0 := Keep.refl h0 ([] : List Addr)
    refine own_iload X0 hx (hb hby at_5) rfl ?_
    show own_R p e below s _ _ _ s₁ (mkF m 7 #[.val (.int p0), .val (.int p1), .val (.int p2), .val (.int p3), .val (.int (0 : Int32)), .unset, .unset, .unset] [(.int (0 : Int32))])
    refine own_newA X0 hx hZ (hw _ (List.mem_of_getElem? (i := 0) rfl)) e0 (hb hby at_7) (by decide) 0 (by decide) (by decide) (by decide) (by decide) (ad := "[B") (by decide) 0 ?_
    intro T32 h32 b32 k32 g32 X32 e32 E32 V32 A32
    have sz_b32 : h0.size ≤ b32 := Nat.le_trans K0.1 (Nat.le_of_eq g32.symm)
    have n0_b32 : n0 ≤ b32 := Nat.le_trans Z0 sz_b32
    have K32 := K0.ext E32
    have V_b32 : Arv Z h32 b32 k32 .byte (0 : Int32) [] (.int (0 : Int32)) := V32
    show own_R p e below s _ _ _ T32 (mkF m 9 #[.val (.int p0), .val (.int p1), .val (.int p2), .val (.int p3), .val (.int (0 : Int32)), .unset, .unset, .unset] [(.ref b32)])
    refine own_astore X32 hx (hb hby at_9) rfl (l' := #[.val (.int p0), .val (.int p1), .val (.int p2), .val (.int p3), .val (.int (0 : Int32)), .val (.ref b32), .unset, .unset]) rfl ?_
    show own_R p e below s _ _ _ T32 (mkF m 11 #[.val (.int p0), .val (.int p1), .val (.int p2), .val (.int p3), .val (.int (0 : Int32)), .val (.ref b32), .unset, .unset] [])
    refine own_iload X32 hx (hb hby at_11) rfl ?_
    show own_R p e below s _ _ _ T32 (mkF m 13 #[.val (.int p0), .val (.int p1), .val (.int p2), .val (.int p3), .val (.int (0 : Int32)), .val (.ref b32), .unset, .unset] [(.int (0 : Int32))])
    refine own_if X32 hx (hb hby at_13) (pc' := 22) (by decide) (by decide) (fun hc => ?_) (fun hc => ?_)
    · have hc13 : ¬ (0 : Int32) < (0 : Int32) := own_le1 hc
      clear hc
      show own_R p e below s _ _ _ T32 (mkF m 22 #[.val (.int p0), .val (.int p1), .val (.int p2), .val (.int p3), .val (.int (0 : Int32)), .val (.ref b32), .unset, .unset] [])
      refine own_iload X32 hx (hb hby at_22) rfl ?_
      show own_R p e below s _ _ _ T32 (mkF m 24 #[.val (.int p0), .val (.int p1), .val (.int p2), .val (.int p3), .val (.int (0 : Int32)), .val (.ref b32), .unset, .unset] [(.int (0 : Int32))])
      refine own_iconst X32 hx (1 : Int32) (hb hby at_24) rfl ?_
      show own_R p e below s _ _ _ T32 (mkF m 25 #[.val (.int p0), .val (.int p1), .val (.int p2), .val (.int p3), .val (.int (0 : Int32)), .val (.ref b32), .unset, .unset] [(.int (1 : Int32)), (.int (0 : Int32))])
      refine own_icmp X32 hx (hb hby at_25) (pc' := 34) (by decide) (by decide) (fun hc => ?_) (fun hc => ?_)
      · have hc25 : ¬ (1 : Int32) < (0 : Int32) := own_le1 hc
        clear hc
        show own_R p e below s _ _ _ T32 (mkF m 34 #[.val (.int p0), .val (.int p1), .val (.int p2), .val (.int p3), .val (.int (0 : Int32)), .val (.ref b32), .unset, .unset] [])
        refine own_iload X32 hx (hb hby at_34) rfl ?_
        show own_R p e below s _ _ _ T32 (mkF m 36 #[.val (.int p0), .val (.int p1), .val (.int p2), .val (.int p3), .val (.int (0 : Int32)), .val (.ref b32), .unset, .unset] [(.int (0 : Int32))])
        refine own_iconst X32 hx (2 : Int32) (hb hby at_36) rfl ?_
        show own_R p e below s _ _ _ T32 (mkF m 37 #[.val (.int p0), .val (.int p1), .val (.int p2), .val (.int p3), .val (.int (0 : Int32)), .val (.ref b32), .unset, .unset] [(.int (2 : Int32)), (.int (0 : Int32))])
        refine own_icmp X32 hx (hb hby at_37) (pc' := 46) (by decide) (by decide) (fun hc => ?_) (fun hc => ?_)
        · have hc37 : ¬ (2 : Int32) < (0 : Int32) := own_le1 hc
          clear hc
          show own_R p e below s _ _ _ T32 (mkF m 46 #[.val (.int p0), .val (.int p1), .val (.int p2), .val (.int p3), .val (.int (0 : Int32)), .val (.ref b32), .unset, .unset] [])
          refine own_aload X32 hx (hb hby at_46) rfl rfl ?_
          show own_R p e below s _ _ _ T32 (mkF m 48 #[.val (.int p0), .val (.int p1), .val (.int p2), .val (.int p3), .val (.int (0 : Int32)), .val (.ref b32), .unset, .unset] [(.ref b32)])
          refine own_callS X32 hx hZ (y := (⟨"com/example/authwright/authwright/engine/Step", "answer", "([B)Lcom/example/authwright/authwright/engine/Step;"⟩ : MethodName)) hown (hw _ (List.mem_of_getElem? (i := 1) rfl)) (hw _ (List.mem_of_getElem? (i := 2) rfl)) (hw _ (List.mem_of_getElem? (i := 3) rfl)) (hw _ (List.mem_of_getElem? (i := 4) rfl)) (by decide) (rm1 l Z a0 hw [] b32 h32 n0 (Nat.le_trans Z0 K32.1)) 0 (by decide) (by decide) e32 (by rw [hml]; rfl) [(.ref b32)] [] rfl (lenOf pd_1 rfl) rfl (Nat.le_of_eq rfl) (hb hby at_48) (by decide) (by decide) ?_
          rintro T33 _ L33 X33 ⟨c33, rfl, N33q, Kc33, nc33, Ec33, F33success, F33failed, F33delayed, F33message, F33replyNumber, F33next⟩
          have N33 := Fr.app N0 N33q
          have K33 := K32.trans Kc33 all0
          show own_R p e below s _ _ _ T33 (mkF m 51 #[.val (.int p0), .val (.int p1), .val (.int p2), .val (.int p3), .val (.int (0 : Int32)), .val (.ref b32), .unset, .unset] [(.ref c33)])
          refine own_astore X33 hx (hb hby at_51) rfl (l' := #[.val (.int p0), .val (.int p1), .val (.int p2), .val (.int p3), .val (.int (0 : Int32)), .val (.ref b32), .val (.ref c33), .unset]) rfl ?_
          show own_R p e below s _ _ _ T33 (mkF m 53 #[.val (.int p0), .val (.int p1), .val (.int p2), .val (.int p3), .val (.int (0 : Int32)), .val (.ref b32), .val (.ref c33), .unset] [])
          refine own_aload X33 hx (hb hby at_53) rfl rfl ?_
          show own_R p e below s _ _ _ T33 (mkF m 55 #[.val (.int p0), .val (.int p1), .val (.int p2), .val (.int p3), .val (.int (0 : Int32)), .val (.ref b32), .val (.ref c33), .unset] [(.ref c33)])
          refine own_callV X33 hx hZ (y := (⟨"com/example/authwright/authwright/engine/Step", "message", "()[B"⟩ : MethodName)) (z := (⟨"com/example/authwright/authwright/engine/Step", "message", "()[B"⟩ : MethodName)) hown (hw _ (List.mem_of_getElem? (i := 25) rfl)) (hw _ (List.mem_of_getElem? (i := 26) rfl)) (notFace_of_selects (args := #[]) (mvT hZ (hw _ (List.mem_of_getElem? (i := 28) rfl)))) (hw _ (List.mem_of_getElem? (i := 28) rfl)) (hw _ (List.mem_of_getElem? (i := 27) rfl)) (hw _ (List.mem_of_getElem? (i := 3) rfl)) (hw _ (List.mem_of_getElem? (i := 29) rfl)) (by decide) (rm4 l Z a0 hw [] c33 b32 T33.heap n0 (Nat.le_trans Z0 K33.1) F33message) 0 (by decide) (by decide) rfl (by rw [hml]; rfl) c33 Ec33 [] [] rfl (lenOf pd_2 rfl) rfl (Nat.le_of_eq rfl) (hb hby at_55) (by decide) (by decide) ?_
          rintro T34 _ L34 X34 ⟨rfl, N34q, e34⟩
          have N34 := Fr.app N33 N34q
          show own_R p e below s _ _ _ T34 (mkF m 58 #[.val (.int p0), .val (.int p1), .val (.int p2), .val (.int p3), .val (.int (0 : Int32)), .val (.ref b32), .val (.ref c33), .unset] [(.ref b32)])
          refine own_astore X34 hx (hb hby at_58) rfl (l' := #[.val (.int p0), .val (.int p1), .val (.int p2), .val (.int p3), .val (.int (0 : Int32)), .val (.ref b32), .val (.ref c33), .val (.ref b32)]) rfl ?_
          show own_R p e below s _ _ _ T34 (mkF m 60 #[.val (.int p0), .val (.int p1), .val (.int p2), .val (.int p3), .val (.int (0 : Int32)), .val (.ref b32), .val (.ref c33), .val (.ref b32)] [])
          refine own_aload X34 hx (hb hby at_60) rfl rfl ?_
          show own_R p e below s _ _ _ T34 (mkF m 62 #[.val (.int p0), .val (.int p1), .val (.int p2), .val (.int p3), .val (.int (0 : Int32)), .val (.ref b32), .val (.ref c33), .val (.ref b32)] [(.ref b32)])
          refine own_ifnullN X34 hx (hb hby at_62) ?_
          show own_R p e below s _ _ _ T34 (mkF m 65 #[.val (.int p0), .val (.int p1), .val (.int p2), .val (.int p3), .val (.int (0 : Int32)), .val (.ref b32), .val (.ref c33), .val (.ref b32)] [])
          refine own_aload X34 hx (hb hby at_65) rfl rfl ?_
          show own_R p e below s _ _ _ T34 (mkF m 67 #[.val (.int p0), .val (.int p1), .val (.int p2), .val (.int p3), .val (.int (0 : Int32)), .val (.ref b32), .val (.ref c33), .val (.ref b32)] [(.ref b32)])
          have f35 := (V_b32.keep Kc33 nin0)
          refine own_len X34 hx hZ e34 f35 (hb hby at_67) ?_
          show own_R p e below s _ _ _ T34 (mkF m 68 #[.val (.int p0), .val (.int p1), .val (.int p2), .val (.int p3), .val (.int (0 : Int32)), .val (.ref b32), .val (.ref c33), .val (.ref b32)] [(.int (0 : Int32))])
          refine own_iload X34 hx (hb hby at_68) rfl ?_
          show own_R p e below s _ _ _ T34 (mkF m 70 #[.val (.int p0), .val (.int p1), .val (.int p2), .val (.int p3), .val (.int (0 : Int32)), .val (.ref b32), .val (.ref c33), .val (.ref b32)] [(.int (0 : Int32)), (.int (0 : Int32))])
          refine own_icmp X34 hx (hb hby at_70) (pc' := 75) (by decide) (by decide) (fun hc => ?_) (fun hc => ?_)
          · have hc70 : (0 : Int32) = (0 : Int32) := own_eq1 hc
            clear hc
            show own_R p e below s _ _ _ T34 (mkF m 75 #[.val (.int p0), .val (.int p1), .val (.int p2), .val (.int p3), .val (.int (0 : Int32)), .val (.ref b32), .val (.ref c33), .val (.ref b32)] [])
            refine own_iload X34 hx (hb hby at_75) rfl ?_
            show own_R p e below s _ _ _ T34 (mkF m 77 #[.val (.int p0), .val (.int p1), .val (.int p2), .val (.int p3), .val (.int (0 : Int32)), .val (.ref b32), .val (.ref c33), .val (.ref b32)] [(.int (0 : Int32))])
            refine own_if X34 hx (hb hby at_77) (pc' := 91) (by decide) (by decide) (fun hc => ?_) (fun hc => ?_)
            · have hc77 : ¬ (0 : Int32) < (0 : Int32) := own_le1 hc
              clear hc
              show own_R p e below s _ _ _ T34 (mkF m 91 #[.val (.int p0), .val (.int p1), .val (.int p2), .val (.int p3), .val (.int (0 : Int32)), .val (.ref b32), .val (.ref c33), .val (.ref b32)] [])
              refine own_iload X34 hx (hb hby at_91) rfl ?_
              show own_R p e below s _ _ _ T34 (mkF m 93 #[.val (.int p0), .val (.int p1), .val (.int p2), .val (.int p3), .val (.int (0 : Int32)), .val (.ref b32), .val (.ref c33), .val (.ref b32)] [(.int (0 : Int32))])
              refine own_iconst X34 hx (1 : Int32) (hb hby at_93) rfl ?_
              show own_R p e below s _ _ _ T34 (mkF m 94 #[.val (.int p0), .val (.int p1), .val (.int p2), .val (.int p3), .val (.int (0 : Int32)), .val (.ref b32), .val (.ref c33), .val (.ref b32)] [(.int (1 : Int32)), (.int (0 : Int32))])
              refine own_icmp X34 hx (hb hby at_94) (pc' := 108) (by decide) (by decide) (fun hc => ?_) (fun hc => ?_)
              · have hc94 : ¬ (1 : Int32) < (0 : Int32) := own_le1 hc
                clear hc
                show own_R p e below s _ _ _ T34 (mkF m 108 #[.val (.int p0), .val (.int p1), .val (.int p2), .val (.int p3), .val (.int (0 : Int32)), .val (.ref b32), .val (.ref c33), .val (.ref b32)] [])
                refine own_iload X34 hx (hb hby at_108) rfl ?_
                show own_R p e below s _ _ _ T34 (mkF m 110 #[.val (.int p0), .val (.int p1), .val (.int p2), .val (.int p3), .val (.int (0 : Int32)), .val (.ref b32), .val (.ref c33), .val (.ref b32)] [(.int (0 : Int32))])
                refine own_iconst X34 hx (2 : Int32) (hb hby at_110) rfl ?_
                show own_R p e below s _ _ _ T34 (mkF m 111 #[.val (.int p0), .val (.int p1), .val (.int p2), .val (.int p3), .val (.int (0 : Int32)), .val (.ref b32), .val (.ref c33), .val (.ref b32)] [(.int (2 : Int32)), (.int (0 : Int32))])
                refine own_icmp X34 hx (hb hby at_111) (pc' := 125) (by decide) (by decide) (fun hc => ?_) (fun hc => ?_)
                · have hc111 : ¬ (2 : Int32) < (0 : Int32) := own_le1 hc
                  clear hc
                  show own_R p e below s _ _ _ T34 (mkF m 125 #[.val (.int p0), .val (.int p1), .val (.int p2), .val (.int p3), .val (.int (0 : Int32)), .val (.ref b32), .val (.ref c33), .val (.ref b32)] [])
                  refine own_aload X34 hx (hb hby at_125) rfl rfl ?_
                  show own_R p e below s _ _ _ T34 (mkF m 127 #[.val (.int p0), .val (.int p1), .val (.int p2), .val (.int p3), .val (.int (0 : Int32)), .val (.ref b32), .val (.ref c33), .val (.ref b32)] [(.ref c33)])
                  refine own_callV X34 hx hZ (y := (⟨"com/example/authwright/authwright/engine/Step", "isSuccess", "()Z"⟩ : MethodName)) (z := (⟨"com/example/authwright/authwright/engine/Step", "isSuccess", "()Z"⟩ : MethodName)) hown (hw _ (List.mem_of_getElem? (i := 30) rfl)) (hw _ (List.mem_of_getElem? (i := 31) rfl)) (notFace_of_selects (args := #[]) (mvT hZ (hw _ (List.mem_of_getElem? (i := 33) rfl)))) (hw _ (List.mem_of_getElem? (i := 33) rfl)) (hw _ (List.mem_of_getElem? (i := 32) rfl)) (hw _ (List.mem_of_getElem? (i := 3) rfl)) (hw _ (List.mem_of_getElem? (i := 34) rfl)) (by decide) (rm5 l Z a0 hw [] c33 b32 T33.heap n0 (Nat.le_trans Z0 K33.1) F33success) 0 (by decide) (by decide) e34 (by rw [hml]; rfl) c33 Ec33 [] [] rfl (lenOf pd_3 rfl) rfl (Nat.le_of_eq rfl) (hb hby at_127) (by decide) (by decide) ?_
                  rintro T36 _ L36 X36 ⟨rfl, N36q, e36⟩
                  have N36 := Fr.app N34 N36q
                  show own_R p e below s _ _ _ T36 (mkF m 130 #[.val (.int p0), .val (.int p1), .val (.int p2), .val (.int p3), .val (.int (0 : Int32)), .val (.ref b32), .val (.ref c33), .val (.ref b32)] [(.int (0 : Int32))])
                  refine own_if X36 hx (hb hby at_130) (pc' := 169) (by decide) (by decide) (fun hc => ?_) (fun hc => ?_)
                  · have hc130 : ¬ (0 : Int32) = (0 : Int32) := own_ne1 hc
                    exact absurd (by decide) hc130
                  · have hc130 : (0 : Int32) = (0 : Int32) := own_ne0 hc
                    clear hc
                    show own_R p e below s _ _ _ T36 (mkF m 133 #[.val (.int p0), .val (.int p1), .val (.int p2), .val (.int p3), .val (.int (0 : Int32)), .val (.ref b32), .val (.ref c33), .val (.ref b32)] [])
                    refine own_aload X36 hx (hb hby at_133) rfl rfl ?_
                    show own_R p e below s _ _ _ T36 (mkF m 135 #[.val (.int p0), .val (.int p1), .val (.int p2), .val (.int p3), .val (.int (0 : Int32)), .val (.ref b32), .val (.ref c33), .val (.ref b32)] [(.ref c33)])
                    refine own_callV X36 hx hZ (y := (⟨"com/example/authwright/authwright/engine/Step", "isFailure", "()Z"⟩ : MethodName)) (z := (⟨"com/example/authwright/authwright/engine/Step", "isFailure", "()Z"⟩ : MethodName)) hown (hw _ (List.mem_of_getElem? (i := 35) rfl)) (hw _ (List.mem_of_getElem? (i := 36) rfl)) (notFace_of_selects (args := #[]) (mvT hZ (hw _ (List.mem_of_getElem? (i := 38) rfl)))) (hw _ (List.mem_of_getElem? (i := 38) rfl)) (hw _ (List.mem_of_getElem? (i := 37) rfl)) (hw _ (List.mem_of_getElem? (i := 3) rfl)) (hw _ (List.mem_of_getElem? (i := 39) rfl)) (by decide) (rm6 l Z a0 hw [] c33 b32 T33.heap n0 (Nat.le_trans Z0 K33.1) F33failed) 0 (by decide) (by decide) e36 (by rw [hml]; rfl) c33 Ec33 [] [] rfl (lenOf pd_3 rfl) rfl (Nat.le_of_eq rfl) (hb hby at_135) (by decide) (by decide) ?_
                    rintro T37 _ L37 X37 ⟨rfl, N37q, e37⟩
                    have N37 := Fr.app N36 N37q
                    show own_R p e below s _ _ _ T37 (mkF m 138 #[.val (.int p0), .val (.int p1), .val (.int p2), .val (.int p3), .val (.int (0 : Int32)), .val (.ref b32), .val (.ref c33), .val (.ref b32)] [(.int (0 : Int32))])
                    refine own_if X37 hx (hb hby at_138) (pc' := 169) (by decide) (by decide) (fun hc => ?_) (fun hc => ?_)
                    · have hc138 : ¬ (0 : Int32) = (0 : Int32) := own_ne1 hc
                      exact absurd (by decide) hc138
                    · have hc138 : (0 : Int32) = (0 : Int32) := own_ne0 hc
                      clear hc
                      show own_R p e below s _ _ _ T37 (mkF m 141 #[.val (.int p0), .val (.int p1), .val (.int p2), .val (.int p3), .val (.int (0 : Int32)), .val (.ref b32), .val (.ref c33), .val (.ref b32)] [])
                      refine own_aload X37 hx (hb hby at_141) rfl rfl ?_
                      show own_R p e below s _ _ _ T37 (mkF m 143 #[.val (.int p0), .val (.int p1), .val (.int p2), .val (.int p3), .val (.int (0 : Int32)), .val (.ref b32), .val (.ref c33), .val (.ref b32)] [(.ref c33)])
                      refine own_callV X37 hx hZ (y := (⟨"com/example/authwright/authwright/engine/Step", "isDelayed", "()Z"⟩ : MethodName)) (z := (⟨"com/example/authwright/authwright/engine/Step", "isDelayed", "()Z"⟩ : MethodName)) hown (hw _ (List.mem_of_getElem? (i := 40) rfl)) (hw _ (List.mem_of_getElem? (i := 41) rfl)) (notFace_of_selects (args := #[]) (mvT hZ (hw _ (List.mem_of_getElem? (i := 43) rfl)))) (hw _ (List.mem_of_getElem? (i := 43) rfl)) (hw _ (List.mem_of_getElem? (i := 42) rfl)) (hw _ (List.mem_of_getElem? (i := 3) rfl)) (hw _ (List.mem_of_getElem? (i := 44) rfl)) (by decide) (rm7 l Z a0 hw [] c33 b32 T33.heap n0 (Nat.le_trans Z0 K33.1) F33delayed) 0 (by decide) (by decide) e37 (by rw [hml]; rfl) c33 Ec33 [] [] rfl (lenOf pd_3 rfl) rfl (Nat.le_of_eq rfl) (hb hby at_143) (by decide) (by decide) ?_
                      rintro T38 _ L38 X38 ⟨rfl, N38q, e38⟩
                      have N38 := Fr.app N37 N38q
                      show own_R p e below s _ _ _ T38 (mkF m 146 #[.val (.int p0), .val (.int p1), .val (.int p2), .val (.int p3), .val (.int (0 : Int32)), .val (.ref b32), .val (.ref c33), .val (.ref b32)] [(.int (0 : Int32))])
                      refine own_if X38 hx (hb hby at_146) (pc' := 169) (by decide) (by decide) (fun hc => ?_) (fun hc => ?_)
                      · have hc146 : ¬ (0 : Int32) = (0 : Int32) := own_ne1 hc
                        exact absurd (by decide) hc146
                      · have hc146 : (0 : Int32) = (0 : Int32) := own_ne0 hc
                        clear hc
                        show own_R p e below s _ _ _ T38 (mkF m 149 #[.val (.int p0), .val (.int p1), .val (.int p2), .val (.int p3), .val (.int (0 : Int32)), .val (.ref b32), .val (.ref c33), .val (.ref b32)] [])
                        refine own_aload X38 hx (hb hby at_149) rfl rfl ?_
                        show own_R p e below s _ _ _ T38 (mkF m 151 #[.val (.int p0), .val (.int p1), .val (.int p2), .val (.int p3), .val (.int (0 : Int32)), .val (.ref b32), .val (.ref c33), .val (.ref b32)] [(.ref c33)])
                        refine own_callV X38 hx hZ (y := (⟨"com/example/authwright/authwright/engine/Step", "replyNumber", "()I"⟩ : MethodName)) (z := (⟨"com/example/authwright/authwright/engine/Step", "replyNumber", "()I"⟩ : MethodName)) hown (hw _ (List.mem_of_getElem? (i := 45) rfl)) (hw _ (List.mem_of_getElem? (i := 46) rfl)) (notFace_of_selects (args := #[]) (mvT hZ (hw _ (List.mem_of_getElem? (i := 48) rfl)))) (hw _ (List.mem_of_getElem? (i := 48) rfl)) (hw _ (List.mem_of_getElem? (i := 47) rfl)) (hw _ (List.mem_of_getElem? (i := 3) rfl)) (hw _ (List.mem_of_getElem? (i := 49) rfl)) (by decide) (rm8 l Z a0 hw [] c33 b32 T33.heap n0 (Nat.le_trans Z0 K33.1) F33replyNumber) 0 (by decide) (by decide) e38 (by rw [hml]; rfl) c33 Ec33 [] [] rfl (lenOf pd_4 rfl) rfl (Nat.le_of_eq rfl) (hb hby at_151) (by decide) (by decide) ?_
                        rintro T39 _ L39 X39 ⟨rfl, N39q, e39⟩
                        have N39 := Fr.app N38 N39q
                        show own_R p e below s _ _ _ T39 (mkF m 154 #[.val (.int p0), .val (.int p1), .val (.int p2), .val (.int p3), .val (.int (0 : Int32)), .val (.ref b32), .val (.ref c33), .val (.ref b32)] [(.int (0 : Int32))])
                        refine own_if X39 hx (hb hby at_154) (pc' := 169) (by decide) (by decide) (fun hc => ?_) (fun hc => ?_)
                        · have hc154 : ¬ (0 : Int32) = (0 : Int32) := own_ne1 hc
                          exact absurd (by decide) hc154
                        · have hc154 : (0 : Int32) = (0 : Int32) := own_ne0 hc
                          clear hc
                          show own_R p e below s _ _ _ T39 (mkF m 157 #[.val (.int p0), .val (.int p1), .val (.int p2), .val (.int p3), .val (.int (0 : Int32)), .val (.ref b32), .val (.ref c33), .val (.ref b32)] [])
                          refine own_aload X39 hx (hb hby at_157) rfl rfl ?_
                          show own_R p e below s _ _ _ T39 (mkF m 159 #[.val (.int p0), .val (.int p1), .val (.int p2), .val (.int p3), .val (.int (0 : Int32)), .val (.ref b32), .val (.ref c33), .val (.ref b32)] [(.ref c33)])
                          refine own_callV X39 hx hZ (y := (⟨"com/example/authwright/authwright/engine/Step", "next", "()Lcom/example/authwright/authwright/engine/Step$Continuation;"⟩ : MethodName)) (z := (⟨"com/example/authwright/authwright/engine/Step", "next", "()Lcom/example/authwright/authwright/engine/Step$Continuation;"⟩ : MethodName)) hown (hw _ (List.mem_of_getElem? (i := 50) rfl)) (hw _ (List.mem_of_getElem? (i := 51) rfl)) (notFace_of_selects (args := #[]) (mvT hZ (hw _ (List.mem_of_getElem? (i := 53) rfl)))) (hw _ (List.mem_of_getElem? (i := 53) rfl)) (hw _ (List.mem_of_getElem? (i := 52) rfl)) (hw _ (List.mem_of_getElem? (i := 3) rfl)) (hw _ (List.mem_of_getElem? (i := 54) rfl)) (by decide) (rm9 l Z a0 hw [] c33 b32 T33.heap n0 (Nat.le_trans Z0 K33.1) F33next) 0 (by decide) (by decide) e39 (by rw [hml]; rfl) c33 Ec33 [] [] rfl (lenOf pd_5 rfl) rfl (Nat.le_of_eq rfl) (hb hby at_159) (by decide) (by decide) ?_
                          rintro T40 _ L40 X40 ⟨rfl, N40q, e40⟩
                          have N40 := Fr.app N39 N40q
                          show own_R p e below s _ _ _ T40 (mkF m 162 #[.val (.int p0), .val (.int p1), .val (.int p2), .val (.int p3), .val (.int (0 : Int32)), .val (.ref b32), .val (.ref c33), .val (.ref b32)] [.null])
                          refine own_ifnonnullN X40 hx (hb hby at_162) ?_
                          show own_R p e below s _ _ _ T40 (mkF m 165 #[.val (.int p0), .val (.int p1), .val (.int p2), .val (.int p3), .val (.int (0 : Int32)), .val (.ref b32), .val (.ref c33), .val (.ref b32)] [])
                          refine own_iconst X40 hx (1 : Int32) (hb hby at_165) rfl ?_
                          show own_R p e below s _ _ _ T40 (mkF m 166 #[.val (.int p0), .val (.int p1), .val (.int p2), .val (.int p3), .val (.int (0 : Int32)), .val (.ref b32), .val (.ref c33), .val (.ref b32)] [(.int (1 : Int32))])
                          refine own_goto X40 hx (hb hby at_166) (pc' := 170) (by decide) (by decide) ?_
                          show own_R p e below s _ _ _ T40 (mkF m 170 #[.val (.int p0), .val (.int p1), .val (.int p2), .val (.int p3), .val (.int (0 : Int32)), .val (.ref b32), .val (.ref c33), .val (.ref b32)] [(.int (1 : Int32))])
                          refine own_retN X40 hx (t := .boolean) Bd.returns (by simp) hlk (hb hby at_170) ?_ (by decide) (by decide)
                          exact ⟨rfl, N40⟩
                · have hc111 : (2 : Int32) < (0 : Int32) := own_le0 hc
                  exact absurd hc111 (by decide)
              · have hc94 : (1 : Int32) < (0 : Int32) := own_le0 hc
                exact absurd hc94 (by decide)
            · have hc77 : (0 : Int32) < (0 : Int32) := own_le0 hc
              exact absurd hc77 (by decide)
          · have hc70 : ¬ (0 : Int32) = (0 : Int32) := own_eq0 hc
            exact absurd (by decide) hc70
        · have hc37 : (2 : Int32) < (0 : Int32) := own_le0 hc
          exact absurd hc37 (by decide)
      · have hc25 : (1 : Int32) < (0 : Int32) := own_le0 hc
        exact absurd hc25 (by decide)
    · have hc13 : (0 : Int32) < (0 : Int32) := own_le0 hc
      exact absurd hc13 (by decide)
  ·
    show own_R p e below s _ _ _ s₁ (mkF m 5 #[.val (.int p0), .val (.int p1), .val (.int p2), .val (.int p3), .val (.int (1 : Int32)), .unset, .unset, .unset] [])
    have K0 := Keep.refl h0 ([] : List Addr)
    refine own_iload X0 hx (hb hby at_5) rfl ?_
    show own_R p e below s _ _ _ s₁ (mkF m 7 #[.val (.int p0), .val (.int p1), .val (.int p2), .val (.int p3), .val (.int (1 : Int32)), .unset, .unset, .unset] [(.int (1 : Int32))])
    refine own_newA X0 hx hZ (hw _ (List.mem_of_getElem? (i := 0) rfl)) e0 (hb hby at_7) (by decide) 1 (by decide) (by decide) (by decide) (by decide) (ad := "[B") (by decide) 1 ?_
    intro T41 h41 b41 k41 g41 X41 e41 E41 V41 A41
    have sz_b41 : h0.size ≤ b41 := Nat.le_trans K0.1 (Nat.le_of_eq g41.symm)
    have n0_b41 : n0 ≤ b41 := Nat.le_trans Z0 sz_b41
    have K41 := K0.ext E41
    have V_b41 : Arv Z h41 b41 k41 .byte (1 : Int32) [(.int (0 : Int32))] (.int (0 : Int32)) := V41
    show own_R p e below s _ _ _ T41 (mkF m 9 #[.val (.int p0), .val (.int p1), .val (.int p2), .val (.int p3), .val (.int (1 : Int32)), .unset, .unset, .unset] [(.ref b41)])
    refine own_astore X41 hx (hb hby at_9) rfl (l' := #[.val (.int p0), .val (.int p1), .val (.int p2), .val (.int p3), .val (.int (1 : Int32)), .val (.ref b41), .unset, .unset]) rfl ?_
    show own_R p e below s _ _ _ T41 (mkF m 11 #[.val (.int p0), .val (.int p1), .val (.int p2), .val (.int p3), .val (.int (1 : Int32)), .val (.ref b41), .unset, .unset] [])
    refine own_iload X41 hx (hb hby at_11) rfl ?_
    show own_R p e below s _ _ _ T41 (mkF m 13 #[.val (.int p0), .val (.int p1), .val (.int p2), .val (.int p3), .val (.int (1 : Int32)), .val (.ref b41), .unset, .unset] [(.int (1 : Int32))])
    refine own_if X41 hx (hb hby at_13) (pc' := 22) (by decide) (by decide) (fun hc => ?_) (fun hc => ?_)
    · have hc13 : ¬ (0 : Int32) < (1 : Int32) := own_le1 hc
      exact absurd (by decide) hc13
    · have hc13 : (0 : Int32) < (1 : Int32) := own_le0 hc
      clear hc
      show own_R p e below s _ _ _ T41 (mkF m 16 #[.val (.int p0), .val (.int p1), .val (.int p2), .val (.int p3), .val (.int (1 : Int32)), .val (.ref b41), .unset, .unset] [])
      refine own_aload X41 hx (hb hby at_16) rfl rfl ?_
      show own_R p e below s _ _ _ T41 (mkF m 18 #[.val (.int p0), .val (.int p1), .val (.int p2), .val (.int p3), .val (.int (1 : Int32)), .val (.ref b41), .unset, .unset] [(.ref b41)])
      refine own_iconst X41 hx (0 : Int32) (hb hby at_18) rfl ?_
      show own_R p e below s _ _ _ T41 (mkF m 19 #[.val (.int p0), .val (.int p1), .val (.int p2), .val (.int p3), .val (.int (1 : Int32)), .val (.ref b41), .unset, .unset] [(.int (0 : Int32)), (.ref b41)])
      refine own_iloadN X41 hx (hb hby at_19) rfl ?_
      show own_R p e below s _ _ _ T41 (mkF m 20 #[.val (.int p0), .val (.int p1), .val (.int p2), .val (.int p3), .val (.int (1 : Int32)), .val (.ref b41), .unset, .unset] [(.int p1), (.int (0 : Int32)), (.ref b41)])
      refine own_i2b X41 hx (hb hby at_20) ?_
      show own_R p e below s _ _ _ T41 (mkF m 21 #[.val (.int p0), .val (.int p1), .val (.int p2), .val (.int p3), .val (.int (1 : Int32)), .val (.ref b41), .unset, .unset] [(.int (p1.toInt8.toInt32)), (.int (0 : Int32)), (.ref b41)])
      refine own_bastore X41 hx hZ e41 V_b41 (x' := (p1.toInt8.toInt32)) (pl_nb _) ⟨by decide, by decide⟩ 0 rfl (Nat.le_of_ble_eq_true rfl) (hb hby at_21) ?_
      intro T42 h42 X42 e42 W42 V42
      have K42 := K41.wr W42 (Or.inr sz_b41)
      have N42 := Fr.snoc X42 N0 n0_b41
      have V_b41_42 : Arv Z h42 b41 k41 .byte (1 : Int32) [(.int (p1.toInt8.toInt32))] (.int (0 : Int32)) := V42
      show own_R p e below s _ _ _ T42 (mkF m 22 #[.val (.int p0), .val (.int p1), .val (.int p2), .val (.int p3), .val (.int (1 : Int32)), .val (.ref b41), .unset, .unset] [])
      refine own_iload X42 hx (hb hby at_22) rfl ?_
      show own_R p e below s _ _ _ T42 (mkF m 24 #[.val (.int p0), .val (.int p1), .val (.int p2), .val (.int p3), .val (.int (1 : Int32)), .val (.ref b41), .unset, .unset] [(.int (1 : Int32))])
      refine own_iconst X42 hx (1 : Int32) (hb hby at_24) rfl ?_
      show own_R p e below s _ _ _ T42 (mkF m 25 #[.val (.int p0), .val (.int p1), .val (.int p2), .val (.int p3), .val (.int (1 : Int32)), .val (.ref b41), .unset, .unset] [(.int (1 : Int32)), (.int (1 : Int32))])
      refine own_icmp X42 hx (hb hby at_25) (pc' := 34) (by decide) (by decide) (fun hc => ?_) (fun hc => ?_)
      · have hc25 : ¬ (1 : Int32) < (1 : Int32) := own_le1 hc
        clear hc
        show own_R p e below s _ _ _ T42 (mkF m 34 #[.val (.int p0), .val (.int p1), .val (.int p2), .val (.int p3), .val (.int (1 : Int32)), .val (.ref b41), .unset, .unset] [])
        refine own_iload X42 hx (hb hby at_34) rfl ?_
        show own_R p e below s _ _ _ T42 (mkF m 36 #[.val (.int p0), .val (.int p1), .val (.int p2), .val (.int p3), .val (.int (1 : Int32)), .val (.ref b41), .unset, .unset] [(.int (1 : Int32))])
        refine own_iconst X42 hx (2 : Int32) (hb hby at_36) rfl ?_
        show own_R p e below s _ _ _ T42 (mkF m 37 #[.val (.int p0), .val (.int p1), .val (.int p2), .val (.int p3), .val (.int (1 : Int32)), .val (.ref b41), .unset, .unset] [(.int (2 : Int32)), (.int (1 : Int32))])
        refine own_icmp X42 hx (hb hby at_37) (pc' := 46) (by decide) (by decide) (fun hc => ?_) (fun hc => ?_)
        · have hc37 : ¬ (2 : Int32) < (1 : Int32) := own_le1 hc
          clear hc
          show own_R p e below s _ _ _ T42 (mkF m 46 #[.val (.int p0), .val (.int p1), .val (.int p2), .val (.int p3), .val (.int (1 : Int32)), .val (.ref b41), .unset, .unset] [])
          refine own_aload X42 hx (hb hby at_46) rfl rfl ?_
          show own_R p e below s _ _ _ T42 (mkF m 48 #[.val (.int p0), .val (.int p1), .val (.int p2), .val (.int p3), .val (.int (1 : Int32)), .val (.ref b41), .unset, .unset] [(.ref b41)])
          refine own_callS X42 hx hZ (y := (⟨"com/example/authwright/authwright/engine/Step", "answer", "([B)Lcom/example/authwright/authwright/engine/Step;"⟩ : MethodName)) hown (hw _ (List.mem_of_getElem? (i := 1) rfl)) (hw _ (List.mem_of_getElem? (i := 2) rfl)) (hw _ (List.mem_of_getElem? (i := 3) rfl)) (hw _ (List.mem_of_getElem? (i := 4) rfl)) (by decide) (rm1 l Z a0 hw [] b41 h42 n0 (Nat.le_trans Z0 K42.1)) 0 (by decide) (by decide) e42 (by rw [hml]; rfl) [(.ref b41)] [] rfl (lenOf pd_1 rfl) rfl (Nat.le_of_eq rfl) (hb hby at_48) (by decide) (by decide) ?_
          rintro T43 _ L43 X43 ⟨c43, rfl, N43q, Kc43, nc43, Ec43, F43success, F43failed, F43delayed, F43message, F43replyNumber, F43next⟩
          have N43 := Fr.app N42 N43q
          have K43 := K42.trans Kc43 all0
          show own_R p e below s _ _ _ T43 (mkF m 51 #[.val (.int p0), .val (.int p1), .val (.int p2), .val (.int p3), .val (.int (1 : Int32)), .val (.ref b41), .unset, .unset] [(.ref c43)])
          refine own_astore X43 hx (hb hby at_51) rfl (l' := #[.val (.int p0), .val (.int p1), .val (.int p2), .val (.int p3), .val (.int (1 : Int32)), .val (.ref b41), .val (.ref c43), .unset]) rfl ?_
          show own_R p e below s _ _ _ T43 (mkF m 53 #[.val (.int p0), .val (.int p1), .val (.int p2), .val (.int p3), .val (.int (1 : Int32)), .val (.ref b41), .val (.ref c43), .unset] [])
          refine own_aload X43 hx (hb hby at_53) rfl rfl ?_
          show own_R p e below s _ _ _ T43 (mkF m 55 #[.val (.int p0), .val (.int p1), .val (.int p2), .val (.int p3), .val (.int (1 : Int32)), .val (.ref b41), .val (.ref c43), .unset] [(.ref c43)])
          refine own_callV X43 hx hZ (y := (⟨"com/example/authwright/authwright/engine/Step", "message", "()[B"⟩ : MethodName)) (z := (⟨"com/example/authwright/authwright/engine/Step", "message", "()[B"⟩ : MethodName)) hown (hw _ (List.mem_of_getElem? (i := 25) rfl)) (hw _ (List.mem_of_getElem? (i := 26) rfl)) (notFace_of_selects (args := #[]) (mvT hZ (hw _ (List.mem_of_getElem? (i := 28) rfl)))) (hw _ (List.mem_of_getElem? (i := 28) rfl)) (hw _ (List.mem_of_getElem? (i := 27) rfl)) (hw _ (List.mem_of_getElem? (i := 3) rfl)) (hw _ (List.mem_of_getElem? (i := 29) rfl)) (by decide) (rm4 l Z a0 hw [] c43 b41 T43.heap n0 (Nat.le_trans Z0 K43.1) F43message) 0 (by decide) (by decide) rfl (by rw [hml]; rfl) c43 Ec43 [] [] rfl (lenOf pd_2 rfl) rfl (Nat.le_of_eq rfl) (hb hby at_55) (by decide) (by decide) ?_
          rintro T44 _ L44 X44 ⟨rfl, N44q, e44⟩
          have N44 := Fr.app N43 N44q
          show own_R p e below s _ _ _ T44 (mkF m 58 #[.val (.int p0), .val (.int p1), .val (.int p2), .val (.int p3), .val (.int (1 : Int32)), .val (.ref b41), .val (.ref c43), .unset] [(.ref b41)])
          refine own_astore X44 hx (hb hby at_58) rfl (l' := #[.val (.int p0), .val (.int p1), .val (.int p2), .val (.int p3), .val (.int (1 : Int32)), .val (.ref b41), .val (.ref c43), .val (.ref b41)]) rfl ?_
          show own_R p e below s _ _ _ T44 (mkF m 60 #[.val (.int p0), .val (.int p1), .val (.int p2), .val (.int p3), .val (.int (1 : Int32)), .val (.ref b41), .val (.ref c43), .val (.ref b41)] [])
          refine own_aload X44 hx (hb hby at_60) rfl rfl ?_
          show own_R p e below s _ _ _ T44 (mkF m 62 #[.val (.int p0), .val (.int p1), .val (.int p2), .val (.int p3), .val (.int (1 : Int32)), .val (.ref b41), .val (.ref c43), .val (.ref b41)] [(.ref b41)])
          refine own_ifnullN X44 hx (hb hby at_62) ?_
          show own_R p e below s _ _ _ T44 (mkF m 65 #[.val (.int p0), .val (.int p1), .val (.int p2), .val (.int p3), .val (.int (1 : Int32)), .val (.ref b41), .val (.ref c43), .val (.ref b41)] [])
          refine own_aload X44 hx (hb hby at_65) rfl rfl ?_
          show own_R p e below s _ _ _ T44 (mkF m 67 #[.val (.int p0), .val (.int p1), .val (.int p2), .val (.int p3), .val (.int (1 : Int32)), .val (.ref b41), .val (.ref c43), .val (.ref b41)] [(.ref b41)])
          have f45 := (V_b41_42.keep Kc43 nin0)
          refine own_len X44 hx hZ e44 f45 (hb hby at_67) ?_
          show own_R p e below s _ _ _ T44 (mkF m 68 #[.val (.int p0), .val (.int p1), .val (.int p2), .val (.int p3), .val (.int (1 : Int32)), .val (.ref b41), .val (.ref c43), .val (.ref b41)] [(.int (1 : Int32))])
          refine own_iload X44 hx (hb hby at_68) rfl ?_
          show own_R p e below s _ _ _ T44 (mkF m 70 #[.val (.int p0), .val (.int p1), .val (.int p2), .val (.int p3), .val (.int (1 : Int32)), .val (.ref b41), .val (.ref c43), .val (.ref b41)] [(.int (1 : Int32)), (.int (1 : Int32))])
          refine own_icmp X44 hx (hb hby at_70) (pc' := 75) (by decide) (by decide) (fun hc => ?_) (fun hc => ?_)
          · have hc70 : (1 : Int32) = (1 : Int32) := own_eq1 hc
            clear hc
            show own_R p e below s _ _ _ T44 (mkF m 75 #[.val (.int p0), .val (.int p1), .val (.int p2), .val (.int p3), .val (.int (1 : Int32)), .val (.ref b41), .val (.ref c43), .val (.ref b41)] [])
            refine own_iload X44 hx (hb hby at_75) rfl ?_
            show own_R p e below s _ _ _ T44 (mkF m 77 #[.val (.int p0), .val (.int p1), .val (.int p2), .val (.int p3), .val (.int (1 : Int32)), .val (.ref b41), .val (.ref c43), .val (.ref b41)] [(.int (1 : Int32))])
            refine own_if X44 hx (hb hby at_77) (pc' := 91) (by decide) (by decide) (fun hc => ?_) (fun hc => ?_)
            · have hc77 : ¬ (0 : Int32) < (1 : Int32) := own_le1 hc
              exact absurd (by decide) hc77
            · have hc77 : (0 : Int32) < (1 : Int32) := own_le0 hc
              clear hc
              show own_R p e below s _ _ _ T44 (mkF m 80 #[.val (.int p0), .val (.int p1), .val (.int p2), .val (.int p3), .val (.int (1 : Int32)), .val (.ref b41), .val (.ref c43), .val (.ref b41)] [])
              refine own_aload X44 hx (hb hby at_80) rfl rfl ?_
              show own_R p e below s _ _ _ T44 (mkF m 82 #[.val (.int p0), .val (.int p1), .val (.int p2), .val (.int p3), .val (.int (1 : Int32)), .val (.ref b41), .val (.ref c43), .val (.ref b41)] [(.ref b41)])
              refine own_iconst X44 hx (0 : Int32) (hb hby at_82) rfl ?_
              show own_R p e below s _ _ _ T44 (mkF m 83 #[.val (.int p0), .val (.int p1), .val (.int p2), .val (.int p3), .val (.int (1 : Int32)), .val (.ref b41), .val (.ref c43), .val (.ref b41)] [(.int (0 : Int32)), (.ref b41)])
              refine own_baload X44 hx hZ e44 f45 (v := .int (p1.toInt8.toInt32)) ⟨by decide, by decide⟩ rfl (hb hby at_83) ?_
              show own_R p e below s _ _ _ T44 (mkF m 84 #[.val (.int p0), .val (.int p1), .val (.int p2), .val (.int p3), .val (.int (1 : Int32)), .val (.ref b41), .val (.ref c43), .val (.ref b41)] [(.int (p1.toInt8.toInt32))])
              refine own_iloadN X44 hx (hb hby at_84) rfl ?_
              show own_R p e below s _ _ _ T44 (mkF m 85 #[.val (.int p0), .val (.int p1), .val (.int p2), .val (.int p3), .val (.int (1 : Int32)), .val (.ref b41), .val (.ref c43), .val (.ref b41)] [(.int p1), (.int (p1.toInt8.toInt32))])
              refine own_i2b X44 hx (hb hby at_85) ?_
              show own_R p e below s _ _ _ T44 (mkF m 86 #[.val (.int p0), .val (.int p1), .val (.int p2), .val (.int p3), .val (.int (1 : Int32)), .val (.ref b41), .val (.ref c43), .val (.ref b41)] [(.int (p1.toInt8.toInt32)), (.int (p1.toInt8.toInt32))])
              refine own_icmp X44 hx (hb hby at_86) (pc' := 91) (by decide) (by decide) (fun hc => ?_) (fun hc => ?_)
              · have hc86 : (p1.toInt8.toInt32) = (p1.toInt8.toInt32) := own_eq1 hc
                clear hc
                show own_R p e below s _ _ _ T44 (mkF m 91 #[.val (.int p0), .val (.int p1), .val (.int p2), .val (.int p3), .val (.int (1 : Int32)), .val (.ref b41), .val (.ref c43), .val (.ref b41)] [])
                refine own_iload X44 hx (hb hby at_91) rfl ?_
                show own_R p e below s _ _ _ T44 (mkF m 93 #[.val (.int p0), .val (.int p1), .val (.int p2), .val (.int p3), .val (.int (1 : Int32)), .val (.ref b41), .val (.ref c43), .val (.ref b41)] [(.int (1 : Int32))])
                refine own_iconst X44 hx (1 : Int32) (hb hby at_93) rfl ?_
                show own_R p e below s _ _ _ T44 (mkF m 94 #[.val (.int p0), .val (.int p1), .val (.int p2), .val (.int p3), .val (.int (1 : Int32)), .val (.ref b41), .val (.ref c43), .val (.ref b41)] [(.int (1 : Int32)), (.int (1 : Int32))])
                refine own_icmp X44 hx (hb hby at_94) (pc' := 108) (by decide) (by decide) (fun hc => ?_) (fun hc => ?_)
                · have hc94 : ¬ (1 : Int32) < (1 : Int32) := own_le1 hc
                  clear hc
                  show own_R p e below s _ _ _ T44 (mkF m 108 #[.val (.int p0), .val (.int p1), .val (.int p2), .val (.int p3), .val (.int (1 : Int32)), .val (.ref b41), .val (.ref c43), .val (.ref b41)] [])
                  refine own_iload X44 hx (hb hby at_108) rfl ?_
                  show own_R p e below s _ _ _ T44 (mkF m 110 #[.val (.int p0), .val (.int p1), .val (.int p2), .val (.int p3), .val (.int (1 : Int32)), .val (.ref b41), .val (.ref c43), .val (.ref b41)] [(.int (1 : Int32))])
                  refine own_iconst X44 hx (2 : Int32) (hb hby at_110) rfl ?_
                  show own_R p e below s _ _ _ T44 (mkF m 111 #[.val (.int p0), .val (.int p1), .val (.int p2), .val (.int p3), .val (.int (1 : Int32)), .val (.ref b41), .val (.ref c43), .val (.ref b41)] [(.int (2 : Int32)), (.int (1 : Int32))])
                  refine own_icmp X44 hx (hb hby at_111) (pc' := 125) (by decide) (by decide) (fun hc => ?_) (fun hc => ?_)
                  · have hc111 : ¬ (2 : Int32) < (1 : Int32) := own_le1 hc
                    clear hc
                    show own_R p e below s _ _ _ T44 (mkF m 125 #[.val (.int p0), .val (.int p1), .val (.int p2), .val (.int p3), .val (.int (1 : Int32)), .val (.ref b41), .val (.ref c43), .val (.ref b41)] [])
                    refine own_aload X44 hx (hb hby at_125) rfl rfl ?_
                    show own_R p e below s _ _ _ T44 (mkF m 127 #[.val (.int p0), .val (.int p1), .val (.int p2), .val (.int p3), .val (.int (1 : Int32)), .val (.ref b41), .val (.ref c43), .val (.ref b41)] [(.ref c43)])
                    refine own_callV X44 hx hZ (y := (⟨"com/example/authwright/authwright/engine/Step", "isSuccess", "()Z"⟩ : MethodName)) (z := (⟨"com/example/authwright/authwright/engine/Step", "isSuccess", "()Z"⟩ : MethodName)) hown (hw _ (List.mem_of_getElem? (i := 30) rfl)) (hw _ (List.mem_of_getElem? (i := 31) rfl)) (notFace_of_selects (args := #[]) (mvT hZ (hw _ (List.mem_of_getElem? (i := 33) rfl)))) (hw _ (List.mem_of_getElem? (i := 33) rfl)) (hw _ (List.mem_of_getElem? (i := 32) rfl)) (hw _ (List.mem_of_getElem? (i := 3) rfl)) (hw _ (List.mem_of_getElem? (i := 34) rfl)) (by decide) (rm5 l Z a0 hw [] c43 b41 T43.heap n0 (Nat.le_trans Z0 K43.1) F43success) 0 (by decide) (by decide) e44 (by rw [hml]; rfl) c43 Ec43 [] [] rfl (lenOf pd_3 rfl) rfl (Nat.le_of_eq rfl) (hb hby at_127) (by decide) (by decide) ?_
                    rintro T46 _ L46 X46 ⟨rfl, N46q, e46⟩
                    have N46 := Fr.app N44 N46q
                    show own_R p e below s _ _ _ T46 (mkF m 130 #[.val (.int p0), .val (.int p1), .val (.int p2), .val (.int p3), .val (.int (1 : Int32)), .val (.ref b41), .val (.ref c43), .val (.ref b41)] [(.int (0 : Int32))])
                    refine own_if X46 hx (hb hby at_130) (pc' := 169) (by decide) (by decide) (fun hc => ?_) (fun hc => ?_)
                    · have hc130 : ¬ (0 : Int32) = (0 : Int32) := own_ne1 hc
                      exact absurd (by decide) hc130
                    · have hc130 : (0 : Int32) = (0 : Int32) := own_ne0 hc
                      clear hc
                      show own_R p e below s _ _ _ T46 (mkF m 133 #[.val (.int p0), .val (.int p1), .val (.int p2), .val (.int p3), .val (.int (1 : Int32)), .val (.ref b41), .val (.ref c43), .val (.ref b41)] [])
                      refine own_aload X46 hx (hb hby at_133) rfl rfl ?_
                      show own_R p e below s _ _ _ T46 (mkF m 135 #[.val (.int p0), .val (.int p1), .val (.int p2), .val (.int p3), .val (.int (1 : Int32)), .val (.ref b41), .val (.ref c43), .val (.ref b41)] [(.ref c43)])
                      refine own_callV X46 hx hZ (y := (⟨"com/example/authwright/authwright/engine/Step", "isFailure", "()Z"⟩ : MethodName)) (z := (⟨"com/example/authwright/authwright/engine/Step", "isFailure", "()Z"⟩ : MethodName)) hown (hw _ (List.mem_of_getElem? (i := 35) rfl)) (hw _ (List.mem_of_getElem? (i := 36) rfl)) (notFace_of_selects (args := #[]) (mvT hZ (hw _ (List.mem_of_getElem? (i := 38) rfl)))) (hw _ (List.mem_of_getElem? (i := 38) rfl)) (hw _ (List.mem_of_getElem? (i := 37) rfl)) (hw _ (List.mem_of_getElem? (i := 3) rfl)) (hw _ (List.mem_of_getElem? (i := 39) rfl)) (by decide) (rm6 l Z a0 hw [] c43 b41 T43.heap n0 (Nat.le_trans Z0 K43.1) F43failed) 0 (by decide) (by decide) e46 (by rw [hml]; rfl) c43 Ec43 [] [] rfl (lenOf pd_3 rfl) rfl (Nat.le_of_eq rfl) (hb hby at_135) (by decide) (by decide) ?_
                      rintro T47 _ L47 X47 ⟨rfl, N47q, e47⟩
                      have N47 := Fr.app N46 N47q
                      show own_R p e below s _ _ _ T47 (mkF m 138 #[.val (.int p0), .val (.int p1), .val (.int p2), .val (.int p3), .val (.int (1 : Int32)), .val (.ref b41), .val (.ref c43), .val (.ref b41)] [(.int (0 : Int32))])
                      refine own_if X47 hx (hb hby at_138) (pc' := 169) (by decide) (by decide) (fun hc => ?_) (fun hc => ?_)
                      · have hc138 : ¬ (0 : Int32) = (0 : Int32) := own_ne1 hc
                        exact absurd (by decide) hc138
                      · have hc138 : (0 : Int32) = (0 : Int32) := own_ne0 hc
                        clear hc
                        show own_R p e below s _ _ _ T47 (mkF m 141 #[.val (.int p0), .val (.int p1), .val (.int p2), .val (.int p3), .val (.int (1 : Int32)), .val (.ref b41), .val (.ref c43), .val (.ref b41)] [])
                        refine own_aload X47 hx (hb hby at_141) rfl rfl ?_
                        show own_R p e below s _ _ _ T47 (mkF m 143 #[.val (.int p0), .val (.int p1), .val (.int p2), .val (.int p3), .val (.int (1 : Int32)), .val (.ref b41), .val (.ref c43), .val (.ref b41)] [(.ref c43)])
                        refine own_callV X47 hx hZ (y := (⟨"com/example/authwright/authwright/engine/Step", "isDelayed", "()Z"⟩ : MethodName)) (z := (⟨"com/example/authwright/authwright/engine/Step", "isDelayed", "()Z"⟩ : MethodName)) hown (hw _ (List.mem_of_getElem? (i := 40) rfl)) (hw _ (List.mem_of_getElem? (i := 41) rfl)) (notFace_of_selects (args := #[]) (mvT hZ (hw _ (List.mem_of_getElem? (i := 43) rfl)))) (hw _ (List.mem_of_getElem? (i := 43) rfl)) (hw _ (List.mem_of_getElem? (i := 42) rfl)) (hw _ (List.mem_of_getElem? (i := 3) rfl)) (hw _ (List.mem_of_getElem? (i := 44) rfl)) (by decide) (rm7 l Z a0 hw [] c43 b41 T43.heap n0 (Nat.le_trans Z0 K43.1) F43delayed) 0 (by decide) (by decide) e47 (by rw [hml]; rfl) c43 Ec43 [] [] rfl (lenOf pd_3 rfl) rfl (Nat.le_of_eq rfl) (hb hby at_143) (by decide) (by decide) ?_
                        rintro T48 _ L48 X48 ⟨rfl, N48q, e48⟩
                        have N48 := Fr.app N47 N48q
                        show own_R p e below s _ _ _ T48 (mkF m 146 #[.val (.int p0), .val (.int p1), .val (.int p2), .val (.int p3), .val (.int (1 : Int32)), .val (.ref b41), .val (.ref c43), .val (.ref b41)] [(.int (0 : Int32))])
                        refine own_if X48 hx (hb hby at_146) (pc' := 169) (by decide) (by decide) (fun hc => ?_) (fun hc => ?_)
                        · have hc146 : ¬ (0 : Int32) = (0 : Int32) := own_ne1 hc
                          exact absurd (by decide) hc146
                        · have hc146 : (0 : Int32) = (0 : Int32) := own_ne0 hc
                          clear hc
                          show own_R p e below s _ _ _ T48 (mkF m 149 #[.val (.int p0), .val (.int p1), .val (.int p2), .val (.int p3), .val (.int (1 : Int32)), .val (.ref b41), .val (.ref c43), .val (.ref b41)] [])
                          refine own_aload X48 hx (hb hby at_149) rfl rfl ?_
                          show own_R p e below s _ _ _ T48 (mkF m 151 #[.val (.int p0), .val (.int p1), .val (.int p2), .val (.int p3), .val (.int (1 : Int32)), .val (.ref b41), .val (.ref c43), .val (.ref b41)] [(.ref c43)])
                          refine own_callV X48 hx hZ (y := (⟨"com/example/authwright/authwright/engine/Step", "replyNumber", "()I"⟩ : MethodName)) (z := (⟨"com/example/authwright/authwright/engine/Step", "replyNumber", "()I"⟩ : MethodName)) hown (hw _ (List.mem_of_getElem? (i := 45) rfl)) (hw _ (List.mem_of_getElem? (i := 46) rfl)) (notFace_of_selects (args := #[]) (mvT hZ (hw _ (List.mem_of_getElem? (i := 48) rfl)))) (hw _ (List.mem_of_getElem? (i := 48) rfl)) (hw _ (List.mem_of_getElem? (i := 47) rfl)) (hw _ (List.mem_of_getElem? (i := 3) rfl)) (hw _ (List.mem_of_getElem? (i := 49) rfl)) (by decide) (rm8 l Z a0 hw [] c43 b41 T43.heap n0 (Nat.le_trans Z0 K43.1) F43replyNumber) 0 (by decide) (by decide) e48 (by rw [hml]; rfl) c43 Ec43 [] [] rfl (lenOf pd_4 rfl) rfl (Nat.le_of_eq rfl) (hb hby at_151) (by decide) (by decide) ?_
                          rintro T49 _ L49 X49 ⟨rfl, N49q, e49⟩
                          have N49 := Fr.app N48 N49q
                          show own_R p e below s _ _ _ T49 (mkF m 154 #[.val (.int p0), .val (.int p1), .val (.int p2), .val (.int p3), .val (.int (1 : Int32)), .val (.ref b41), .val (.ref c43), .val (.ref b41)] [(.int (0 : Int32))])
                          refine own_if X49 hx (hb hby at_154) (pc' := 169) (by decide) (by decide) (fun hc => ?_) (fun hc => ?_)
                          · have hc154 : ¬ (0 : Int32) = (0 : Int32) := own_ne1 hc
                            exact absurd (by decide) hc154
                          · have hc154 : (0 : Int32) = (0 : Int32) := own_ne0 hc
                            clear hc
                            show own_R p e below s _ _ _ T49 (mkF m 157 #[.val (.int p0), .val (.int p1), .val (.int p2), .val (.int p3), .val (.int (1 : Int32)), .val (.ref b41), .val (.ref c43), .val (.ref b41)] [])
                            refine own_aload X49 hx (hb hby at_157) rfl rfl ?_
                            show own_R p e below s _ _ _ T49 (mkF m 159 #[.val (.int p0), .val (.int p1), .val (.int p2), .val (.int p3), .val (.int (1 : Int32)), .val (.ref b41), .val (.ref c43), .val (.ref b41)] [(.ref c43)])
                            refine own_callV X49 hx hZ (y := (⟨"com/example/authwright/authwright/engine/Step", "next", "()Lcom/example/authwright/authwright/engine/Step$Continuation;"⟩ : MethodName)) (z := (⟨"com/example/authwright/authwright/engine/Step", "next", "()Lcom/example/authwright/authwright/engine/Step$Continuation;"⟩ : MethodName)) hown (hw _ (List.mem_of_getElem? (i := 50) rfl)) (hw _ (List.mem_of_getElem? (i := 51) rfl)) (notFace_of_selects (args := #[]) (mvT hZ (hw _ (List.mem_of_getElem? (i := 53) rfl)))) (hw _ (List.mem_of_getElem? (i := 53) rfl)) (hw _ (List.mem_of_getElem? (i := 52) rfl)) (hw _ (List.mem_of_getElem? (i := 3) rfl)) (hw _ (List.mem_of_getElem? (i := 54) rfl)) (by decide) (rm9 l Z a0 hw [] c43 b41 T43.heap n0 (Nat.le_trans Z0 K43.1) F43next) 0 (by decide) (by decide) e49 (by rw [hml]; rfl) c43 Ec43 [] [] rfl (lenOf pd_5 rfl) rfl (Nat.le_of_eq rfl) (hb hby at_159) (by decide) (by decide) ?_
                            rintro T50 _ L50 X50 ⟨rfl, N50q, e50⟩
                            have N50 := Fr.app N49 N50q
                            show own_R p e below s _ _ _ T50 (mkF m 162 #[.val (.int p0), .val (.int p1), .val (.int p2), .val (.int p3), .val (.int (1 : Int32)), .val (.ref b41), .val (.ref c43), .val (.ref b41)] [.null])
                            refine own_ifnonnullN X50 hx (hb hby at_162) ?_
                            show own_R p e below s _ _ _ T50 (mkF m 165 #[.val (.int p0), .val (.int p1), .val (.int p2), .val (.int p3), .val (.int (1 : Int32)), .val (.ref b41), .val (.ref c43), .val (.ref b41)] [])
                            refine own_iconst X50 hx (1 : Int32) (hb hby at_165) rfl ?_
                            show own_R p e below s _ _ _ T50 (mkF m 166 #[.val (.int p0), .val (.int p1), .val (.int p2), .val (.int p3), .val (.int (1 : Int32)), .val (.ref b41), .val (.ref c43), .val (.ref b41)] [(.int (1 : Int32))])
                            refine own_goto X50 hx (hb hby at_166) (pc' := 170) (by decide) (by decide) ?_
                            show own_R p e below s _ _ _ T50 (mkF m 170 #[.val (.int p0), .val (.int p1), .val (.int p2), .val (.int p3), .val (.int (1 : Int32)), .val (.ref b41), .val (.ref c43), .val (.ref b41)] [(.int (1 : Int32))])
                            refine own_retN X50 hx (t := .boolean) Bd.returns (by simp) hlk (hb hby at_170) ?_ (by decide) (by decide)
                            exact ⟨rfl, N50⟩
                  · have hc111 : (2 : Int32) < (1 : Int32) := own_le0 hc
                    exact absurd hc111 (by decide)
                · have hc94 : (1 : Int32) < (1 : Int32) := own_le0 hc
                  exact absurd hc94 (by decide)
              · have hc86 : ¬ (p1.toInt8.toInt32) = (p1.toInt8.toInt32) := own_eq0 hc
                exact absurd rfl hc86
          · have hc70 : ¬ (1 : Int32) = (1 : Int32) := own_eq0 hc
            exact absurd (by decide) hc70
        · have hc37 : (2 : Int32) < (1 : Int32) := own_le0 hc
          exact absurd hc37 (by decide)
      · have hc25 : (1 : Int32) < (1 : Int32) := own_le0 hc
        exact absurd hc25 (by decide)
  ·
    show own_R p e below s _ _ _ s₁ (mkF m 5 #[.val (.int p0), .val (.int p1), .val (.int p2), .val (.int p3), .val (.int (2 : Int32)), .unset, .unset, .unset] [])
    have K0 := Keep.refl h0 ([] : List Addr)
    refine own_iload X0 hx (hb hby at_5) rfl ?_
    show own_R p e below s _ _ _ s₁ (mkF m 7 #[.val (.int p0), .val (.int p1), .val (.int p2), .val (.int p3), .val (.int (2 : Int32)), .unset, .unset, .unset] [(.int (2 : Int32))])
    refine own_newA X0 hx hZ (hw _ (List.mem_of_getElem? (i := 0) rfl)) e0 (hb hby at_7) (by decide) 2 (by decide) (by decide) (by decide) (by decide) (ad := "[B") (by decide) 2 ?_
    intro T51 h51 b51 k51 g51 X51 e51 E51 V51 A51
    have sz_b51 : h0.size ≤ b51 := Nat.le_trans K0.1 (Nat.le_of_eq g51.symm)
    have n0_b51 : n0 ≤ b51 := Nat.le_trans Z0 sz_b51
    have K51 := K0.ext E51
    have V_b51 : Arv Z h51 b51 k51 .byte (2 : Int32) [(.int (0 : Int32)), (.int (0 : Int32))] (.int (0 : Int32)) := V51
    show own_R p e below s _ _ _ T51 (mkF m 9 #[.val (.int p0), .val (.int p1), .val (.int p2), .val (.int p3), .val (.int (2 : Int32)), .unset, .unset, .unset] [(.ref b51)])
    refine own_astore X51 hx (hb hby at_9) rfl (l' := #[.val (.int p0), .val (.int p1), .val (.int p2), .val (.int p3), .val (.int (2 : Int32)), .val (.ref b51), .unset, .unset]) rfl ?_
    show own_R p e below s _ _ _ T51 (mkF m 11 #[.val (.int p0), .val (.int p1), .val (.int p2), .val (.int p3), .val (.int (2 : Int32)), .val (.ref b51), .unset, .unset] [])
    refine own_iload X51 hx (hb hby at_11) rfl ?_
    show own_R p e below s _ _ _ T51 (mkF m 13 #[.val (.int p0), .val (.int p1), .val (.int p2), .val (.int p3), .val (.int (2 : Int32)), .val (.ref b51), .unset, .unset] [(.int (2 : Int32))])
    refine own_if X51 hx (hb hby at_13) (pc' := 22) (by decide) (by decide) (fun hc => ?_) (fun hc => ?_)
    · have hc13 : ¬ (0 : Int32) < (2 : Int32) := own_le1 hc
      exact absurd (by decide) hc13
    · have hc13 : (0 : Int32) < (2 : Int32) := own_le0 hc
      clear hc
      show own_R p e below s _ _ _ T51 (mkF m 16 #[.val (.int p0), .val (.int p1), .val (.int p2), .val (.int p3), .val (.int (2 : Int32)), .val (.ref b51), .unset, .unset] [])
      refine own_aload X51 hx (hb hby at_16) rfl rfl ?_
      show own_R p e below s _ _ _ T51 (mkF m 18 #[.val (.int p0), .val (.int p1), .val (.int p2), .val (.int p3), .val (.int (2 : Int32)), .val (.ref b51), .unset, .unset] [(.ref b51)])
      refine own_iconst X51 hx (0 : Int32) (hb hby at_18) rfl ?_
      show own_R p e below s _ _ _ T51 (mkF m 19 #[.val (.int p0), .val (.int p1), .val (.int p2), .val (.int p3), .val (.int (2 : Int32)), .val (.ref b51), .unset, .unset] [(.int (0 : Int32)), (.ref b51)])
      refine own_iloadN X51 hx (hb hby at_19) rfl ?_
      show own_R p e below s _ _ _ T51 (mkF m 20 #[.val (.int p0), .val (.int p1), .val (.int p2), .val (.int p3), .val (.int (2 : Int32)), .val (.ref b51), .unset, .unset] [(.int p1), (.int (0 : Int32)), (.ref b51)])
      refine own_i2b X51 hx (hb hby at_20) ?_
      show own_R p e below s _ _ _ T51 (mkF m 21 #[.val (.int p0), .val (.int p1), .val (.int p2), .val (.int p3), .val (.int (2 : Int32)), .val (.ref b51), .unset, .unset] [(.int (p1.toInt8.toInt32)), (.int (0 : Int32)), (.ref b51)])
      refine own_bastore X51 hx hZ e51 V_b51 (x' := (p1.toInt8.toInt32)) (pl_nb _) ⟨by decide, by decide⟩ 0 rfl (Nat.le_of_ble_eq_true rfl) (hb hby at_21) ?_
      intro T52 h52 X52 e52 W52 V52
      have K52 := K51.wr W52 (Or.inr sz_b51)
      have N52 := Fr.snoc X52 N0 n0_b51
      have V_b51_52 : Arv Z h52 b51 k51 .byte (2 : Int32) [(.int (p1.toInt8.toInt32)), (.int (0 : Int32))] (.int (0 : Int32)) := V52
      show own_R p e below s _ _ _ T52 (mkF m 22 #[.val (.int p0), .val (.int p1), .val (.int p2), .val (.int p3), .val (.int (2 : Int32)), .val (.ref b51), .unset, .unset] [])
      refine own_iload X52 hx (hb hby at_22) rfl ?_
      show own_R p e below s _ _ _ T52 (mkF m 24 #[.val (.int p0), .val (.int p1), .val (.int p2), .val (.int p3), .val (.int (2 : Int32)), .val (.ref b51), .unset, .unset] [(.int (2 : Int32))])
      refine own_iconst X52 hx (1 : Int32) (hb hby at_24) rfl ?_
      show own_R p e below s _ _ _ T52 (mkF m 25 #[.val (.int p0), .val (.int p1), .val (.int p2), .val (.int p3), .val (.int (2 : Int32)), .val (.ref b51), .unset, .unset] [(.int (1 : Int32)), (.int (2 : Int32))])
      refine own_icmp X52 hx (hb hby at_25) (pc' := 34) (by decide) (by decide) (fun hc => ?_) (fun hc => ?_)
      · have hc25 : ¬ (1 : Int32) < (2 : Int32) := own_le1 hc
        exact absurd (by decide) hc25
      · have hc25 : (1 : Int32) < (2 : Int32) := own_le0 hc
        clear hc
        show own_R p e below s _ _ _ T52 (mkF m 28 #[.val (.int p0), .val (.int p1), .val (.int p2), .val (.int p3), .val (.int (2 : Int32)), .val (.ref b51), .unset, .unset] [])
        refine own_aload X52 hx (hb hby at_28) rfl rfl ?_
        show own_R p e below s _ _ _ T52 (mkF m 30 #[.val (.int p0), .val (.int p1), .val (.int p2), .val (.int p3), .val (.int (2 : Int32)), .val (.ref b51), .unset, .unset] [(.ref b51)])
        refine own_iconst X52 hx (1 : Int32) (hb hby at_30) rfl ?_
        show own_R p e below s _ _ _ T52 (mkF m 31 #[.val (.int p0), .val (.int p1), .val (.int p2), .val (.int p3), .val (.int (2 : Int32)), .val (.ref b51), .unset, .unset] [(.int (1 : Int32)), (.ref b51)])
        refine own_iloadN X52 hx (hb hby at_31) rfl ?_
        show own_R p e below s _ _ _ T52 (mkF m 32 #[.val (.int p0), .val (.int p1), .val (.int p2), .val (.int p3), .val (.int (2 : Int32)), .val (.ref b51), .unset, .unset] [(.int p2), (.int (1 : Int32)), (.ref b51)])
        refine own_i2b X52 hx (hb hby at_32) ?_
        show own_R p e below s _ _ _ T52 (mkF m 33 #[.val (.int p0), .val (.int p1), .val (.int p2), .val (.int p3), .val (.int (2 : Int32)), .val (.ref b51), .unset, .unset] [(.int (p2.toInt8.toInt32)), (.int (1 : Int32)), (.ref b51)])
        refine own_bastore X52 hx hZ e52 V_b51_52 (x' := (p2.toInt8.toInt32)) (pl_nb _) ⟨by decide, by decide⟩ 1 rfl (Nat.le_of_ble_eq_true rfl) (hb hby at_33) ?_
        intro T53 h53 X53 e53 W53 V53
        have K53 := K52.wr W53 (Or.inr sz_b51)
        have N53 := Fr.snoc X53 N52 n0_b51
        have V_b51_53 : Arv Z h53 b51 k51 .byte (2 : Int32) [(.int (p1.toInt8.toInt32)), (.int (p2.toInt8.toInt32))] (.int (0 : Int32)) := V53
        show own_R p e below s _ _ _ T53 (mkF m 34 #[.val (.int p0), .val (.int p1), .val (.int p2), .val (.int p3), .val (.int (2 : Int32)), .val (.ref b51), .unset, .unset] [])
        refine own_iload X53 hx (hb hby at_34) rfl ?_
        show own_R p e below s _ _ _ T53 (mkF m 36 #[.val (.int p0), .val (.int p1), .val (.int p2), .val (.int p3), .val (.int (2 : Int32)), .val (.ref b51), .unset, .unset] [(.int (2 : Int32))])
        refine own_iconst X53 hx (2 : Int32) (hb hby at_36) rfl ?_
        show own_R p e below s _ _ _ T53 (mkF m 37 #[.val (.int p0), .val (.int p1), .val (.int p2), .val (.int p3), .val (.int (2 : Int32)), .val (.ref b51), .unset, .unset] [(.int (2 : Int32)), (.int (2 : Int32))])
        refine own_icmp X53 hx (hb hby at_37) (pc' := 46) (by decide) (by decide) (fun hc => ?_) (fun hc => ?_)
        · have hc37 : ¬ (2 : Int32) < (2 : Int32) := own_le1 hc
          clear hc
          show own_R p e below s _ _ _ T53 (mkF m 46 #[.val (.int p0), .val (.int p1), .val (.int p2), .val (.int p3), .val (.int (2 : Int32)), .val (.ref b51), .unset, .unset] [])
          refine own_aload X53 hx (hb hby at_46) rfl rfl ?_
          show own_R p e below s _ _ _ T53 (mkF m 48 #[.val (.int p0), .val (.int p1), .val (.int p2), .val (.int p3), .val (.int (2 : Int32)), .val (.ref b51), .unset, .unset] [(.ref b51)])
          refine own_callS X53 hx hZ (y := (⟨"com/example/authwright/authwright/engine/Step", "answer", "([B)Lcom/example/authwright/authwright/engine/Step;"⟩ : MethodName)) hown (hw _ (List.mem_of_getElem? (i := 1) rfl)) (hw _ (List.mem_of_getElem? (i := 2) rfl)) (hw _ (List.mem_of_getElem? (i := 3) rfl)) (hw _ (List.mem_of_getElem? (i := 4) rfl)) (by decide) (rm1 l Z a0 hw [] b51 h53 n0 (Nat.le_trans Z0 K53.1)) 0 (by decide) (by decide) e53 (by rw [hml]; rfl) [(.ref b51)] [] rfl (lenOf pd_1 rfl) rfl (Nat.le_of_eq rfl) (hb hby at_48) (by decide) (by decide) ?_
          rintro T54 _ L54 X54 ⟨c54, rfl, N54q, Kc54, nc54, Ec54, F54success, F54failed, F54delayed, F54message, F54replyNumber, F54next⟩
          have N54 := Fr.app N53 N54q
          have K54 := K53.trans Kc54 all0
          show own_R p e below s _ _ _ T54 (mkF m 51 #[.val (.int p0), .val (.int p1), .val (.int p2), .val (.int p3), .val (.int (2 : Int32)), .val (.ref b51), .unset, .unset] [(.ref c54)])
          refine own_astore X54 hx (hb hby at_51) rfl (l' := #[.val (.int p0), .val (.int p1), .val (.int p2), .val (.int p3), .val (.int (2 : Int32)), .val (.ref b51), .val (.ref c54), .unset]) rfl ?_
          show own_R p e below s _ _ _ T54 (mkF m 53 #[.val (.int p0), .val (.int p1), .val (.int p2), .val (.int p3), .val (.int (2 : Int32)), .val (.ref b51), .val (.ref c54), .unset] [])
          refine own_aload X54 hx (hb hby at_53) rfl rfl ?_
          show own_R p e below s _ _ _ T54 (mkF m 55 #[.val (.int p0), .val (.int p1), .val (.int p2), .val (.int p3), .val (.int (2 : Int32)), .val (.ref b51), .val (.ref c54), .unset] [(.ref c54)])
          refine own_callV X54 hx hZ (y := (⟨"com/example/authwright/authwright/engine/Step", "message", "()[B"⟩ : MethodName)) (z := (⟨"com/example/authwright/authwright/engine/Step", "message", "()[B"⟩ : MethodName)) hown (hw _ (List.mem_of_getElem? (i := 25) rfl)) (hw _ (List.mem_of_getElem? (i := 26) rfl)) (notFace_of_selects (args := #[]) (mvT hZ (hw _ (List.mem_of_getElem? (i := 28) rfl)))) (hw _ (List.mem_of_getElem? (i := 28) rfl)) (hw _ (List.mem_of_getElem? (i := 27) rfl)) (hw _ (List.mem_of_getElem? (i := 3) rfl)) (hw _ (List.mem_of_getElem? (i := 29) rfl)) (by decide) (rm4 l Z a0 hw [] c54 b51 T54.heap n0 (Nat.le_trans Z0 K54.1) F54message) 0 (by decide) (by decide) rfl (by rw [hml]; rfl) c54 Ec54 [] [] rfl (lenOf pd_2 rfl) rfl (Nat.le_of_eq rfl) (hb hby at_55) (by decide) (by decide) ?_
          rintro T55 _ L55 X55 ⟨rfl, N55q, e55⟩
          have N55 := Fr.app N54 N55q
          show own_R p e below s _ _ _ T55 (mkF m 58 #[.val (.int p0), .val (.int p1), .val (.int p2), .val (.int p3), .val (.int (2 : Int32)), .val (.ref b51), .val (.ref c54), .unset] [(.ref b51)])
          refine own_astore X55 hx (hb hby at_58) rfl (l' := #[.val (.int p0), .val (.int p1), .val (.int p2), .val (.int p3), .val (.int (2 : Int32)), .val (.ref b51), .val (.ref c54), .val (.ref b51)]) rfl ?_
          show own_R p e below s _ _ _ T55 (mkF m 60 #[.val (.int p0), .val (.int p1), .val (.int p2), .val (.int p3), .val (.int (2 : Int32)), .val (.ref b51), .val (.ref c54), .val (.ref b51)] [])
          refine own_aload X55 hx (hb hby at_60) rfl rfl ?_
          show own_R p e below s _ _ _ T55 (mkF m 62 #[.val (.int p0), .val (.int p1), .val (.int p2), .val (.int p3), .val (.int (2 : Int32)), .val (.ref b51), .val (.ref c54), .val (.ref b51)] [(.ref b51)])
          refine own_ifnullN X55 hx (hb hby at_62) ?_
          show own_R p e below s _ _ _ T55 (mkF m 65 #[.val (.int p0), .val (.int p1), .val (.int p2), .val (.int p3), .val (.int (2 : Int32)), .val (.ref b51), .val (.ref c54), .val (.ref b51)] [])
          refine own_aload X55 hx (hb hby at_65) rfl rfl ?_
          show own_R p e below s _ _ _ T55 (mkF m 67 #[.val (.int p0), .val (.int p1), .val (.int p2), .val (.int p3), .val (.int (2 : Int32)), .val (.ref b51), .val (.ref c54), .val (.ref b51)] [(.ref b51)])
          have f56 := (V_b51_53.keep Kc54 nin0)
          refine own_len X55 hx hZ e55 f56 (hb hby at_67) ?_
          show own_R p e below s _ _ _ T55 (mkF m 68 #[.val (.int p0), .val (.int p1), .val (.int p2), .val (.int p3), .val (.int (2 : Int32)), .val (.ref b51), .val (.ref c54), .val (.ref b51)] [(.int (2 : Int32))])
          refine own_iload X55 hx (hb hby at_68) rfl ?_
          show own_R p e below s _ _ _ T55 (mkF m 70 #[.val (.int p0), .val (.int p1), .val (.int p2), .val (.int p3), .val (.int (2 : Int32)), .val (.ref b51), .val (.ref c54), .val (.ref b51)] [(.int (2 : Int32)), (.int (2 : Int32))])
          refine own_icmp X55 hx (hb hby at_70) (pc' := 75) (by decide) (by decide) (fun hc => ?_) (fun hc => ?_)
          · have hc70 : (2 : Int32) = (2 : Int32) := own_eq1 hc
            clear hc
            show own_R p e below s _ _ _ T55 (mkF m 75 #[.val (.int p0), .val (.int p1), .val (.int p2), .val (.int p3), .val (.int (2 : Int32)), .val (.ref b51), .val (.ref c54), .val (.ref b51)] [])
            refine own_iload X55 hx (hb hby at_75) rfl ?_
            show own_R p e below s _ _ _ T55 (mkF m 77 #[.val (.int p0), .val (.int p1), .val (.int p2), .val (.int p3), .val (.int (2 : Int32)), .val (.ref b51), .val (.ref c54), .val (.ref b51)] [(.int (2 : Int32))])
            refine own_if X55 hx (hb hby at_77) (pc' := 91) (by decide) (by decide) (fun hc => ?_) (fun hc => ?_)
            · have hc77 : ¬ (0 : Int32) < (2 : Int32) := own_le1 hc
              exact absurd (by decide) hc77
            · have hc77 : (0 : Int32) < (2 : Int32) := own_le0 hc
              clear hc
              show own_R p e below s _ _ _ T55 (mkF m 80 #[.val (.int p0), .val (.int p1), .val (.int p2), .val (.int p3), .val (.int (2 : Int32)), .val (.ref b51), .val (.ref c54), .val (.ref b51)] [])
              refine own_aload X55 hx (hb hby at_80) rfl rfl ?_
              show own_R p e below s _ _ _ T55 (mkF m 82 #[.val (.int p0), .val (.int p1), .val (.int p2), .val (.int p3), .val (.int (2 : Int32)), .val (.ref b51), .val (.ref c54), .val (.ref b51)] [(.ref b51)])
              refine own_iconst X55 hx (0 : Int32) (hb hby at_82) rfl ?_
              show own_R p e below s _ _ _ T55 (mkF m 83 #[.val (.int p0), .val (.int p1), .val (.int p2), .val (.int p3), .val (.int (2 : Int32)), .val (.ref b51), .val (.ref c54), .val (.ref b51)] [(.int (0 : Int32)), (.ref b51)])
              refine own_baload X55 hx hZ e55 f56 (v := .int (p1.toInt8.toInt32)) ⟨by decide, by decide⟩ rfl (hb hby at_83) ?_
              show own_R p e below s _ _ _ T55 (mkF m 84 #[.val (.int p0), .val (.int p1), .val (.int p2), .val (.int p3), .val (.int (2 : Int32)), .val (.ref b51), .val (.ref c54), .val (.ref b51)] [(.int (p1.toInt8.toInt32))])
              refine own_iloadN X55 hx (hb hby at_84) rfl ?_
              show own_R p e below s _ _ _ T55 (mkF m 85 #[.val (.int p0), .val (.int p1), .val (.int p2), .val (.int p3), .val (.int (2 : Int32)), .val (.ref b51), .val (.ref c54), .val (.ref b51)] [(.int p1), (.int (p1.toInt8.toInt32))])
              refine own_i2b X55 hx (hb hby at_85) ?_
              show own_R p e below s _ _ _ T55 (mkF m 86 #[.val (.int p0), .val (.int p1), .val (.int p2), .val (.int p3), .val (.int (2 : Int32)), .val (.ref b51), .val (.ref c54), .val (.ref b51)] [(.int (p1.toInt8.toInt32)), (.int (p1.toInt8.toInt32))])
              refine own_icmp X55 hx (hb hby at_86) (pc' := 91) (by decide) (by decide) (fun hc => ?_) (fun hc => ?_)
              · have hc86 : (p1.toInt8.toInt32) = (p1.toInt8.toInt32) := own_eq1 hc
                clear hc
                show own_R p e below s _ _ _ T55 (mkF m 91 #[.val (.int p0), .val (.int p1), .val (.int p2), .val (.int p3), .val (.int (2 : Int32)), .val (.ref b51), .val (.ref c54), .val (.ref b51)] [])
                refine own_iload X55 hx (hb hby at_91) rfl ?_
                show own_R p e below s _ _ _ T55 (mkF m 93 #[.val (.int p0), .val (.int p1), .val (.int p2), .val (.int p3), .val (.int (2 : Int32)), .val (.ref b51), .val (.ref c54), .val (.ref b51)] [(.int (2 : Int32))])
                refine own_iconst X55 hx (1 : Int32) (hb hby at_93) rfl ?_
                show own_R p e below s _ _ _ T55 (mkF m 94 #[.val (.int p0), .val (.int p1), .val (.int p2), .val (.int p3), .val (.int (2 : Int32)), .val (.ref b51), .val (.ref c54), .val (.ref b51)] [(.int (1 : Int32)), (.int (2 : Int32))])
                refine own_icmp X55 hx (hb hby at_94) (pc' := 108) (by decide) (by decide) (fun hc => ?_) (fun hc => ?_)
                · have hc94 : ¬ (1 : Int32) < (2 : Int32) := own_le1 hc
                  exact absurd (by decide) hc94
                · have hc94 : (1 : Int32) < (2 : Int32) := own_le0 hc
                  clear hc
                  show own_R p e below s _ _ _ T55 (mkF m 97 #[.val (.int p0), .val (.int p1), .val (.int p2), .val (.int p3), .val (.int (2 : Int32)), .val (.ref b51), .val (.ref c54), .val (.ref b51)] [])
                  refine own_aload X55 hx (hb hby at_97) rfl rfl ?_
                  show own_R p e below s _ _ _ T55 (mkF m 99 #[.val (.int p0), .val (.int p1), .val (.int p2), .val (.int p3), .val (.int (2 : Int32)), .val (.ref b51), .val (.ref c54), .val (.ref b51)] [(.ref b51)])
                  refine own_iconst X55 hx (1 : Int32) (hb hby at_99) rfl ?_
                  show own_R p e below s _ _ _ T55 (mkF m 100 #[.val (.int p0), .val (.int p1), .val (.int p2), .val (.int p3), .val (.int (2 : Int32)), .val (.ref b51), .val (.ref c54), .val (.ref b51)] [(.int (1 : Int32)), (.ref b51)])
                  refine own_baload X55 hx hZ e55 f56 (v := .int (p2.toInt8.toInt32)) ⟨by decide, by decide⟩ rfl (hb hby at_100) ?_
                  show own_R p e below s _ _ _ T55 (mkF m 101 #[.val (.int p0), .val (.int p1), .val (.int p2), .val (.int p3), .val (.int (2 : Int32)), .val (.ref b51), .val (.ref c54), .val (.ref b51)] [(.int (p2.toInt8.toInt32))])
                  refine own_iloadN X55 hx (hb hby at_101) rfl ?_
                  show own_R p e below s _ _ _ T55 (mkF m 102 #[.val (.int p0), .val (.int p1), .val (.int p2), .val (.int p3), .val (.int (2 : Int32)), .val (.ref b51), .val (.ref c54), .val (.ref b51)] [(.int p2), (.int (p2.toInt8.toInt32))])
                  refine own_i2b X55 hx (hb hby at_102) ?_
                  show own_R p e below s _ _ _ T55 (mkF m 103 #[.val (.int p0), .val (.int p1), .val (.int p2), .val (.int p3), .val (.int (2 : Int32)), .val (.ref b51), .val (.ref c54), .val (.ref b51)] [(.int (p2.toInt8.toInt32)), (.int (p2.toInt8.toInt32))])
                  refine own_icmp X55 hx (hb hby at_103) (pc' := 108) (by decide) (by decide) (fun hc => ?_) (fun hc => ?_)
                  · have hc103 : (p2.toInt8.toInt32) = (p2.toInt8.toInt32) := own_eq1 hc
                    clear hc
                    show own_R p e below s _ _ _ T55 (mkF m 108 #[.val (.int p0), .val (.int p1), .val (.int p2), .val (.int p3), .val (.int (2 : Int32)), .val (.ref b51), .val (.ref c54), .val (.ref b51)] [])
                    refine own_iload X55 hx (hb hby at_108) rfl ?_
                    show own_R p e below s _ _ _ T55 (mkF m 110 #[.val (.int p0), .val (.int p1), .val (.int p2), .val (.int p3), .val (.int (2 : Int32)), .val (.ref b51), .val (.ref c54), .val (.ref b51)] [(.int (2 : Int32))])
                    refine own_iconst X55 hx (2 : Int32) (hb hby at_110) rfl ?_
                    show own_R p e below s _ _ _ T55 (mkF m 111 #[.val (.int p0), .val (.int p1), .val (.int p2), .val (.int p3), .val (.int (2 : Int32)), .val (.ref b51), .val (.ref c54), .val (.ref b51)] [(.int (2 : Int32)), (.int (2 : Int32))])
                    refine own_icmp X55 hx (hb hby at_111) (pc' := 125) (by decide) (by decide) (fun hc => ?_) (fun hc => ?_)
                    · have hc111 : ¬ (2 : Int32) < (2 : Int32) := own_le1 hc
                      clear hc
                      show own_R p e below s _ _ _ T55 (mkF m 125 #[.val (.int p0), .val (.int p1), .val (.int p2), .val (.int p3), .val (.int (2 : Int32)), .val (.ref b51), .val (.ref c54), .val (.ref b51)] [])
                      refine own_aload X55 hx (hb hby at_125) rfl rfl ?_
                      show own_R p e below s _ _ _ T55 (mkF m 127 #[.val (.int p0), .val (.int p1), .val (.int p2), .val (.int p3), .val (.int (2 : Int32)), .val (.ref b51), .val (.ref c54), .val (.ref b51)] [(.ref c54)])
                      refine own_callV X55 hx hZ (y := (⟨"com/example/authwright/authwright/engine/Step", "isSuccess", "()Z"⟩ : MethodName)) (z := (⟨"com/example/authwright/authwright/engine/Step", "isSuccess", "()Z"⟩ : MethodName)) hown (hw _ (List.mem_of_getElem? (i := 30) rfl)) (hw _ (List.mem_of_getElem? (i := 31) rfl)) (notFace_of_selects (args := #[]) (mvT hZ (hw _ (List.mem_of_getElem? (i := 33) rfl)))) (hw _ (List.mem_of_getElem? (i := 33) rfl)) (hw _ (List.mem_of_getElem? (i := 32) rfl)) (hw _ (List.mem_of_getElem? (i := 3) rfl)) (hw _ (List.mem_of_getElem? (i := 34) rfl)) (by decide) (rm5 l Z a0 hw [] c54 b51 T54.heap n0 (Nat.le_trans Z0 K54.1) F54success) 0 (by decide) (by decide) e55 (by rw [hml]; rfl) c54 Ec54 [] [] rfl (lenOf pd_3 rfl) rfl (Nat.le_of_eq rfl) (hb hby at_127) (by decide) (by decide) ?_
                      rintro T57 _ L57 X57 ⟨rfl, N57q, e57⟩
                      have N57 := Fr.app N55 N57q
                      show own_R p e below s _ _ _ T57 (mkF m 130 #[.val (.int p0), .val (.int p1), .val (.int p2), .val (.int p3), .val (.int (2 : Int32)), .val (.ref b51), .val (.ref c54), .val (.ref b51)] [(.int (0 : Int32))])
                      refine own_if X57 hx (hb hby at_130) (pc' := 169) (by decide) (by decide) (fun hc => ?_) (fun hc => ?_)
                      · have hc130 : ¬ (0 : Int32) = (0 : Int32) := own_ne1 hc
                        exact absurd (by decide) hc130
                      · have hc130 : (0 : Int32) = (0 : Int32) := own_ne0 hc
                        clear hc
                        show own_R p e below s _ _ _ T57 (mkF m 133 #[.val (.int p0), .val (.int p1), .val (.int p2), .val (.int p3), .val (.int (2 : Int32)), .val (.ref b51), .val (.ref c54), .val (.ref b51)] [])
                        refine own_aload X57 hx (hb hby at_133) rfl rfl ?_
                        show own_R p e below s _ _ _ T57 (mkF m 135 #[.val (.int p0), .val (.int p1), .val (.int p2), .val (.int p3), .val (.int (2 : Int32)), .val (.ref b51), .val (.ref c54), .val (.ref b51)] [(.ref c54)])
                        refine own_callV X57 hx hZ (y := (⟨"com/example/authwright/authwright/engine/Step", "isFailure", "()Z"⟩ : MethodName)) (z := (⟨"com/example/authwright/authwright/engine/Step", "isFailure", "()Z"⟩ : MethodName)) hown (hw _ (List.mem_of_getElem? (i := 35) rfl)) (hw _ (List.mem_of_getElem? (i := 36) rfl)) (notFace_of_selects (args := #[]) (mvT hZ (hw _ (List.mem_of_getElem? (i := 38) rfl)))) (hw _ (List.mem_of_getElem? (i := 38) rfl)) (hw _ (List.mem_of_getElem? (i := 37) rfl)) (hw _ (List.mem_of_getElem? (i := 3) rfl)) (hw _ (List.mem_of_getElem? (i := 39) rfl)) (by decide) (rm6 l Z a0 hw [] c54 b51 T54.heap n0 (Nat.le_trans Z0 K54.1) F54failed) 0 (by decide) (by decide) e57 (by rw [hml]; rfl) c54 Ec54 [] [] rfl (lenOf pd_3 rfl) rfl (Nat.le_of_eq rfl) (hb hby at_135) (by decide) (by decide) ?_
                        rintro T58 _ L58 X58 ⟨rfl, N58q, e58⟩
                        have N58 := Fr.app N57 N58q
                        show own_R p e below s _ _ _ T58 (mkF m 138 #[.val (.int p0), .val (.int p1), .val (.int p2), .val (.int p3), .val (.int (2 : Int32)), .val (.ref b51), .val (.ref c54), .val (.ref b51)] [(.int (0 : Int32))])
                        refine own_if X58 hx (hb hby at_138) (pc' := 169) (by decide) (by decide) (fun hc => ?_) (fun hc => ?_)
                        · have hc138 : ¬ (0 : Int32) = (0 : Int32) := own_ne1 hc
                          exact absurd (by decide) hc138
                        · have hc138 : (0 : Int32) = (0 : Int32) := own_ne0 hc
                          clear hc
                          show own_R p e below s _ _ _ T58 (mkF m 141 #[.val (.int p0), .val (.int p1), .val (.int p2), .val (.int p3), .val (.int (2 : Int32)), .val (.ref b51), .val (.ref c54), .val (.ref b51)] [])
                          refine own_aload X58 hx (hb hby at_141) rfl rfl ?_
                          show own_R p e below s _ _ _ T58 (mkF m 143 #[.val (.int p0), .val (.int p1), .val (.int p2), .val (.int p3), .val (.int (2 : Int32)), .val (.ref b51), .val (.ref c54), .val (.ref b51)] [(.ref c54)])
                          refine own_callV X58 hx hZ (y := (⟨"com/example/authwright/authwright/engine/Step", "isDelayed", "()Z"⟩ : MethodName)) (z := (⟨"com/example/authwright/authwright/engine/Step", "isDelayed", "()Z"⟩ : MethodName)) hown (hw _ (List.mem_of_getElem? (i := 40) rfl)) (hw _ (List.mem_of_getElem? (i := 41) rfl)) (notFace_of_selects (args := #[]) (mvT hZ (hw _ (List.mem_of_getElem? (i := 43) rfl)))) (hw _ (List.mem_of_getElem? (i := 43) rfl)) (hw _ (List.mem_of_getElem? (i := 42) rfl)) (hw _ (List.mem_of_getElem? (i := 3) rfl)) (hw _ (List.mem_of_getElem? (i := 44) rfl)) (by decide) (rm7 l Z a0 hw [] c54 b51 T54.heap n0 (Nat.le_trans Z0 K54.1) F54delayed) 0 (by decide) (by decide) e58 (by rw [hml]; rfl) c54 Ec54 [] [] rfl (lenOf pd_3 rfl) rfl (Nat.le_of_eq rfl) (hb hby at_143) (by decide) (by decide) ?_
                          rintro T59 _ L59 X59 ⟨rfl, N59q, e59⟩
                          have N59 := Fr.app N58 N59q
                          show own_R p e below s _ _ _ T59 (mkF m 146 #[.val (.int p0), .val (.int p1), .val (.int p2), .val (.int p3), .val (.int (2 : Int32)), .val (.ref b51), .val (.ref c54), .val (.ref b51)] [(.int (0 : Int32))])
                          refine own_if X59 hx (hb hby at_146) (pc' := 169) (by decide) (by decide) (fun hc => ?_) (fun hc => ?_)
                          · have hc146 : ¬ (0 : Int32) = (0 : Int32) := own_ne1 hc
                            exact absurd (by decide) hc146
                          · have hc146 : (0 : Int32) = (0 : Int32) := own_ne0 hc
                            clear hc
                            show own_R p e below s _ _ _ T59 (mkF m 149 #[.val (.int p0), .val (.int p1), .val (.int p2), .val (.int p3), .val (.int (2 : Int32)), .val (.ref b51), .val (.ref c54), .val (.ref b51)] [])
                            refine own_aload X59 hx (hb hby at_149) rfl rfl ?_
                            show own_R p e below s _ _ _ T59 (mkF m 151 #[.val (.int p0), .val (.int p1), .val (.int p2), .val (.int p3), .val (.int (2 : Int32)), .val (.ref b51), .val (.ref c54), .val (.ref b51)] [(.ref c54)])
                            refine own_callV X59 hx hZ (y := (⟨"com/example/authwright/authwright/engine/Step", "replyNumber", "()I"⟩ : MethodName)) (z := (⟨"com/example/authwright/authwright/engine/Step", "replyNumber", "()I"⟩ : MethodName)) hown (hw _ (List.mem_of_getElem? (i := 45) rfl)) (hw _ (List.mem_of_getElem? (i := 46) rfl)) (notFace_of_selects (args := #[]) (mvT hZ (hw _ (List.mem_of_getElem? (i := 48) rfl)))) (hw _ (List.mem_of_getElem? (i := 48) rfl)) (hw _ (List.mem_of_getElem? (i := 47) rfl)) (hw _ (List.mem_of_getElem? (i := 3) rfl)) (hw _ (List.mem_of_getElem? (i := 49) rfl)) (by decide) (rm8 l Z a0 hw [] c54 b51 T54.heap n0 (Nat.le_trans Z0 K54.1) F54replyNumber) 0 (by decide) (by decide) e59 (by rw [hml]; rfl) c54 Ec54 [] [] rfl (lenOf pd_4 rfl) rfl (Nat.le_of_eq rfl) (hb hby at_151) (by decide) (by decide) ?_
                            rintro T60 _ L60 X60 ⟨rfl, N60q, e60⟩
                            have N60 := Fr.app N59 N60q
                            show own_R p e below s _ _ _ T60 (mkF m 154 #[.val (.int p0), .val (.int p1), .val (.int p2), .val (.int p3), .val (.int (2 : Int32)), .val (.ref b51), .val (.ref c54), .val (.ref b51)] [(.int (0 : Int32))])
                            refine own_if X60 hx (hb hby at_154) (pc' := 169) (by decide) (by decide) (fun hc => ?_) (fun hc => ?_)
                            · have hc154 : ¬ (0 : Int32) = (0 : Int32) := own_ne1 hc
                              exact absurd (by decide) hc154
                            · have hc154 : (0 : Int32) = (0 : Int32) := own_ne0 hc
                              clear hc
                              show own_R p e below s _ _ _ T60 (mkF m 157 #[.val (.int p0), .val (.int p1), .val (.int p2), .val (.int p3), .val (.int (2 : Int32)), .val (.ref b51), .val (.ref c54), .val (.ref b51)] [])
                              refine own_aload X60 hx (hb hby at_157) rfl rfl ?_
                              show own_R p e below s _ _ _ T60 (mkF m 159 #[.val (.int p0), .val (.int p1), .val (.int p2), .val (.int p3), .val (.int (2 : Int32)), .val (.ref b51), .val (.ref c54), .val (.ref b51)] [(.ref c54)])
                              refine own_callV X60 hx hZ (y := (⟨"com/example/authwright/authwright/engine/Step", "next", "()Lcom/example/authwright/authwright/engine/Step$Continuation;"⟩ : MethodName)) (z := (⟨"com/example/authwright/authwright/engine/Step", "next", "()Lcom/example/authwright/authwright/engine/Step$Continuation;"⟩ : MethodName)) hown (hw _ (List.mem_of_getElem? (i := 50) rfl)) (hw _ (List.mem_of_getElem? (i := 51) rfl)) (notFace_of_selects (args := #[]) (mvT hZ (hw _ (List.mem_of_getElem? (i := 53) rfl)))) (hw _ (List.mem_of_getElem? (i := 53) rfl)) (hw _ (List.mem_of_getElem? (i := 52) rfl)) (hw _ (List.mem_of_getElem? (i := 3) rfl)) (hw _ (List.mem_of_getElem? (i := 54) rfl)) (by decide) (rm9 l Z a0 hw [] c54 b51 T54.heap n0 (Nat.le_trans Z0 K54.1) F54next) 0 (by decide) (by decide) e60 (by rw [hml]; rfl) c54 Ec54 [] [] rfl (lenOf pd_5 rfl) rfl (Nat.le_of_eq rfl) (hb hby at_159) (by decide) (by decide) ?_
                              rintro T61 _ L61 X61 ⟨rfl, N61q, e61⟩
                              have N61 := Fr.app N60 N61q
                              show own_R p e below s _ _ _ T61 (mkF m 162 #[.val (.int p0), .val (.int p1), .val (.int p2), .val (.int p3), .val (.int (2 : Int32)), .val (.ref b51), .val (.ref c54), .val (.ref b51)] [.null])
                              refine own_ifnonnullN X61 hx (hb hby at_162) ?_
                              show own_R p e below s _ _ _ T61 (mkF m 165 #[.val (.int p0), .val (.int p1), .val (.int p2), .val (.int p3), .val (.int (2 : Int32)), .val (.ref b51), .val (.ref c54), .val (.ref b51)] [])
                              refine own_iconst X61 hx (1 : Int32) (hb hby at_165) rfl ?_
                              show own_R p e below s _ _ _ T61 (mkF m 166 #[.val (.int p0), .val (.int p1), .val (.int p2), .val (.int p3), .val (.int (2 : Int32)), .val (.ref b51), .val (.ref c54), .val (.ref b51)] [(.int (1 : Int32))])
                              refine own_goto X61 hx (hb hby at_166) (pc' := 170) (by decide) (by decide) ?_
                              show own_R p e below s _ _ _ T61 (mkF m 170 #[.val (.int p0), .val (.int p1), .val (.int p2), .val (.int p3), .val (.int (2 : Int32)), .val (.ref b51), .val (.ref c54), .val (.ref b51)] [(.int (1 : Int32))])
                              refine own_retN X61 hx (t := .boolean) Bd.returns (by simp) hlk (hb hby at_170) ?_ (by decide) (by decide)
                              exact ⟨rfl, N61⟩
                    · have hc111 : (2 : Int32) < (2 : Int32) := own_le0 hc
                      exact absurd hc111 (by decide)
                  · have hc103 : ¬ (p2.toInt8.toInt32) = (p2.toInt8.toInt32) := own_eq0 hc
                    exact absurd rfl hc103
              · have hc86 : ¬ (p1.toInt8.toInt32) = (p1.toInt8.toInt32) := own_eq0 hc
                exact absurd rfl hc86
          · have hc70 : ¬ (2 : Int32) = (2 : Int32) := own_eq0 hc
            exact absurd (by decide) hc70
        · have hc37 : (2 : Int32) < (2 : Int32) := own_le0 hc
          exact absurd hc37 (by decide)
  ·
    show own_R p e below s _ _ _ s₁ (mkF m 5 #[.val (.int p0), .val (.int p1), .val (.int p2), .val (.int p3), .val (.int (3 : Int32)), .unset, .unset, .unset] [])
    have K0 := Keep.refl h0 ([] : List Addr)
    refine own_iload X0 hx (hb hby at_5) rfl ?_
    show own_R p e below s _ _ _ s₁ (mkF m 7 #[.val (.int p0), .val (.int p1), .val (.int p2), .val (.int p3), .val (.int (3 : Int32)), .unset, .unset, .unset] [(.int (3 : Int32))])
    refine own_newA X0 hx hZ (hw _ (List.mem_of_getElem? (i := 0) rfl)) e0 (hb hby at_7) (by decide) 3 (by decide) (by decide) (by decide) (by decide) (ad := "[B") (by decide) 3 ?_
    intro T62 h62 b62 k62 g62 X62 e62 E62 V62 A62
    have sz_b62 : h0.size ≤ b62 := Nat.le_trans K0.1 (Nat.le_of_eq g62.symm)
    have n0_b62 : n0 ≤ b62 := Nat.le_trans Z0 sz_b62
    have K62 := K0.ext E62
    have V_b62 : Arv Z h62 b62 k62 .byte (3 : Int32) [(.int (0 : Int32)), (.int (0 : Int32)), (.int (0 : Int32))] (.int (0 : Int32)) := V62
    show own_R p e below s _ _ _ T62 (mkF m 9 #[.val (.int p0), .val (.int p1), .val (.int p2), .val (.int p3), .val (.int (3 : Int32)), .unset, .unset, .unset] [(.ref b62)])
    refine own_astore X62 hx (hb hby at_9) rfl (l' := #[.val (.int p0), .val (.int p1), .val (.int p2), .val (.int p3), .val (.int (3 : Int32)), .val (.ref b62), .unset, .unset]) rfl ?_
    show own_R p e below s _ _ _ T62 (mkF m 11 #[.val (.int p0), .val (.int p1), .val (.int p2), .val (.int p3), .val (.int (3 : Int32)), .val (.ref b62), .unset, .unset] [])
    refine own_iload X62 hx (hb hby at_11) rfl ?_
    show own_R p e below s _ _ _ T62 (mkF m 13 #[.val (.int p0), .val (.int p1), .val (.int p2), .val (.int p3), .val (.int (3 : Int32)), .val (.ref b62), .unset, .unset] [(.int (3 : Int32))])
    refine own_if X62 hx (hb hby at_13) (pc' := 22) (by decide) (by decide) (fun hc => ?_) (fun hc => ?_)
    · have hc13 : ¬ (0 : Int32) < (3 : Int32) := own_le1 hc
      exact absurd (by decide) hc13
    · have hc13 : (0 : Int32) < (3 : Int32) := own_le0 hc
      clear hc
      show own_R p e below s _ _ _ T62 (mkF m 16 #[.val (.int p0), .val (.int p1), .val (.int p2), .val (.int p3), .val (.int (3 : Int32)), .val (.ref b62), .unset, .unset] [])
      refine own_aload X62 hx (hb hby at_16) rfl rfl ?_
      show own_R p e below s _ _ _ T62 (mkF m 18 #[.val (.int p0), .val (.int p1), .val (.int p2), .val (.int p3), .val (.int (3 : Int32)), .val (.ref b62), .unset, .unset] [(.ref b62)])
      refine own_iconst X62 hx (0 : Int32) (hb hby at_18) rfl ?_
      show own_R p e below s _ _ _ T62 (mkF m 19 #[.val (.int p0), .val (.int p1), .val (.int p2), .val (.int p3), .val (.int (3 : Int32)), .val (.ref b62), .unset, .unset] [(.int (0 : Int32)), (.ref b62)])
      refine own_iloadN X62 hx (hb hby at_19) rfl ?_
      show own_R p e below s _ _ _ T62 (mkF m 20 #[.val (.int p0), .val (.int p1), .val (.int p2), .val (.int p3), .val (.int (3 : Int32)), .val (.ref b62), .unset, .unset] [(.int p1), (.int (0 : Int32)), (.ref b62)])
      refine own_i2b X62 hx (hb hby at_20) ?_
      show own_R p e below s _ _ _ T62 (mkF m 21 #[.val (.int p0), .val (.int p1), .val (.int p2), .val (.int p3), .val (.int (3 : Int32)), .val (.ref b62), .unset, .unset] [(.int (p1.toInt8.toInt32)), (.int (0 : Int32)), (.ref b62)])
      refine own_bastore X62 hx hZ e62 V_b62 (x' := (p1.toInt8.toInt32)) (pl_nb _) ⟨by decide, by decide⟩ 0 rfl (Nat.le_of_ble_eq_true rfl) (hb hby at_21) ?_
      intro T63 h63 X63 e63 W63 V63
      have K63 := K62.wr W63 (Or.inr sz_b62)
      have N63 := Fr.snoc X63 N0 n0_b62
      have V_b62_63 : Arv Z h63 b62 k62 .byte (3 : Int32) [(.int (p1.toInt8.toInt32)), (.int (0 : Int32)), (.int (0 : Int32))] (.int (0 : Int32)) := V63
      show own_R p e below s _ _ _ T63 (mkF m 22 #[.val (.int p0), .val (.int p1), .val (.int p2), .val (.int p3), .val (.int (3 : Int32)), .val (.ref b62), .unset, .unset] [])
      refine own_iload X63 hx (hb hby at_22) rfl ?_
      show own_R p e below s _ _ _ T63 (mkF m 24 #[.val (.int p0), .val (.int p1), .val (.int p2), .val (.int p3), .val (.int (3 : Int32)), .val (.ref b62), .unset, .unset] [(.int (3 : Int32))])
      refine own_iconst X63 hx (1 : Int32) (hb hby at_24) rfl ?_
      show own_R p e below s _ _ _ T63 (mkF m 25 #[.val (.int p0), .val (.int p1), .val (.int p2), .val (.int p3), .val (.int (3 : Int32)), .val (.ref b62), .unset, .unset] [(.int (1 : Int32)), (.int (3 : Int32))])
      refine own_icmp X63 hx (hb hby at_25) (pc' := 34) (by decide) (by decide) (fun hc => ?_) (fun hc => ?_)
      · have hc25 : ¬ (1 : Int32) < (3 : Int32) := own_le1 hc
        exact absurd (by decide) hc25
      · have hc25 : (1 : Int32) < (3 : Int32) := own_le0 hc
        clear hc
        show own_R p e below s _ _ _ T63 (mkF m 28 #[.val (.int p0), .val (.int p1), .val (.int p2), .val (.int p3), .val (.int (3 : Int32)), .val (.ref b62), .unset, .unset] [])
        refine own_aload X63 hx (hb hby at_28) rfl rfl ?_
        show own_R p e below s _ _ _ T63 (mkF m 30 #[.val (.int p0), .val (.int p1), .val (.int p2), .val (.int p3), .val (.int (3 : Int32)), .val (.ref b62), .unset, .unset] [(.ref b62)])
        refine own_iconst X63 hx (1 : Int32) (hb hby at_30) rfl ?_
        show own_R p e below s _ _ _ T63 (mkF m 31 #[.val (.int p0), .val (.int p1), .val (.int p2), .val (.int p3), .val (.int (3 : Int32)), .val (.ref b62), .unset, .unset] [(.int (1 : Int32)), (.ref b62)])
        refine own_iloadN X63 hx (hb hby at_31) rfl ?_
        show own_R p e below s _ _ _ T63 (mkF m 32 #[.val (.int p0), .val (.int p1), .val (.int p2), .val (.int p3), .val (.int (3 : Int32)), .val (.ref b62), .unset, .unset] [(.int p2), (.int (1 : Int32)), (.ref b62)])
        refine own_i2b X63 hx (hb hby at_32) ?_
        show own_R p e below s _ _ _ T63 (mkF m 33 #[.val (.int p0), .val (.int p1), .val (.int p2), .val (.int p3), .val (.int (3 : Int32)), .val (.ref b62), .unset, .unset] [(.int (p2.toInt8.toInt32)), (.int (1 : Int32)), (.ref b62)])
        refine own_bastore X63 hx hZ e63 V_b62_63 (x' := (p2.toInt8.toInt32)) (pl_nb _) ⟨by decide, by decide⟩ 1 rfl (Nat.le_of_ble_eq_true rfl) (hb hby at_33) ?_
        intro T64 h64 X64 e64 W64 V64
        have K64 := K63.wr W64 (Or.inr sz_b62)
        have N64 := Fr.snoc X64 N63 n0_b62
        have V_b62_64 : Arv Z h64 b62 k62 .byte (3 : Int32) [(.int (p1.toInt8.toInt32)), (.int (p2.toInt8.toInt32)), (.int (0 : Int32))] (.int (0 : Int32)) := V64
        show own_R p e below s _ _ _ T64 (mkF m 34 #[.val (.int p0), .val (.int p1), .val (.int p2), .val (.int p3), .val (.int (3 : Int32)), .val (.ref b62), .unset, .unset] [])
        refine own_iload X64 hx (hb hby at_34) rfl ?_
        show own_R p e below s _ _ _ T64 (mkF m 36 #[.val (.int p0), .val (.int p1), .val (.int p2), .val (.int p3), .val (.int (3 : Int32)), .val (.ref b62), .unset, .unset] [(.int (3 : Int32))])
        refine own_iconst X64 hx (2 : Int32) (hb hby at_36) rfl ?_
        show own_R p e below s _ _ _ T64 (mkF m 37 #[.val (.int p0), .val (.int p1), .val (.int p2), .val (.int p3), .val (.int (3 : Int32)), .val (.ref b62), .unset, .unset] [(.int (2 : Int32)), (.int (3 : Int32))])
        refine own_icmp X64 hx (hb hby at_37) (pc' := 46) (by decide) (by decide) (fun hc => ?_) (fun hc => ?_)
        · have hc37 : ¬ (2 : Int32) < (3 : Int32) := own_le1 hc
          exact absurd (by decide) hc37
        · have hc37 : (2 : Int32) < (3 : Int32) := own_le0 hc
          clear hc
          show own_R p e below s _ _ _ T64 (mkF m 40 #[.val (.int p0), .val (.int p1), .val (.int p2), .val (.int p3), .val (.int (3 : Int32)), .val (.ref b62), .unset, .unset] [])
          refine own_aload X64 hx (hb hby at_40) rfl rfl ?_
          show own_R p e below s _ _ _ T64 (mkF m 42 #[.val (.int p0), .val (.int p1), .val (.int p2), .val (.int p3), .val (.int (3 : Int32)), .val (.ref b62), .unset, .unset] [(.ref b62)])
          refine own_iconst X64 hx (2 : Int32) (hb hby at_42) rfl ?_
          show own_R p e below s _ _ _ T64 (mkF m 43 #[.val (.int p0), .val (.int p1), .val (.int p2), .val (.int p3), .val (.int (3 : Int32)), .val (.ref b62), .unset, .unset] [(.int (2 : Int32)), (.ref b62)])
          refine own_iloadN X64 hx (hb hby at_43) rfl ?_
          show own_R p e below s _ _ _ T64 (mkF m 44 #[.val (.int p0), .val (.int p1), .val (.int p2), .val (.int p3), .val (.int (3 : Int32)), .val (.ref b62), .unset, .unset] [(.int p3), (.int (2 : Int32)), (.ref b62)])
          refine own_i2b X64 hx (hb hby at_44) ?_
          show own_R p e below s _ _ _ T64 (mkF m 45 #[.val (.int p0), .val (.int p1), .val (.int p2), .val (.int p3), .val (.int (3 : Int32)), .val (.ref b62), .unset, .unset] [(.int (p3.toInt8.toInt32)), (.int (2 : Int32)), (.ref b62)])
          refine own_bastore X64 hx hZ e64 V_b62_64 (x' := (p3.toInt8.toInt32)) (pl_nb _) ⟨by decide, by decide⟩ 2 rfl (Nat.le_of_ble_eq_true rfl) (hb hby at_45) ?_
          intro T65 h65 X65 e65 W65 V65
          have K65 := K64.wr W65 (Or.inr sz_b62)
          have N65 := Fr.snoc X65 N64 n0_b62
          have V_b62_65 : Arv Z h65 b62 k62 .byte (3 : Int32) [(.int (p1.toInt8.toInt32)), (.int (p2.toInt8.toInt32)), (.int (p3.toInt8.toInt32))] (.int (0 : Int32)) := V65
          show own_R p e below s _ _ _ T65 (mkF m 46 #[.val (.int p0), .val (.int p1), .val (.int p2), .val (.int p3), .val (.int (3 : Int32)), .val (.ref b62), .unset, .unset] [])
          refine own_aload X65 hx (hb hby at_46) rfl rfl ?_
          show own_R p e below s _ _ _ T65 (mkF m 48 #[.val (.int p0), .val (.int p1), .val (.int p2), .val (.int p3), .val (.int (3 : Int32)), .val (.ref b62), .unset, .unset] [(.ref b62)])
          refine own_callS X65 hx hZ (y := (⟨"com/example/authwright/authwright/engine/Step", "answer", "([B)Lcom/example/authwright/authwright/engine/Step;"⟩ : MethodName)) hown (hw _ (List.mem_of_getElem? (i := 1) rfl)) (hw _ (List.mem_of_getElem? (i := 2) rfl)) (hw _ (List.mem_of_getElem? (i := 3) rfl)) (hw _ (List.mem_of_getElem? (i := 4) rfl)) (by decide) (rm1 l Z a0 hw [] b62 h65 n0 (Nat.le_trans Z0 K65.1)) 0 (by decide) (by decide) e65 (by rw [hml]; rfl) [(.ref b62)] [] rfl (lenOf pd_1 rfl) rfl (Nat.le_of_eq rfl) (hb hby at_48) (by decide) (by decide) ?_
          rintro T66 _ L66 X66 ⟨c66, rfl, N66q, Kc66, nc66, Ec66, F66success, F66failed, F66delayed, F66message, F66replyNumber, F66next⟩
          have N66 := Fr.app N65 N66q
          have K66 := K65.trans Kc66 all0
          show own_R p e below s _ _ _ T66 (mkF m 51 #[.val (.int p0), .val (.int p1), .val (.int p2), .val (.int p3), .val (.int (3 : Int32)), .val (.ref b62), .unset, .unset] [(.ref c66)])
          refine own_astore X66 hx (hb hby at_51) rfl (l' := #[.val (.int p0), .val (.int p1), .val (.int p2), .val (.int p3), .val (.int (3 : Int32)), .val (.ref b62), .val (.ref c66), .unset]) rfl ?_
          show own_R p e below s _ _ _ T66 (mkF m 53 #[.val (.int p0), .val (.int p1), .val (.int p2), .val (.int p3), .val (.int (3 : Int32)), .val (.ref b62), .val (.ref c66), .unset] [])
          refine own_aload X66 hx (hb hby at_53) rfl rfl ?_
          show own_R p e below s _ _ _ T66 (mkF m 55 #[.val (.int p0), .val (.int p1), .val (.int p2), .val (.int p3), .val (.int (3 : Int32)), .val (.ref b62), .val (.ref c66), .unset] [(.ref c66)])
          refine own_callV X66 hx hZ (y := (⟨"com/example/authwright/authwright/engine/Step", "message", "()[B"⟩ : MethodName)) (z := (⟨"com/example/authwright/authwright/engine/Step", "message", "()[B"⟩ : MethodName)) hown (hw _ (List.mem_of_getElem? (i := 25) rfl)) (hw _ (List.mem_of_getElem? (i := 26) rfl)) (notFace_of_selects (args := #[]) (mvT hZ (hw _ (List.mem_of_getElem? (i := 28) rfl)))) (hw _ (List.mem_of_getElem? (i := 28) rfl)) (hw _ (List.mem_of_getElem? (i := 27) rfl)) (hw _ (List.mem_of_getElem? (i := 3) rfl)) (hw _ (List.mem_of_getElem? (i := 29) rfl)) (by decide) (rm4 l Z a0 hw [] c66 b62 T66.heap n0 (Nat.le_trans Z0 K66.1) F66message) 0 (by decide) (by decide) rfl (by rw [hml]; rfl) c66 Ec66 [] [] rfl (lenOf pd_2 rfl) rfl (Nat.le_of_eq rfl) (hb hby at_55) (by decide) (by decide) ?_
          rintro T67 _ L67 X67 ⟨rfl, N67q, e67⟩
          have N67 := Fr.app N66 N67q
          show own_R p e below s _ _ _ T67 (mkF m 58 #[.val (.int p0), .val (.int p1), .val (.int p2), .val (.int p3), .val (.int (3 : Int32)), .val (.ref b62), .val (.ref c66), .unset] [(.ref b62)])
          refine own_astore X67 hx (hb hby at_58) rfl (l' := #[.val (.int p0), .val (.int p1), .val (.int p2), .val (.int p3), .val (.int (3 : Int32)), .val (.ref b62), .val (.ref c66), .val (.ref b62)]) rfl ?_
          show own_R p e below s _ _ _ T67 (mkF m 60 #[.val (.int p0), .val (.int p1), .val (.int p2), .val (.int p3), .val (.int (3 : Int32)), .val (.ref b62), .val (.ref c66), .val (.ref b62)] [])
          refine own_aload X67 hx (hb hby at_60) rfl rfl ?_
          show own_R p e below s _ _ _ T67 (mkF m 62 #[.val (.int p0), .val (.int p1), .val (.int p2), .val (.int p3), .val (.int (3 : Int32)), .val (.ref b62), .val (.ref c66), .val (.ref b62)] [(.ref b62)])
          refine own_ifnullN X67 hx (hb hby at_62) ?_
          show own_R p e below s _ _ _ T67 (mkF m 65 #[.val (.int p0), .val (.int p1), .val (.int p2), .val (.int p3), .val (.int (3 : Int32)), .val (.ref b62), .val (.ref c66), .val (.ref b62)] [])
          refine own_aload X67 hx (hb hby at_65) rfl rfl ?_
          show own_R p e below s _ _ _ T67 (mkF m 67 #[.val (.int p0), .val (.int p1), .val (.int p2), .val (.int p3), .val (.int (3 : Int32)), .val (.ref b62), .val (.ref c66), .val (.ref b62)] [(.ref b62)])
          have f68 := (V_b62_65.keep Kc66 nin0)
          refine own_len X67 hx hZ e67 f68 (hb hby at_67) ?_
          show own_R p e below s _ _ _ T67 (mkF m 68 #[.val (.int p0), .val (.int p1), .val (.int p2), .val (.int p3), .val (.int (3 : Int32)), .val (.ref b62), .val (.ref c66), .val (.ref b62)] [(.int (3 : Int32))])
          refine own_iload X67 hx (hb hby at_68) rfl ?_
          show own_R p e below s _ _ _ T67 (mkF m 70 #[.val (.int p0), .val (.int p1), .val (.int p2), .val (.int p3), .val (.int (3 : Int32)), .val (.ref b62), .val (.ref c66), .val (.ref b62)] [(.int (3 : Int32)), (.int (3 : Int32))])
          refine own_icmp X67 hx (hb hby at_70) (pc' := 75) (by decide) (by decide) (fun hc => ?_) (fun hc => ?_)
          · have hc70 : (3 : Int32) = (3 : Int32) := own_eq1 hc
            clear hc
            show own_R p e below s _ _ _ T67 (mkF m 75 #[.val (.int p0), .val (.int p1), .val (.int p2), .val (.int p3), .val (.int (3 : Int32)), .val (.ref b62), .val (.ref c66), .val (.ref b62)] [])
            refine own_iload X67 hx (hb hby at_75) rfl ?_
            show own_R p e below s _ _ _ T67 (mkF m 77 #[.val (.int p0), .val (.int p1), .val (.int p2), .val (.int p3), .val (.int (3 : Int32)), .val (.ref b62), .val (.ref c66), .val (.ref b62)] [(.int (3 : Int32))])
            refine own_if X67 hx (hb hby at_77) (pc' := 91) (by decide) (by decide) (fun hc => ?_) (fun hc => ?_)
            · have hc77 : ¬ (0 : Int32) < (3 : Int32) := own_le1 hc
              exact absurd (by decide) hc77
            · have hc77 : (0 : Int32) < (3 : Int32) := own_le0 hc
              clear hc
              show own_R p e below s _ _ _ T67 (mkF m 80 #[.val (.int p0), .val (.int p1), .val (.int p2), .val (.int p3), .val (.int (3 : Int32)), .val (.ref b62), .val (.ref c66), .val (.ref b62)] [])
              refine own_aload X67 hx (hb hby at_80) rfl rfl ?_
              show own_R p e below s _ _ _ T67 (mkF m 82 #[.val (.int p0), .val (.int p1), .val (.int p2), .val (.int p3), .val (.int (3 : Int32)), .val (.ref b62), .val (.ref c66), .val (.ref b62)] [(.ref b62)])
              refine own_iconst X67 hx (0 : Int32) (hb hby at_82) rfl ?_
              show own_R p e below s _ _ _ T67 (mkF m 83 #[.val (.int p0), .val (.int p1), .val (.int p2), .val (.int p3), .val (.int (3 : Int32)), .val (.ref b62), .val (.ref c66), .val (.ref b62)] [(.int (0 : Int32)), (.ref b62)])
              refine own_baload X67 hx hZ e67 f68 (v := .int (p1.toInt8.toInt32)) ⟨by decide, by decide⟩ rfl (hb hby at_83) ?_
              show own_R p e below s _ _ _ T67 (mkF m 84 #[.val (.int p0), .val (.int p1), .val (.int p2), .val (.int p3), .val (.int (3 : Int32)), .val (.ref b62), .val (.ref c66), .val (.ref b62)] [(.int (p1.toInt8.toInt32))])
              refine own_iloadN X67 hx (hb hby at_84) rfl ?_
              show own_R p e below s _ _ _ T67 (mkF m 85 #[.val (.int p0), .val (.int p1), .val (.int p2), .val (.int p3), .val (.int (3 : Int32)), .val (.ref b62), .val (.ref c66), .val (.ref b62)] [(.int p1), (.int (p1.toInt8.toInt32))])
              refine own_i2b X67 hx (hb hby at_85) ?_
              show own_R p e below s _ _ _ T67 (mkF m 86 #[.val (.int p0), .val (.int p1), .val (.int p2), .val (.int p3), .val (.int (3 : Int32)), .val (.ref b62), .val (.ref c66), .val (.ref b62)] [(.int (p1.toInt8.toInt32)), (.int (p1.toInt8.toInt32))])
              refine own_icmp X67 hx (hb hby at_86) (pc' := 91) (by decide) (by decide) (fun hc => ?_) (fun hc => ?_)
              · have hc86 : (p1.toInt8.toInt32) = (p1.toInt8.toInt32) := own_eq1 hc
                clear hc
                show own_R p e below s _ _ _ T67 (mkF m 91 #[.val (.int p0), .val (.int p1), .val (.int p2), .val (.int p3), .val (.int (3 : Int32)), .val (.ref b62), .val (.ref c66), .val (.ref b62)] [])
                refine own_iload X67 hx (hb hby at_91) rfl ?_
                show own_R p e below s _ _ _ T67 (mkF m 93 #[.val (.int p0), .val (.int p1), .val (.int p2), .val (.int p3), .val (.int (3 : Int32)), .val (.ref b62), .val (.ref c66), .val (.ref b62)] [(.int (3 : Int32))])
                refine own_iconst X67 hx (1 : Int32) (hb hby at_93) rfl ?_
                show own_R p e below s _ _ _ T67 (mkF m 94 #[.val (.int p0), .val (.int p1), .val (.int p2), .val (.int p3), .val (.int (3 : Int32)), .val (.ref b62), .val (.ref c66), .val (.ref b62)] [(.int (1 : Int32)), (.int (3 : Int32))])
                refine own_icmp X67 hx (hb hby at_94) (pc' := 108) (by decide) (by decide) (fun hc => ?_) (fun hc => ?_)
                · have hc94 : ¬ (1 : Int32) < (3 : Int32) := own_le1 hc
                  exact absurd (by decide) hc94
                · have hc94 : (1 : Int32) < (3 : Int32) := own_le0 hc
                  clear hc
                  show own_R p e below s _ _ _ T67 (mkF m 97 #[.val (.int p0), .val (.int p1), .val (.int p2), .val (.int p3), .val (.int (3 : Int32)), .val (.ref b62), .val (.ref c66), .val (.ref b62)] [])
                  refine own_aload X67 hx (hb hby at_97) rfl rfl ?_
                  show own_R p e below s _ _ _ T67 (mkF m 99 #[.val (.int p0), .val (.int p1), .val (.int p2), .val (.int p3), .val (.int (3 : Int32)), .val (.ref b62), .val (.ref c66), .val (.ref b62)] [(.ref b62)])
                  refine own_iconst X67 hx (1 : Int32) (hb hby at_99) rfl ?_
                  show own_R p e below s _ _ _ T67 (mkF m 100 #[.val (.int p0), .val (.int p1), .val (.int p2), .val (.int p3), .val (.int (3 : Int32)), .val (.ref b62), .val (.ref c66), .val (.ref b62)] [(.int (1 : Int32)), (.ref b62)])
                  refine own_baload X67 hx hZ e67 f68 (v := .int (p2.toInt8.toInt32)) ⟨by decide, by decide⟩ rfl (hb hby at_100) ?_
                  show own_R p e below s _ _ _ T67 (mkF m 101 #[.val (.int p0), .val (.int p1), .val (.int p2), .val (.int p3), .val (.int (3 : Int32)), .val (.ref b62), .val (.ref c66), .val (.ref b62)] [(.int (p2.toInt8.toInt32))])
                  refine own_iloadN X67 hx (hb hby at_101) rfl ?_
                  show own_R p e below s _ _ _ T67 (mkF m 102 #[.val (.int p0), .val (.int p1), .val (.int p2), .val (.int p3), .val (.int (3 : Int32)), .val (.ref b62), .val (.ref c66), .val (.ref b62)] [(.int p2), (.int (p2.toInt8.toInt32))])
                  refine own_i2b X67 hx (hb hby at_102) ?_
                  show own_R p e below s _ _ _ T67 (mkF m 103 #[.val (.int p0), .val (.int p1), .val (.int p2), .val (.int p3), .val (.int (3 : Int32)), .val (.ref b62), .val (.ref c66), .val (.ref b62)] [(.int (p2.toInt8.toInt32)), (.int (p2.toInt8.toInt32))])
                  refine own_icmp X67 hx (hb hby at_103) (pc' := 108) (by decide) (by decide) (fun hc => ?_) (fun hc => ?_)
                  · have hc103 : (p2.toInt8.toInt32) = (p2.toInt8.toInt32) := own_eq1 hc
                    clear hc
                    show own_R p e below s _ _ _ T67 (mkF m 108 #[.val (.int p0), .val (.int p1), .val (.int p2), .val (.int p3), .val (.int (3 : Int32)), .val (.ref b62), .val (.ref c66), .val (.ref b62)] [])
                    refine own_iload X67 hx (hb hby at_108) rfl ?_
                    show own_R p e below s _ _ _ T67 (mkF m 110 #[.val (.int p0), .val (.int p1), .val (.int p2), .val (.int p3), .val (.int (3 : Int32)), .val (.ref b62), .val (.ref c66), .val (.ref b62)] [(.int (3 : Int32))])
                    refine own_iconst X67 hx (2 : Int32) (hb hby at_110) rfl ?_
                    show own_R p e below s _ _ _ T67 (mkF m 111 #[.val (.int p0), .val (.int p1), .val (.int p2), .val (.int p3), .val (.int (3 : Int32)), .val (.ref b62), .val (.ref c66), .val (.ref b62)] [(.int (2 : Int32)), (.int (3 : Int32))])
                    refine own_icmp X67 hx (hb hby at_111) (pc' := 125) (by decide) (by decide) (fun hc => ?_) (fun hc => ?_)
                    · have hc111 : ¬ (2 : Int32) < (3 : Int32) := own_le1 hc
                      exact absurd (by decide) hc111
                    · have hc111 : (2 : Int32) < (3 : Int32) := own_le0 hc
                      clear hc
                      show own_R p e below s _ _ _ T67 (mkF m 114 #[.val (.int p0), .val (.int p1), .val (.int p2), .val (.int p3), .val (.int (3 : Int32)), .val (.ref b62), .val (.ref c66), .val (.ref b62)] [])
                      refine own_aload X67 hx (hb hby at_114) rfl rfl ?_
                      show own_R p e below s _ _ _ T67 (mkF m 116 #[.val (.int p0), .val (.int p1), .val (.int p2), .val (.int p3), .val (.int (3 : Int32)), .val (.ref b62), .val (.ref c66), .val (.ref b62)] [(.ref b62)])
                      refine own_iconst X67 hx (2 : Int32) (hb hby at_116) rfl ?_
                      show own_R p e below s _ _ _ T67 (mkF m 117 #[.val (.int p0), .val (.int p1), .val (.int p2), .val (.int p3), .val (.int (3 : Int32)), .val (.ref b62), .val (.ref c66), .val (.ref b62)] [(.int (2 : Int32)), (.ref b62)])
                      refine own_baload X67 hx hZ e67 f68 (v := .int (p3.toInt8.toInt32)) ⟨by decide, by decide⟩ rfl (hb hby at_117) ?_
                      show own_R p e below s _ _ _ T67 (mkF m 118 #[.val (.int p0), .val (.int p1), .val (.int p2), .val (.int p3), .val (.int (3 : Int32)), .val (.ref b62), .val (.ref c66), .val (.ref b62)] [(.int (p3.toInt8.toInt32))])
                      refine own_iloadN X67 hx (hb hby at_118) rfl ?_
                      show own_R p e below s _ _ _ T67 (mkF m 119 #[.val (.int p0), .val (.int p1), .val (.int p2), .val (.int p3), .val (.int (3 : Int32)), .val (.ref b62), .val (.ref c66), .val (.ref b62)] [(.int p3), (.int (p3.toInt8.toInt32))])
                      refine own_i2b X67 hx (hb hby at_119) ?_
                      show own_R p e below s _ _ _ T67 (mkF m 120 #[.val (.int p0), .val (.int p1), .val (.int p2), .val (.int p3), .val (.int (3 : Int32)), .val (.ref b62), .val (.ref c66), .val (.ref b62)] [(.int (p3.toInt8.toInt32)), (.int (p3.toInt8.toInt32))])
                      refine own_icmp X67 hx (hb hby at_120) (pc' := 125) (by decide) (by decide) (fun hc => ?_) (fun hc => ?_)
                      · have hc120 : (p3.toInt8.toInt32) = (p3.toInt8.toInt32) := own_eq1 hc
                        clear hc
                        show own_R p e below s _ _ _ T67 (mkF m 125 #[.val (.int p0), .val (.int p1), .val (.int p2), .val (.int p3), .val (.int (3 : Int32)), .val (.ref b62), .val (.ref c66), .val (.ref b62)] [])
                        refine own_aload X67 hx (hb hby at_125) rfl rfl ?_
                        show own_R p e below s _ _ _ T67 (mkF m 127 #[.val (.int p0), .val (.int p1), .val (.int p2), .val (.int p3), .val (.int (3 : Int32)), .val (.ref b62), .val (.ref c66), .val (.ref b62)] [(.ref c66)])
                        refine own_callV X67 hx hZ (y := (⟨"com/example/authwright/authwright/engine/Step", "isSuccess", "()Z"⟩ : MethodName)) (z := (⟨"com/example/authwright/authwright/engine/Step", "isSuccess", "()Z"⟩ : MethodName)) hown (hw _ (List.mem_of_getElem? (i := 30) rfl)) (hw _ (List.mem_of_getElem? (i := 31) rfl)) (notFace_of_selects (args := #[]) (mvT hZ (hw _ (List.mem_of_getElem? (i := 33) rfl)))) (hw _ (List.mem_of_getElem? (i := 33) rfl)) (hw _ (List.mem_of_getElem? (i := 32) rfl)) (hw _ (List.mem_of_getElem? (i := 3) rfl)) (hw _ (List.mem_of_getElem? (i := 34) rfl)) (by decide) (rm5 l Z a0 hw [] c66 b62 T66.heap n0 (Nat.le_trans Z0 K66.1) F66success) 0 (by decide) (by decide) e67 (by rw [hml]; rfl) c66 Ec66 [] [] rfl (lenOf pd_3 rfl) rfl (Nat.le_of_eq rfl) (hb hby at_127) (by decide) (by decide) ?_
                        rintro T69 _ L69 X69 ⟨rfl, N69q, e69⟩
                        have N69 := Fr.app N67 N69q
                        show own_R p e below s _ _ _ T69 (mkF m 130 #[.val (.int p0), .val (.int p1), .val (.int p2), .val (.int p3), .val (.int (3 : Int32)), .val (.ref b62), .val (.ref c66), .val (.ref b62)] [(.int (0 : Int32))])
                        refine own_if X69 hx (hb hby at_130) (pc' := 169) (by decide) (by decide) (fun hc => ?_) (fun hc => ?_)
                        · have hc130 : ¬ (0 : Int32) = (0 : Int32) := own_ne1 hc
                          exact absurd (by decide) hc130
                        · have hc130 : (0 : Int32) = (0 : Int32) := own_ne0 hc
                          clear hc
                          show own_R p e below s _ _ _ T69 (mkF m 133 #[.val (.int p0), .val (.int p1), .val (.int p2), .val (.int p3), .val (.int (3 : Int32)), .val (.ref b62), .val (.ref c66), .val (.ref b62)] [])
                          refine own_aload X69 hx (hb hby at_133) rfl rfl ?_
                          show own_R p e below s _ _ _ T69 (mkF m 135 #[.val (.int p0), .val (.int p1), .val (.int p2), .val (.int p3), .val (.int (3 : Int32)), .val (.ref b62), .val (.ref c66), .val (.ref b62)] [(.ref c66)])
                          refine own_callV X69 hx hZ (y := (⟨"com/example/authwright/authwright/engine/Step", "isFailure", "()Z"⟩ : MethodName)) (z := (⟨"com/example/authwright/authwright/engine/Step", "isFailure", "()Z"⟩ : MethodName)) hown (hw _ (List.mem_of_getElem? (i := 35) rfl)) (hw _ (List.mem_of_getElem? (i := 36) rfl)) (notFace_of_selects (args := #[]) (mvT hZ (hw _ (List.mem_of_getElem? (i := 38) rfl)))) (hw _ (List.mem_of_getElem? (i := 38) rfl)) (hw _ (List.mem_of_getElem? (i := 37) rfl)) (hw _ (List.mem_of_getElem? (i := 3) rfl)) (hw _ (List.mem_of_getElem? (i := 39) rfl)) (by decide) (rm6 l Z a0 hw [] c66 b62 T66.heap n0 (Nat.le_trans Z0 K66.1) F66failed) 0 (by decide) (by decide) e69 (by rw [hml]; rfl) c66 Ec66 [] [] rfl (lenOf pd_3 rfl) rfl (Nat.le_of_eq rfl) (hb hby at_135) (by decide) (by decide) ?_
                          rintro T70 _ L70 X70 ⟨rfl, N70q, e70⟩
                          have N70 := Fr.app N69 N70q
                          show own_R p e below s _ _ _ T70 (mkF m 138 #[.val (.int p0), .val (.int p1), .val (.int p2), .val (.int p3), .val (.int (3 : Int32)), .val (.ref b62), .val (.ref c66), .val (.ref b62)] [(.int (0 : Int32))])
                          refine own_if X70 hx (hb hby at_138) (pc' := 169) (by decide) (by decide) (fun hc => ?_) (fun hc => ?_)
                          · have hc138 : ¬ (0 : Int32) = (0 : Int32) := own_ne1 hc
                            exact absurd (by decide) hc138
                          · have hc138 : (0 : Int32) = (0 : Int32) := own_ne0 hc
                            clear hc
                            show own_R p e below s _ _ _ T70 (mkF m 141 #[.val (.int p0), .val (.int p1), .val (.int p2), .val (.int p3), .val (.int (3 : Int32)), .val (.ref b62), .val (.ref c66), .val (.ref b62)] [])
                            refine own_aload X70 hx (hb hby at_141) rfl rfl ?_
                            show own_R p e below s _ _ _ T70 (mkF m 143 #[.val (.int p0), .val (.int p1), .val (.int p2), .val (.int p3), .val (.int (3 : Int32)), .val (.ref b62), .val (.ref c66), .val (.ref b62)] [(.ref c66)])
                            refine own_callV X70 hx hZ (y := (⟨"com/example/authwright/authwright/engine/Step", "isDelayed", "()Z"⟩ : MethodName)) (z := (⟨"com/example/authwright/authwright/engine/Step", "isDelayed", "()Z"⟩ : MethodName)) hown (hw _ (List.mem_of_getElem? (i := 40) rfl)) (hw _ (List.mem_of_getElem? (i := 41) rfl)) (notFace_of_selects (args := #[]) (mvT hZ (hw _ (List.mem_of_getElem? (i := 43) rfl)))) (hw _ (List.mem_of_getElem? (i := 43) rfl)) (hw _ (List.mem_of_getElem? (i := 42) rfl)) (hw _ (List.mem_of_getElem? (i := 3) rfl)) (hw _ (List.mem_of_getElem? (i := 44) rfl)) (by decide) (rm7 l Z a0 hw [] c66 b62 T66.heap n0 (Nat.le_trans Z0 K66.1) F66delayed) 0 (by decide) (by decide) e70 (by rw [hml]; rfl) c66 Ec66 [] [] rfl (lenOf pd_3 rfl) rfl (Nat.le_of_eq rfl) (hb hby at_143) (by decide) (by decide) ?_
                            rintro T71 _ L71 X71 ⟨rfl, N71q, e71⟩
                            have N71 := Fr.app N70 N71q
                            show own_R p e below s _ _ _ T71 (mkF m 146 #[.val (.int p0), .val (.int p1), .val (.int p2), .val (.int p3), .val (.int (3 : Int32)), .val (.ref b62), .val (.ref c66), .val (.ref b62)] [(.int (0 : Int32))])
                            refine own_if X71 hx (hb hby at_146) (pc' := 169) (by decide) (by decide) (fun hc => ?_) (fun hc => ?_)
                            · have hc146 : ¬ (0 : Int32) = (0 : Int32) := own_ne1 hc
                              exact absurd (by decide) hc146
                            · have hc146 : (0 : Int32) = (0 : Int32) := own_ne0 hc
                              clear hc
                              show own_R p e below s _ _ _ T71 (mkF m 149 #[.val (.int p0), .val (.int p1), .val (.int p2), .val (.int p3), .val (.int (3 : Int32)), .val (.ref b62), .val (.ref c66), .val (.ref b62)] [])
                              refine own_aload X71 hx (hb hby at_149) rfl rfl ?_
                              show own_R p e below s _ _ _ T71 (mkF m 151 #[.val (.int p0), .val (.int p1), .val (.int p2), .val (.int p3), .val (.int (3 : Int32)), .val (.ref b62), .val (.ref c66), .val (.ref b62)] [(.ref c66)])
                              refine own_callV X71 hx hZ (y := (⟨"com/example/authwright/authwright/engine/Step", "replyNumber", "()I"⟩ : MethodName)) (z := (⟨"com/example/authwright/authwright/engine/Step", "replyNumber", "()I"⟩ : MethodName)) hown (hw _ (List.mem_of_getElem? (i := 45) rfl)) (hw _ (List.mem_of_getElem? (i := 46) rfl)) (notFace_of_selects (args := #[]) (mvT hZ (hw _ (List.mem_of_getElem? (i := 48) rfl)))) (hw _ (List.mem_of_getElem? (i := 48) rfl)) (hw _ (List.mem_of_getElem? (i := 47) rfl)) (hw _ (List.mem_of_getElem? (i := 3) rfl)) (hw _ (List.mem_of_getElem? (i := 49) rfl)) (by decide) (rm8 l Z a0 hw [] c66 b62 T66.heap n0 (Nat.le_trans Z0 K66.1) F66replyNumber) 0 (by decide) (by decide) e71 (by rw [hml]; rfl) c66 Ec66 [] [] rfl (lenOf pd_4 rfl) rfl (Nat.le_of_eq rfl) (hb hby at_151) (by decide) (by decide) ?_
                              rintro T72 _ L72 X72 ⟨rfl, N72q, e72⟩
                              have N72 := Fr.app N71 N72q
                              show own_R p e below s _ _ _ T72 (mkF m 154 #[.val (.int p0), .val (.int p1), .val (.int p2), .val (.int p3), .val (.int (3 : Int32)), .val (.ref b62), .val (.ref c66), .val (.ref b62)] [(.int (0 : Int32))])
                              refine own_if X72 hx (hb hby at_154) (pc' := 169) (by decide) (by decide) (fun hc => ?_) (fun hc => ?_)
                              · have hc154 : ¬ (0 : Int32) = (0 : Int32) := own_ne1 hc
                                exact absurd (by decide) hc154
                              · have hc154 : (0 : Int32) = (0 : Int32) := own_ne0 hc
                                clear hc
                                show own_R p e below s _ _ _ T72 (mkF m 157 #[.val (.int p0), .val (.int p1), .val (.int p2), .val (.int p3), .val (.int (3 : Int32)), .val (.ref b62), .val (.ref c66), .val (.ref b62)] [])
                                refine own_aload X72 hx (hb hby at_157) rfl rfl ?_
                                show own_R p e below s _ _ _ T72 (mkF m 159 #[.val (.int p0), .val (.int p1), .val (.int p2), .val (.int p3), .val (.int (3 : Int32)), .val (.ref b62), .val (.ref c66), .val (.ref b62)] [(.ref c66)])
                                refine own_callV X72 hx hZ (y := (⟨"com/example/authwright/authwright/engine/Step", "next", "()Lcom/example/authwright/authwright/engine/Step$Continuation;"⟩ : MethodName)) (z := (⟨"com/example/authwright/authwright/engine/Step", "next", "()Lcom/example/authwright/authwright/engine/Step$Continuation;"⟩ : MethodName)) hown (hw _ (List.mem_of_getElem? (i := 50) rfl)) (hw _ (List.mem_of_getElem? (i := 51) rfl)) (notFace_of_selects (args := #[]) (mvT hZ (hw _ (List.mem_of_getElem? (i := 53) rfl)))) (hw _ (List.mem_of_getElem? (i := 53) rfl)) (hw _ (List.mem_of_getElem? (i := 52) rfl)) (hw _ (List.mem_of_getElem? (i := 3) rfl)) (hw _ (List.mem_of_getElem? (i := 54) rfl)) (by decide) (rm9 l Z a0 hw [] c66 b62 T66.heap n0 (Nat.le_trans Z0 K66.1) F66next) 0 (by decide) (by decide) e72 (by rw [hml]; rfl) c66 Ec66 [] [] rfl (lenOf pd_5 rfl) rfl (Nat.le_of_eq rfl) (hb hby at_159) (by decide) (by decide) ?_
                                rintro T73 _ L73 X73 ⟨rfl, N73q, e73⟩
                                have N73 := Fr.app N72 N73q
                                show own_R p e below s _ _ _ T73 (mkF m 162 #[.val (.int p0), .val (.int p1), .val (.int p2), .val (.int p3), .val (.int (3 : Int32)), .val (.ref b62), .val (.ref c66), .val (.ref b62)] [.null])
                                refine own_ifnonnullN X73 hx (hb hby at_162) ?_
                                show own_R p e below s _ _ _ T73 (mkF m 165 #[.val (.int p0), .val (.int p1), .val (.int p2), .val (.int p3), .val (.int (3 : Int32)), .val (.ref b62), .val (.ref c66), .val (.ref b62)] [])
                                refine own_iconst X73 hx (1 : Int32) (hb hby at_165) rfl ?_
                                show own_R p e below s _ _ _ T73 (mkF m 166 #[.val (.int p0), .val (.int p1), .val (.int p2), .val (.int p3), .val (.int (3 : Int32)), .val (.ref b62), .val (.ref c66), .val (.ref b62)] [(.int (1 : Int32))])
                                refine own_goto X73 hx (hb hby at_166) (pc' := 170) (by decide) (by decide) ?_
                                show own_R p e below s _ _ _ T73 (mkF m 170 #[.val (.int p0), .val (.int p1), .val (.int p2), .val (.int p3), .val (.int (3 : Int32)), .val (.ref b62), .val (.ref c66), .val (.ref b62)] [(.int (1 : Int32))])
                                refine own_retN X73 hx (t := .boolean) Bd.returns (by simp) hlk (hb hby at_170) ?_ (by decide) (by decide)
                                exact ⟨rfl, N73⟩
                      · have hc120 : ¬ (p3.toInt8.toInt32) = (p3.toInt8.toInt32) := own_eq0 hc
                        exact absurd rfl hc120
                  · have hc103 : ¬ (p2.toInt8.toInt32) = (p2.toInt8.toInt32) := own_eq0 hc
                    exact absurd rfl hc103
              · have hc86 : ¬ (p1.toInt8.toInt32) = (p1.toInt8.toInt32) := own_eq0 hc
                exact absurd rfl hc86
          · have hc70 : ¬ (3 : Int32) = (3 : Int32) := own_eq0 hc
            exact absurd (by decide) hc70
set_option maxRecDepth 65536 in
set_option maxHeartbeats 40000000 in
theorem comes_1 {Post : Tables → Env → Array Value → State → Outcome → State → Prop} (hpost : ∀ tb e args s v u, (limb_1_1.after args s (.returned v) u = true ∧ limb_1_2.after args s (.returned v) u = true) → FrameEnd s (.returned v) u (Jvm.fieldLocs frame_1_writes args s ++ Jvm.arrayLocs frame_1_arrays args s ++ Jvm.staticLocs frame_1_statics s) 16 128 → Post tb e args s (.returned v) u) :
    ArmFor flags0 classFile x code maxLocals ret World_1 tables_1 room_1 Calls_1 rest_1 Pre_1 Post := by
  intro l hfl _ _ p e ha hc hk s m args below hf hA hF happ hP
  obtain ⟨hcalls, hrest, hpre⟩ := hP
  obtain ⟨-, -, -, hnamed, -, -, -, hat⟩ := (Spec.applies_iff hf).mp happ
  obtain ⟨hg, hn⟩ := and_e (Cond.before_iff.mp (show (Jvm.Cond.and given_1 narrow_1).before args s = true from hpre))
  obtain ⟨g1, g2⟩ := and_e hg
  obtain ⟨g3, g4⟩ := and_e g2
  obtain ⟨g5, g6⟩ := and_e g4
  obtain ⟨g7, g8⟩ := and_e g6
  obtain ⟨w0, w1, w2, w3, rfl⟩ : ∃ w0 w1 w2 w3 : Value, args = #[w0, w1, w2, w3] := by
    have hs : args.size = 4 := by simpa [Cond.value, given_1] using g1
    obtain ⟨L⟩ := args
    match L, hs with
    | [w0, w1, w2, w3], _ => exact ⟨w0, w1, w2, w3, rfl⟩
  have hw := fun d (hd : d ∈ tables_1) => atoms_spec (ws := Jvm.Cond.code x code maxLocals ret :: tables_1) hat d (List.mem_cons_of_mem _ hd)
  obtain ⟨i0, ei0⟩ := is_v g3
  obtain rfl : w0 = (.int i0) := Option.some.inj ei0
  obtain ⟨i1, ei1⟩ := is_v g5
  obtain rfl : w1 = (.int i1) := Option.some.inj ei1
  obtain ⟨i2, ei2⟩ := is_v g7
  obtain rfl : w2 = (.int i2) := Option.some.inj ei2
  obtain ⟨i3, ei3⟩ := is_v g8
  obtain rfl : w3 = (.int i3) := Option.some.inj ei3
  obtain ⟨n, o, h1, h2, h3, _, L, rfl, ⟨rfl, N⟩, hq⟩ := rm0 l s _ hw tables_1 i0 i1 i2 i3 s.heap s.heap.size (Nat.le_refl _) p e ha hc hk s m _ below hf ((Spec.applies_iff_loose hf).mp happ).1 ⟨rfl, State.Warmed39.refl s, rfl⟩ trivial
  refine ⟨n, _, h1, h2, h3, hpost _ _ _ _ _ _ ⟨Cond.after_iff.mpr rfl, Cond.after_iff.mpr (eq_i res_at (Term.int_eval (1)) rfl)⟩ ⟨hq.1, hq.2.1, (hq.2.2.sift fun y hy => Or.inr (N y hy)).mono (by decide) (by decide)⟩⟩
theorem main_1_1 : Claimed_1_1 := comes_1 fun _ _ _ _ _ _ h hF => ⟨h.1, hF⟩
theorem main_1_2 : Claimed_1_2 := comes_1 fun _ _ _ _ _ _ h hF => ⟨h.2, hF⟩
end Jvm.Pilot.@@N@@
namespace Jvm.Pilot.@@N@@
open Jvm Jvm.ClassFile Sem Op Lib Jvm.Free Jvm.Stand Jvm.Pilot.@@N@@.Jvm.D
/-! MADE BY PROGRAM (witnessworld.py) out of the Statement's table words and the real class files: 9 classes; the members and pool entries that the words name. The judged class is class 1, her method 1. -/
namespace start1
open Jvm.ClassFile
def u (s : String) : CpInfo := .utf8 (stringToUtf16 s)
/-- a pool by its gaps: so many unusable entries, then the entry; so many at the end -/
def gap : Nat → List CpInfo → List CpInfo
  | 0, r => r
  | n + 1, r => .unusable :: gap n r
def poolList (es : List (Nat × CpInfo)) (last : Nat) : List CpInfo := es.foldr (fun e r => gap e.1 (e.2 :: r)) (gap last [])
def pool (es : List (Nat × CpInfo)) (last : Nat) : Array CpInfo := ⟨poolList es last⟩
def fileOf (pool : Array CpInfo) (this : Nat) (attrs : Array Attribute := #[]) (ms : Array MethodInfo := #[]) (fl : Nat := 33) (sup : Nat := 0) (ifs : Array Nat := #[]) (fds : Array FieldInfo := #[]) : ClassFile where
  minorVersion := 0
  majorVersion := 65
  constantPool := pool
  accessFlags := fl
  thisClass := this
  superClass := sup
  interfaces := ifs
  fields := fds
  methods := ms
  attributes := attrs
def plain (name : String) (sup : Option ClassId) : Class where
  name := name
  kind := .ordinary
  loader := none
  accessFlags := 33
  super := sup
  interfaces := #[]
  cf := none
  fields := #[]
  methods := #[]
  instanceTypes := #[]
  staticTypes := #[]
  resolved := #[]
  callSites := []
  init := .initialized
  statics := none
  mirror := none

def pool0 : Array CpInfo := pool [(5, u "<init>"), (0, u "()V"), (1, .class_ 10), (1, u "java/lang/Object")] 113

def k0c0 : Code := { maxStack := 0, maxLocals := 1, code := object_method_1_code, exceptionTable := #[], attributes := #[] }
def k0m0 : Method := { name := "<init>", desc := "()V", sig := { parameters := [], returnType := none }, accessFlags := 1, code := some k0c0 }
/-- java/lang/Object -/
def k0 : Class := { plain "java/lang/Object" none with
  accessFlags := 33
  interfaces := #[]
  cf := some (fileOf pool0 8 #[] #[{ accessFlags := 1, nameIndex := 5, descriptorIndex := 6, attributes := #[] }] 33 0 #[] #[])
  fields := #[]
  methods := #[k0m0]
  instanceTypes := #[]
  staticTypes := #[]
  resolved := Array.replicate 124 none
  statics := none }

def pool1 : Array CpInfo := pool [(2, .class_ 4), (1, u "java/lang/Object"), (0, u "<init>"), (0, u "()V"), (0, .methodref 8 9), (0, .class_ 10), (0, .nameAndType 11 12), (0, u "com/example/authwright/authwright/engine/Step"), (0, u "answer"), (0, u "([B)Lcom/example/authwright/authwright/engine/Step;"), (0, .methodref 8 14), (0, .nameAndType 15 16), (0, u "message"), (0, u "()[B"), (0, .methodref 8 18), (0, .nameAndType 19 20), (0, u "isSuccess"), (0, u "()Z"), (0, .methodref 8 22), (0, .nameAndType 23 20), (0, u "isFailure"), (0, .methodref 8 25), (0, .nameAndType 26 20), (0, u "isDelayed"), (0, .methodref 8 28), (0, .nameAndType 29 30), (0, u "replyNumber"), (0, u "()I"), (0, .methodref 8 32), (0, .nameAndType 33 34), (0, u "next"), (0, u "()Lcom/example/authwright/authwright/engine/Step$Continuation;"), (0, .class_ 36), (0, u "com/example/authwright/authwright/engine/StepAnswerPinLaw"), (2, u "law"), (0, u "(IIII)Z")] 9

def k1m0 : Method := { name := "<init>", desc := "()V", sig := { parameters := [], returnType := none }, accessFlags := 1, code := none }
def k1c1 : Code := { maxStack := 3, maxLocals := 8, code := code, exceptionTable := #[], attributes := #[] }
def k1m1 : Method := { name := "law", desc := "(IIII)Z", sig := { parameters := [.int, .int, .int, .int], returnType := some .boolean }, accessFlags := 9, code := some k1c1 }
/-- com/example/authwright/authwright/engine/StepAnswerPinLaw -/
def k1 : Class := { plain "com/example/authwright/authwright/engine/StepAnswerPinLaw" (some 0) with
  accessFlags := 49
  interfaces := #[]
  cf := some (fileOf pool1 35 #[] #[{ accessFlags := 1, nameIndex := 5, descriptorIndex := 6, attributes := #[] }, { accessFlags := 9, nameIndex := 39, descriptorIndex := 40, attributes := #[] }] 49 2 #[] #[])
  fields := #[]
  methods := #[k1m0, k1m1]
  instanceTypes := #[]
  staticTypes := #[]
  resolved := Array.replicate 50 none
  statics := none }

def pool2 : Array CpInfo := pool [(1, .methodref 2 3), (0, .class_ 4), (0, .nameAndType 5 6), (0, u "java/lang/Object"), (0, u "<init>"), (0, u "()V"), (0, .fieldref 8 9), (0, .class_ 10), (0, .nameAndType 11 12), (0, u "com/example/authwright/authwright/engine/Step"), (0, u "success"), (0, u "Z"), (0, .fieldref 8 14), (0, .nameAndType 15 12), (0, u "failed"), (0, .fieldref 8 17), (0, .nameAndType 18 12), (0, u "delayed"), (0, .fieldref 8 20), (0, .nameAndType 21 22), (0, u "message"), (0, u "[B"), (0, .fieldref 8 24), (0, .nameAndType 25 26), (0, u "replyNumber"), (0, u "I"), (0, .fieldref 8 28), (0, .nameAndType 29 30), (0, u "next"), (0, u "Lcom/example/authwright/authwright/engine/Step$Continuation;"), (2, u "FAILURE"), (0, u "Lcom/example/authwright/authwright/engine/Step;"), (2, u "IMMEDIATE_FAILURE"), (2, u "SUCCESS"), (0, .methodref 8 42), (0, .nameAndType 5 43), (0, u "(ZZZ[BILcom/example/authwright/authwright/engine/Step$Continuation;)V"), (8, u "answer"), (0, u "([B)Lcom/example/authwright/authwright/engine/Step;"), (4, u "isSuccess"), (0, u "()Z"), (0, u "isFailure"), (0, u "isDelayed"), (0, u "()[B"), (0, u "()I"), (0, u "()Lcom/example/authwright/authwright/engine/Step$Continuation;"), (4, .class_ 70), (0, u "com/example/authwright/authwright/engine/Step$Continuation")] 2

def k2c0 : Code := { maxStack := 2, maxLocals := 7, code := prog_41_method_1_code, exceptionTable := #[], attributes := #[] }
def k2m0 : Method := { name := "<init>", desc := "(ZZZ[BILcom/example/authwright/authwright/engine/Step$Continuation;)V", sig := { parameters := [.boolean, .boolean, .boolean, (.array .byte), .int, (.object "com/example/authwright/authwright/engine/Step$Continuation")], returnType := none }, accessFlags := 2, code := some k2c0 }
def k2c1 : Code := { maxStack := 8, maxLocals := 1, code := prog_41_method_5_code, exceptionTable := #[], attributes := #[] }
def k2m1 : Method := { name := "answer", desc := "([B)Lcom/example/authwright/authwright/engine/Step;", sig := { parameters := [(.array .byte)], returnType := some (.object "com/example/authwright/authwright/engine/Step") }, accessFlags := 8, code := some k2c1 }
def k2c2 : Code := { maxStack := 1, maxLocals := 1, code := prog_41_method_9_code, exceptionTable := #[], attributes := #[] }
def k2m2 : Method := { name := "isSuccess", desc := "()Z", sig := { parameters := [], returnType := some .boolean }, accessFlags := 0, code := some k2c2 }
def k2c3 : Code := { maxStack := 1, maxLocals := 1, code := prog_41_method_10_code, exceptionTable := #[], attributes := #[] }
def k2m3 : Method := { name := "isFailure", desc := "()Z", sig := { parameters := [], returnType := some .boolean }, accessFlags := 0, code := some k2c3 }
def k2c4 : Code := { maxStack := 1, maxLocals := 1, code := prog_41_method_11_code, exceptionTable := #[], attributes := #[] }
def k2m4 : Method := { name := "isDelayed", desc := "()Z", sig := { parameters := [], returnType := some .boolean }, accessFlags := 0, code := some k2c4 }
def k2c5 : Code := { maxStack := 1, maxLocals := 1, code := prog_41_method_12_code, exceptionTable := #[], attributes := #[] }
def k2m5 : Method := { name := "message", desc := "()[B", sig := { parameters := [], returnType := some (.array .byte) }, accessFlags := 0, code := some k2c5 }
def k2c6 : Code := { maxStack := 1, maxLocals := 1, code := prog_41_method_13_code, exceptionTable := #[], attributes := #[] }
def k2m6 : Method := { name := "replyNumber", desc := "()I", sig := { parameters := [], returnType := some .int }, accessFlags := 0, code := some k2c6 }
def k2c7 : Code := { maxStack := 1, maxLocals := 1, code := prog_41_method_14_code, exceptionTable := #[], attributes := #[] }
def k2m7 : Method := { name := "next", desc := "()Lcom/example/authwright/authwright/engine/Step$Continuation;", sig := { parameters := [], returnType := some (.object "com/example/authwright/authwright/engine/Step$Continuation") }, accessFlags := 0, code := some k2c7 }
/-- com/example/authwright/authwright/engine/Step -/
def k2 : Class := { plain "com/example/authwright/authwright/engine/Step" (some 0) with
  accessFlags := 48
  interfaces := #[]
  cf := some (fileOf pool2 8 #[.nestMembers #[69]] #[{ accessFlags := 2, nameIndex := 5, descriptorIndex := 43, attributes := #[] }, { accessFlags := 8, nameIndex := 52, descriptorIndex := 53, attributes := #[] }, { accessFlags := 0, nameIndex := 58, descriptorIndex := 59, attributes := #[] }, { accessFlags := 0, nameIndex := 60, descriptorIndex := 59, attributes := #[] }, { accessFlags := 0, nameIndex := 61, descriptorIndex := 59, attributes := #[] }, { accessFlags := 0, nameIndex := 21, descriptorIndex := 62, attributes := #[] }, { accessFlags := 0, nameIndex := 25, descriptorIndex := 63, attributes := #[] }, { accessFlags := 0, nameIndex := 29, descriptorIndex := 64, attributes := #[] }] 48 2 #[] #[{ accessFlags := 26, nameIndex := 40, descriptorIndex := 34, attributes := #[] }, { accessFlags := 26, nameIndex := 33, descriptorIndex := 34, attributes := #[] }, { accessFlags := 26, nameIndex := 37, descriptorIndex := 34, attributes := #[] }, { accessFlags := 18, nameIndex := 11, descriptorIndex := 12, attributes := #[] }, { accessFlags := 18, nameIndex := 15, descriptorIndex := 12, attributes := #[] }, { accessFlags := 18, nameIndex := 18, descriptorIndex := 12, attributes := #[] }, { accessFlags := 18, nameIndex := 21, descriptorIndex := 22, attributes := #[] }, { accessFlags := 18, nameIndex := 25, descriptorIndex := 26, attributes := #[] }, { accessFlags := 18, nameIndex := 29, descriptorIndex := 30, attributes := #[] }])
  fields := #[{ name := "SUCCESS", type := (.object "com/example/authwright/authwright/engine/Step"), accessFlags := 26, slot := 0, constantValue := 0 }, { name := "FAILURE", type := (.object "com/example/authwright/authwright/engine/Step"), accessFlags := 26, slot := 1, constantValue := 0 }, { name := "IMMEDIATE_FAILURE", type := (.object "com/example/authwright/authwright/engine/Step"), accessFlags := 26, slot := 2, constantValue := 0 }, { name := "success", type := .boolean, accessFlags := 18, slot := 0, constantValue := 0 }, { name := "failed", type := .boolean, accessFlags := 18, slot := 1, constantValue := 0 }, { name := "delayed", type := .boolean, accessFlags := 18, slot := 2, constantValue := 0 }, { name := "message", type := (.array .byte), accessFlags := 18, slot := 3, constantValue := 0 }, { name := "replyNumber", type := .int, accessFlags := 18, slot := 4, constantValue := 0 }, { name := "next", type := (.object "com/example/authwright/authwright/engine/Step$Continuation"), accessFlags := 18, slot := 5, constantValue := 0 }]
  methods := #[k2m0, k2m1, k2m2, k2m3, k2m4, k2m5, k2m6, k2m7]
  instanceTypes := #[.boolean, .boolean, .boolean, (.array .byte), .int, (.object "com/example/authwright/authwright/engine/Step$Continuation")]
  staticTypes := #[(.object "com/example/authwright/authwright/engine/Step"), (.object "com/example/authwright/authwright/engine/Step"), (.object "com/example/authwright/authwright/engine/Step")]
  resolved := Array.replicate 73 none
  statics := none }

def pool3 : Array CpInfo := pool [(1, u "java/lang/Cloneable"), (0, .class_ 1), (0, u "java/lang/Object"), (0, .class_ 3)] 3

/-- java/lang/Cloneable -/
def k3 : Class := { plain "java/lang/Cloneable" (some 0) with
  accessFlags := 1537
  interfaces := #[]
  cf := some (fileOf pool3 2 #[] #[] 1537 4 #[] #[])
  fields := #[]
  methods := #[]
  instanceTypes := #[]
  staticTypes := #[]
  resolved := Array.replicate 8 none
  statics := none }

def pool4 : Array CpInfo := pool [(1, u "java/io/Serializable"), (0, .class_ 1), (0, u "java/lang/Object"), (0, .class_ 3)] 3

/-- java/io/Serializable -/
def k4 : Class := { plain "java/io/Serializable" (some 0) with
  accessFlags := 1537
  interfaces := #[]
  cf := some (fileOf pool4 2 #[] #[] 1537 4 #[] #[])
  fields := #[]
  methods := #[]
  instanceTypes := #[]
  staticTypes := #[]
  resolved := Array.replicate 8 none
  statics := none }

/-- the primitive byte -/
def k5 : Class := { plain "byte" none with kind := .primitive 'B', accessFlags := 0x411 }
/-- [B -/
def k6 : Class := { plain "[B" (some 0) with kind := .array 5 .byte, interfaces := #[3, 4], accessFlags := 1041 }

/-- the primitive int -/
def k7 : Class := { plain "int" none with kind := .primitive 'I', accessFlags := 0x411 }
/-- [I -/
def k8 : Class := { plain "[I" (some 0) with kind := .array 7 .int, interfaces := #[3, 4], accessFlags := 1041 }

def heap : Heap := #[]
def classes : Array Class := #[k0, k1, k2, k3, k4, k5, k6, k7, k8]
def interned : List (Array UInt16 × Addr) := []
def slotsUsed : Nat := 0
def theMethod : MethodId := ⟨1, 1⟩
def args0 : Array Value := #[.int 5, .int 7, .int 1, .int 2]
def aboutOver (below : List Frame) : State where
  vm := { classes := classes, interned := interned.toArray }
  heap := heap
  slotsUsed := slotsUsed
  threads := #[{ frames := .invoking theMethod args0 :: below }]
def below0 : List Frame := [.native { method := ⟨0, 0⟩, args := #[] }]
def about1 : State := aboutOver below0
def p0 : Program := .bare "" "" ""
def e0 : Env := launch0.env 0 0 0
theorem w_frames : about1.frames = Frame.invoking theMethod args0 :: below0 := rfl
set_option maxRecDepth 65536 in
theorem w_args : argsFit about1.vm theMethod args0 = true := by decide +kernel
set_option maxRecDepth 65536 in
theorem w_heap : heapFits about1 = true := by decide +kernel
set_option maxRecDepth 65536 in
theorem w_runnable : about1.curStatus? = some .runnable := by decide +kernel
set_option maxRecDepth 65536 in
theorem w_alone : about1.alone = true := by decide +kernel
set_option maxRecDepth 65536 in
theorem w_named : about1.methodNamed? x = some theMethod := by decide +kernel
set_option maxRecDepth 65536 in
theorem w_hears : about1.hears theMethod below0 = true := by decide +kernel
set_option maxRecDepth 65536 in
theorem w_ripe : about1.ripe theMethod args0 below0 = true := by decide +kernel
theorem w_running : about1.status = .running := rfl
set_option maxRecDepth 65536 in
theorem w_room : about1.hasRoom e0.platform room_1 = true :=
  launch0.hasRoom_least _ room_1 (by decide +kernel) (by decide +kernel) (by decide +kernel) (by decide +kernel) (by decide +kernel) (by decide +kernel)
theorem allAtoms_all (ts : List Jvm.Cond) (a : Array Jvm.Value) (st : Jvm.State) : (allAtoms ts).before a st = ts.all (fun c => c.before a st) := by
  induction ts with
  | nil => rfl
  | cons c t ih =>
    show (Jvm.Cond.and c (allAtoms t)).before a st = _
    rw [Jvm.Cond.before_and, ih, List.all_cons]
def words1 : List Jvm.Cond := Jvm.Cond.code x code maxLocals ret :: tables_1
/-- a 'code' word, met by the world's own term for the bytes: nothing is compared byte by byte -/
theorem code_word {y : MethodName} {bytes : ByteArray} {mx : Nat} {rt : Option FieldType} {a : Array Value} {s : State} {m : MethodId} {meth : Method} {c : Code} (h1 : s.methodNamed? y = some m) (h2 : s.vm.method? m = some meth) (h3 : meth.code = some c) (h4 : c.code = bytes)
    (h5 : (c.maxLocals == mx && c.exceptionTable.isEmpty && decide (c.maxStack ≤ mostOperands) && decide (meth.sig.returnType = rt) && !meth.locks && decide (parseMethodDescriptor y.desc = some meth.sig)) = true) : (Jvm.Cond.code y bytes mx rt).before a s = true := by
  simp only [Bool.and_eq_true, beq_iff_eq, Bool.not_eq_true', decide_eq_true_eq] at h5
  obtain ⟨⟨⟨⟨⟨g1, g2⟩, g3⟩, g4⟩, g5⟩, g6⟩ := h5
  simp [Cond.before, Cond.holds, Cond.value, h1, h2, h3, h4, g1, g2, g3, g4, g5, g6]
def isCode : Jvm.Cond → Bool
  | .code _ _ _ _ => true
  | _ => false
theorem all_split {L : List Jvm.Cond} {P : Jvm.Cond → Bool} (h1 : L.all (fun c => isCode c || P c) = true) (h2 : ∀ c ∈ L.filter isCode, P c = true) : L.all P = true := by
  refine List.all_eq_true.mpr fun c hc => ?_
  have h := List.all_eq_true.mp h1 c hc
  rcases Bool.eq_false_or_eq_true (isCode c) with hi | hi
  · exact h2 c (List.mem_filter.mpr ⟨hc, hi⟩)
  · simpa [hi] using h
set_option maxRecDepth 65536 in
theorem w_c0 : (Jvm.Cond.code x code maxLocals ret).before args0 about1 = true := code_word (m := ⟨1, 1⟩) (meth := k1m1) (c := k1c1) (by decide +kernel) rfl rfl rfl (by decide +kernel)
set_option maxRecDepth 65536 in
theorem w_c1 : (Jvm.Cond.code ({ cls := "com/example/authwright/authwright/engine/Step", name := "answer", desc := "([B)Lcom/example/authwright/authwright/engine/Step;" } : Jvm.MethodName) prog_41_method_5_code (1 : Nat) (Option.some (Jvm.ClassFile.FieldType.object "com/example/authwright/authwright/engine/Step"))).before args0 about1 = true := code_word (m := ⟨2, 1⟩) (meth := k2m1) (c := k2c1) (by decide +kernel) rfl rfl rfl (by decide +kernel)
set_option maxRecDepth 65536 in
theorem w_c2 : (Jvm.Cond.code ({ cls := "com/example/authwright/authwright/engine/Step", name := "<init>", desc := "(ZZZ[BILcom/example/authwright/authwright/engine/Step$Continuation;)V" } : Jvm.MethodName) prog_41_method_1_code (7 : Nat) (Option.none : Option Jvm.ClassFile.FieldType)).before args0 about1 = true := code_word (m := ⟨2, 0⟩) (meth := k2m0) (c := k2c0) (by decide +kernel) rfl rfl rfl (by decide +kernel)
set_option maxRecDepth 65536 in
theorem w_c3 : (Jvm.Cond.code ({ cls := "java/lang/Object", name := "<init>", desc := "()V" } : Jvm.MethodName) object_method_1_code (1 : Nat) (Option.none : Option Jvm.ClassFile.FieldType)).before args0 about1 = true := code_word (m := ⟨0, 0⟩) (meth := k0m0) (c := k0c0) (by decide +kernel) rfl rfl rfl (by decide +kernel)
set_option maxRecDepth 65536 in
theorem w_c4 : (Jvm.Cond.code ({ cls := "com/example/authwright/authwright/engine/Step", name := "message", desc := "()[B" } : Jvm.MethodName) prog_41_method_12_code (1 : Nat) (Option.some (Jvm.ClassFile.FieldType.array Jvm.ClassFile.FieldType.byte))).before args0 about1 = true := code_word (m := ⟨2, 5⟩) (meth := k2m5) (c := k2c5) (by decide +kernel) rfl rfl rfl (by decide +kernel)
set_option maxRecDepth 65536 in
theorem w_c5 : (Jvm.Cond.code ({ cls := "com/example/authwright/authwright/engine/Step", name := "isSuccess", desc := "()Z" } : Jvm.MethodName) prog_41_method_9_code (1 : Nat) (Option.some Jvm.ClassFile.FieldType.boolean)).before args0 about1 = true := code_word (m := ⟨2, 2⟩) (meth := k2m2) (c := k2c2) (by decide +kernel) rfl rfl rfl (by decide +kernel)
set_option maxRecDepth 65536 in
theorem w_c6 : (Jvm.Cond.code ({ cls := "com/example/authwright/authwright/engine/Step", name := "isFailure", desc := "()Z" } : Jvm.MethodName) prog_41_method_10_code (1 : Nat) (Option.some Jvm.ClassFile.FieldType.boolean)).before args0 about1 = true := code_word (m := ⟨2, 3⟩) (meth := k2m3) (c := k2c3) (by decide +kernel) rfl rfl rfl (by decide +kernel)
set_option maxRecDepth 65536 in
theorem w_c7 : (Jvm.Cond.code ({ cls := "com/example/authwright/authwright/engine/Step", name := "isDelayed", desc := "()Z" } : Jvm.MethodName) prog_41_method_11_code (1 : Nat) (Option.some Jvm.ClassFile.FieldType.boolean)).before args0 about1 = true := code_word (m := ⟨2, 4⟩) (meth := k2m4) (c := k2c4) (by decide +kernel) rfl rfl rfl (by decide +kernel)
set_option maxRecDepth 65536 in
theorem w_c8 : (Jvm.Cond.code ({ cls := "com/example/authwright/authwright/engine/Step", name := "replyNumber", desc := "()I" } : Jvm.MethodName) prog_41_method_13_code (1 : Nat) (Option.some Jvm.ClassFile.FieldType.int)).before args0 about1 = true := code_word (m := ⟨2, 6⟩) (meth := k2m6) (c := k2c6) (by decide +kernel) rfl rfl rfl (by decide +kernel)
set_option maxRecDepth 65536 in
theorem w_c9 : (Jvm.Cond.code ({ cls := "com/example/authwright/authwright/engine/Step", name := "next", desc := "()Lcom/example/authwright/authwright/engine/Step$Continuation;" } : Jvm.MethodName) prog_41_method_14_code (1 : Nat) (Option.some (Jvm.ClassFile.FieldType.object "com/example/authwright/authwright/engine/Step$Continuation"))).before args0 about1 = true := code_word (m := ⟨2, 7⟩) (meth := k2m7) (c := k2c7) (by decide +kernel) rfl rfl rfl (by decide +kernel)
def codes1 : List Jvm.Cond := [Jvm.Cond.code x code maxLocals ret, Jvm.Cond.code ({ cls := "com/example/authwright/authwright/engine/Step", name := "answer", desc := "([B)Lcom/example/authwright/authwright/engine/Step;" } : Jvm.MethodName) prog_41_method_5_code (1 : Nat) (Option.some (Jvm.ClassFile.FieldType.object "com/example/authwright/authwright/engine/Step")), Jvm.Cond.code ({ cls := "com/example/authwright/authwright/engine/Step", name := "<init>", desc := "(ZZZ[BILcom/example/authwright/authwright/engine/Step$Continuation;)V" } : Jvm.MethodName) prog_41_method_1_code (7 : Nat) (Option.none : Option Jvm.ClassFile.FieldType), Jvm.Cond.code ({ cls := "java/lang/Object", name := "<init>", desc := "()V" } : Jvm.MethodName) object_method_1_code (1 : Nat) (Option.none : Option Jvm.ClassFile.FieldType), Jvm.Cond.code ({ cls := "com/example/authwright/authwright/engine/Step", name := "message", desc := "()[B" } : Jvm.MethodName) prog_41_method_12_code (1 : Nat) (Option.some (Jvm.ClassFile.FieldType.array Jvm.ClassFile.FieldType.byte)), Jvm.Cond.code ({ cls := "com/example/authwright/authwright/engine/Step", name := "isSuccess", desc := "()Z" } : Jvm.MethodName) prog_41_method_9_code (1 : Nat) (Option.some Jvm.ClassFile.FieldType.boolean), Jvm.Cond.code ({ cls := "com/example/authwright/authwright/engine/Step", name := "isFailure", desc := "()Z" } : Jvm.MethodName) prog_41_method_10_code (1 : Nat) (Option.some Jvm.ClassFile.FieldType.boolean), Jvm.Cond.code ({ cls := "com/example/authwright/authwright/engine/Step", name := "isDelayed", desc := "()Z" } : Jvm.MethodName) prog_41_method_11_code (1 : Nat) (Option.some Jvm.ClassFile.FieldType.boolean), Jvm.Cond.code ({ cls := "com/example/authwright/authwright/engine/Step", name := "replyNumber", desc := "()I" } : Jvm.MethodName) prog_41_method_13_code (1 : Nat) (Option.some Jvm.ClassFile.FieldType.int), Jvm.Cond.code ({ cls := "com/example/authwright/authwright/engine/Step", name := "next", desc := "()Lcom/example/authwright/authwright/engine/Step$Continuation;" } : Jvm.MethodName) prog_41_method_14_code (1 : Nat) (Option.some (Jvm.ClassFile.FieldType.object "com/example/authwright/authwright/engine/Step$Continuation"))]
set_option maxRecDepth 65536 in
theorem codes_eq : words1.filter isCode = codes1 := rfl
theorem w_codes : ∀ c ∈ words1.filter isCode, c.before args0 about1 = true := by
  rw [codes_eq]
  intro c hc
  simp only [codes1, List.mem_cons, List.not_mem_nil, or_false] at hc
  rcases hc with rfl | rfl | rfl | rfl | rfl | rfl | rfl | rfl | rfl | rfl
  · exact w_c0
  · exact w_c1
  · exact w_c2
  · exact w_c3
  · exact w_c4
  · exact w_c5
  · exact w_c6
  · exact w_c7
  · exact w_c8
  · exact w_c9
set_option maxRecDepth 65536 in
theorem w_t1 : (words1.take 24).all (fun c => isCode c || c.before args0 about1) = true := by decide +kernel
set_option maxRecDepth 65536 in
theorem w_t2 : ((words1.drop 24).take 24).all (fun c => isCode c || c.before args0 about1) = true := by decide +kernel
set_option maxRecDepth 65536 in
theorem w_t3 : ((words1.drop 24).drop 24).all (fun c => isCode c || c.before args0 about1) = true := by decide +kernel
theorem w_tables : (allAtoms (Jvm.Cond.code x code maxLocals ret :: tables_1)).before args0 about1 = true := by
  rw [allAtoms_all]
  show words1.all (fun c => c.before args0 about1) = true
  refine all_split ?_ w_codes
  rw [← List.take_append_drop 24 words1, List.all_append, w_t1, ← List.take_append_drop 24 (words1.drop 24), List.all_append, w_t2, w_t3]
  rfl
set_option maxRecDepth 65536 in
theorem w_case : (Jvm.Cond.and given_1 narrow_1).before args0 about1 = true := by decide +kernel
theorem w_applies : (headSpec (Jvm.Cond.code x code maxLocals ret :: tables_1) room_1).applies x e0.platform about1 = true :=
  (Spec.applies_iff w_frames).mpr ⟨w_running, w_runnable, w_alone, w_named, w_hears, w_ripe, w_room, w_tables⟩
theorem atStart : AtStart classFile x code maxLocals ret World_1 tables_1 room_1 Calls_1 rest_1 Pre_1 launch0 p0 e0 about1 theMethod args0 below0 :=
  ⟨lists_1, trivial, launch0.admits_env _ _ _, launch0.least_env, fairChoices_fair.cas, fairChoices_fair.clock, w_frames, w_args, w_heap, w_applies, trivial, trivial, w_case⟩
end start1
theorem witness_1 : WitnessClaimed_1 := ⟨start1.p0, start1.e0, start1.about1, start1.theMethod, start1.args0, start1.below0, start1.atStart⟩
end Jvm.Pilot.@@N@@
