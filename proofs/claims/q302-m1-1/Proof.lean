import JvmDerived
import JvmDerived.Pilot.@@N@@Statement
import JvmDerived.Pilot.@@N@@Code
set_option linter.unusedVariables false
set_option linter.unusedSimpArgs false
namespace Jvm.Pilot.@@N@@
open Jvm Jvm.ClassFile Sem Op Lib Jvm.Free Jvm.Stand Jvm.LawKit Jvm.RoadKit Bundle Jvm.Pilot.@@N@@.Jvm.D
section OwnKit
variable {p : Program} {l : Launch} {e : Env} {R : Room} {s : State} {m : MethodId} {args : Array Value} {below : List Frame} {meth : Method} {c : Code} {T : State} {locs : List Loc} {cells slots : Nat} {Z : State} {a0 : Array Value} {h : Heap} {Q : Option Value → Heap → List Loc → Prop} {ck sk : Nat}
/-- from the state T with the frame g on top the run comes to a return that answers Q -/
def own_R (p : Program) (e : Env) (below : List Frame) (s : State) (Q : Option Value → Heap → List Loc → Prop) (ck sk : Nat) (T : State) (g : JFrame) : Prop :=
  ∃ (t : State) (o : Outcome), Steps p.tables e below (T.setTop g) t ∧ t.status = .running ∧ Ended t below o ∧ ∃ v L, o = .returned v ∧ Q v t.heap L ∧ FrameEnd s o t L ck sk
theorem own_lift {T' : State} {g g' : JFrame} (h : ∀ target, Steps p.tables e below (T'.setTop g') target → Steps p.tables e below (T.setTop g) target) (k : own_R p e below s Q ck sk T' g') : own_R p e below s Q ck sk T g := by
  obtain ⟨t, o, h1, h2⟩ := k
  exact ⟨t, o, h _ h1, h2⟩
theorem own_cast {g g' : JFrame} (q : g = g') (k : own_R p e below s Q ck sk T g') : own_R p e below s Q ck sk T g := q ▸ k
theorem own_iadd (X : Stand p l e R s m args below meth c T locs cells slots) (hx : p.tables.exec = Jvm.exec) {pc : Nat} {Ls : Array Slot} {St : List Value} {x y : Int32} (hd : decode c.code pc = .ok (.iadd, 1)) (k : own_R p e below s Q ck sk T (mkF m (pc + 1) Ls (.int (x + y) :: St))) : own_R p e below s Q ck sk T (mkF m pc Ls (.int y :: .int x :: St)) :=
  own_lift (fun _ q => XS.iadd X.here hx rfl hd rfl q) k
theorem own_isub (X : Stand p l e R s m args below meth c T locs cells slots) (hx : p.tables.exec = Jvm.exec) {pc : Nat} {Ls : Array Slot} {St : List Value} {x y : Int32} (hd : decode c.code pc = .ok (.isub, 1)) (k : own_R p e below s Q ck sk T (mkF m (pc + 1) Ls (.int (x - y) :: St))) : own_R p e below s Q ck sk T (mkF m pc Ls (.int y :: .int x :: St)) :=
  own_lift (fun _ q => XS.isub X.here hx rfl hd rfl q) k
theorem own_imul (X : Stand p l e R s m args below meth c T locs cells slots) (hx : p.tables.exec = Jvm.exec) {pc : Nat} {Ls : Array Slot} {St : List Value} {x y : Int32} (hd : decode c.code pc = .ok (.imul, 1)) (k : own_R p e below s Q ck sk T (mkF m (pc + 1) Ls (.int (x * y) :: St))) : own_R p e below s Q ck sk T (mkF m pc Ls (.int y :: .int x :: St)) :=
  own_lift (fun _ q => XS.imul X.here hx rfl hd rfl q) k
theorem own_iand (X : Stand p l e R s m args below meth c T locs cells slots) (hx : p.tables.exec = Jvm.exec) {pc : Nat} {Ls : Array Slot} {St : List Value} {x y : Int32} (hd : decode c.code pc = .ok (.iand, 1)) (k : own_R p e below s Q ck sk T (mkF m (pc + 1) Ls (.int (x &&& y) :: St))) : own_R p e below s Q ck sk T (mkF m pc Ls (.int y :: .int x :: St)) :=
  own_lift (fun _ q => XS.iand X.here hx rfl hd rfl q) k
theorem own_ior (X : Stand p l e R s m args below meth c T locs cells slots) (hx : p.tables.exec = Jvm.exec) {pc : Nat} {Ls : Array Slot} {St : List Value} {x y : Int32} (hd : decode c.code pc = .ok (.ior, 1)) (k : own_R p e below s Q ck sk T (mkF m (pc + 1) Ls (.int (x ||| y) :: St))) : own_R p e below s Q ck sk T (mkF m pc Ls (.int y :: .int x :: St)) :=
  own_lift (fun _ q => XS.ior X.here hx rfl hd rfl q) k
theorem own_ixor (X : Stand p l e R s m args below meth c T locs cells slots) (hx : p.tables.exec = Jvm.exec) {pc : Nat} {Ls : Array Slot} {St : List Value} {x y : Int32} (hd : decode c.code pc = .ok (.ixor, 1)) (k : own_R p e below s Q ck sk T (mkF m (pc + 1) Ls (.int (x ^^^ y) :: St))) : own_R p e below s Q ck sk T (mkF m pc Ls (.int y :: .int x :: St)) :=
  own_lift (fun _ q => XS.ixor X.here hx rfl hd rfl q) k
theorem own_ishl (X : Stand p l e R s m args below meth c T locs cells slots) (hx : p.tables.exec = Jvm.exec) {pc : Nat} {Ls : Array Slot} {St : List Value} {x y : Int32} (hd : decode c.code pc = .ok (.ishl, 1)) (k : own_R p e below s Q ck sk T (mkF m (pc + 1) Ls (.int (x <<< (y &&& 31)) :: St))) : own_R p e below s Q ck sk T (mkF m pc Ls (.int y :: .int x :: St)) :=
  own_lift (fun _ q => XS.ishl X.here hx rfl hd rfl q) k
theorem own_ishr (X : Stand p l e R s m args below meth c T locs cells slots) (hx : p.tables.exec = Jvm.exec) {pc : Nat} {Ls : Array Slot} {St : List Value} {x y : Int32} (hd : decode c.code pc = .ok (.ishr, 1)) (k : own_R p e below s Q ck sk T (mkF m (pc + 1) Ls (.int (x >>> (y &&& 31)) :: St))) : own_R p e below s Q ck sk T (mkF m pc Ls (.int y :: .int x :: St)) :=
  own_lift (fun _ q => XS.ishr X.here hx rfl hd rfl q) k
theorem own_iushr (X : Stand p l e R s m args below meth c T locs cells slots) (hx : p.tables.exec = Jvm.exec) {pc : Nat} {Ls : Array Slot} {St : List Value} {x y : Int32} (hd : decode c.code pc = .ok (.iushr, 1)) (k : own_R p e below s Q ck sk T (mkF m (pc + 1) Ls (.int ((x.toUInt32 >>> (y &&& 31).toUInt32).toInt32) :: St))) : own_R p e below s Q ck sk T (mkF m pc Ls (.int y :: .int x :: St)) :=
  own_lift (fun _ q => XS.iushr X.here hx rfl hd rfl q) k
theorem own_ladd (X : Stand p l e R s m args below meth c T locs cells slots) (hx : p.tables.exec = Jvm.exec) {pc : Nat} {Ls : Array Slot} {St : List Value} {x y : Int64} (hd : decode c.code pc = .ok (.ladd, 1)) (k : own_R p e below s Q ck sk T (mkF m (pc + 1) Ls (.long (x + y) :: St))) : own_R p e below s Q ck sk T (mkF m pc Ls (.long y :: .long x :: St)) :=
  own_lift (fun _ q => XS.ladd X.here hx rfl hd rfl q) k
theorem own_lsub (X : Stand p l e R s m args below meth c T locs cells slots) (hx : p.tables.exec = Jvm.exec) {pc : Nat} {Ls : Array Slot} {St : List Value} {x y : Int64} (hd : decode c.code pc = .ok (.lsub, 1)) (k : own_R p e below s Q ck sk T (mkF m (pc + 1) Ls (.long (x - y) :: St))) : own_R p e below s Q ck sk T (mkF m pc Ls (.long y :: .long x :: St)) :=
  own_lift (fun _ q => XS.lsub X.here hx rfl hd rfl q) k
theorem own_lmul (X : Stand p l e R s m args below meth c T locs cells slots) (hx : p.tables.exec = Jvm.exec) {pc : Nat} {Ls : Array Slot} {St : List Value} {x y : Int64} (hd : decode c.code pc = .ok (.lmul, 1)) (k : own_R p e below s Q ck sk T (mkF m (pc + 1) Ls (.long (x * y) :: St))) : own_R p e below s Q ck sk T (mkF m pc Ls (.long y :: .long x :: St)) :=
  own_lift (fun _ q => XS.lmul X.here hx rfl hd rfl q) k
theorem own_land (X : Stand p l e R s m args below meth c T locs cells slots) (hx : p.tables.exec = Jvm.exec) {pc : Nat} {Ls : Array Slot} {St : List Value} {x y : Int64} (hd : decode c.code pc = .ok (.land, 1)) (k : own_R p e below s Q ck sk T (mkF m (pc + 1) Ls (.long (x &&& y) :: St))) : own_R p e below s Q ck sk T (mkF m pc Ls (.long y :: .long x :: St)) :=
  own_lift (fun _ q => XS.land X.here hx rfl hd rfl q) k
theorem own_lor (X : Stand p l e R s m args below meth c T locs cells slots) (hx : p.tables.exec = Jvm.exec) {pc : Nat} {Ls : Array Slot} {St : List Value} {x y : Int64} (hd : decode c.code pc = .ok (.lor, 1)) (k : own_R p e below s Q ck sk T (mkF m (pc + 1) Ls (.long (x ||| y) :: St))) : own_R p e below s Q ck sk T (mkF m pc Ls (.long y :: .long x :: St)) :=
  own_lift (fun _ q => XS.lor X.here hx rfl hd rfl q) k
theorem own_lshl (X : Stand p l e R s m args below meth c T locs cells slots) (hx : p.tables.exec = Jvm.exec) {pc : Nat} {Ls : Array Slot} {St : List Value} {x : Int64} {y : Int32} (hd : decode c.code pc = .ok (.lshl, 1)) (k : own_R p e below s Q ck sk T (mkF m (pc + 1) Ls (.long (x <<< (y &&& 0x3f).toInt64) :: St))) : own_R p e below s Q ck sk T (mkF m pc Ls (.int y :: .long x :: St)) :=
  own_lift (fun _ q => XS.lshl X.here hx rfl hd rfl q) k
theorem own_lshr (X : Stand p l e R s m args below meth c T locs cells slots) (hx : p.tables.exec = Jvm.exec) {pc : Nat} {Ls : Array Slot} {St : List Value} {x : Int64} {y : Int32} (hd : decode c.code pc = .ok (.lshr, 1)) (k : own_R p e below s Q ck sk T (mkF m (pc + 1) Ls (.long (x >>> (y &&& 0x3f).toInt64) :: St))) : own_R p e below s Q ck sk T (mkF m pc Ls (.int y :: .long x :: St)) :=
  own_lift (fun _ q => XS.lshr X.here hx rfl hd rfl q) k
theorem own_lushr (X : Stand p l e R s m args below meth c T locs cells slots) (hx : p.tables.exec = Jvm.exec) {pc : Nat} {Ls : Array Slot} {St : List Value} {x : Int64} {y : Int32} (hd : decode c.code pc = .ok (.lushr, 1)) (k : own_R p e below s Q ck sk T (mkF m (pc + 1) Ls (.long ((x.toUInt64 >>> (y &&& 0x3f).toInt64.toUInt64).toInt64) :: St))) : own_R p e below s Q ck sk T (mkF m pc Ls (.int y :: .long x :: St)) :=
  own_lift (fun _ q => XS.lushr X.here hx rfl hd rfl q) k
theorem own_i2b (X : Stand p l e R s m args below meth c T locs cells slots) (hx : p.tables.exec = Jvm.exec) {pc : Nat} {Ls : Array Slot} {St : List Value} {x : Int32} (hd : decode c.code pc = .ok (.i2b, 1)) (k : own_R p e below s Q ck sk T (mkF m (pc + 1) Ls (.int x.toInt8.toInt32 :: St))) : own_R p e below s Q ck sk T (mkF m pc Ls (.int x :: St)) :=
  own_lift (fun _ q => XS.i2b X.here hx rfl hd rfl q) k
theorem own_i2s (X : Stand p l e R s m args below meth c T locs cells slots) (hx : p.tables.exec = Jvm.exec) {pc : Nat} {Ls : Array Slot} {St : List Value} {x : Int32} (hd : decode c.code pc = .ok (.i2s, 1)) (k : own_R p e below s Q ck sk T (mkF m (pc + 1) Ls (.int x.toInt16.toInt32 :: St))) : own_R p e below s Q ck sk T (mkF m pc Ls (.int x :: St)) :=
  own_lift (fun _ q => XS.i2s X.here hx rfl hd rfl q) k
theorem own_i2c (X : Stand p l e R s m args below meth c T locs cells slots) (hx : p.tables.exec = Jvm.exec) {pc : Nat} {Ls : Array Slot} {St : List Value} {x : Int32} (hd : decode c.code pc = .ok (.i2c, 1)) (k : own_R p e below s Q ck sk T (mkF m (pc + 1) Ls (.int x.toUInt32.toUInt16.toUInt32.toInt32 :: St))) : own_R p e below s Q ck sk T (mkF m pc Ls (.int x :: St)) :=
  own_lift (fun _ q => XS.i2c X.here hx rfl hd rfl q) k
theorem own_i2l (X : Stand p l e R s m args below meth c T locs cells slots) (hx : p.tables.exec = Jvm.exec) {pc : Nat} {Ls : Array Slot} {St : List Value} {x : Int32} (hd : decode c.code pc = .ok (.i2l, 1)) (k : own_R p e below s Q ck sk T (mkF m (pc + 1) Ls (.long x.toInt64 :: St))) : own_R p e below s Q ck sk T (mkF m pc Ls (.int x :: St)) :=
  own_lift (fun _ q => XS.i2l X.here hx rfl hd rfl q) k
theorem own_l2i (X : Stand p l e R s m args below meth c T locs cells slots) (hx : p.tables.exec = Jvm.exec) {pc : Nat} {Ls : Array Slot} {St : List Value} {x : Int64} (hd : decode c.code pc = .ok (.l2i, 1)) (k : own_R p e below s Q ck sk T (mkF m (pc + 1) Ls (.int x.toInt32 :: St))) : own_R p e below s Q ck sk T (mkF m pc Ls (.long x :: St)) :=
  own_lift (fun _ q => XS.l2i X.here hx rfl hd rfl q) k
theorem own_ineg (X : Stand p l e R s m args below meth c T locs cells slots) (hx : p.tables.exec = Jvm.exec) {pc : Nat} {Ls : Array Slot} {St : List Value} {x : Int32} (hd : decode c.code pc = .ok (.ineg, 1)) (k : own_R p e below s Q ck sk T (mkF m (pc + 1) Ls (.int (-x) :: St))) : own_R p e below s Q ck sk T (mkF m pc Ls (.int x :: St)) :=
  own_lift (fun _ q => XS.ineg X.here hx rfl hd rfl q) k
theorem own_lneg (X : Stand p l e R s m args below meth c T locs cells slots) (hx : p.tables.exec = Jvm.exec) {pc : Nat} {Ls : Array Slot} {St : List Value} {x : Int64} (hd : decode c.code pc = .ok (.lneg, 1)) (k : own_R p e below s Q ck sk T (mkF m (pc + 1) Ls (.long (-x) :: St))) : own_R p e below s Q ck sk T (mkF m pc Ls (.long x :: St)) :=
  own_lift (fun _ q => XS.lneg X.here hx rfl hd rfl q) k
theorem own_iloadN (X : Stand p l e R s m args below meth c T locs cells slots) (hx : p.tables.exec = Jvm.exec) {pc : Nat} {Ls : Array Slot} {St : List Value} {i : Fin 4} {v : Int32} (hd : decode c.code pc = .ok (.iload_n i, 1)) (hl : Ls[i.val]? = some (.val (.int v))) (k : own_R p e below s Q ck sk T (mkF m (pc + 1) Ls (.int v :: St))) : own_R p e below s Q ck sk T (mkF m pc Ls St) :=
  own_lift (fun _ q => XS.iloadN X.here hx rfl hd hl q) k
theorem own_iload (X : Stand p l e R s m args below meth c T locs cells slots) (hx : p.tables.exec = Jvm.exec) {pc : Nat} {Ls : Array Slot} {St : List Value} {i : Nat} {v : Int32} (hd : decode c.code pc = .ok (.iload i, 2)) (hl : Ls[i]? = some (.val (.int v))) (k : own_R p e below s Q ck sk T (mkF m (pc + 2) Ls (.int v :: St))) : own_R p e below s Q ck sk T (mkF m pc Ls St) :=
  own_lift (fun _ q => XS.iload X.here hx rfl hd hl q) k
theorem own_istoreN (X : Stand p l e R s m args below meth c T locs cells slots) (hx : p.tables.exec = Jvm.exec) {pc : Nat} {Ls : Array Slot} {St : List Value} {i : Fin 4} {v : Int32} {l' : Array Slot} (hd : decode c.code pc = .ok (.istore_n i, 1)) (hl : storeLocals Ls i.val (.int v) = some l') (k : own_R p e below s Q ck sk T (mkF m (pc + 1) l' St)) : own_R p e below s Q ck sk T (mkF m pc Ls (.int v :: St)) :=
  own_lift (fun _ q => XS.istoreN X.here hx rfl hd rfl hl q) k
theorem own_istore (X : Stand p l e R s m args below meth c T locs cells slots) (hx : p.tables.exec = Jvm.exec) {pc : Nat} {Ls : Array Slot} {St : List Value} {i : Nat} {v : Int32} {l' : Array Slot} (hd : decode c.code pc = .ok (.istore i, 2)) (hl : storeLocals Ls i (.int v) = some l') (k : own_R p e below s Q ck sk T (mkF m (pc + 2) l' St)) : own_R p e below s Q ck sk T (mkF m pc Ls (.int v :: St)) :=
  own_lift (fun _ q => XS.istore X.here hx rfl hd rfl hl q) k
theorem own_lloadN (X : Stand p l e R s m args below meth c T locs cells slots) (hx : p.tables.exec = Jvm.exec) {pc : Nat} {Ls : Array Slot} {St : List Value} {i : Fin 4} {v : Int64} (hd : decode c.code pc = .ok (.lload_n i, 1)) (hl : Ls[i.val]? = some (.val (.long v))) (k : own_R p e below s Q ck sk T (mkF m (pc + 1) Ls (.long v :: St))) : own_R p e below s Q ck sk T (mkF m pc Ls St) :=
  own_lift (fun _ q => XS.lloadN X.here hx rfl hd hl q) k
theorem own_lload (X : Stand p l e R s m args below meth c T locs cells slots) (hx : p.tables.exec = Jvm.exec) {pc : Nat} {Ls : Array Slot} {St : List Value} {i : Nat} {v : Int64} (hd : decode c.code pc = .ok (.lload i, 2)) (hl : Ls[i]? = some (.val (.long v))) (k : own_R p e below s Q ck sk T (mkF m (pc + 2) Ls (.long v :: St))) : own_R p e below s Q ck sk T (mkF m pc Ls St) :=
  own_lift (fun _ q => XS.lload X.here hx rfl hd hl q) k
theorem own_lstoreN (X : Stand p l e R s m args below meth c T locs cells slots) (hx : p.tables.exec = Jvm.exec) {pc : Nat} {Ls : Array Slot} {St : List Value} {i : Fin 4} {v : Int64} {l' : Array Slot} (hd : decode c.code pc = .ok (.lstore_n i, 1)) (hl : storeLocals Ls i.val (.long v) = some l') (k : own_R p e below s Q ck sk T (mkF m (pc + 1) l' St)) : own_R p e below s Q ck sk T (mkF m pc Ls (.long v :: St)) :=
  own_lift (fun _ q => XS.lstoreN X.here hx rfl hd rfl hl q) k
theorem own_lstore (X : Stand p l e R s m args below meth c T locs cells slots) (hx : p.tables.exec = Jvm.exec) {pc : Nat} {Ls : Array Slot} {St : List Value} {i : Nat} {v : Int64} {l' : Array Slot} (hd : decode c.code pc = .ok (.lstore i, 2)) (hl : storeLocals Ls i (.long v) = some l') (k : own_R p e below s Q ck sk T (mkF m (pc + 2) l' St)) : own_R p e below s Q ck sk T (mkF m pc Ls (.long v :: St)) :=
  own_lift (fun _ q => XS.lstore X.here hx rfl hd rfl hl q) k
theorem own_aloadN (X : Stand p l e R s m args below meth c T locs cells slots) (hx : p.tables.exec = Jvm.exec) {pc : Nat} {Ls : Array Slot} {St : List Value} {i : Fin 4} {v : Value} (hd : decode c.code pc = .ok (.aload_n i, 1)) (hl : Ls[i.val]? = some (.val v)) (hv : v.isRef = true) (k : own_R p e below s Q ck sk T (mkF m (pc + 1) Ls (v :: St))) : own_R p e below s Q ck sk T (mkF m pc Ls St) :=
  own_lift (fun _ q => XS.aloadN X.here hx rfl hd hl hv q) k
theorem own_aload (X : Stand p l e R s m args below meth c T locs cells slots) (hx : p.tables.exec = Jvm.exec) {pc : Nat} {Ls : Array Slot} {St : List Value} {i : Nat} {v : Value} (hd : decode c.code pc = .ok (.aload i, 2)) (hl : Ls[i]? = some (.val v)) (hv : v.isRef = true) (k : own_R p e below s Q ck sk T (mkF m (pc + 2) Ls (v :: St))) : own_R p e below s Q ck sk T (mkF m pc Ls St) :=
  own_lift (fun _ q => XS.aload X.here hx rfl hd hl hv q) k
theorem own_astoreN (X : Stand p l e R s m args below meth c T locs cells slots) (hx : p.tables.exec = Jvm.exec) {pc : Nat} {Ls : Array Slot} {St : List Value} {i : Fin 4} {v : Value} {l' : Array Slot} (hd : decode c.code pc = .ok (.astore_n i, 1)) (hv : v.isRef = true) (hl : storeLocals Ls i.val v = some l') (k : own_R p e below s Q ck sk T (mkF m (pc + 1) l' St)) : own_R p e below s Q ck sk T (mkF m pc Ls (v :: St)) :=
  own_lift (fun _ q => XS.astoreN X.here hx rfl hd rfl hv hl q) k
theorem own_astore (X : Stand p l e R s m args below meth c T locs cells slots) (hx : p.tables.exec = Jvm.exec) {pc : Nat} {Ls : Array Slot} {St : List Value} {i : Nat} {v : Value} {l' : Array Slot} (hd : decode c.code pc = .ok (.astore i, 2)) (hv : v.isRef = true) (hl : storeLocals Ls i v = some l') (k : own_R p e below s Q ck sk T (mkF m (pc + 2) l' St)) : own_R p e below s Q ck sk T (mkF m pc Ls (v :: St)) :=
  own_lift (fun _ q => XS.astore X.here hx rfl hd rfl hv hl q) k
theorem own_iconst (X : Stand p l e R s m args below meth c T locs cells slots) (hx : p.tables.exec = Jvm.exec) {pc : Nat} {Ls : Array Slot} {St : List Value} {i : Int} (v : Int32) (hd : decode c.code pc = .ok (.iconst i, 1)) (hv : Int32.ofInt i = v) (k : own_R p e below s Q ck sk T (mkF m (pc + 1) Ls (.int v :: St))) : own_R p e below s Q ck sk T (mkF m pc Ls St) :=
  own_lift (fun _ q => XS.iconst X.here hx rfl hd (hv ▸ q)) k
theorem own_bipush (X : Stand p l e R s m args below meth c T locs cells slots) (hx : p.tables.exec = Jvm.exec) {pc : Nat} {Ls : Array Slot} {St : List Value} {i : Int} (v : Int32) (hd : decode c.code pc = .ok (.bipush i, 2)) (hv : (Int8.ofInt i).toInt32 = v) (k : own_R p e below s Q ck sk T (mkF m (pc + 2) Ls (.int v :: St))) : own_R p e below s Q ck sk T (mkF m pc Ls St) :=
  own_lift (fun _ q => XS.bipush X.here hx rfl hd (hv ▸ q)) k
theorem own_sipush (X : Stand p l e R s m args below meth c T locs cells slots) (hx : p.tables.exec = Jvm.exec) {pc : Nat} {Ls : Array Slot} {St : List Value} {i : Int} (v : Int32) (hd : decode c.code pc = .ok (.sipush i, 3)) (hv : (Int16.ofInt i).toInt32 = v) (k : own_R p e below s Q ck sk T (mkF m (pc + 3) Ls (.int v :: St))) : own_R p e below s Q ck sk T (mkF m pc Ls St) :=
  own_lift (fun _ q => XS.sipush X.here hx rfl hd (hv ▸ q)) k
theorem own_lconst (X : Stand p l e R s m args below meth c T locs cells slots) (hx : p.tables.exec = Jvm.exec) {pc : Nat} {Ls : Array Slot} {St : List Value} {i : Fin 2} (v : Int64) (hd : decode c.code pc = .ok (.lconst i, 1)) (hv : Int64.ofNat i = v) (k : own_R p e below s Q ck sk T (mkF m (pc + 1) Ls (.long v :: St))) : own_R p e below s Q ck sk T (mkF m pc Ls St) :=
  own_lift (fun _ q => XS.lconst X.here hx rfl hd (hv ▸ q)) k
theorem own_iinc (X : Stand p l e R s m args below meth c T locs cells slots) (hx : p.tables.exec = Jvm.exec) {pc : Nat} {Ls : Array Slot} {St : List Value} {i : Nat} {cst : Int} {x : Int32} (v : Int32) {l' : Array Slot} (hd : decode c.code pc = .ok (.iinc i cst, 3)) (hv : Int32.ofInt cst = v) (hl : Ls[i]? = some (.val (.int x))) (hl' : storeLocals Ls i (.int (x + v)) = some l') (k : own_R p e below s Q ck sk T (mkF m (pc + 3) l' St)) : own_R p e below s Q ck sk T (mkF m pc Ls St) :=
  own_lift (fun _ q => XS.iinc X.here hx rfl hd hl (hv ▸ hl') q) k
theorem own_aconst_null (X : Stand p l e R s m args below meth c T locs cells slots) (hx : p.tables.exec = Jvm.exec) {pc : Nat} {Ls : Array Slot} {St : List Value}  (hd : decode c.code pc = .ok (.aconst_null, 1)) (k : own_R p e below s Q ck sk T (mkF m (pc + 1) Ls (.null :: St))) : own_R p e below s Q ck sk T (mkF m pc Ls St) :=
  own_lift (fun _ q => XS.aconstNull X.here hx rfl hd q) k
theorem own_dup (X : Stand p l e R s m args below meth c T locs cells slots) (hx : p.tables.exec = Jvm.exec) {pc : Nat} {Ls : Array Slot} {St : List Value} {x : Value} (hd : decode c.code pc = .ok (.dup, 1)) (hc : x.category = 1) (k : own_R p e below s Q ck sk T (mkF m (pc + 1) Ls (x :: x :: St))) : own_R p e below s Q ck sk T (mkF m pc Ls (x :: St)) :=
  own_lift (fun _ q => XS.dup X.here hx rfl hd rfl hc q) k
theorem own_dup_x1 (X : Stand p l e R s m args below meth c T locs cells slots) (hx : p.tables.exec = Jvm.exec) {pc : Nat} {Ls : Array Slot} {St : List Value} {x y : Value} (hd : decode c.code pc = .ok (.dup_x1, 1)) (hc : x.category = 1) (hc2 : y.category = 1) (k : own_R p e below s Q ck sk T (mkF m (pc + 1) Ls (x :: y :: x :: St))) : own_R p e below s Q ck sk T (mkF m pc Ls (x :: y :: St)) :=
  own_lift (fun _ q => XS.dupX1 X.here hx rfl hd rfl hc hc2 q) k
theorem own_pop (X : Stand p l e R s m args below meth c T locs cells slots) (hx : p.tables.exec = Jvm.exec) {pc : Nat} {Ls : Array Slot} {St : List Value} {x : Value} (hd : decode c.code pc = .ok (.pop, 1)) (hc : x.category = 1) (k : own_R p e below s Q ck sk T (mkF m (pc + 1) Ls St)) : own_R p e below s Q ck sk T (mkF m pc Ls (x :: St)) :=
  own_lift (fun _ q => XS.pop X.here hx rfl hd rfl hc q) k
theorem own_goto (X : Stand p l e R s m args below meth c T locs cells slots) (hx : p.tables.exec = Jvm.exec) {pc : Nat} {Ls : Array Slot} {St : List Value} {o : Int} {pc' : Nat} (hd : decode c.code pc = .ok (.goto o, 3)) (ho : 0 ≤ (pc : Int) + o) (hp : ((pc : Int) + o).toNat = pc') (k : own_R p e below s Q ck sk T (mkF m pc' Ls St)) : own_R p e below s Q ck sk T (mkF m pc Ls St) :=
  own_lift (fun _ q => XS.goto X.here hx rfl (pc0 := pc) rfl hd ho hp q) k
theorem own_ifnullY (X : Stand p l e R s m args below meth c T locs cells slots) (hx : p.tables.exec = Jvm.exec) {pc : Nat} {Ls : Array Slot} {St : List Value} {o : Int} {pc' : Nat} (hd : decode c.code pc = .ok (.ifnull o, 3)) (ho : 0 ≤ (pc : Int) + o) (hp : ((pc : Int) + o).toNat = pc') (k : own_R p e below s Q ck sk T (mkF m pc' Ls St)) : own_R p e below s Q ck sk T (mkF m pc Ls (.null :: St)) :=
  own_lift (fun _ q => XS.ifnullYes X.here hx rfl (pc0 := pc) rfl hd rfl ho hp q) k
theorem own_ifnullN (X : Stand p l e R s m args below meth c T locs cells slots) (hx : p.tables.exec = Jvm.exec) {pc : Nat} {Ls : Array Slot} {St : List Value} {o : Int} {b : Addr} (hd : decode c.code pc = .ok (.ifnull o, 3)) (k : own_R p e below s Q ck sk T (mkF m (pc + 3) Ls St)) : own_R p e below s Q ck sk T (mkF m pc Ls (.ref b :: St)) :=
  own_lift (fun _ q => XS.ifnullNo X.here hx rfl hd rfl q) k
theorem own_ifnonnullY (X : Stand p l e R s m args below meth c T locs cells slots) (hx : p.tables.exec = Jvm.exec) {pc : Nat} {Ls : Array Slot} {St : List Value} {o : Int} {pc' : Nat} {b : Addr} (hd : decode c.code pc = .ok (.ifnonnull o, 3)) (ho : 0 ≤ (pc : Int) + o) (hp : ((pc : Int) + o).toNat = pc') (k : own_R p e below s Q ck sk T (mkF m pc' Ls St)) : own_R p e below s Q ck sk T (mkF m pc Ls (.ref b :: St)) :=
  own_lift (fun _ q => XS.ifnonnullYes X.here hx rfl (pc0 := pc) rfl hd rfl ho hp q) k
theorem own_ifnonnullN (X : Stand p l e R s m args below meth c T locs cells slots) (hx : p.tables.exec = Jvm.exec) {pc : Nat} {Ls : Array Slot} {St : List Value} {o : Int} (hd : decode c.code pc = .ok (.ifnonnull o, 3)) (k : own_R p e below s Q ck sk T (mkF m (pc + 3) Ls St)) : own_R p e below s Q ck sk T (mkF m pc Ls (.null :: St)) :=
  own_lift (fun _ q => XS.ifnonnullNo X.here hx rfl hd rfl q) k
theorem own_irem (X : Stand p l e R s m args below meth c T locs cells slots) (hx : p.tables.exec = Jvm.exec) {pc : Nat} {Ls : Array Slot} {St : List Value} {x y : Int32} (hd : decode c.code pc = .ok (.irem, 1)) (hy : y ≠ 0) (k : own_R p e below s Q ck sk T (mkF m (pc + 1) Ls (.int (x % y) :: St))) : own_R p e below s Q ck sk T (mkF m pc Ls (.int y :: .int x :: St)) :=
  own_lift (fun _ q => iremM X hx rfl hd rfl hy q) k
theorem own_ldc (X : Stand p l e R s m args below meth c T locs cells slots) (hx : p.tables.exec = Jvm.exec) (hZ : Z.Warmed39 s.vm) {own : String} {index : Nat} {v : Int32} (hown : s.vm.findClass own = some m.cls) (w : (Cond.constant own index v).before a0 Z = true) {pc : Nat} {Ls : Array Slot} {St : List Value} (hd : decode c.code pc = .ok (.ldc index, 2)) (k : own_R p e below s Q ck sk T (mkF m (pc + 2) Ls (.int v :: St))) : own_R p e below s Q ck sk T (mkF m pc Ls St) :=
  own_lift (fun _ q => X.ldcInt hx hown (mvT hZ w) (g := mkF m pc Ls St) rfl hd _ q) k
theorem own_ldc2 (X : Stand p l e R s m args below meth c T locs cells slots) (hx : p.tables.exec = Jvm.exec) (hZ : Z.Warmed39 s.vm) {own : String} {index : Nat} {v : Int64} (hown : s.vm.findClass own = some m.cls) (w : (Cond.constantLong own index v).before a0 Z = true) {pc : Nat} {Ls : Array Slot} {St : List Value} (hd : decode c.code pc = .ok (.ldc2_w index, 3)) (k : own_R p e below s Q ck sk T (mkF m (pc + 3) Ls (.long v :: St))) : own_R p e below s Q ck sk T (mkF m pc Ls St) :=
  own_lift (fun _ q => X.ldc2Long hx hown (mvT hZ w) (g := mkF m pc Ls St) rfl hd _ q) k
theorem own_dup2 (X : Stand p l e R s m args below meth c T locs cells slots) (hx : p.tables.exec = Jvm.exec) {pc : Nat} {Ls : Array Slot} {St : List Value} {x y : Value} (hd : decode c.code pc = .ok (.dup2, 1)) (h1 : x.category = 1) (h2 : y.category = 1) (k : own_R p e below s Q ck sk T (mkF m (pc + 1) Ls (x :: y :: x :: y :: St))) : own_R p e below s Q ck sk T (mkF m pc Ls (x :: y :: St)) :=
  own_lift (fun _ q => by
    show Steps p.tables e below (T.setTop { method := m, pc := pc, locals := Ls, stack := x :: y :: St, locked := none }) _
    jvm_step X.here [X.here.top, hx, hd, h1, h2]
    exact q) k
/-! branches: both ways -/
theorem own_icmp (X : Stand p l e R s m args below meth c T locs cells slots) (hx : p.tables.exec = Jvm.exec) {pc pc' : Nat} {Ls : Array Slot} {St : List Value} {x y : Int32} {cd : ClassFile.Cond} {o : Int} (hd : decode c.code pc = .ok (.if_icmp cd o, 3)) (ho : 0 ≤ (pc : Int) + o) (hp : ((pc : Int) + o).toNat = pc')
    (k1 : if_icmp.holds cd x y = true → own_R p e below s Q ck sk T (mkF m pc' Ls St)) (k2 : if_icmp.holds cd x y = false → own_R p e below s Q ck sk T (mkF m (pc + 3) Ls St)) : own_R p e below s Q ck sk T (mkF m pc Ls (.int y :: .int x :: St)) := by
  cases hc : if_icmp.holds cd x y
  · exact own_lift (fun _ q => XS.icmpNo X.here hx rfl hd rfl hc q) (k2 hc)
  · exact own_lift (fun _ q => XS.icmpYes X.here hx rfl (pc0 := pc) rfl hd rfl hc ho hp q) (k1 hc)
theorem own_if (X : Stand p l e R s m args below meth c T locs cells slots) (hx : p.tables.exec = Jvm.exec) {pc pc' : Nat} {Ls : Array Slot} {St : List Value} {x : Int32} {cd : ClassFile.Cond} {o : Int} (hd : decode c.code pc = .ok (.ifCond cd o, 3)) (ho : 0 ≤ (pc : Int) + o) (hp : ((pc : Int) + o).toNat = pc')
    (k1 : if_icmp.holds cd x 0 = true → own_R p e below s Q ck sk T (mkF m pc' Ls St)) (k2 : if_icmp.holds cd x 0 = false → own_R p e below s Q ck sk T (mkF m (pc + 3) Ls St)) : own_R p e below s Q ck sk T (mkF m pc Ls (.int x :: St)) := by
  cases hc : if_icmp.holds cd x 0
  · exact own_lift (fun _ q => XS.ifNo X.here hx rfl hd rfl ((if0 _ _).trans hc) q) (k2 hc)
  · exact own_lift (fun _ q => XS.ifYes X.here hx rfl (pc0 := pc) rfl hd rfl ((if0 _ _).trans hc) ho hp q) (k1 hc)
theorem own_lt1 {x y : Int32} (q : if_icmp.holds .lt x y = true) : x < y := by simpa [if_icmp.holds] using q
theorem own_lt0 {x y : Int32} (q : if_icmp.holds .lt x y = false) : ¬ x < y := by simpa [if_icmp.holds] using q
theorem own_ge1 {x y : Int32} (q : if_icmp.holds .ge x y = true) : ¬ x < y := by simpa [if_icmp.holds] using q
theorem own_ge0 {x y : Int32} (q : if_icmp.holds .ge x y = false) : x < y := by simpa [if_icmp.holds] using q
theorem own_gt1 {x y : Int32} (q : if_icmp.holds .gt x y = true) : y < x := by simpa [if_icmp.holds] using q
theorem own_gt0 {x y : Int32} (q : if_icmp.holds .gt x y = false) : ¬ y < x := by simpa [if_icmp.holds] using q
theorem own_le1 {x y : Int32} (q : if_icmp.holds .le x y = true) : ¬ y < x := by simpa [if_icmp.holds] using q
theorem own_le0 {x y : Int32} (q : if_icmp.holds .le x y = false) : y < x := by simpa [if_icmp.holds] using q
theorem own_eq1 {x y : Int32} (q : if_icmp.holds .eq x y = true) : x = y := by simpa [if_icmp.holds] using q
theorem own_eq0 {x y : Int32} (q : if_icmp.holds .eq x y = false) : ¬ x = y := by simpa [if_icmp.holds] using q
theorem own_ne1 {x y : Int32} (q : if_icmp.holds .ne x y = true) : ¬ x = y := by simpa [if_icmp.holds] using q
theorem own_ne0 {x y : Int32} (q : if_icmp.holds .ne x y = false) : x = y := by simpa [if_icmp.holds] using q
/-! lcmp and the branch behind it, in one -/
theorem own_lcmp (X : Stand p l e R s m args below meth c T locs cells slots) (hx : p.tables.exec = Jvm.exec) {pc pc' : Nat} {Ls : Array Slot} {St : List Value} {x y : Int64} {cd : ClassFile.Cond} {o : Int} (hd1 : decode c.code pc = .ok (.lcmp, 1)) (hd : decode c.code (pc + 1) = .ok (.ifCond cd o, 3)) (ho : 0 ≤ ((pc + 1 : Nat) : Int) + o) (hp : (((pc + 1 : Nat) : Int) + o).toNat = pc')
    (k1 : if_icmp.holds cd (lcmpW x y) 0 = true → own_R p e below s Q ck sk T (mkF m pc' Ls St)) (k2 : if_icmp.holds cd (lcmpW x y) 0 = false → own_R p e below s Q ck sk T (mkF m (pc + 4) Ls St)) : own_R p e below s Q ck sk T (mkF m pc Ls (.long y :: .long x :: St)) :=
  own_lift (fun _ q => XS.lcmp X.here hx rfl hd1 rfl q) (own_if X hx hd ho hp k1 k2)
theorem own_llt1 {x y : Int64} (q : if_icmp.holds .lt (lcmpW x y) 0 = true) : x < y := (lw_lt x y).mp (own_lt1 q)
theorem own_llt0 {x y : Int64} (q : if_icmp.holds .lt (lcmpW x y) 0 = false) : ¬ x < y := fun z => own_lt0 q ((lw_lt x y).mpr z)
theorem own_lge1 {x y : Int64} (q : if_icmp.holds .ge (lcmpW x y) 0 = true) : ¬ x < y := fun z => own_ge1 q ((lw_lt x y).mpr z)
theorem own_lge0 {x y : Int64} (q : if_icmp.holds .ge (lcmpW x y) 0 = false) : x < y := (lw_lt x y).mp (own_ge0 q)
theorem own_lgt1 {x y : Int64} (q : if_icmp.holds .gt (lcmpW x y) 0 = true) : y < x := (lw_gt x y).mp (own_gt1 q)
theorem own_lgt0 {x y : Int64} (q : if_icmp.holds .gt (lcmpW x y) 0 = false) : ¬ y < x := fun z => own_gt0 q ((lw_gt x y).mpr z)
theorem own_lle1 {x y : Int64} (q : if_icmp.holds .le (lcmpW x y) 0 = true) : ¬ y < x := fun z => own_le1 q ((lw_gt x y).mpr z)
theorem own_lle0 {x y : Int64} (q : if_icmp.holds .le (lcmpW x y) 0 = false) : y < x := (lw_gt x y).mp (own_le0 q)
theorem own_leq1 {x y : Int64} (q : if_icmp.holds .eq (lcmpW x y) 0 = true) : x = y := (lw_eq x y).mp (own_eq1 q)
theorem own_leq0 {x y : Int64} (q : if_icmp.holds .eq (lcmpW x y) 0 = false) : ¬ x = y := fun z => own_eq0 q ((lw_eq x y).mpr z)
theorem own_lne1 {x y : Int64} (q : if_icmp.holds .ne (lcmpW x y) 0 = true) : ¬ x = y := fun z => own_ne1 q ((lw_eq x y).mpr z)
theorem own_lne0 {x y : Int64} (q : if_icmp.holds .ne (lcmpW x y) 0 = false) : x = y := (lw_eq x y).mp (own_ne0 q)
/-! returns -/
theorem own_ret0 (X : Stand p l e R s m args below meth c T locs cells slots) (hx : p.tables.exec = Jvm.exec) {pc : Nat} {Ls : Array Slot} (hret : meth.sig.returnType = none) (hlk : meth.locks = false) (hd : decode c.code pc = .ok (.return_, 1)) (hQ : Q none T.heap locs) (hc : cells ≤ ck) (hs : slots ≤ sk) : own_R p e below s Q ck sk T (mkF m pc Ls []) := by
  obtain ⟨fs, hr, hrun, hended, hW, hsame⟩ := X.leave (v := none) (fun _ => rfl) hlk
  exact ⟨_, _, X.returnOut hx hret hd hr, hrun, hended, _, _, rfl, hQ, ⟨_, rfl⟩, hW, hsame.mono hc hs⟩
theorem own_retN (X : Stand p l e R s m args below meth c T locs cells slots) (hx : p.tables.exec = Jvm.exec) {pc : Nat} {Ls : Array Slot} {St : List Value} {z : Int32} {t : FieldType} (hret : meth.sig.returnType = some t) (ht : t = .boolean ∨ t = .byte ∨ t = .char ∨ t = .short) (hlk : meth.locks = false) (hd : decode c.code pc = .ok (.ireturn, 1)) (hQ : Q (some (.int (nar t z))) T.heap locs) (hc : cells ≤ ck) (hs : slots ≤ sk) : own_R p e below s Q ck sk T (mkF m pc Ls (.int z :: St)) := by
  obtain ⟨fs, hr, hrun, hended, hW, hsame⟩ := X.leave (v := some (.int (nar t z))) (fun h => by rw [hret] at h; cases h) hlk
  exact ⟨_, _, retN X hx hret ht hd hr, hrun, hended, _, _, rfl, hQ, ⟨_, rfl⟩, hW, hsame.mono hc hs⟩
theorem own_retV (X : Stand p l e R s m args below meth c T locs cells slots) (hx : p.tables.exec = Jvm.exec) {pc : Nat} {Ls : Array Slot} {St : List Value} {w : Value} {t : FieldType} {i : Instr} (hret : meth.sig.returnType = some t) (hn : narrow t w = w)
    (hi : (i = .ireturn ∧ (t = .int ∨ t = .boolean ∨ t = .byte ∨ t = .char ∨ t = .short) ∧ ∃ z, w = .int z) ∨ (i = .lreturn ∧ t = .long ∧ ∃ z, w = .long z) ∨ (i = .dreturn ∧ t = .double ∧ ∃ z, w = .double z) ∨ (i = .freturn ∧ t = .float ∧ ∃ z, w = .float z) ∨ (i = .areturn ∧ t.isReference = true ∧ w.isRef = true)) (hlk : meth.locks = false)
    (hd : decode c.code pc = .ok (i, 1)) (hQ : Q (some w) T.heap locs) (hc : cells ≤ ck) (hs : slots ≤ sk) : own_R p e below s Q ck sk T (mkF m pc Ls (w :: St)) := by
  obtain ⟨fs, hr, hrun, hended, hW, hsame⟩ := X.leave (v := some w) (fun h => by rw [hret] at h; cases h) hlk
  exact ⟨_, _, retOut X hx hret hn hi hd hr, hrun, hended, _, _, rfl, hQ, ⟨_, rfl⟩, hW, hsame.mono hc hs⟩
theorem own_retI (X : Stand p l e R s m args below meth c T locs cells slots) (hx : p.tables.exec = Jvm.exec) {pc : Nat} {Ls : Array Slot} {St : List Value} {z : Int32} (hret : meth.sig.returnType = some .int) (hlk : meth.locks = false) (hd : decode c.code pc = .ok (.ireturn, 1)) (hQ : Q (some (.int z)) T.heap locs) (hc : cells ≤ ck) (hs : slots ≤ sk) : own_R p e below s Q ck sk T (mkF m pc Ls (.int z :: St)) :=
  own_retV X hx hret rfl (Or.inl ⟨rfl, Or.inl rfl, _, rfl⟩) hlk hd hQ hc hs
theorem own_retJ (X : Stand p l e R s m args below meth c T locs cells slots) (hx : p.tables.exec = Jvm.exec) {pc : Nat} {Ls : Array Slot} {St : List Value} {z : Int64} (hret : meth.sig.returnType = some .long) (hlk : meth.locks = false) (hd : decode c.code pc = .ok (.lreturn, 1)) (hQ : Q (some (.long z)) T.heap locs) (hc : cells ≤ ck) (hs : slots ≤ sk) : own_R p e below s Q ck sk T (mkF m pc Ls (.long z :: St)) :=
  own_retV X hx hret rfl (Or.inr (Or.inl ⟨rfl, rfl, _, rfl⟩)) hlk hd hQ hc hs
theorem own_retA (X : Stand p l e R s m args below meth c T locs cells slots) (hx : p.tables.exec = Jvm.exec) {pc : Nat} {Ls : Array Slot} {St : List Value} {w : Value} {t : FieldType} (hret : meth.sig.returnType = some t) (ht : t.isReference = true) (hw : w.isRef = true) (hlk : meth.locks = false) (hd : decode c.code pc = .ok (.areturn, 1)) (hQ : Q (some w) T.heap locs) (hc : cells ≤ ck) (hs : slots ≤ sk) : own_R p e below s Q ck sk T (mkF m pc Ls (w :: St)) :=
  own_retV X hx hret (by rcases ref_cases hw with rfl | ⟨a, rfl⟩ <;> cases t <;> first | rfl | (cases ht)) (Or.inr (Or.inr (Or.inr (Or.inr ⟨rfl, ht, hw⟩)))) hlk hd hQ hc hs
/-! the heap -/
theorem own_getF (X : Stand p l e R s m args below meth c T locs cells slots) (hx : p.tables.exec = Jvm.exec) (hZ : Z.Warmed39 s.vm) {own R0 O n d host : String} {index : Nat} (hown : s.vm.findClass own = some m.cls) (w : (Cond.fieldLink own index R0 n d).before a0 Z = true ∨ (Cond.fieldLinkNest own index R0 n d host).before a0 Z = true) (via : Via Z R0 O n d) (eT : T.heap = h) {a : Addr} {v : Value} (F : Fld Z h a O n d v) {pc : Nat} {Ls : Array Slot} {St : List Value} (hd : decode c.code pc = .ok (.getfield index, 3))
    (k : ∀ T', Stand p l e R s m args below meth c T' locs cells slots → T'.heap = h → own_R p e below s Q ck sk T' (mkF m (pc + 3) Ls (v :: St))) : own_R p e below s Q ck sk T (mkF m pc Ls (.ref a :: St)) := by
  obtain ⟨T', X', e', st⟩ := getF X hx hZ hown w via eT F (g := mkF m pc Ls (.ref a :: St)) rfl rfl hd
  exact own_lift st (k T' X' e')
theorem own_putF (X : Stand p l e R s m args below meth c T locs cells slots) (hx : p.tables.exec = Jvm.exec) (hZ : Z.Warmed39 s.vm) {own R0 O n d host C : String} {index kk : Nat} {ty : FieldType} (hown : s.vm.findClass own = some m.cls) (w : (Cond.fieldLink own index R0 n d).before a0 Z = true ∨ (Cond.fieldLinkNest own index R0 n d host).before a0 Z = true) (via : Via Z R0 O n d)
    (eT : T.heap = h) {a : Addr} {v old : Value} (F : Fld Z h a O n d old) (E : Exa Z h a C) (L : (Cond.lays C O n d).before a0 Z = true ∨ ((Cond.laysFinal C O n d).before a0 Z = true ∧ own = O ∧ meth.name = "<init>")) (wi : (Cond.instantiable C kk).before a0 Z = true)
    (hty : parseFieldDescriptor d = some ty) (hn : narrow ty v = v) (hf : fits ty v = true) {pc : Nat} {Ls : Array Slot} {St : List Value} (hd : decode c.code pc = .ok (.putfield index, 3))
    (k : ∀ T' h', Stand p l e R s m args below meth c T' (locs ++ [⟨a, Jvm.RoadKit.slotOf Z O n d⟩]) cells slots → T'.heap = h' → Wr h h' a (Jvm.RoadKit.slotOf Z O n d) v → own_R p e below s Q ck sk T' (mkF m (pc + 3) Ls St)) : own_R p e below s Q ck sk T (mkF m pc Ls (v :: .ref a :: St)) := by
  obtain ⟨T', h', X', e', W, st⟩ := putF X hx hZ hown w via eT F E L wi hty hn hf (g := mkF m pc Ls (v :: .ref a :: St)) rfl rfl hd
  exact own_lift st (k T' h' X' e' W)
theorem own_putFN (X : Stand p l e R s m args below meth c T locs cells slots) (hx : p.tables.exec = Jvm.exec) (hZ : Z.Warmed39 s.vm) {own R0 O n d C : String} {index kk : Nat} {ty : FieldType} (hown : s.vm.findClass own = some m.cls) (w : (Cond.fieldLink own index R0 n d).before a0 Z = true) (via : Via Z R0 O n d)
    (eT : T.heap = h) {a : Addr} {v v' old : Value} (F : Fld Z h a O n d old) (E : Exa Z h a C) (L : (Cond.lays C O n d).before a0 Z = true ∨ ((Cond.laysFinal C O n d).before a0 Z = true ∧ own = O ∧ meth.name = "<init>")) (wi : (Cond.instantiable C kk).before a0 Z = true)
    (hty : parseFieldDescriptor d = some ty) (hn : narrow ty v = v') (hf : fits ty v' = true) {pc : Nat} {Ls : Array Slot} {St : List Value} (hd : decode c.code pc = .ok (.putfield index, 3))
    (k : ∀ T' h', Stand p l e R s m args below meth c T' (locs ++ [⟨a, Jvm.RoadKit.slotOf Z O n d⟩]) cells slots → T'.heap = h' → Wr h h' a (Jvm.RoadKit.slotOf Z O n d) v' → own_R p e below s Q ck sk T' (mkF m (pc + 3) Ls St)) : own_R p e below s Q ck sk T (mkF m pc Ls (v :: .ref a :: St)) := by
  obtain ⟨T', h', X', e', W, st⟩ := putFN X hx hZ hown w via eT F E L wi hty hn hf (g := mkF m pc Ls (v :: .ref a :: St)) rfl rfl hd
  exact own_lift st (k T' h' X' e' W)
theorem own_new (X : Stand p l e R s m args below meth c T locs cells slots) (hx : p.tables.exec = Jvm.exec) (hZ : Z.Warmed39 s.vm) {own C : String} {index n : Nat} (hown : s.vm.findClass own = some m.cls) (w : (Cond.classLink own index C).before a0 Z = true) (wi : (Cond.instantiable C n).before a0 Z = true) (wz : (Cond.initialized C).before a0 Z = true) (eT : T.heap = h) {pc : Nat} {Ls : Array Slot} {St : List Value} (hd : decode c.code pc = .ok (.new index, 3)) (hc : cells + 1 ≤ R.cells) (hl : slots + n ≤ R.slots)
    (k : ∀ T' h' b, b = h.size → Stand p l e R s m args below meth c T' locs (cells + 1) (slots + n) → T'.heap = h' → Ext h h' → Exa Z h' b C → (∀ {O nm d : String} {ty : FieldType}, Laid Z a0 C O nm d → parseFieldDescriptor d = some ty → Fld Z h' b O nm d (defaultValue ty)) → own_R p e below s Q ck sk T' (mkF m (pc + 3) Ls (.ref b :: St))) : own_R p e below s Q ck sk T (mkF m pc Ls St) := by
  obtain ⟨T', h', X', e', E, A, D, -, st⟩ := newO X hx hZ hown w wi wz eT (g := mkF m pc Ls St) rfl hd hc hl
  exact own_lift st (k T' h' _ rfl X' e' E A D)
theorem own_newA (X : Stand p l e R s m args below meth c T locs cells slots) (hx : p.tables.exec = Jvm.exec) (hZ : Z.Warmed39 s.vm) {aty : ArrayType} (w : (Cond.arrayClass (newarray.typeOf aty)).before a0 Z = true) (eT : T.heap = h) {pc : Nat} {Ls : Array Slot} {St : List Value} {n : Int32} (hd : decode c.code pc = .ok (.newarray aty, 2)) (hn : ¬ n < 0) (cap : Nat) (hcap : n.toNatClampNeg ≤ cap) (hb : cap * 8 ≤ 536870912) (hc : cells + 1 ≤ R.cells) (hl : slots + cap ≤ R.slots) {ad : String} (had : "[" ++ (newarray.typeOf aty).toString = ad) (N : Nat)
    (k : ∀ T' h' b kA, b = h.size → Stand p l e R s m args below meth c T' locs (cells + 1) (slots + cap) → T'.heap = h' → Ext h h' → Arv Z h' b kA (newarray.typeOf aty) n (List.replicate N (defaultValue (newarray.typeOf aty))) (defaultValue (newarray.typeOf aty)) → Exa Z h' b ad → own_R p e below s Q ck sk T' (mkF m (pc + 2) Ls (.ref b :: St))) : own_R p e below s Q ck sk T (mkF m pc Ls (.int n :: St)) := by
  obtain ⟨T', h', kA, X', e', E, A, EA, st⟩ := newPE X hx hZ w eT (g := mkF m pc Ls (.int n :: St)) rfl hd rfl hn hcap hb hc hl had
  have V := (Arv.new A hn).pad (vs' := List.replicate N (defaultValue (newarray.typeOf aty))) (fun i => pad_rep [] (defaultValue (newarray.typeOf aty)) N i)
  exact own_lift st (k T' h' _ kA rfl X' e' E V EA)
theorem own_len (X : Stand p l e R s m args below meth c T locs cells slots) (hx : p.tables.exec = Jvm.exec) (hZ : Z.Warmed39 s.vm) (eT : T.heap = h) {a : Addr} {kA : ClassId} {ty : FieldType} {n : Int32} {vs : List Value} {dv : Value} (V : Arv Z h a kA ty n vs dv) {pc : Nat} {Ls : Array Slot} {St : List Value} (hd : decode c.code pc = .ok (.arraylength, 1))
    (k : own_R p e below s Q ck sk T (mkF m (pc + 1) Ls (.int n :: St))) : own_R p e below s Q ck sk T (mkF m pc Ls (.ref a :: St)) := by
  obtain ⟨cl, A, -, S, N, -⟩ := V
  rw [← len_of S N] at k
  exact own_lift (fun _ q => X.arraylength hx (by rw [eT]; exact A.1) (State.isArrayOf_alike hZ.alike A.2.1) (g := mkF m pc Ls (.ref a :: St)) rfl rfl hd _ q) k
theorem own_baload (X : Stand p l e R s m args below meth c T locs cells slots) (hx : p.tables.exec = Jvm.exec) (hZ : Z.Warmed39 s.vm) (eT : T.heap = h) {a : Addr} {kA : ClassId} {n : Int32} {vs : List Value} {dv v : Value} (V : Arv Z h a kA .byte n vs dv) {pc : Nat} {Ls : Array Slot} {St : List Value} {j : Int32} (hj : ¬ j < 0 ∧ j < n) (hv : vs.getD j.toNatClampNeg dv = v) (hd : decode c.code pc = .ok (.baload, 1))
    (k : own_R p e below s Q ck sk T (mkF m (pc + 1) Ls (v :: St))) : own_R p e below s Q ck sk T (mkF m pc Ls (.int j :: .ref a :: St)) := by
  obtain ⟨cl, A, -, S, N, H, -⟩ := V
  have hin := inb_of S hj
  exact own_lift (fun _ q => X.baloadBytes hx (by rw [eT]; exact A.1) (State.isArrayOf_alike hZ.alike A.2.1) A.2.2 hin (H.at hin hv) (g := mkF m pc Ls (.int j :: .ref a :: St)) rfl rfl hd _ q) k
theorem own_zaload (X : Stand p l e R s m args below meth c T locs cells slots) (hx : p.tables.exec = Jvm.exec) (hZ : Z.Warmed39 s.vm) (eT : T.heap = h) {a : Addr} {kA : ClassId} {n : Int32} {vs : List Value} {dv v : Value} (V : Arv Z h a kA .boolean n vs dv) {pc : Nat} {Ls : Array Slot} {St : List Value} {j : Int32} (hj : ¬ j < 0 ∧ j < n) (hv : vs.getD j.toNatClampNeg dv = v) (hd : decode c.code pc = .ok (.baload, 1))
    (k : own_R p e below s Q ck sk T (mkF m (pc + 1) Ls (v :: St))) : own_R p e below s Q ck sk T (mkF m pc Ls (.int j :: .ref a :: St)) := by
  obtain ⟨cl, A, -, S, N, H, -⟩ := V
  have hin := inb_of S hj
  exact own_lift (fun _ q => X.baloadBooleans hx (by rw [eT]; exact A.1) (State.isArrayOf_alike hZ.alike A.2.1) A.2.2 hin (H.at hin hv) (g := mkF m pc Ls (.int j :: .ref a :: St)) rfl rfl hd _ q) k
theorem own_caload (X : Stand p l e R s m args below meth c T locs cells slots) (hx : p.tables.exec = Jvm.exec) (hZ : Z.Warmed39 s.vm) (eT : T.heap = h) {a : Addr} {kA : ClassId} {n : Int32} {vs : List Value} {dv v : Value} (V : Arv Z h a kA .char n vs dv) {pc : Nat} {Ls : Array Slot} {St : List Value} {j : Int32} (hj : ¬ j < 0 ∧ j < n) (hv : vs.getD j.toNatClampNeg dv = v) (hd : decode c.code pc = .ok (.caload, 1))
    (k : own_R p e below s Q ck sk T (mkF m (pc + 1) Ls (v :: St))) : own_R p e below s Q ck sk T (mkF m pc Ls (.int j :: .ref a :: St)) := by
  obtain ⟨cl, A, -, S, N, H, -⟩ := V
  have hin := inb_of S hj
  exact own_lift (fun _ q => X.caload hx (by rw [eT]; exact A.1) (State.isArrayOf_alike hZ.alike A.2.1) A.2.2 hin (H.at hin hv) (g := mkF m pc Ls (.int j :: .ref a :: St)) rfl rfl hd _ q) k
theorem own_iaload (X : Stand p l e R s m args below meth c T locs cells slots) (hx : p.tables.exec = Jvm.exec) (hZ : Z.Warmed39 s.vm) (eT : T.heap = h) {a : Addr} {kA : ClassId} {n : Int32} {vs : List Value} {dv v : Value} (V : Arv Z h a kA .int n vs dv) {pc : Nat} {Ls : Array Slot} {St : List Value} {j : Int32} (hj : ¬ j < 0 ∧ j < n) (hv : vs.getD j.toNatClampNeg dv = v) (hd : decode c.code pc = .ok (.iaload, 1))
    (k : own_R p e below s Q ck sk T (mkF m (pc + 1) Ls (v :: St))) : own_R p e below s Q ck sk T (mkF m pc Ls (.int j :: .ref a :: St)) := by
  obtain ⟨cl, A, -, S, N, H, -⟩ := V
  have hin := inb_of S hj
  exact own_lift (fun _ q => X.iaload hx (by rw [eT]; exact A.1) (State.isArrayOf_alike hZ.alike A.2.1) A.2.2 hin (H.at hin hv) (g := mkF m pc Ls (.int j :: .ref a :: St)) rfl rfl hd _ q) k
theorem own_bastore (X : Stand p l e R s m args below meth c T locs cells slots) (hx : p.tables.exec = Jvm.exec) (hZ : Z.Warmed39 s.vm) (eT : T.heap = h) {a : Addr} {kA : ClassId} {n : Int32} {vs : List Value} {dv : Value} (V : Arv Z h a kA .byte n vs dv) {pc : Nat} {Ls : Array Slot} {St : List Value} {j x x' : Int32} (hn : nar .byte x = x') (hj : ¬ j < 0 ∧ j < n) (i : Nat) (hi : j.toNatClampNeg = i) (hl : i < vs.length) (hd : decode c.code pc = .ok (.bastore, 1))
    (k : ∀ T' h', Stand p l e R s m args below meth c T' (locs ++ [⟨a, j.toNatClampNeg⟩]) cells slots → T'.heap = h' → Wr h h' a j.toNatClampNeg (.int x') → Arv Z h' a kA .byte n (vs.set i (.int x')) dv → own_R p e below s Q ck sk T' (mkF m (pc + 1) Ls St)) : own_R p e below s Q ck sk T (mkF m pc Ls (.int x :: .int j :: .ref a :: St)) := by
  obtain ⟨cl, A, q1, S, N, H, G⟩ := V
  have hin := inb_of S hj
  obtain ⟨T', h', X', e', W, st⟩ := stB X hx hZ eT A hin (g := mkF m pc Ls (.int x :: .int j :: .ref a :: St)) rfl rfl hd
  subst hn
  exact own_lift st (k T' h' X' e' W (Arv.set A q1 S N H G (fits_nar_byte _) W i hi hl))
theorem own_zastore (X : Stand p l e R s m args below meth c T locs cells slots) (hx : p.tables.exec = Jvm.exec) (hZ : Z.Warmed39 s.vm) (eT : T.heap = h) {a : Addr} {kA : ClassId} {n : Int32} {vs : List Value} {dv : Value} (V : Arv Z h a kA .boolean n vs dv) {pc : Nat} {Ls : Array Slot} {St : List Value} {j x x' : Int32} (hn : nar .boolean x = x') (hj : ¬ j < 0 ∧ j < n) (i : Nat) (hi : j.toNatClampNeg = i) (hl : i < vs.length) (hd : decode c.code pc = .ok (.bastore, 1))
    (k : ∀ T' h', Stand p l e R s m args below meth c T' (locs ++ [⟨a, j.toNatClampNeg⟩]) cells slots → T'.heap = h' → Wr h h' a j.toNatClampNeg (.int x') → Arv Z h' a kA .boolean n (vs.set i (.int x')) dv → own_R p e below s Q ck sk T' (mkF m (pc + 1) Ls St)) : own_R p e below s Q ck sk T (mkF m pc Ls (.int x :: .int j :: .ref a :: St)) := by
  obtain ⟨cl, A, q1, S, N, H, G⟩ := V
  have hin := inb_of S hj
  obtain ⟨T', h', X', e', W, st⟩ := stZ X hx hZ eT A hin (g := mkF m pc Ls (.int x :: .int j :: .ref a :: St)) rfl rfl hd
  subst hn
  exact own_lift st (k T' h' X' e' W (Arv.set A q1 S N H G (fits_nar_bool _) W i hi hl))
theorem own_castore (X : Stand p l e R s m args below meth c T locs cells slots) (hx : p.tables.exec = Jvm.exec) (hZ : Z.Warmed39 s.vm) (eT : T.heap = h) {a : Addr} {kA : ClassId} {n : Int32} {vs : List Value} {dv : Value} (V : Arv Z h a kA .char n vs dv) {pc : Nat} {Ls : Array Slot} {St : List Value} {j x x' : Int32} (hn : nar .char x = x') (hj : ¬ j < 0 ∧ j < n) (i : Nat) (hi : j.toNatClampNeg = i) (hl : i < vs.length) (hd : decode c.code pc = .ok (.castore, 1))
    (k : ∀ T' h', Stand p l e R s m args below meth c T' (locs ++ [⟨a, j.toNatClampNeg⟩]) cells slots → T'.heap = h' → Wr h h' a j.toNatClampNeg (.int x') → Arv Z h' a kA .char n (vs.set i (.int x')) dv → own_R p e below s Q ck sk T' (mkF m (pc + 1) Ls St)) : own_R p e below s Q ck sk T (mkF m pc Ls (.int x :: .int j :: .ref a :: St)) := by
  obtain ⟨cl, A, q1, S, N, H, G⟩ := V
  have hin := inb_of S hj
  obtain ⟨T', h', X', e', W, st⟩ := stC X hx hZ eT A hin (g := mkF m pc Ls (.int x :: .int j :: .ref a :: St)) rfl rfl hd
  subst hn
  exact own_lift st (k T' h' X' e' W (Arv.set A q1 S N H G (fits_nar_char _) W i hi hl))
theorem own_iastore (X : Stand p l e R s m args below meth c T locs cells slots) (hx : p.tables.exec = Jvm.exec) (hZ : Z.Warmed39 s.vm) (eT : T.heap = h) {a : Addr} {kA : ClassId} {n : Int32} {vs : List Value} {dv : Value} (V : Arv Z h a kA .int n vs dv) {pc : Nat} {Ls : Array Slot} {St : List Value} {j x x' : Int32} (hn : x = x') (hj : ¬ j < 0 ∧ j < n) (i : Nat) (hi : j.toNatClampNeg = i) (hl : i < vs.length) (hd : decode c.code pc = .ok (.iastore, 1))
    (k : ∀ T' h', Stand p l e R s m args below meth c T' (locs ++ [⟨a, j.toNatClampNeg⟩]) cells slots → T'.heap = h' → Wr h h' a j.toNatClampNeg (.int x') → Arv Z h' a kA .int n (vs.set i (.int x')) dv → own_R p e below s Q ck sk T' (mkF m (pc + 1) Ls St)) : own_R p e below s Q ck sk T (mkF m pc Ls (.int x :: .int j :: .ref a :: St)) := by
  obtain ⟨cl, A, q1, S, N, H, G⟩ := V
  have hin := inb_of S hj
  obtain ⟨T', h', X', e', W, st⟩ := stI X hx hZ eT A hin (g := mkF m pc Ls (.int x :: .int j :: .ref a :: St)) rfl rfl hd
  subst hn
  exact own_lift st (k T' h' X' e' W (Arv.set A q1 S N H G rfl W i hi hl))
theorem own_initO (X : Stand p l e R s m args below meth c T locs cells slots) (hx : p.tables.exec = Jvm.exec) (hZ : Z.Warmed39 s.vm) {own : String} {idx : Nat} (hown : s.vm.findClass own = some m.cls) (w1 : (Cond.methodLink own idx Lib.objectInit).before a0 Z = true) (w2 : (Cond.instanceMethod Lib.objectInit).before a0 Z = true)
    (w3 : (Cond.code Lib.objectInit ⟨#[0xb1]⟩ 1 none).before a0 Z = true) (eT : T.heap = h) {pc : Nat} {Ls : Array Slot} {St : List Value} {a : Addr} (hsize : Ls.size = c.maxLocals) (hd : decode c.code pc = .ok (.invokespecial idx, 3)) (hf : 1 ≤ R.frames) {W : Nat} (hW : (St.map fun v => v.category).sum ≤ W) (hl : W + 12 ≤ R.locals)
    (k : ∀ T', Stand p l e R s m args below meth c T' locs cells slots → T'.heap = h → own_R p e below s Q ck sk T' (mkF m (pc + 3) Ls St)) : own_R p e below s Q ck sk T (mkF m pc Ls (.ref a :: St)) := by
  obtain ⟨T', X', e', st⟩ := initO X hx hZ hown w1 w2 w3 eT (g := mkF m pc Ls (.ref a :: St)) rfl hsize rfl hd hf (W := W) (by show 2 * 0 + _ ≤ _; omega) hl
  exact own_lift st (k T' X' e')
/-! calls by contract -/
theorem own_callS (X : Stand p l e R s m args below meth c T locs cells slots) (hx : p.tables.exec = Jvm.exec) (hZ : Z.Warmed39 s.vm) {own : String} {index : Nat} {y : MethodName} {bytes : ByteArray} {maxL : Nat} {ret : Option FieldType} {rm : Room} {as' : Array Value} {Q' : Option Value → Heap → List Loc → Prop}
    (hown : s.vm.findClass own = some m.cls) (w1 : (Cond.methodLink own index y).before a0 Z = true) (w2 : (Cond.static y).before a0 Z = true) (w3 : (Cond.initialized y.cls).before a0 Z = true) (w4 : (Cond.code y bytes maxL ret).before a0 Z = true) (hy : y.cls ≠ "java/lang/invoke/MethodHandle" ∧ y.cls ≠ "java/lang/invoke/VarHandle")
    (hM : MetFree l y (head1 [Cond.code y bytes maxL ret] rm) (fun a U => a = as' ∧ Z.Warmed39 U.vm ∧ U.heap = h) (fun _ _ _ _ _ => True) (fun _ U o U' => ∃ v L, o = .returned v ∧ Q' v U'.heap L ∧ FrameEnd U o U' L rm.cells rm.slots))
    (W : Nat) (hf : rm.frames + 1 ≤ R.frames) (hl : W + (maxL + 11) + rm.locals ≤ R.locals) (eT : T.heap = h) {pc : Nat} {Ls : Array Slot} {St : List Value} (hsize : Ls.size = c.maxLocals) (argsL rest : List Value) (has : as' = argsL.toArray) (hlen : ∀ sig, parseMethodDescriptor y.desc = some sig → argsL.length = sig.parameters.length) (hst : St = argsL.reverse ++ rest) (hW : (rest.map fun v => v.category).sum ≤ W)
    (hd : decode c.code pc = .ok (.invokestatic index, 3)) (hc : cells + rm.cells ≤ R.cells) (hs : slots + rm.slots ≤ R.slots)
    (k : ∀ T' v L, Stand p l e R s m args below meth c T' (locs ++ L) (cells + rm.cells) (slots + rm.slots) → Q' v T'.heap L → own_R p e below s Q ck sk T' (mkF m (pc + 3) Ls (v.toList ++ rest))) : own_R p e below s Q ck sk T (mkF m pc Ls St) := by
  obtain ⟨v, _, ⟨T', L', k', n'⟩, -, X', ⟨Lc, hQ, l', y', z'⟩, st⟩ := Jvm.LawKit.callS X hx (y := y) hown (mvT hZ w1) (mvT hZ w2) (mvT hZ w3) (mvT hZ w4) hy (backOf (W := W) hM hZ w4 w3 hf hl) (g := mkF m pc Ls St) rfl hsize (argsL := argsL) (rest := rest) hlen hst (by show 2 * 0 + _ ≤ _; omega) hd (fun _ _ => ⟨has.symm, eT, hc, hs⟩)
  dsimp only [Pt.U, Pt.locs, Pt.cells, Pt.slots] at X' l' y' z' st hQ
  subst l' y' z'
  exact own_lift st (k T' v Lc X' hQ)
theorem own_callI (X : Stand p l e R s m args below meth c T locs cells slots) (hx : p.tables.exec = Jvm.exec) (hZ : Z.Warmed39 s.vm) {own : String} {index : Nat} {y : MethodName} {bytes : ByteArray} {maxL : Nat} {rm : Room} {as' : Array Value} {Q' : Option Value → Heap → List Loc → Prop} (hy1 : y.name = "<init>")
    (hown : s.vm.findClass own = some m.cls) (w1 : (Cond.methodLink own index y).before a0 Z = true) (w2 : (Cond.instanceMethod y).before a0 Z = true) (w3 : (Cond.initialized y.cls).before a0 Z = true) (w4 : (Cond.code y bytes maxL none).before a0 Z = true) (hy : y.cls ≠ "java/lang/invoke/MethodHandle" ∧ y.cls ≠ "java/lang/invoke/VarHandle")
    (hM : MetFree l y (head1 [Cond.code y bytes maxL none] rm) (fun a U => a = as' ∧ Z.Warmed39 U.vm ∧ U.heap = h) (fun _ _ _ _ _ => True) (fun _ U o U' => ∃ v L, o = .returned v ∧ Q' v U'.heap L ∧ FrameEnd U o U' L rm.cells rm.slots))
    (W : Nat) (hf : rm.frames + 1 ≤ R.frames) (hl : W + (maxL + 11) + rm.locals ≤ R.locals) (eT : T.heap = h) {pc : Nat} {Ls : Array Slot} {St : List Value} (hsize : Ls.size = c.maxLocals) (a : Addr) (argsL rest : List Value) (has : as' = (.ref a :: argsL).toArray) (hlen : ∀ sig, parseMethodDescriptor y.desc = some sig → argsL.length = sig.parameters.length) (hst : St = argsL.reverse ++ .ref a :: rest) (hW : (rest.map fun v => v.category).sum ≤ W)
    (hd : decode c.code pc = .ok (.invokespecial index, 3)) (hc : cells + rm.cells ≤ R.cells) (hs : slots + rm.slots ≤ R.slots)
    (k : ∀ T' v L, Stand p l e R s m args below meth c T' (locs ++ L) (cells + rm.cells) (slots + rm.slots) → Q' v T'.heap L → own_R p e below s Q ck sk T' (mkF m (pc + 3) Ls (v.toList ++ rest))) : own_R p e below s Q ck sk T (mkF m pc Ls St) := by
  obtain ⟨v, _, ⟨T', L', k', n'⟩, -, X', ⟨Lc, hQ, l', y', z'⟩, st⟩ := X.specialBack hx (y := y) hy1 hown (mvT hZ w1) (mvT hZ w2) (mvT hZ w4) hy (backOf (W := W) hM hZ w4 w3 hf hl) (g := mkF m pc Ls St) rfl hsize (Steps.refl _) (a := a) (argsL := argsL) (rest := rest) hlen hst (by show 2 * 0 + _ ≤ _; omega) hd (fun _ _ => ⟨has.symm, eT, hc, hs⟩)
  dsimp only [Pt.U, Pt.locs, Pt.cells, Pt.slots] at X' l' y' z' st hQ
  subst l' y' z'
  exact own_lift (fun _ q => st.trans q) (k T' v Lc X' hQ)
theorem own_callV (X : Stand p l e R s m args below meth c T locs cells slots) (hx : p.tables.exec = Jvm.exec) (hZ : Z.Warmed39 s.vm) {own C : String} {index : Nat} {y z : MethodName} {bytes : ByteArray} {maxL : Nat} {ret : Option FieldType} {rm : Room} {as' : Array Value} {Q' : Option Value → Heap → List Loc → Prop}
    (hown : s.vm.findClass own = some m.cls) (w1 : (Cond.methodLink own index y).before a0 Z = true) (w2 : (Cond.declares y).before a0 Z = true) (nf : NotFace s y) (w5 : (Cond.selects C y z).before a0 Z = true) (w6 : (Cond.instanceMethod z).before a0 Z = true) (w3 : (Cond.initialized z.cls).before a0 Z = true) (w4 : (Cond.code z bytes maxL ret).before a0 Z = true) (hy : y.cls ≠ "java/lang/invoke/MethodHandle" ∧ y.cls ≠ "java/lang/invoke/VarHandle")
    (hM : MetFree l z (head1 [Cond.code z bytes maxL ret] rm) (fun a U => a = as' ∧ Z.Warmed39 U.vm ∧ U.heap = h) (fun _ _ _ _ _ => True) (fun _ U o U' => ∃ v L, o = .returned v ∧ Q' v U'.heap L ∧ FrameEnd U o U' L rm.cells rm.slots))
    (W : Nat) (hf : rm.frames + 1 ≤ R.frames) (hl : W + (maxL + 11) + rm.locals ≤ R.locals) (eT : T.heap = h) {pc : Nat} {Ls : Array Slot} {St : List Value} (hsize : Ls.size = c.maxLocals) (a : Addr) (E : Exa Z h a C) (argsL rest : List Value) (has : as' = (.ref a :: argsL).toArray) (hlen : ∀ sig, parseMethodDescriptor y.desc = some sig → argsL.length = sig.parameters.length) (hst : St = argsL.reverse ++ .ref a :: rest) (hW : (rest.map fun v => v.category).sum ≤ W)
    (hd : decode c.code pc = .ok (.invokevirtual index, 3)) (hc : cells + rm.cells ≤ R.cells) (hs : slots + rm.slots ≤ R.slots)
    (k : ∀ T' v L, Stand p l e R s m args below meth c T' (locs ++ L) (cells + rm.cells) (slots + rm.slots) → Q' v T'.heap L → own_R p e below s Q ck sk T' (mkF m (pc + 3) Ls (v.toList ++ rest))) : own_R p e below s Q ck sk T (mkF m pc Ls St) := by
  obtain ⟨cq, kq, qa, qb, qc⟩ := isOf hZ eT E
  obtain ⟨v, _, ⟨T', L', k', n'⟩, -, X', ⟨Lc, hQ, l', y', z'⟩, st⟩ := X.virtualBack hx (y := y) (z := z) hown (mvT hZ w1) (mvT hZ w2) nf (mvT hZ w5) (mvT hZ w6) hy (backOf (W := W) hM hZ w4 w3 hf hl) qa qc (g := mkF m pc Ls St) rfl hsize (Steps.refl _) (argsL := argsL) (rest := rest) hlen hst (by show 2 * 0 + _ ≤ _; omega) hd (fun _ _ => ⟨has.symm, eT, hc, hs⟩)
  dsimp only [Pt.U, Pt.locs, Pt.cells, Pt.slots] at X' l' y' z' st hQ
  subst l' y' z'
  exact own_lift (fun _ q => st.trans q) (k T' v Lc X' hQ)
end OwnKit

theorem pl_gd (xs : List Int32) (j : Nat) : (xs.map Value.int).getD j (.int (0 : Int32)) = .int (xs.getD j 0) := by
  induction xs generalizing j with
  | nil => rfl
  | cons a t ih => cases j with
    | zero => rfl
    | succ j => exact ih j
theorem pl_5 (x : Int32) : ((x &&& (2147483647 : Int32)) % (5 : Int32)) = 0 ∨ ((x &&& (2147483647 : Int32)) % (5 : Int32)) = 1 ∨ ((x &&& (2147483647 : Int32)) % (5 : Int32)) = 2 ∨ ((x &&& (2147483647 : Int32)) % (5 : Int32)) = 3 ∨ ((x &&& (2147483647 : Int32)) % (5 : Int32)) = 4 := by
  have h1 := c_mask x (2147483647 : Int32) 31 (by decide) (by decide)
  have h2 := (c_irem (x &&& (2147483647 : Int32)) (5 : Int32) 5 (by decide)).1 (by omega)
  simp only [← Int32.toInt_inj, show (0 : Int32).toInt = 0 from by decide, show (1 : Int32).toInt = 1 from by decide, show (2 : Int32).toInt = 2 from by decide, show (3 : Int32).toInt = 3 from by decide, show (4 : Int32).toInt = 4 from by decide]
  omega
def pl_ix (xs : List Int32) (c e : Int32) : Nat → Int32 → Int32
  | 0, _ => -1
  | k + 1, i => if i < e then (if xs.getD i.toNatClampNeg 0 = c then i else pl_ix xs c e k (i + 1)) else -1
theorem pl_up (i e : Int32) (k : Nat) (h0 : 0 ≤ i.toInt) (h4 : e.toInt ≤ 4) (hk : e.toInt - i.toInt ≤ (k : Int) + 1) (h : i < e) : 0 ≤ (i + 1).toInt ∧ e.toInt - (i + 1).toInt ≤ (k : Int) ∧ ¬ i < 0 ∧ i < 4 := by
  rw [Int32.lt_iff_toInt_lt] at h
  have h1 := c_iadd i 1
  have h2 := rng32 (i + 1)
  rw [show (1 : Int32).toInt = 1 from by decide] at h1
  simp only [Int32.lt_iff_toInt_lt, show (0 : Int32).toInt = 0 from by decide, show (4 : Int32).toInt = 4 from by decide]
  omega

theorem d1_0 : decode method_3_code 0 = .ok (.iload_n 0, 1) := by decide +kernel
theorem d1_1 : decode method_3_code 1 = .ok (.iload_n 1, 1) := by decide +kernel
theorem d1_2 : decode method_3_code 2 = .ok (.ishr, 1) := by decide +kernel
theorem d1_3 : decode method_3_code 3 = .ok (.iconst 1, 1) := by decide +kernel
theorem d1_4 : decode method_3_code 4 = .ok (.iand, 1) := by decide +kernel
theorem d1_5 : decode method_3_code 5 = .ok (.ifCond .eq 5, 3) := by decide +kernel
theorem d1_8 : decode method_3_code 8 = .ok (.iload_n 2, 1) := by decide +kernel
theorem d1_9 : decode method_3_code 9 = .ok (.ireturn, 1) := by decide +kernel
theorem d1_10 : decode method_3_code 10 = .ok (.iload_n 3, 1) := by decide +kernel
theorem d1_11 : decode method_3_code 11 = .ok (.ireturn, 1) := by decide +kernel
theorem d2_0 : decode method_2_code 0 = .ok (.iload_n 3, 1) := by decide +kernel
theorem d2_1 : decode method_2_code 1 = .ok (.iload_n 2, 1) := by decide +kernel
theorem d2_2 : decode method_2_code 2 = .ok (.if_icmp .gt 20, 3) := by decide +kernel
theorem d2_5 : decode method_2_code 5 = .ok (.iload_n 2, 1) := by decide +kernel
theorem d2_6 : decode method_2_code 6 = .ok (.iload 4, 2) := by decide +kernel
theorem d2_8 : decode method_2_code 8 = .ok (.if_icmp .ge 14, 3) := by decide +kernel
theorem d2_11 : decode method_2_code 11 = .ok (.aload_n 0, 1) := by decide +kernel
theorem d2_12 : decode method_2_code 12 = .ok (.iload_n 2, 1) := by decide +kernel
theorem d2_13 : decode method_2_code 13 = .ok (.caload, 1) := by decide +kernel
theorem d2_14 : decode method_2_code 14 = .ok (.iload_n 1, 1) := by decide +kernel
theorem d2_15 : decode method_2_code 15 = .ok (.if_icmp .ne 7, 3) := by decide +kernel
theorem d2_18 : decode method_2_code 18 = .ok (.iconst 1, 1) := by decide +kernel
theorem d2_19 : decode method_2_code 19 = .ok (.goto 4, 3) := by decide +kernel
theorem d2_22 : decode method_2_code 22 = .ok (.iconst 0, 1) := by decide +kernel
theorem d2_23 : decode method_2_code 23 = .ok (.ireturn, 1) := by decide +kernel
theorem d3_0 : decode prog_49_method_5_code 0 = .ok (.iload_n 2, 1) := by decide +kernel
theorem d3_1 : decode prog_49_method_5_code 1 = .ok (.istore 4, 2) := by decide +kernel
theorem d3_3 : decode prog_49_method_5_code 3 = .ok (.iload 4, 2) := by decide +kernel
theorem d3_5 : decode prog_49_method_5_code 5 = .ok (.iload_n 3, 1) := by decide +kernel
theorem d3_6 : decode prog_49_method_5_code 6 = .ok (.if_icmp .ge 20, 3) := by decide +kernel
theorem d3_9 : decode prog_49_method_5_code 9 = .ok (.aload_n 0, 1) := by decide +kernel
theorem d3_10 : decode prog_49_method_5_code 10 = .ok (.iload 4, 2) := by decide +kernel
theorem d3_12 : decode prog_49_method_5_code 12 = .ok (.caload, 1) := by decide +kernel
theorem d3_13 : decode prog_49_method_5_code 13 = .ok (.iload_n 1, 1) := by decide +kernel
theorem d3_14 : decode prog_49_method_5_code 14 = .ok (.if_icmp .ne 6, 3) := by decide +kernel
theorem d3_17 : decode prog_49_method_5_code 17 = .ok (.iload 4, 2) := by decide +kernel
theorem d3_19 : decode prog_49_method_5_code 19 = .ok (.ireturn, 1) := by decide +kernel
theorem d3_20 : decode prog_49_method_5_code 20 = .ok (.iinc 4 1, 3) := by decide +kernel
theorem d3_23 : decode prog_49_method_5_code 23 = .ok (.goto (-20), 3) := by decide +kernel
theorem d3_26 : decode prog_49_method_5_code 26 = .ok (.iconst (-1), 1) := by decide +kernel
theorem d3_27 : decode prog_49_method_5_code 27 = .ok (.ireturn, 1) := by decide +kernel
theorem pd_0 : parseMethodDescriptor "(IICC)C" = some ⟨[.int, .int, .char, .char], some .char⟩ := by decide +kernel
theorem pd_1 : parseMethodDescriptor "([CCII)I" = some ⟨[(.array .char), .char, .int, .int], some .int⟩ := by decide +kernel
theorem pd_2 : parseMethodDescriptor "([CCIII)Z" = some ⟨[(.array .char), .char, .int, .int, .int], some .boolean⟩ := by decide +kernel
def pl_pick (p0 : Int32) (p1 : Int32) (p2 : Int32) (p3 : Int32) : Int32 := (if ((p0 >>> (p1 &&& 31)) &&& (1 : Int32)) = (0 : Int32) then (nar .char p3) else (nar .char p2))
theorem pn_1 : plainFor (⟨"com/example/normative/normative/listing/LineTextIndexOfPinLaw", "pick", "(IICC)C"⟩ : MethodName) = true := by decide +kernel
theorem ef_1 (m : MethodId) (p0 : Int32) (p1 : Int32) (p2 : Int32) (p3 : Int32) : entryFrame m #[(.int p0), (.int p1), (.int p2), (.int p3)] 4 = mkF m 0 #[.val (.int p0), .val (.int p1), .val (.int p2), .val (.int p3)] [] := by first | (simp [entryFrame, mkF, argsToLocals, Value.category]; done) | rfl
def Q1 (Z : State) (p0 : Int32) (p1 : Int32) (p2 : Int32) (p3 : Int32) (h0 : Heap) (n0 : Nat) (v : Option Value) (h : Heap) (L : List Loc) : Prop := v = some (.int (pl_pick p0 p1 p2 p3)) ∧ Fr n0 L ∧ h = h0
set_option maxRecDepth 65536 in
set_option maxHeartbeats 40000000 in
theorem rm1 (l : Launch) (Z : State) (a0 : Array Value) (hw : ∀ d ∈ tables_1, d.before a0 Z = true) (ws : List Jvm.Cond) (p0 : Int32) (p1 : Int32) (p2 : Int32) (p3 : Int32) (h0 : Heap) (n0 : Nat) (Z0 : n0 ≤ h0.size) :
    MetFree l (⟨"com/example/normative/normative/listing/LineTextIndexOfPinLaw", "pick", "(IICC)C"⟩ : MethodName) (head1 (Jvm.Cond.code (⟨"com/example/normative/normative/listing/LineTextIndexOfPinLaw", "pick", "(IICC)C"⟩ : MethodName) method_3_code 4 (some .char) :: ws) ({ frames := 0, cells := 0, slots := 0, locals := 0 } : Room)) (fun a U => a = #[(.int p0), (.int p1), (.int p2), (.int p3)] ∧ Z.Warmed39 U.vm ∧ U.heap = h0) (fun _ _ _ _ _ => True) (fun _ U o U' => ∃ v L, o = .returned v ∧ Q1 Z p0 p1 p2 p3 h0 n0 v U'.heap L ∧ FrameEnd U o U' L ({ frames := 0, cells := 0, slots := 0, locals := 0 } : Room).cells ({ frames := 0, cells := 0, slots := 0, locals := 0 } : Room).slots) := by
  refine MetFree.of_bodySF pn_1 hisR ?_
  intro p e s m args below meth c s₁ Bd hml0 hP hK
  obtain ⟨rfl, hZ, hh⟩ := hP
  have hx := Bd.exec
  have hby := Bd.bytes
  have hml : c.maxLocals = 4 := hml0
  have hown : s.vm.findClass "com/example/normative/normative/listing/LineTextIndexOfPinLaw" = some m.cls := findClass_of_methodNamed Bd.named
  have hnm := (name_of_methodNamed Bd.named Bd.method).1
  have hlk := BodyLoose.notSynchronized Bd
  have X0 : Stand p l e ({ frames := 0, cells := 0, slots := 0, locals := 0 } : Room) s m #[(.int p0), (.int p1), (.int p2), (.int p3)] below meth c s₁ [] 0 0 := Stand.of_body Bd
  have e0 : s₁.heap = h0 := by rw [← hh, Bd.state]; rfl
  have N0 := Fr.nil n0
  show own_R p e below s (Q1 Z p0 p1 p2 p3 h0 n0) ({ frames := 0, cells := 0, slots := 0, locals := 0 } : Room).cells ({ frames := 0, cells := 0, slots := 0, locals := 0 } : Room).slots s₁ (entryFrame m #[(.int p0), (.int p1), (.int p2), (.int p3)] 4)
  refine own_cast (ef_1 m p0 p1 p2 p3) ?_
  show own_R p e below s _ _ _ s₁ (mkF m 0 #[.val (.int p0), .val (.int p1), .val (.int p2), .val (.int p3)] [])
  refine own_iloadN X0 hx (hb hby d1_0) rfl ?_
  show own_R p e below s _ _ _ s₁ (mkF m 1 #[.val (.int p0), .val (.int p1), .val (.int p2), .val (.int p3)] [(.int p0)])
  refine own_iloadN X0 hx (hb hby d1_1) rfl ?_
  show own_R p e below s _ _ _ s₁ (mkF m 2 #[.val (.int p0), .val (.int p1), .val (.int p2), .val (.int p3)] [(.int p1), (.int p0)])
  refine own_ishr X0 hx (hb hby d1_2) ?_
  show own_R p e below s _ _ _ s₁ (mkF m 3 #[.val (.int p0), .val (.int p1), .val (.int p2), .val (.int p3)] [(.int (p0 >>> (p1 &&& 31)))])
  refine own_iconst X0 hx (1 : Int32) (hb hby d1_3) rfl ?_
  show own_R p e below s _ _ _ s₁ (mkF m 4 #[.val (.int p0), .val (.int p1), .val (.int p2), .val (.int p3)] [(.int (1 : Int32)), (.int (p0 >>> (p1 &&& 31)))])
  refine own_iand X0 hx (hb hby d1_4) ?_
  show own_R p e below s _ _ _ s₁ (mkF m 5 #[.val (.int p0), .val (.int p1), .val (.int p2), .val (.int p3)] [(.int ((p0 >>> (p1 &&& 31)) &&& (1 : Int32)))])
  refine own_if X0 hx (hb hby d1_5) (pc' := 10) (by decide) (by decide) (fun hc => ?_) (fun hc => ?_)
  · have hc5 : ((p0 >>> (p1 &&& 31)) &&& (1 : Int32)) = (0 : Int32) := own_eq1 hc
    clear hc
    show own_R p e below s _ _ _ s₁ (mkF m 10 #[.val (.int p0), .val (.int p1), .val (.int p2), .val (.int p3)] [])
    refine own_iloadN X0 hx (hb hby d1_10) rfl ?_
    show own_R p e below s _ _ _ s₁ (mkF m 11 #[.val (.int p0), .val (.int p1), .val (.int p2), .val (.int p3)] [(.int p3)])
    refine own_retN X0 hx (t := .char) Bd.returns (by simp) hlk (hb hby d1_11) ?_ (by decide) (by decide)
    refine ⟨?_, N0, e0⟩
    show some (Value.int _) = some (Value.int (pl_pick p0 p1 p2 p3))
    rw [pl_pick, if_pos hc5] <;> first | rfl | decide
  · have hc5 : ¬ ((p0 >>> (p1 &&& 31)) &&& (1 : Int32)) = (0 : Int32) := own_eq0 hc
    clear hc
    show own_R p e below s _ _ _ s₁ (mkF m 8 #[.val (.int p0), .val (.int p1), .val (.int p2), .val (.int p3)] [])
    refine own_iloadN X0 hx (hb hby d1_8) rfl ?_
    show own_R p e below s _ _ _ s₁ (mkF m 9 #[.val (.int p0), .val (.int p1), .val (.int p2), .val (.int p3)] [(.int p2)])
    refine own_retN X0 hx (t := .char) Bd.returns (by simp) hlk (hb hby d1_9) ?_ (by decide) (by decide)
    refine ⟨?_, N0, e0⟩
    show some (Value.int _) = some (Value.int (pl_pick p0 p1 p2 p3))
    rw [pl_pick, if_neg hc5] <;> first | rfl | decide
def pl_hit (ch : Int32) (i : Int32) (st : Int32) (en : Int32) (xs : List Int32) : Int32 := (if i < st then (0 : Int32) else (if i < en then (if (xs.getD i.toNatClampNeg 0) = ch then (1 : Int32) else (0 : Int32)) else (0 : Int32)))
theorem pn_2 : plainFor (⟨"com/example/normative/normative/listing/LineTextIndexOfPinLaw", "hit", "([CCIII)Z"⟩ : MethodName) = true := by decide +kernel
theorem ef_2 (m : MethodId) (a1 : Addr) (ch : Int32) (i : Int32) (st : Int32) (en : Int32) : entryFrame m #[(.ref a1), (.int ch), (.int i), (.int st), (.int en)] 5 = mkF m 0 #[.val (.ref a1), .val (.int ch), .val (.int i), .val (.int st), .val (.int en)] [] := by first | (simp [entryFrame, mkF, argsToLocals, Value.category]; done) | rfl
def Q2 (Z : State) (a1 : Addr) (ch : Int32) (i : Int32) (st : Int32) (en : Int32) (k1 : ClassId) (xs : List Int32) (h0 : Heap) (n0 : Nat) (v : Option Value) (h : Heap) (L : List Loc) : Prop := v = some (.int (pl_hit ch i st en xs)) ∧ Fr n0 L ∧ h = h0
set_option maxRecDepth 65536 in
set_option maxHeartbeats 40000000 in
theorem rm2 (l : Launch) (Z : State) (a0 : Array Value) (hw : ∀ d ∈ tables_1, d.before a0 Z = true) (ws : List Jvm.Cond) (a1 : Addr) (ch : Int32) (i : Int32) (st : Int32) (en : Int32) (k1 : ClassId) (xs : List Int32) (h0 : Heap) (n0 : Nat) (Z0 : n0 ≤ h0.size) (hV : Arv Z h0 a1 k1 .char 4 (xs.map Value.int) (.int (0 : Int32))) (hi : ¬ i < 0 ∧ i < 4) :
    MetFree l (⟨"com/example/normative/normative/listing/LineTextIndexOfPinLaw", "hit", "([CCIII)Z"⟩ : MethodName) (head1 (Jvm.Cond.code (⟨"com/example/normative/normative/listing/LineTextIndexOfPinLaw", "hit", "([CCIII)Z"⟩ : MethodName) method_2_code 5 (some .boolean) :: ws) ({ frames := 0, cells := 0, slots := 0, locals := 0 } : Room)) (fun a U => a = #[(.ref a1), (.int ch), (.int i), (.int st), (.int en)] ∧ Z.Warmed39 U.vm ∧ U.heap = h0) (fun _ _ _ _ _ => True) (fun _ U o U' => ∃ v L, o = .returned v ∧ Q2 Z a1 ch i st en k1 xs h0 n0 v U'.heap L ∧ FrameEnd U o U' L ({ frames := 0, cells := 0, slots := 0, locals := 0 } : Room).cells ({ frames := 0, cells := 0, slots := 0, locals := 0 } : Room).slots) := by
  refine MetFree.of_bodySF pn_2 hisR ?_
  intro p e s m args below meth c s₁ Bd hml0 hP hK
  obtain ⟨rfl, hZ, hh⟩ := hP
  have hx := Bd.exec
  have hby := Bd.bytes
  have hml : c.maxLocals = 5 := hml0
  have hown : s.vm.findClass "com/example/normative/normative/listing/LineTextIndexOfPinLaw" = some m.cls := findClass_of_methodNamed Bd.named
  have hnm := (name_of_methodNamed Bd.named Bd.method).1
  have hlk := BodyLoose.notSynchronized Bd
  have X0 : Stand p l e ({ frames := 0, cells := 0, slots := 0, locals := 0 } : Room) s m #[(.ref a1), (.int ch), (.int i), (.int st), (.int en)] below meth c s₁ [] 0 0 := Stand.of_body Bd
  have e0 : s₁.heap = h0 := by rw [← hh, Bd.state]; rfl
  have N0 := Fr.nil n0
  show own_R p e below s (Q2 Z a1 ch i st en k1 xs h0 n0) ({ frames := 0, cells := 0, slots := 0, locals := 0 } : Room).cells ({ frames := 0, cells := 0, slots := 0, locals := 0 } : Room).slots s₁ (entryFrame m #[(.ref a1), (.int ch), (.int i), (.int st), (.int en)] 5)
  refine own_cast (ef_2 m a1 ch i st en) ?_
  show own_R p e below s _ _ _ s₁ (mkF m 0 #[.val (.ref a1), .val (.int ch), .val (.int i), .val (.int st), .val (.int en)] [])
  have K0 := Keep.refl h0 ([] : List Addr)
  refine own_iloadN X0 hx (hb hby d2_0) rfl ?_
  show own_R p e below s _ _ _ s₁ (mkF m 1 #[.val (.ref a1), .val (.int ch), .val (.int i), .val (.int st), .val (.int en)] [(.int st)])
  refine own_iloadN X0 hx (hb hby d2_1) rfl ?_
  show own_R p e below s _ _ _ s₁ (mkF m 2 #[.val (.ref a1), .val (.int ch), .val (.int i), .val (.int st), .val (.int en)] [(.int i), (.int st)])
  refine own_icmp X0 hx (hb hby d2_2) (pc' := 22) (by decide) (by decide) (fun hc => ?_) (fun hc => ?_)
  · have hc2 : i < st := own_gt1 hc
    clear hc
    show own_R p e below s _ _ _ s₁ (mkF m 22 #[.val (.ref a1), .val (.int ch), .val (.int i), .val (.int st), .val (.int en)] [])
    refine own_iconst X0 hx (0 : Int32) (hb hby d2_22) rfl ?_
    show own_R p e below s _ _ _ s₁ (mkF m 23 #[.val (.ref a1), .val (.int ch), .val (.int i), .val (.int st), .val (.int en)] [(.int (0 : Int32))])
    refine own_retN X0 hx (t := .boolean) Bd.returns (by simp) hlk (hb hby d2_23) ?_ (by decide) (by decide)
    refine ⟨?_, N0, e0⟩
    show some (Value.int _) = some (Value.int (pl_hit ch i st en xs))
    rw [pl_hit, if_pos hc2] <;> first | rfl | decide
  · have hc2 : ¬ i < st := own_gt0 hc
    clear hc
    show own_R p e below s _ _ _ s₁ (mkF m 5 #[.val (.ref a1), .val (.int ch), .val (.int i), .val (.int st), .val (.int en)] [])
    refine own_iloadN X0 hx (hb hby d2_5) rfl ?_
    show own_R p e below s _ _ _ s₁ (mkF m 6 #[.val (.ref a1), .val (.int ch), .val (.int i), .val (.int st), .val (.int en)] [(.int i)])
    refine own_iload X0 hx (hb hby d2_6) rfl ?_
    show own_R p e below s _ _ _ s₁ (mkF m 8 #[.val (.ref a1), .val (.int ch), .val (.int i), .val (.int st), .val (.int en)] [(.int en), (.int i)])
    refine own_icmp X0 hx (hb hby d2_8) (pc' := 22) (by decide) (by decide) (fun hc => ?_) (fun hc => ?_)
    · have hc8 : ¬ i < en := own_ge1 hc
      clear hc
      show own_R p e below s _ _ _ s₁ (mkF m 22 #[.val (.ref a1), .val (.int ch), .val (.int i), .val (.int st), .val (.int en)] [])
      refine own_iconst X0 hx (0 : Int32) (hb hby d2_22) rfl ?_
      show own_R p e below s _ _ _ s₁ (mkF m 23 #[.val (.ref a1), .val (.int ch), .val (.int i), .val (.int st), .val (.int en)] [(.int (0 : Int32))])
      refine own_retN X0 hx (t := .boolean) Bd.returns (by simp) hlk (hb hby d2_23) ?_ (by decide) (by decide)
      refine ⟨?_, N0, e0⟩
      show some (Value.int _) = some (Value.int (pl_hit ch i st en xs))
      rw [pl_hit, if_neg hc2, if_neg hc8] <;> first | rfl | decide
    · have hc8 : i < en := own_ge0 hc
      clear hc
      show own_R p e below s _ _ _ s₁ (mkF m 11 #[.val (.ref a1), .val (.int ch), .val (.int i), .val (.int st), .val (.int en)] [])
      refine own_aloadN X0 hx (hb hby d2_11) rfl rfl ?_
      show own_R p e below s _ _ _ s₁ (mkF m 12 #[.val (.ref a1), .val (.int ch), .val (.int i), .val (.int st), .val (.int en)] [(.ref a1)])
      refine own_iloadN X0 hx (hb hby d2_12) rfl ?_
      show own_R p e below s _ _ _ s₁ (mkF m 13 #[.val (.ref a1), .val (.int ch), .val (.int i), .val (.int st), .val (.int en)] [(.int i), (.ref a1)])
      refine own_caload X0 hx hZ e0 hV (v := .int (xs.getD i.toNatClampNeg 0)) hi (pl_gd _ _) (hb hby d2_13) ?_
      show own_R p e below s _ _ _ s₁ (mkF m 14 #[.val (.ref a1), .val (.int ch), .val (.int i), .val (.int st), .val (.int en)] [(.int (xs.getD i.toNatClampNeg 0))])
      refine own_iloadN X0 hx (hb hby d2_14) rfl ?_
      show own_R p e below s _ _ _ s₁ (mkF m 15 #[.val (.ref a1), .val (.int ch), .val (.int i), .val (.int st), .val (.int en)] [(.int ch), (.int (xs.getD i.toNatClampNeg 0))])
      refine own_icmp X0 hx (hb hby d2_15) (pc' := 22) (by decide) (by decide) (fun hc => ?_) (fun hc => ?_)
      · have hc15 : ¬ (xs.getD i.toNatClampNeg 0) = ch := own_ne1 hc
        clear hc
        show own_R p e below s _ _ _ s₁ (mkF m 22 #[.val (.ref a1), .val (.int ch), .val (.int i), .val (.int st), .val (.int en)] [])
        refine own_iconst X0 hx (0 : Int32) (hb hby d2_22) rfl ?_
        show own_R p e below s _ _ _ s₁ (mkF m 23 #[.val (.ref a1), .val (.int ch), .val (.int i), .val (.int st), .val (.int en)] [(.int (0 : Int32))])
        refine own_retN X0 hx (t := .boolean) Bd.returns (by simp) hlk (hb hby d2_23) ?_ (by decide) (by decide)
        refine ⟨?_, N0, e0⟩
        show some (Value.int _) = some (Value.int (pl_hit ch i st en xs))
        rw [pl_hit, if_neg hc2, if_pos hc8, if_neg hc15] <;> first | rfl | decide
      · have hc15 : (xs.getD i.toNatClampNeg 0) = ch := own_ne0 hc
        clear hc
        show own_R p e below s _ _ _ s₁ (mkF m 18 #[.val (.ref a1), .val (.int ch), .val (.int i), .val (.int st), .val (.int en)] [])
        refine own_iconst X0 hx (1 : Int32) (hb hby d2_18) rfl ?_
        show own_R p e below s _ _ _ s₁ (mkF m 19 #[.val (.ref a1), .val (.int ch), .val (.int i), .val (.int st), .val (.int en)] [(.int (1 : Int32))])
        refine own_goto X0 hx (hb hby d2_19) (pc' := 23) (by decide) (by decide) ?_
        show own_R p e below s _ _ _ s₁ (mkF m 23 #[.val (.ref a1), .val (.int ch), .val (.int i), .val (.int st), .val (.int en)] [(.int (1 : Int32))])
        refine own_retN X0 hx (t := .boolean) Bd.returns (by simp) hlk (hb hby d2_23) ?_ (by decide) (by decide)
        refine ⟨?_, N0, e0⟩
        show some (Value.int _) = some (Value.int (pl_hit ch i st en xs))
        rw [pl_hit, if_neg hc2, if_pos hc8, if_pos hc15] <;> first | rfl | decide
theorem pn_3 : plainFor (⟨"com/example/normative/normative/listing/LineText", "indexOf", "([CCII)I"⟩ : MethodName) = true := by decide +kernel
theorem ef_3 (m : MethodId) (a1 : Addr) (ch : Int32) (st : Int32) (en : Int32) : entryFrame m #[(.ref a1), (.int ch), (.int st), (.int en)] 5 = mkF m 0 #[.val (.ref a1), .val (.int ch), .val (.int st), .val (.int en), .unset] [] := by first | (simp [entryFrame, mkF, argsToLocals, Value.category]; done) | rfl
def Q3 (Z : State) (a1 : Addr) (ch : Int32) (st : Int32) (en : Int32) (k1 : ClassId) (xs : List Int32) (h0 : Heap) (n0 : Nat) (v : Option Value) (h : Heap) (L : List Loc) : Prop := v = some (.int (pl_ix xs ch en 4 st)) ∧ Fr n0 L ∧ h = h0
set_option maxRecDepth 65536 in
set_option maxHeartbeats 40000000 in
theorem rm3 (l : Launch) (Z : State) (a0 : Array Value) (hw : ∀ d ∈ tables_1, d.before a0 Z = true) (ws : List Jvm.Cond) (a1 : Addr) (ch : Int32) (st : Int32) (en : Int32) (k1 : ClassId) (xs : List Int32) (h0 : Heap) (n0 : Nat) (Z0 : n0 ≤ h0.size) (hV : Arv Z h0 a1 k1 .char 4 (xs.map Value.int) (.int (0 : Int32))) (hs0 : 0 ≤ st.toInt) (h4 : en.toInt ≤ 4) :
    MetFree l (⟨"com/example/normative/normative/listing/LineText", "indexOf", "([CCII)I"⟩ : MethodName) (head1 (Jvm.Cond.code (⟨"com/example/normative/normative/listing/LineText", "indexOf", "([CCII)I"⟩ : MethodName) prog_49_method_5_code 5 (some .int) :: ws) ({ frames := 0, cells := 0, slots := 0, locals := 0 } : Room)) (fun a U => a = #[(.ref a1), (.int ch), (.int st), (.int en)] ∧ Z.Warmed39 U.vm ∧ U.heap = h0) (fun _ _ _ _ _ => True) (fun _ U o U' => ∃ v L, o = .returned v ∧ Q3 Z a1 ch st en k1 xs h0 n0 v U'.heap L ∧ FrameEnd U o U' L ({ frames := 0, cells := 0, slots := 0, locals := 0 } : Room).cells ({ frames := 0, cells := 0, slots := 0, locals := 0 } : Room).slots) := by
  refine MetFree.of_bodySF pn_3 hisR ?_
  intro p e s m args below meth c s₁ Bd hml0 hP hK
  obtain ⟨rfl, hZ, hh⟩ := hP
  have hx := Bd.exec
  have hby := Bd.bytes
  have hml : c.maxLocals = 5 := hml0
  have hown : s.vm.findClass "com/example/normative/normative/listing/LineText" = some m.cls := findClass_of_methodNamed Bd.named
  have hnm := (name_of_methodNamed Bd.named Bd.method).1
  have hlk := BodyLoose.notSynchronized Bd
  have X0 : Stand p l e ({ frames := 0, cells := 0, slots := 0, locals := 0 } : Room) s m #[(.ref a1), (.int ch), (.int st), (.int en)] below meth c s₁ [] 0 0 := Stand.of_body Bd
  have e0 : s₁.heap = h0 := by rw [← hh, Bd.state]; rfl
  have N0 := Fr.nil n0
  show own_R p e below s (Q3 Z a1 ch st en k1 xs h0 n0) ({ frames := 0, cells := 0, slots := 0, locals := 0 } : Room).cells ({ frames := 0, cells := 0, slots := 0, locals := 0 } : Room).slots s₁ (entryFrame m #[(.ref a1), (.int ch), (.int st), (.int en)] 5)
  refine own_cast (ef_3 m a1 ch st en) ?_
  show own_R p e below s _ _ _ s₁ (mkF m 0 #[.val (.ref a1), .val (.int ch), .val (.int st), .val (.int en), .unset] [])
  have K0 := Keep.refl h0 ([] : List Addr)
  have lp : ∀ (k : Nat) (i : Int32), 0 ≤ i.toInt → en.toInt - i.toInt ≤ (k : Int) → pl_ix xs ch en k i = pl_ix xs ch en 4 st → own_R p e below s (Q3 Z a1 ch st en k1 xs h0 n0) ({ frames := 0, cells := 0, slots := 0, locals := 0 } : Room).cells ({ frames := 0, cells := 0, slots := 0, locals := 0 } : Room).slots s₁ (mkF m 3 #[.val (.ref a1), .val (.int ch), .val (.int st), .val (.int en), .val (.int i)] []) := by
    intro k
    induction k with
    | zero =>
      intro i h0 hk hr
      show own_R p e below s _ _ _ s₁ (mkF m 3 #[.val (.ref a1), .val (.int ch), .val (.int st), .val (.int en), .val (.int i)] [])
      refine own_iload X0 hx (hb hby d3_3) rfl ?_
      show own_R p e below s _ _ _ s₁ (mkF m 5 #[.val (.ref a1), .val (.int ch), .val (.int st), .val (.int en), .val (.int i)] [(.int i)])
      refine own_iloadN X0 hx (hb hby d3_5) rfl ?_
      show own_R p e below s _ _ _ s₁ (mkF m 6 #[.val (.ref a1), .val (.int ch), .val (.int st), .val (.int en), .val (.int i)] [(.int en), (.int i)])
      refine own_icmp X0 hx (hb hby d3_6) (pc' := 26) (by decide) (by decide) (fun hc => ?_) (fun hc => ?_)
      · have hc6 : ¬ i < en := own_ge1 hc
        clear hc
        show own_R p e below s _ _ _ s₁ (mkF m 26 #[.val (.ref a1), .val (.int ch), .val (.int st), .val (.int en), .val (.int i)] [])
        refine own_iconst X0 hx (-1 : Int32) (hb hby d3_26) rfl ?_
        show own_R p e below s _ _ _ s₁ (mkF m 27 #[.val (.ref a1), .val (.int ch), .val (.int st), .val (.int en), .val (.int i)] [(.int (-1 : Int32))])
        refine own_retI X0 hx Bd.returns hlk (hb hby d3_27) ?_ (by decide) (by decide)
        refine ⟨?_, N0, e0⟩
        show some (Value.int _) = some (Value.int (pl_ix xs ch en 4 st))
        rw [← hr, pl_ix]
      · have hc6 : i < en := own_ge0 hc
        exfalso; rw [Int32.lt_iff_toInt_lt] at hc6; omega
    | succ k ih =>
      intro i h0 hk hr
      have hk' : en.toInt - i.toInt ≤ (k : Int) + 1 := by omega
      show own_R p e below s _ _ _ s₁ (mkF m 3 #[.val (.ref a1), .val (.int ch), .val (.int st), .val (.int en), .val (.int i)] [])
      refine own_iload X0 hx (hb hby d3_3) rfl ?_
      show own_R p e below s _ _ _ s₁ (mkF m 5 #[.val (.ref a1), .val (.int ch), .val (.int st), .val (.int en), .val (.int i)] [(.int i)])
      refine own_iloadN X0 hx (hb hby d3_5) rfl ?_
      show own_R p e below s _ _ _ s₁ (mkF m 6 #[.val (.ref a1), .val (.int ch), .val (.int st), .val (.int en), .val (.int i)] [(.int en), (.int i)])
      refine own_icmp X0 hx (hb hby d3_6) (pc' := 26) (by decide) (by decide) (fun hc => ?_) (fun hc => ?_)
      · have hc6 : ¬ i < en := own_ge1 hc
        clear hc
        show own_R p e below s _ _ _ s₁ (mkF m 26 #[.val (.ref a1), .val (.int ch), .val (.int st), .val (.int en), .val (.int i)] [])
        refine own_iconst X0 hx (-1 : Int32) (hb hby d3_26) rfl ?_
        show own_R p e below s _ _ _ s₁ (mkF m 27 #[.val (.ref a1), .val (.int ch), .val (.int st), .val (.int en), .val (.int i)] [(.int (-1 : Int32))])
        refine own_retI X0 hx Bd.returns hlk (hb hby d3_27) ?_ (by decide) (by decide)
        refine ⟨?_, N0, e0⟩
        show some (Value.int _) = some (Value.int (pl_ix xs ch en 4 st))
        rw [← hr, pl_ix, if_neg hc6]
      · have hc6 : i < en := own_ge0 hc
        clear hc
        show own_R p e below s _ _ _ s₁ (mkF m 9 #[.val (.ref a1), .val (.int ch), .val (.int st), .val (.int en), .val (.int i)] [])
        obtain ⟨u0, uk, uj⟩ := pl_up i en k h0 h4 hk' hc6
        refine own_aloadN X0 hx (hb hby d3_9) rfl rfl ?_
        show own_R p e below s _ _ _ s₁ (mkF m 10 #[.val (.ref a1), .val (.int ch), .val (.int st), .val (.int en), .val (.int i)] [(.ref a1)])
        refine own_iload X0 hx (hb hby d3_10) rfl ?_
        show own_R p e below s _ _ _ s₁ (mkF m 12 #[.val (.ref a1), .val (.int ch), .val (.int st), .val (.int en), .val (.int i)] [(.int i), (.ref a1)])
        refine own_caload X0 hx hZ e0 hV (v := .int (xs.getD i.toNatClampNeg 0)) uj (pl_gd _ _) (hb hby d3_12) ?_
        show own_R p e below s _ _ _ s₁ (mkF m 13 #[.val (.ref a1), .val (.int ch), .val (.int st), .val (.int en), .val (.int i)] [(.int (xs.getD i.toNatClampNeg 0))])
        refine own_iloadN X0 hx (hb hby d3_13) rfl ?_
        show own_R p e below s _ _ _ s₁ (mkF m 14 #[.val (.ref a1), .val (.int ch), .val (.int st), .val (.int en), .val (.int i)] [(.int ch), (.int (xs.getD i.toNatClampNeg 0))])
        refine own_icmp X0 hx (hb hby d3_14) (pc' := 20) (by decide) (by decide) (fun hc => ?_) (fun hc => ?_)
        · have hc14 : ¬ (xs.getD i.toNatClampNeg 0) = ch := own_ne1 hc
          clear hc
          show own_R p e below s _ _ _ s₁ (mkF m 20 #[.val (.ref a1), .val (.int ch), .val (.int st), .val (.int en), .val (.int i)] [])
          refine own_iinc X0 hx (1 : Int32) (hb hby d3_20) rfl rfl (l' := #[.val (.ref a1), .val (.int ch), .val (.int st), .val (.int en), .val (.int (i + (1 : Int32)))]) rfl ?_
          show own_R p e below s _ _ _ s₁ (mkF m 23 #[.val (.ref a1), .val (.int ch), .val (.int st), .val (.int en), .val (.int (i + (1 : Int32)))] [])
          refine own_goto X0 hx (hb hby d3_23) (pc' := 3) (by decide) (by decide) ?_
          show own_R p e below s _ _ _ s₁ (mkF m 3 #[.val (.ref a1), .val (.int ch), .val (.int st), .val (.int en), .val (.int (i + (1 : Int32)))] [])
          exact ih (i + 1) u0 uk (by rw [← hr]; conv => rhs; rw [pl_ix, if_pos hc6, if_neg hc14])
        · have hc14 : (xs.getD i.toNatClampNeg 0) = ch := own_ne0 hc
          clear hc
          show own_R p e below s _ _ _ s₁ (mkF m 17 #[.val (.ref a1), .val (.int ch), .val (.int st), .val (.int en), .val (.int i)] [])
          refine own_iload X0 hx (hb hby d3_17) rfl ?_
          show own_R p e below s _ _ _ s₁ (mkF m 19 #[.val (.ref a1), .val (.int ch), .val (.int st), .val (.int en), .val (.int i)] [(.int i)])
          refine own_retI X0 hx Bd.returns hlk (hb hby d3_19) ?_ (by decide) (by decide)
          refine ⟨?_, N0, e0⟩
          show some (Value.int _) = some (Value.int (pl_ix xs ch en 4 st))
          rw [← hr, pl_ix, if_pos hc6, if_pos hc14]
  refine own_iloadN X0 hx (hb hby d3_0) rfl ?_
  show own_R p e below s _ _ _ s₁ (mkF m 1 #[.val (.ref a1), .val (.int ch), .val (.int st), .val (.int en), .unset] [(.int st)])
  refine own_istore X0 hx (hb hby d3_1) (l' := #[.val (.ref a1), .val (.int ch), .val (.int st), .val (.int en), .val (.int st)]) rfl ?_
  show own_R p e below s _ _ _ s₁ (mkF m 3 #[.val (.ref a1), .val (.int ch), .val (.int st), .val (.int en), .val (.int st)] [])
  exact lp 4 st hs0 (by omega) rfl
set_option maxHeartbeats 4000000 in
theorem pl_main (x0 x1 x2 x3 c st en : Int32) (hs : st = 0 ∨ st = 1 ∨ st = 2 ∨ st = 3 ∨ st = 4) (he : en = 0 ∨ en = 1 ∨ en = 2 ∨ en = 3 ∨ en = 4) :
    pl_ix [x0, x1, x2, x3] c en 4 st = if pl_hit c 0 st en [x0, x1, x2, x3] = 0 then (if pl_hit c 1 st en [x0, x1, x2, x3] = 0 then (if pl_hit c 2 st en [x0, x1, x2, x3] = 0 then (if pl_hit c 3 st en [x0, x1, x2, x3] = 0 then -1 else 3) else 2) else 1) else 0 := by
  have g0 : ([x0, x1, x2, x3] : List Int32).getD (0 : Int32).toNatClampNeg 0 = x0 := rfl
  have g1 : ([x0, x1, x2, x3] : List Int32).getD (1 : Int32).toNatClampNeg 0 = x1 := rfl
  have g2 : ([x0, x1, x2, x3] : List Int32).getD (2 : Int32).toNatClampNeg 0 = x2 := rfl
  have g3 : ([x0, x1, x2, x3] : List Int32).getD (3 : Int32).toNatClampNeg 0 = x3 := rfl
  have a0 : (0 : Int32) + 1 = 1 := by decide
  have a1 : (1 : Int32) + 1 = 2 := by decide
  have a2 : (2 : Int32) + 1 = 3 := by decide
  have a3 : (3 : Int32) + 1 = 4 := by decide
  rcases hs with rfl | rfl | rfl | rfl | rfl <;> rcases he with rfl | rfl | rfl | rfl | rfl <;>
    simp only [pl_ix, pl_hit, g0, g1, g2, g3, a0, a1, a2, a3, (show ((0 : Int32) < (0 : Int32)) = False from by decide), (show ((0 : Int32) < (1 : Int32)) = True from by decide), (show ((0 : Int32) < (2 : Int32)) = True from by decide), (show ((0 : Int32) < (3 : Int32)) = True from by decide), (show ((0 : Int32) < (4 : Int32)) = True from by decide), (show ((1 : Int32) < (0 : Int32)) = False from by decide), (show ((1 : Int32) < (1 : Int32)) = False from by decide), (show ((1 : Int32) < (2 : Int32)) = True from by decide), (show ((1 : Int32) < (3 : Int32)) = True from by decide), (show ((1 : Int32) < (4 : Int32)) = True from by decide), (show ((2 : Int32) < (0 : Int32)) = False from by decide), (show ((2 : Int32) < (1 : Int32)) = False from by decide), (show ((2 : Int32) < (2 : Int32)) = False from by decide), (show ((2 : Int32) < (3 : Int32)) = True from by decide), (show ((2 : Int32) < (4 : Int32)) = True from by decide), (show ((3 : Int32) < (0 : Int32)) = False from by decide), (show ((3 : Int32) < (1 : Int32)) = False from by decide), (show ((3 : Int32) < (2 : Int32)) = False from by decide), (show ((3 : Int32) < (3 : Int32)) = False from by decide), (show ((3 : Int32) < (4 : Int32)) = True from by decide), (show ((4 : Int32) < (0 : Int32)) = False from by decide), (show ((4 : Int32) < (1 : Int32)) = False from by decide), (show ((4 : Int32) < (2 : Int32)) = False from by decide), (show ((4 : Int32) < (3 : Int32)) = False from by decide), (show ((4 : Int32) < (4 : Int32)) = False from by decide), if_true, if_false] <;>
    by_cases q0 : x0 = c <;> by_cases q1 : x1 = c <;> by_cases q2 : x2 = c <;> by_cases q3 : x3 = c <;> simp [q0, q1, q2, q3]
theorem pn_0 : plainFor (⟨"com/example/normative/normative/listing/LineTextIndexOfPinLaw", "law", "(IIIIII)Z"⟩ : MethodName) = true := by decide +kernel
theorem ef_0 (m : MethodId) (p0 : Int32) (p1 : Int32) (p2 : Int32) (p3 : Int32) (p4 : Int32) (p5 : Int32) : entryFrame m #[(.int p0), (.int p1), (.int p2), (.int p3), (.int p4), (.int p5)] maxLocals = mkF m 0 #[.val (.int p0), .val (.int p1), .val (.int p2), .val (.int p3), .val (.int p4), .val (.int p5), .unset, .unset, .unset, .unset, .unset, .unset] [] := by first | (simp [entryFrame, mkF, argsToLocals, Value.category, maxLocals]; done) | rfl
def Q0 (Z : State) (p0 : Int32) (p1 : Int32) (p2 : Int32) (p3 : Int32) (p4 : Int32) (p5 : Int32) (h0 : Heap) (n0 : Nat) (v : Option Value) (h : Heap) (L : List Loc) : Prop := v = some (.int 1) ∧ Fr n0 L
set_option maxRecDepth 65536 in
set_option maxHeartbeats 40000000 in
theorem rm0 (l : Launch) (Z : State) (a0 : Array Value) (hw : ∀ d ∈ tables_1, d.before a0 Z = true) (ws : List Jvm.Cond) (p0 : Int32) (p1 : Int32) (p2 : Int32) (p3 : Int32) (p4 : Int32) (p5 : Int32) (h0 : Heap) (n0 : Nat) (Z0 : n0 ≤ h0.size) :
    MetFree l x (head1 (Jvm.Cond.code x code maxLocals ret :: ws) room_1) (fun a U => a = #[(.int p0), (.int p1), (.int p2), (.int p3), (.int p4), (.int p5)] ∧ Z.Warmed39 U.vm ∧ U.heap = h0) (fun _ _ _ _ _ => True) (fun _ U o U' => ∃ v L, o = .returned v ∧ Q0 Z p0 p1 p2 p3 p4 p5 h0 n0 v U'.heap L ∧ FrameEnd U o U' L room_1.cells room_1.slots) := by
  refine MetFree.of_bodySF pn_0 hisR ?_
  intro p e s m args below meth c s₁ Bd hml0 hP hK
  obtain ⟨rfl, hZ, hh⟩ := hP
  have hx := Bd.exec
  have hby := Bd.bytes
  have hml : c.maxLocals = 12 := hml0
  have hown : s.vm.findClass "com/example/normative/normative/listing/LineTextIndexOfPinLaw" = some m.cls := findClass_of_methodNamed Bd.named
  have hnm := (name_of_methodNamed Bd.named Bd.method).1
  have hlk := BodyLoose.notSynchronized Bd
  have X0 : Stand p l e room_1 s m #[(.int p0), (.int p1), (.int p2), (.int p3), (.int p4), (.int p5)] below meth c s₁ [] 0 0 := Stand.of_body Bd
  have e0 : s₁.heap = h0 := by rw [← hh, Bd.state]; rfl
  have N0 := Fr.nil n0
  show own_R p e below s (Q0 Z p0 p1 p2 p3 p4 p5 h0 n0) room_1.cells room_1.slots s₁ (entryFrame m #[(.int p0), (.int p1), (.int p2), (.int p3), (.int p4), (.int p5)] maxLocals)
  refine own_cast (ef_0 m p0 p1 p2 p3 p4 p5) ?_
  show own_R p e below s _ _ _ s₁ (mkF m 0 #[.val (.int p0), .val (.int p1), .val (.int p2), .val (.int p3), .val (.int p4), .val (.int p5), .unset, .unset, .unset, .unset, .unset, .unset] [])
  have K0 := Keep.refl h0 ([] : List Addr)
  refine own_iloadN X0 hx (hb hby at_0) rfl ?_
  show own_R p e below s _ _ _ s₁ (mkF m 1 #[.val (.int p0), .val (.int p1), .val (.int p2), .val (.int p3), .val (.int p4), .val (.int p5), .unset, .unset, .unset, .unset, .unset, .unset] [(.int p0)])
  refine own_i2c X0 hx (hb hby at_1) ?_
  show own_R p e below s _ _ _ s₁ (mkF m 2 #[.val (.int p0), .val (.int p1), .val (.int p2), .val (.int p3), .val (.int p4), .val (.int p5), .unset, .unset, .unset, .unset, .unset, .unset] [(.int (p0.toUInt32.toUInt16.toUInt32.toInt32))])
  refine own_istore X0 hx (hb hby at_2) (l' := #[.val (.int p0), .val (.int p1), .val (.int p2), .val (.int p3), .val (.int p4), .val (.int p5), .val (.int (p0.toUInt32.toUInt16.toUInt32.toInt32)), .unset, .unset, .unset, .unset, .unset]) rfl ?_
  show own_R p e below s _ _ _ s₁ (mkF m 4 #[.val (.int p0), .val (.int p1), .val (.int p2), .val (.int p3), .val (.int p4), .val (.int p5), .val (.int (p0.toUInt32.toUInt16.toUInt32.toInt32)), .unset, .unset, .unset, .unset, .unset] [])
  refine own_iconst X0 hx (4 : Int32) (hb hby at_4) rfl ?_
  show own_R p e below s _ _ _ s₁ (mkF m 5 #[.val (.int p0), .val (.int p1), .val (.int p2), .val (.int p3), .val (.int p4), .val (.int p5), .val (.int (p0.toUInt32.toUInt16.toUInt32.toInt32)), .unset, .unset, .unset, .unset, .unset] [(.int (4 : Int32))])
  refine own_newA X0 hx hZ (hw _ (List.mem_of_getElem? (i := 0) rfl)) e0 (hb hby at_5) (by decide) 4 (by decide) (by decide) (by decide) (by decide) (ad := "[C") (by decide) 4 ?_
  intro T1 h1 b1 k1 g1 X1 e1 E1 V1 A1
  have sz_b1 : h0.size ≤ b1 := Nat.le_trans K0.1 (Nat.le_of_eq g1.symm)
  have n0_b1 : n0 ≤ b1 := Nat.le_trans Z0 sz_b1
  have K1 := K0.ext E1
  have V_b1 : Arv Z h1 b1 k1 .char (4 : Int32) [(.int (0 : Int32)), (.int (0 : Int32)), (.int (0 : Int32)), (.int (0 : Int32))] (.int (0 : Int32)) := V1
  show own_R p e below s _ _ _ T1 (mkF m 7 #[.val (.int p0), .val (.int p1), .val (.int p2), .val (.int p3), .val (.int p4), .val (.int p5), .val (.int (p0.toUInt32.toUInt16.toUInt32.toInt32)), .unset, .unset, .unset, .unset, .unset] [(.ref b1)])
  refine own_astore X1 hx (hb hby at_7) rfl (l' := #[.val (.int p0), .val (.int p1), .val (.int p2), .val (.int p3), .val (.int p4), .val (.int p5), .val (.int (p0.toUInt32.toUInt16.toUInt32.toInt32)), .val (.ref b1), .unset, .unset, .unset, .unset]) rfl ?_
  show own_R p e below s _ _ _ T1 (mkF m 9 #[.val (.int p0), .val (.int p1), .val (.int p2), .val (.int p3), .val (.int p4), .val (.int p5), .val (.int (p0.toUInt32.toUInt16.toUInt32.toInt32)), .val (.ref b1), .unset, .unset, .unset, .unset] [])
  refine own_aload X1 hx (hb hby at_9) rfl rfl ?_
  show own_R p e below s _ _ _ T1 (mkF m 11 #[.val (.int p0), .val (.int p1), .val (.int p2), .val (.int p3), .val (.int p4), .val (.int p5), .val (.int (p0.toUInt32.toUInt16.toUInt32.toInt32)), .val (.ref b1), .unset, .unset, .unset, .unset] [(.ref b1)])
  refine own_iconst X1 hx (0 : Int32) (hb hby at_11) rfl ?_
  show own_R p e below s _ _ _ T1 (mkF m 12 #[.val (.int p0), .val (.int p1), .val (.int p2), .val (.int p3), .val (.int p4), .val (.int p5), .val (.int (p0.toUInt32.toUInt16.toUInt32.toInt32)), .val (.ref b1), .unset, .unset, .unset, .unset] [(.int (0 : Int32)), (.ref b1)])
  refine own_iloadN X1 hx (hb hby at_12) rfl ?_
  show own_R p e below s _ _ _ T1 (mkF m 13 #[.val (.int p0), .val (.int p1), .val (.int p2), .val (.int p3), .val (.int p4), .val (.int p5), .val (.int (p0.toUInt32.toUInt16.toUInt32.toInt32)), .val (.ref b1), .unset, .unset, .unset, .unset] [(.int p1), (.int (0 : Int32)), (.ref b1)])
  refine own_iconst X1 hx (0 : Int32) (hb hby at_13) rfl ?_
  show own_R p e below s _ _ _ T1 (mkF m 14 #[.val (.int p0), .val (.int p1), .val (.int p2), .val (.int p3), .val (.int p4), .val (.int p5), .val (.int (p0.toUInt32.toUInt16.toUInt32.toInt32)), .val (.ref b1), .unset, .unset, .unset, .unset] [(.int (0 : Int32)), (.int p1), (.int (0 : Int32)), (.ref b1)])
  refine own_iload X1 hx (hb hby at_14) rfl ?_
  show own_R p e below s _ _ _ T1 (mkF m 16 #[.val (.int p0), .val (.int p1), .val (.int p2), .val (.int p3), .val (.int p4), .val (.int p5), .val (.int (p0.toUInt32.toUInt16.toUInt32.toInt32)), .val (.ref b1), .unset, .unset, .unset, .unset] [(.int (p0.toUInt32.toUInt16.toUInt32.toInt32)), (.int (0 : Int32)), (.int p1), (.int (0 : Int32)), (.ref b1)])
  refine own_iloadN X1 hx (hb hby at_16) rfl ?_
  show own_R p e below s _ _ _ T1 (mkF m 17 #[.val (.int p0), .val (.int p1), .val (.int p2), .val (.int p3), .val (.int p4), .val (.int p5), .val (.int (p0.toUInt32.toUInt16.toUInt32.toInt32)), .val (.ref b1), .unset, .unset, .unset, .unset] [(.int p2), (.int (p0.toUInt32.toUInt16.toUInt32.toInt32)), (.int (0 : Int32)), (.int p1), (.int (0 : Int32)), (.ref b1)])
  refine own_i2c X1 hx (hb hby at_17) ?_
  show own_R p e below s _ _ _ T1 (mkF m 18 #[.val (.int p0), .val (.int p1), .val (.int p2), .val (.int p3), .val (.int p4), .val (.int p5), .val (.int (p0.toUInt32.toUInt16.toUInt32.toInt32)), .val (.ref b1), .unset, .unset, .unset, .unset] [(.int (p2.toUInt32.toUInt16.toUInt32.toInt32)), (.int (p0.toUInt32.toUInt16.toUInt32.toInt32)), (.int (0 : Int32)), (.int p1), (.int (0 : Int32)), (.ref b1)])
  refine own_callS X1 hx hZ (y := (⟨"com/example/normative/normative/listing/LineTextIndexOfPinLaw", "pick", "(IICC)C"⟩ : MethodName)) hown (hw _ (List.mem_of_getElem? (i := 1) rfl)) (hw _ (List.mem_of_getElem? (i := 2) rfl)) (hw _ (List.mem_of_getElem? (i := 3) rfl)) (hw _ (List.mem_of_getElem? (i := 4) rfl)) (by decide) (rm1 l Z a0 hw [] p1 (0 : Int32) (p0.toUInt32.toUInt16.toUInt32.toInt32) (p2.toUInt32.toUInt16.toUInt32.toInt32) h1 n0 (Nat.le_trans Z0 K1.1)) 2 (by decide) (by decide) e1 (by rw [hml]; rfl) [(.int p1), (.int (0 : Int32)), (.int (p0.toUInt32.toUInt16.toUInt32.toInt32)), (.int (p2.toUInt32.toUInt16.toUInt32.toInt32))] [(.int (0 : Int32)), (.ref b1)] rfl (lenOf pd_0 rfl) rfl (Nat.le_of_eq rfl) (hb hby at_18) (by decide) (by decide) ?_
  rintro T2 _ L2 X2 ⟨rfl, N2q, e2⟩
  have N2 := Fr.app N0 N2q
  show own_R p e below s _ _ _ T2 (mkF m 21 #[.val (.int p0), .val (.int p1), .val (.int p2), .val (.int p3), .val (.int p4), .val (.int p5), .val (.int (p0.toUInt32.toUInt16.toUInt32.toInt32)), .val (.ref b1), .unset, .unset, .unset, .unset] [(.int (pl_pick p1 (0 : Int32) (p0.toUInt32.toUInt16.toUInt32.toInt32) (p2.toUInt32.toUInt16.toUInt32.toInt32))), (.int (0 : Int32)), (.ref b1)])
  obtain ⟨x0, hx0⟩ : ∃ z, z = nar .char (pl_pick p1 (0 : Int32) (p0.toUInt32.toUInt16.toUInt32.toInt32) (p2.toUInt32.toUInt16.toUInt32.toInt32)) := ⟨_, rfl⟩
  refine own_castore X2 hx hZ e2 V_b1 (x' := x0) hx0.symm ⟨by decide, by decide⟩ 0 rfl (Nat.le_of_ble_eq_true rfl) (hb hby at_21) ?_
  intro T3 h3 X3 e3 W3 V3
  have K3 := K1.wr W3 (Or.inr sz_b1)
  have N3 := Fr.snoc X3 N2 n0_b1
  have V_b1_3 : Arv Z h3 b1 k1 .char (4 : Int32) [(.int x0), (.int (0 : Int32)), (.int (0 : Int32)), (.int (0 : Int32))] (.int (0 : Int32)) := V3
  show own_R p e below s _ _ _ T3 (mkF m 22 #[.val (.int p0), .val (.int p1), .val (.int p2), .val (.int p3), .val (.int p4), .val (.int p5), .val (.int (p0.toUInt32.toUInt16.toUInt32.toInt32)), .val (.ref b1), .unset, .unset, .unset, .unset] [])
  refine own_aload X3 hx (hb hby at_22) rfl rfl ?_
  show own_R p e below s _ _ _ T3 (mkF m 24 #[.val (.int p0), .val (.int p1), .val (.int p2), .val (.int p3), .val (.int p4), .val (.int p5), .val (.int (p0.toUInt32.toUInt16.toUInt32.toInt32)), .val (.ref b1), .unset, .unset, .unset, .unset] [(.ref b1)])
  refine own_iconst X3 hx (1 : Int32) (hb hby at_24) rfl ?_
  show own_R p e below s _ _ _ T3 (mkF m 25 #[.val (.int p0), .val (.int p1), .val (.int p2), .val (.int p3), .val (.int p4), .val (.int p5), .val (.int (p0.toUInt32.toUInt16.toUInt32.toInt32)), .val (.ref b1), .unset, .unset, .unset, .unset] [(.int (1 : Int32)), (.ref b1)])
  refine own_iloadN X3 hx (hb hby at_25) rfl ?_
  show own_R p e below s _ _ _ T3 (mkF m 26 #[.val (.int p0), .val (.int p1), .val (.int p2), .val (.int p3), .val (.int p4), .val (.int p5), .val (.int (p0.toUInt32.toUInt16.toUInt32.toInt32)), .val (.ref b1), .unset, .unset, .unset, .unset] [(.int p1), (.int (1 : Int32)), (.ref b1)])
  refine own_iconst X3 hx (1 : Int32) (hb hby at_26) rfl ?_
  show own_R p e below s _ _ _ T3 (mkF m 27 #[.val (.int p0), .val (.int p1), .val (.int p2), .val (.int p3), .val (.int p4), .val (.int p5), .val (.int (p0.toUInt32.toUInt16.toUInt32.toInt32)), .val (.ref b1), .unset, .unset, .unset, .unset] [(.int (1 : Int32)), (.int p1), (.int (1 : Int32)), (.ref b1)])
  refine own_iload X3 hx (hb hby at_27) rfl ?_
  show own_R p e below s _ _ _ T3 (mkF m 29 #[.val (.int p0), .val (.int p1), .val (.int p2), .val (.int p3), .val (.int p4), .val (.int p5), .val (.int (p0.toUInt32.toUInt16.toUInt32.toInt32)), .val (.ref b1), .unset, .unset, .unset, .unset] [(.int (p0.toUInt32.toUInt16.toUInt32.toInt32)), (.int (1 : Int32)), (.int p1), (.int (1 : Int32)), (.ref b1)])
  refine own_iloadN X3 hx (hb hby at_29) rfl ?_
  show own_R p e below s _ _ _ T3 (mkF m 30 #[.val (.int p0), .val (.int p1), .val (.int p2), .val (.int p3), .val (.int p4), .val (.int p5), .val (.int (p0.toUInt32.toUInt16.toUInt32.toInt32)), .val (.ref b1), .unset, .unset, .unset, .unset] [(.int p2), (.int (p0.toUInt32.toUInt16.toUInt32.toInt32)), (.int (1 : Int32)), (.int p1), (.int (1 : Int32)), (.ref b1)])
  refine own_bipush X3 hx (16 : Int32) (hb hby at_30) rfl ?_
  show own_R p e below s _ _ _ T3 (mkF m 32 #[.val (.int p0), .val (.int p1), .val (.int p2), .val (.int p3), .val (.int p4), .val (.int p5), .val (.int (p0.toUInt32.toUInt16.toUInt32.toInt32)), .val (.ref b1), .unset, .unset, .unset, .unset] [(.int (16 : Int32)), (.int p2), (.int (p0.toUInt32.toUInt16.toUInt32.toInt32)), (.int (1 : Int32)), (.int p1), (.int (1 : Int32)), (.ref b1)])
  refine own_iushr X3 hx (hb hby at_32) ?_
  show own_R p e below s _ _ _ T3 (mkF m 33 #[.val (.int p0), .val (.int p1), .val (.int p2), .val (.int p3), .val (.int p4), .val (.int p5), .val (.int (p0.toUInt32.toUInt16.toUInt32.toInt32)), .val (.ref b1), .unset, .unset, .unset, .unset] [(.int ((p2.toUInt32 >>> ((16 : Int32) &&& 31).toUInt32).toInt32)), (.int (p0.toUInt32.toUInt16.toUInt32.toInt32)), (.int (1 : Int32)), (.int p1), (.int (1 : Int32)), (.ref b1)])
  refine own_i2c X3 hx (hb hby at_33) ?_
  show own_R p e below s _ _ _ T3 (mkF m 34 #[.val (.int p0), .val (.int p1), .val (.int p2), .val (.int p3), .val (.int p4), .val (.int p5), .val (.int (p0.toUInt32.toUInt16.toUInt32.toInt32)), .val (.ref b1), .unset, .unset, .unset, .unset] [(.int (((p2.toUInt32 >>> ((16 : Int32) &&& 31).toUInt32).toInt32).toUInt32.toUInt16.toUInt32.toInt32)), (.int (p0.toUInt32.toUInt16.toUInt32.toInt32)), (.int (1 : Int32)), (.int p1), (.int (1 : Int32)), (.ref b1)])
  refine own_callS X3 hx hZ (y := (⟨"com/example/normative/normative/listing/LineTextIndexOfPinLaw", "pick", "(IICC)C"⟩ : MethodName)) hown (hw _ (List.mem_of_getElem? (i := 1) rfl)) (hw _ (List.mem_of_getElem? (i := 2) rfl)) (hw _ (List.mem_of_getElem? (i := 3) rfl)) (hw _ (List.mem_of_getElem? (i := 4) rfl)) (by decide) (rm1 l Z a0 hw [] p1 (1 : Int32) (p0.toUInt32.toUInt16.toUInt32.toInt32) (((p2.toUInt32 >>> ((16 : Int32) &&& 31).toUInt32).toInt32).toUInt32.toUInt16.toUInt32.toInt32) h3 n0 (Nat.le_trans Z0 K3.1)) 2 (by decide) (by decide) e3 (by rw [hml]; rfl) [(.int p1), (.int (1 : Int32)), (.int (p0.toUInt32.toUInt16.toUInt32.toInt32)), (.int (((p2.toUInt32 >>> ((16 : Int32) &&& 31).toUInt32).toInt32).toUInt32.toUInt16.toUInt32.toInt32))] [(.int (1 : Int32)), (.ref b1)] rfl (lenOf pd_0 rfl) rfl (Nat.le_of_eq rfl) (hb hby at_34) (by decide) (by decide) ?_
  rintro T4 _ L4 X4 ⟨rfl, N4q, e4⟩
  have N4 := Fr.app N3 N4q
  show own_R p e below s _ _ _ T4 (mkF m 37 #[.val (.int p0), .val (.int p1), .val (.int p2), .val (.int p3), .val (.int p4), .val (.int p5), .val (.int (p0.toUInt32.toUInt16.toUInt32.toInt32)), .val (.ref b1), .unset, .unset, .unset, .unset] [(.int (pl_pick p1 (1 : Int32) (p0.toUInt32.toUInt16.toUInt32.toInt32) (((p2.toUInt32 >>> ((16 : Int32) &&& 31).toUInt32).toInt32).toUInt32.toUInt16.toUInt32.toInt32))), (.int (1 : Int32)), (.ref b1)])
  obtain ⟨x1, hx1⟩ : ∃ z, z = nar .char (pl_pick p1 (1 : Int32) (p0.toUInt32.toUInt16.toUInt32.toInt32) (((p2.toUInt32 >>> ((16 : Int32) &&& 31).toUInt32).toInt32).toUInt32.toUInt16.toUInt32.toInt32)) := ⟨_, rfl⟩
  refine own_castore X4 hx hZ e4 V_b1_3 (x' := x1) hx1.symm ⟨by decide, by decide⟩ 1 rfl (Nat.le_of_ble_eq_true rfl) (hb hby at_37) ?_
  intro T5 h5 X5 e5 W5 V5
  have K5 := K3.wr W5 (Or.inr sz_b1)
  have N5 := Fr.snoc X5 N4 n0_b1
  have V_b1_5 : Arv Z h5 b1 k1 .char (4 : Int32) [(.int x0), (.int x1), (.int (0 : Int32)), (.int (0 : Int32))] (.int (0 : Int32)) := V5
  show own_R p e below s _ _ _ T5 (mkF m 38 #[.val (.int p0), .val (.int p1), .val (.int p2), .val (.int p3), .val (.int p4), .val (.int p5), .val (.int (p0.toUInt32.toUInt16.toUInt32.toInt32)), .val (.ref b1), .unset, .unset, .unset, .unset] [])
  refine own_aload X5 hx (hb hby at_38) rfl rfl ?_
  show own_R p e below s _ _ _ T5 (mkF m 40 #[.val (.int p0), .val (.int p1), .val (.int p2), .val (.int p3), .val (.int p4), .val (.int p5), .val (.int (p0.toUInt32.toUInt16.toUInt32.toInt32)), .val (.ref b1), .unset, .unset, .unset, .unset] [(.ref b1)])
  refine own_iconst X5 hx (2 : Int32) (hb hby at_40) rfl ?_
  show own_R p e below s _ _ _ T5 (mkF m 41 #[.val (.int p0), .val (.int p1), .val (.int p2), .val (.int p3), .val (.int p4), .val (.int p5), .val (.int (p0.toUInt32.toUInt16.toUInt32.toInt32)), .val (.ref b1), .unset, .unset, .unset, .unset] [(.int (2 : Int32)), (.ref b1)])
  refine own_iloadN X5 hx (hb hby at_41) rfl ?_
  show own_R p e below s _ _ _ T5 (mkF m 42 #[.val (.int p0), .val (.int p1), .val (.int p2), .val (.int p3), .val (.int p4), .val (.int p5), .val (.int (p0.toUInt32.toUInt16.toUInt32.toInt32)), .val (.ref b1), .unset, .unset, .unset, .unset] [(.int p1), (.int (2 : Int32)), (.ref b1)])
  refine own_iconst X5 hx (2 : Int32) (hb hby at_42) rfl ?_
  show own_R p e below s _ _ _ T5 (mkF m 43 #[.val (.int p0), .val (.int p1), .val (.int p2), .val (.int p3), .val (.int p4), .val (.int p5), .val (.int (p0.toUInt32.toUInt16.toUInt32.toInt32)), .val (.ref b1), .unset, .unset, .unset, .unset] [(.int (2 : Int32)), (.int p1), (.int (2 : Int32)), (.ref b1)])
  refine own_iload X5 hx (hb hby at_43) rfl ?_
  show own_R p e below s _ _ _ T5 (mkF m 45 #[.val (.int p0), .val (.int p1), .val (.int p2), .val (.int p3), .val (.int p4), .val (.int p5), .val (.int (p0.toUInt32.toUInt16.toUInt32.toInt32)), .val (.ref b1), .unset, .unset, .unset, .unset] [(.int (p0.toUInt32.toUInt16.toUInt32.toInt32)), (.int (2 : Int32)), (.int p1), (.int (2 : Int32)), (.ref b1)])
  refine own_iloadN X5 hx (hb hby at_45) rfl ?_
  show own_R p e below s _ _ _ T5 (mkF m 46 #[.val (.int p0), .val (.int p1), .val (.int p2), .val (.int p3), .val (.int p4), .val (.int p5), .val (.int (p0.toUInt32.toUInt16.toUInt32.toInt32)), .val (.ref b1), .unset, .unset, .unset, .unset] [(.int p3), (.int (p0.toUInt32.toUInt16.toUInt32.toInt32)), (.int (2 : Int32)), (.int p1), (.int (2 : Int32)), (.ref b1)])
  refine own_i2c X5 hx (hb hby at_46) ?_
  show own_R p e below s _ _ _ T5 (mkF m 47 #[.val (.int p0), .val (.int p1), .val (.int p2), .val (.int p3), .val (.int p4), .val (.int p5), .val (.int (p0.toUInt32.toUInt16.toUInt32.toInt32)), .val (.ref b1), .unset, .unset, .unset, .unset] [(.int (p3.toUInt32.toUInt16.toUInt32.toInt32)), (.int (p0.toUInt32.toUInt16.toUInt32.toInt32)), (.int (2 : Int32)), (.int p1), (.int (2 : Int32)), (.ref b1)])
  refine own_callS X5 hx hZ (y := (⟨"com/example/normative/normative/listing/LineTextIndexOfPinLaw", "pick", "(IICC)C"⟩ : MethodName)) hown (hw _ (List.mem_of_getElem? (i := 1) rfl)) (hw _ (List.mem_of_getElem? (i := 2) rfl)) (hw _ (List.mem_of_getElem? (i := 3) rfl)) (hw _ (List.mem_of_getElem? (i := 4) rfl)) (by decide) (rm1 l Z a0 hw [] p1 (2 : Int32) (p0.toUInt32.toUInt16.toUInt32.toInt32) (p3.toUInt32.toUInt16.toUInt32.toInt32) h5 n0 (Nat.le_trans Z0 K5.1)) 2 (by decide) (by decide) e5 (by rw [hml]; rfl) [(.int p1), (.int (2 : Int32)), (.int (p0.toUInt32.toUInt16.toUInt32.toInt32)), (.int (p3.toUInt32.toUInt16.toUInt32.toInt32))] [(.int (2 : Int32)), (.ref b1)] rfl (lenOf pd_0 rfl) rfl (Nat.le_of_eq rfl) (hb hby at_47) (by decide) (by decide) ?_
  rintro T6 _ L6 X6 ⟨rfl, N6q, e6⟩
  have N6 := Fr.app N5 N6q
  show own_R p e below s _ _ _ T6 (mkF m 50 #[.val (.int p0), .val (.int p1), .val (.int p2), .val (.int p3), .val (.int p4), .val (.int p5), .val (.int (p0.toUInt32.toUInt16.toUInt32.toInt32)), .val (.ref b1), .unset, .unset, .unset, .unset] [(.int (pl_pick p1 (2 : Int32) (p0.toUInt32.toUInt16.toUInt32.toInt32) (p3.toUInt32.toUInt16.toUInt32.toInt32))), (.int (2 : Int32)), (.ref b1)])
  obtain ⟨x2, hx2⟩ : ∃ z, z = nar .char (pl_pick p1 (2 : Int32) (p0.toUInt32.toUInt16.toUInt32.toInt32) (p3.toUInt32.toUInt16.toUInt32.toInt32)) := ⟨_, rfl⟩
  refine own_castore X6 hx hZ e6 V_b1_5 (x' := x2) hx2.symm ⟨by decide, by decide⟩ 2 rfl (Nat.le_of_ble_eq_true rfl) (hb hby at_50) ?_
  intro T7 h7 X7 e7 W7 V7
  have K7 := K5.wr W7 (Or.inr sz_b1)
  have N7 := Fr.snoc X7 N6 n0_b1
  have V_b1_7 : Arv Z h7 b1 k1 .char (4 : Int32) [(.int x0), (.int x1), (.int x2), (.int (0 : Int32))] (.int (0 : Int32)) := V7
  show own_R p e below s _ _ _ T7 (mkF m 51 #[.val (.int p0), .val (.int p1), .val (.int p2), .val (.int p3), .val (.int p4), .val (.int p5), .val (.int (p0.toUInt32.toUInt16.toUInt32.toInt32)), .val (.ref b1), .unset, .unset, .unset, .unset] [])
  refine own_aload X7 hx (hb hby at_51) rfl rfl ?_
  show own_R p e below s _ _ _ T7 (mkF m 53 #[.val (.int p0), .val (.int p1), .val (.int p2), .val (.int p3), .val (.int p4), .val (.int p5), .val (.int (p0.toUInt32.toUInt16.toUInt32.toInt32)), .val (.ref b1), .unset, .unset, .unset, .unset] [(.ref b1)])
  refine own_iconst X7 hx (3 : Int32) (hb hby at_53) rfl ?_
  show own_R p e below s _ _ _ T7 (mkF m 54 #[.val (.int p0), .val (.int p1), .val (.int p2), .val (.int p3), .val (.int p4), .val (.int p5), .val (.int (p0.toUInt32.toUInt16.toUInt32.toInt32)), .val (.ref b1), .unset, .unset, .unset, .unset] [(.int (3 : Int32)), (.ref b1)])
  refine own_iloadN X7 hx (hb hby at_54) rfl ?_
  show own_R p e below s _ _ _ T7 (mkF m 55 #[.val (.int p0), .val (.int p1), .val (.int p2), .val (.int p3), .val (.int p4), .val (.int p5), .val (.int (p0.toUInt32.toUInt16.toUInt32.toInt32)), .val (.ref b1), .unset, .unset, .unset, .unset] [(.int p1), (.int (3 : Int32)), (.ref b1)])
  refine own_iconst X7 hx (3 : Int32) (hb hby at_55) rfl ?_
  show own_R p e below s _ _ _ T7 (mkF m 56 #[.val (.int p0), .val (.int p1), .val (.int p2), .val (.int p3), .val (.int p4), .val (.int p5), .val (.int (p0.toUInt32.toUInt16.toUInt32.toInt32)), .val (.ref b1), .unset, .unset, .unset, .unset] [(.int (3 : Int32)), (.int p1), (.int (3 : Int32)), (.ref b1)])
  refine own_iload X7 hx (hb hby at_56) rfl ?_
  show own_R p e below s _ _ _ T7 (mkF m 58 #[.val (.int p0), .val (.int p1), .val (.int p2), .val (.int p3), .val (.int p4), .val (.int p5), .val (.int (p0.toUInt32.toUInt16.toUInt32.toInt32)), .val (.ref b1), .unset, .unset, .unset, .unset] [(.int (p0.toUInt32.toUInt16.toUInt32.toInt32)), (.int (3 : Int32)), (.int p1), (.int (3 : Int32)), (.ref b1)])
  refine own_iloadN X7 hx (hb hby at_58) rfl ?_
  show own_R p e below s _ _ _ T7 (mkF m 59 #[.val (.int p0), .val (.int p1), .val (.int p2), .val (.int p3), .val (.int p4), .val (.int p5), .val (.int (p0.toUInt32.toUInt16.toUInt32.toInt32)), .val (.ref b1), .unset, .unset, .unset, .unset] [(.int p3), (.int (p0.toUInt32.toUInt16.toUInt32.toInt32)), (.int (3 : Int32)), (.int p1), (.int (3 : Int32)), (.ref b1)])
  refine own_bipush X7 hx (16 : Int32) (hb hby at_59) rfl ?_
  show own_R p e below s _ _ _ T7 (mkF m 61 #[.val (.int p0), .val (.int p1), .val (.int p2), .val (.int p3), .val (.int p4), .val (.int p5), .val (.int (p0.toUInt32.toUInt16.toUInt32.toInt32)), .val (.ref b1), .unset, .unset, .unset, .unset] [(.int (16 : Int32)), (.int p3), (.int (p0.toUInt32.toUInt16.toUInt32.toInt32)), (.int (3 : Int32)), (.int p1), (.int (3 : Int32)), (.ref b1)])
  refine own_iushr X7 hx (hb hby at_61) ?_
  show own_R p e below s _ _ _ T7 (mkF m 62 #[.val (.int p0), .val (.int p1), .val (.int p2), .val (.int p3), .val (.int p4), .val (.int p5), .val (.int (p0.toUInt32.toUInt16.toUInt32.toInt32)), .val (.ref b1), .unset, .unset, .unset, .unset] [(.int ((p3.toUInt32 >>> ((16 : Int32) &&& 31).toUInt32).toInt32)), (.int (p0.toUInt32.toUInt16.toUInt32.toInt32)), (.int (3 : Int32)), (.int p1), (.int (3 : Int32)), (.ref b1)])
  refine own_i2c X7 hx (hb hby at_62) ?_
  show own_R p e below s _ _ _ T7 (mkF m 63 #[.val (.int p0), .val (.int p1), .val (.int p2), .val (.int p3), .val (.int p4), .val (.int p5), .val (.int (p0.toUInt32.toUInt16.toUInt32.toInt32)), .val (.ref b1), .unset, .unset, .unset, .unset] [(.int (((p3.toUInt32 >>> ((16 : Int32) &&& 31).toUInt32).toInt32).toUInt32.toUInt16.toUInt32.toInt32)), (.int (p0.toUInt32.toUInt16.toUInt32.toInt32)), (.int (3 : Int32)), (.int p1), (.int (3 : Int32)), (.ref b1)])
  refine own_callS X7 hx hZ (y := (⟨"com/example/normative/normative/listing/LineTextIndexOfPinLaw", "pick", "(IICC)C"⟩ : MethodName)) hown (hw _ (List.mem_of_getElem? (i := 1) rfl)) (hw _ (List.mem_of_getElem? (i := 2) rfl)) (hw _ (List.mem_of_getElem? (i := 3) rfl)) (hw _ (List.mem_of_getElem? (i := 4) rfl)) (by decide) (rm1 l Z a0 hw [] p1 (3 : Int32) (p0.toUInt32.toUInt16.toUInt32.toInt32) (((p3.toUInt32 >>> ((16 : Int32) &&& 31).toUInt32).toInt32).toUInt32.toUInt16.toUInt32.toInt32) h7 n0 (Nat.le_trans Z0 K7.1)) 2 (by decide) (by decide) e7 (by rw [hml]; rfl) [(.int p1), (.int (3 : Int32)), (.int (p0.toUInt32.toUInt16.toUInt32.toInt32)), (.int (((p3.toUInt32 >>> ((16 : Int32) &&& 31).toUInt32).toInt32).toUInt32.toUInt16.toUInt32.toInt32))] [(.int (3 : Int32)), (.ref b1)] rfl (lenOf pd_0 rfl) rfl (Nat.le_of_eq rfl) (hb hby at_63) (by decide) (by decide) ?_
  rintro T8 _ L8 X8 ⟨rfl, N8q, e8⟩
  have N8 := Fr.app N7 N8q
  show own_R p e below s _ _ _ T8 (mkF m 66 #[.val (.int p0), .val (.int p1), .val (.int p2), .val (.int p3), .val (.int p4), .val (.int p5), .val (.int (p0.toUInt32.toUInt16.toUInt32.toInt32)), .val (.ref b1), .unset, .unset, .unset, .unset] [(.int (pl_pick p1 (3 : Int32) (p0.toUInt32.toUInt16.toUInt32.toInt32) (((p3.toUInt32 >>> ((16 : Int32) &&& 31).toUInt32).toInt32).toUInt32.toUInt16.toUInt32.toInt32))), (.int (3 : Int32)), (.ref b1)])
  obtain ⟨x3, hx3⟩ : ∃ z, z = nar .char (pl_pick p1 (3 : Int32) (p0.toUInt32.toUInt16.toUInt32.toInt32) (((p3.toUInt32 >>> ((16 : Int32) &&& 31).toUInt32).toInt32).toUInt32.toUInt16.toUInt32.toInt32)) := ⟨_, rfl⟩
  refine own_castore X8 hx hZ e8 V_b1_7 (x' := x3) hx3.symm ⟨by decide, by decide⟩ 3 rfl (Nat.le_of_ble_eq_true rfl) (hb hby at_66) ?_
  intro T9 h9 X9 e9 W9 V9
  have K9 := K7.wr W9 (Or.inr sz_b1)
  have N9 := Fr.snoc X9 N8 n0_b1
  have V_b1_9 : Arv Z h9 b1 k1 .char (4 : Int32) [(.int x0), (.int x1), (.int x2), (.int x3)] (.int (0 : Int32)) := V9
  show own_R p e below s _ _ _ T9 (mkF m 67 #[.val (.int p0), .val (.int p1), .val (.int p2), .val (.int p3), .val (.int p4), .val (.int p5), .val (.int (p0.toUInt32.toUInt16.toUInt32.toInt32)), .val (.ref b1), .unset, .unset, .unset, .unset] [])
  refine own_iload X9 hx (hb hby at_67) rfl ?_
  show own_R p e below s _ _ _ T9 (mkF m 69 #[.val (.int p0), .val (.int p1), .val (.int p2), .val (.int p3), .val (.int p4), .val (.int p5), .val (.int (p0.toUInt32.toUInt16.toUInt32.toInt32)), .val (.ref b1), .unset, .unset, .unset, .unset] [(.int p4)])
  refine own_ldc X9 hx hZ hown (hw _ (List.mem_of_getElem? (i := 5) rfl)) (hb hby at_69) ?_
  show own_R p e below s _ _ _ T9 (mkF m 71 #[.val (.int p0), .val (.int p1), .val (.int p2), .val (.int p3), .val (.int p4), .val (.int p5), .val (.int (p0.toUInt32.toUInt16.toUInt32.toInt32)), .val (.ref b1), .unset, .unset, .unset, .unset] [(.int (2147483647 : Int32)), (.int p4)])
  refine own_iand X9 hx (hb hby at_71) ?_
  show own_R p e below s _ _ _ T9 (mkF m 72 #[.val (.int p0), .val (.int p1), .val (.int p2), .val (.int p3), .val (.int p4), .val (.int p5), .val (.int (p0.toUInt32.toUInt16.toUInt32.toInt32)), .val (.ref b1), .unset, .unset, .unset, .unset] [(.int (p4 &&& (2147483647 : Int32)))])
  refine own_iconst X9 hx (5 : Int32) (hb hby at_72) rfl ?_
  show own_R p e below s _ _ _ T9 (mkF m 73 #[.val (.int p0), .val (.int p1), .val (.int p2), .val (.int p3), .val (.int p4), .val (.int p5), .val (.int (p0.toUInt32.toUInt16.toUInt32.toInt32)), .val (.ref b1), .unset, .unset, .unset, .unset] [(.int (5 : Int32)), (.int (p4 &&& (2147483647 : Int32)))])
  refine own_irem X9 hx (hb hby at_73) (by decide) ?_
  show own_R p e below s _ _ _ T9 (mkF m 74 #[.val (.int p0), .val (.int p1), .val (.int p2), .val (.int p3), .val (.int p4), .val (.int p5), .val (.int (p0.toUInt32.toUInt16.toUInt32.toInt32)), .val (.ref b1), .unset, .unset, .unset, .unset] [(.int ((p4 &&& (2147483647 : Int32)) % (5 : Int32)))])
  refine own_istore X9 hx (hb hby at_74) (l' := #[.val (.int p0), .val (.int p1), .val (.int p2), .val (.int p3), .val (.int p4), .val (.int p5), .val (.int (p0.toUInt32.toUInt16.toUInt32.toInt32)), .val (.ref b1), .val (.int ((p4 &&& (2147483647 : Int32)) % (5 : Int32))), .unset, .unset, .unset]) rfl ?_
  show own_R p e below s _ _ _ T9 (mkF m 76 #[.val (.int p0), .val (.int p1), .val (.int p2), .val (.int p3), .val (.int p4), .val (.int p5), .val (.int (p0.toUInt32.toUInt16.toUInt32.toInt32)), .val (.ref b1), .val (.int ((p4 &&& (2147483647 : Int32)) % (5 : Int32))), .unset, .unset, .unset] [])
  obtain ⟨st, hst, hst5⟩ : ∃ z : Int32, z = ((p4 &&& (2147483647 : Int32)) % (5 : Int32)) ∧ (z = 0 ∨ z = 1 ∨ z = 2 ∨ z = 3 ∨ z = 4) := ⟨_, rfl, pl_5 _⟩
  rw [← hst]
  show own_R p e below s _ _ _ T9 (mkF m 76 #[.val (.int p0), .val (.int p1), .val (.int p2), .val (.int p3), .val (.int p4), .val (.int p5), .val (.int (p0.toUInt32.toUInt16.toUInt32.toInt32)), .val (.ref b1), .val (.int st), .unset, .unset, .unset] [])
  refine own_iload X9 hx (hb hby at_76) rfl ?_
  show own_R p e below s _ _ _ T9 (mkF m 78 #[.val (.int p0), .val (.int p1), .val (.int p2), .val (.int p3), .val (.int p4), .val (.int p5), .val (.int (p0.toUInt32.toUInt16.toUInt32.toInt32)), .val (.ref b1), .val (.int st), .unset, .unset, .unset] [(.int p5)])
  refine own_ldc X9 hx hZ hown (hw _ (List.mem_of_getElem? (i := 5) rfl)) (hb hby at_78) ?_
  show own_R p e below s _ _ _ T9 (mkF m 80 #[.val (.int p0), .val (.int p1), .val (.int p2), .val (.int p3), .val (.int p4), .val (.int p5), .val (.int (p0.toUInt32.toUInt16.toUInt32.toInt32)), .val (.ref b1), .val (.int st), .unset, .unset, .unset] [(.int (2147483647 : Int32)), (.int p5)])
  refine own_iand X9 hx (hb hby at_80) ?_
  show own_R p e below s _ _ _ T9 (mkF m 81 #[.val (.int p0), .val (.int p1), .val (.int p2), .val (.int p3), .val (.int p4), .val (.int p5), .val (.int (p0.toUInt32.toUInt16.toUInt32.toInt32)), .val (.ref b1), .val (.int st), .unset, .unset, .unset] [(.int (p5 &&& (2147483647 : Int32)))])
  refine own_iconst X9 hx (5 : Int32) (hb hby at_81) rfl ?_
  show own_R p e below s _ _ _ T9 (mkF m 82 #[.val (.int p0), .val (.int p1), .val (.int p2), .val (.int p3), .val (.int p4), .val (.int p5), .val (.int (p0.toUInt32.toUInt16.toUInt32.toInt32)), .val (.ref b1), .val (.int st), .unset, .unset, .unset] [(.int (5 : Int32)), (.int (p5 &&& (2147483647 : Int32)))])
  refine own_irem X9 hx (hb hby at_82) (by decide) ?_
  show own_R p e below s _ _ _ T9 (mkF m 83 #[.val (.int p0), .val (.int p1), .val (.int p2), .val (.int p3), .val (.int p4), .val (.int p5), .val (.int (p0.toUInt32.toUInt16.toUInt32.toInt32)), .val (.ref b1), .val (.int st), .unset, .unset, .unset] [(.int ((p5 &&& (2147483647 : Int32)) % (5 : Int32)))])
  refine own_istore X9 hx (hb hby at_83) (l' := #[.val (.int p0), .val (.int p1), .val (.int p2), .val (.int p3), .val (.int p4), .val (.int p5), .val (.int (p0.toUInt32.toUInt16.toUInt32.toInt32)), .val (.ref b1), .val (.int st), .val (.int ((p5 &&& (2147483647 : Int32)) % (5 : Int32))), .unset, .unset]) rfl ?_
  show own_R p e below s _ _ _ T9 (mkF m 85 #[.val (.int p0), .val (.int p1), .val (.int p2), .val (.int p3), .val (.int p4), .val (.int p5), .val (.int (p0.toUInt32.toUInt16.toUInt32.toInt32)), .val (.ref b1), .val (.int st), .val (.int ((p5 &&& (2147483647 : Int32)) % (5 : Int32))), .unset, .unset] [])
  obtain ⟨en, hen, hen5⟩ : ∃ z : Int32, z = ((p5 &&& (2147483647 : Int32)) % (5 : Int32)) ∧ (z = 0 ∨ z = 1 ∨ z = 2 ∨ z = 3 ∨ z = 4) := ⟨_, rfl, pl_5 _⟩
  rw [← hen]
  show own_R p e below s _ _ _ T9 (mkF m 85 #[.val (.int p0), .val (.int p1), .val (.int p2), .val (.int p3), .val (.int p4), .val (.int p5), .val (.int (p0.toUInt32.toUInt16.toUInt32.toInt32)), .val (.ref b1), .val (.int st), .val (.int en), .unset, .unset] [])
  obtain ⟨ch, hch⟩ : ∃ z : Int32, z = (p0.toUInt32.toUInt16.toUInt32.toInt32) := ⟨_, rfl⟩
  rw [← hch]
  show own_R p e below s _ _ _ T9 (mkF m 85 #[.val (.int p0), .val (.int p1), .val (.int p2), .val (.int p3), .val (.int p4), .val (.int p5), .val (.int ch), .val (.ref b1), .val (.int st), .val (.int en), .unset, .unset] [])
  have hst0 : 0 ≤ st.toInt := by rcases hst5 with rfl | rfl | rfl | rfl | rfl <;> decide
  have hen4 : en.toInt ≤ 4 := by rcases hen5 with rfl | rfl | rfl | rfl | rfl <;> decide
  have hmn := pl_main x0 x1 x2 x3 ch st en hst5 hen5
  have J172 : ∀ (T10 : State) (lc10 : List Loc) (X10 : Stand p l e room_1 s m #[(.int p0), (.int p1), (.int p2), (.int p3), (.int p4), (.int p5)] below meth c T10 lc10 1 4) (e10 : T10.heap = h9) (N10 : Fr n0 lc10) (ex : Int32) (hex : pl_ix [x0, x1, x2, x3] ch en 4 st = ex), own_R p e below s (Q0 Z p0 p1 p2 p3 p4 p5 h0 n0) room_1.cells room_1.slots T10 (mkF m 172 #[.val (.int p0), .val (.int p1), .val (.int p2), .val (.int p3), .val (.int p4), .val (.int p5), .val (.int ch), .val (.ref b1), .val (.int st), .val (.int en), .val (.int ex), .unset] []) := by
    intro T10 lc10 X10 e10 N10 ex hex
    refine own_aload X10 hx (hb hby at_172) rfl rfl ?_
    show own_R p e below s _ _ _ T10 (mkF m 174 #[.val (.int p0), .val (.int p1), .val (.int p2), .val (.int p3), .val (.int p4), .val (.int p5), .val (.int ch), .val (.ref b1), .val (.int st), .val (.int en), .val (.int ex), .unset] [(.ref b1)])
    refine own_iload X10 hx (hb hby at_174) rfl ?_
    show own_R p e below s _ _ _ T10 (mkF m 176 #[.val (.int p0), .val (.int p1), .val (.int p2), .val (.int p3), .val (.int p4), .val (.int p5), .val (.int ch), .val (.ref b1), .val (.int st), .val (.int en), .val (.int ex), .unset] [(.int ch), (.ref b1)])
    refine own_iload X10 hx (hb hby at_176) rfl ?_
    show own_R p e below s _ _ _ T10 (mkF m 178 #[.val (.int p0), .val (.int p1), .val (.int p2), .val (.int p3), .val (.int p4), .val (.int p5), .val (.int ch), .val (.ref b1), .val (.int st), .val (.int en), .val (.int ex), .unset] [(.int st), (.int ch), (.ref b1)])
    refine own_iload X10 hx (hb hby at_178) rfl ?_
    show own_R p e below s _ _ _ T10 (mkF m 180 #[.val (.int p0), .val (.int p1), .val (.int p2), .val (.int p3), .val (.int p4), .val (.int p5), .val (.int ch), .val (.ref b1), .val (.int st), .val (.int en), .val (.int ex), .unset] [(.int en), (.int st), (.int ch), (.ref b1)])
    refine own_callS X10 hx hZ (y := (⟨"com/example/normative/normative/listing/LineText", "indexOf", "([CCII)I"⟩ : MethodName)) hown (hw _ (List.mem_of_getElem? (i := 9) rfl)) (hw _ (List.mem_of_getElem? (i := 10) rfl)) (hw _ (List.mem_of_getElem? (i := 11) rfl)) (hw _ (List.mem_of_getElem? (i := 12) rfl)) (by decide) (rm3 l Z a0 hw [] b1 ch st en k1 [x0, x1, x2, x3] h9 n0 (Nat.le_trans Z0 K9.1) V_b1_9 hst0 hen4) 0 (by decide) (by decide) e10 (by rw [hml]; rfl) [(.ref b1), (.int ch), (.int st), (.int en)] [] rfl (lenOf pd_1 rfl) rfl (Nat.le_of_eq rfl) (hb hby at_180) (by decide) (by decide) ?_
    rintro T11 _ L11 X11 ⟨rfl, N11q, e11⟩
    have N11 := Fr.app N10 N11q
    show own_R p e below s _ _ _ T11 (mkF m 183 #[.val (.int p0), .val (.int p1), .val (.int p2), .val (.int p3), .val (.int p4), .val (.int p5), .val (.int ch), .val (.ref b1), .val (.int st), .val (.int en), .val (.int ex), .unset] [(.int (pl_ix [x0, x1, x2, x3] ch en 4 st))])
    refine own_istore X11 hx (hb hby at_183) (l' := #[.val (.int p0), .val (.int p1), .val (.int p2), .val (.int p3), .val (.int p4), .val (.int p5), .val (.int ch), .val (.ref b1), .val (.int st), .val (.int en), .val (.int ex), .val (.int (pl_ix [x0, x1, x2, x3] ch en 4 st))]) rfl ?_
    show own_R p e below s _ _ _ T11 (mkF m 185 #[.val (.int p0), .val (.int p1), .val (.int p2), .val (.int p3), .val (.int p4), .val (.int p5), .val (.int ch), .val (.ref b1), .val (.int st), .val (.int en), .val (.int ex), .val (.int (pl_ix [x0, x1, x2, x3] ch en 4 st))] [])
    refine own_iload X11 hx (hb hby at_185) rfl ?_
    show own_R p e below s _ _ _ T11 (mkF m 187 #[.val (.int p0), .val (.int p1), .val (.int p2), .val (.int p3), .val (.int p4), .val (.int p5), .val (.int ch), .val (.ref b1), .val (.int st), .val (.int en), .val (.int ex), .val (.int (pl_ix [x0, x1, x2, x3] ch en 4 st))] [(.int (pl_ix [x0, x1, x2, x3] ch en 4 st))])
    refine own_iload X11 hx (hb hby at_187) rfl ?_
    show own_R p e below s _ _ _ T11 (mkF m 189 #[.val (.int p0), .val (.int p1), .val (.int p2), .val (.int p3), .val (.int p4), .val (.int p5), .val (.int ch), .val (.ref b1), .val (.int st), .val (.int en), .val (.int ex), .val (.int (pl_ix [x0, x1, x2, x3] ch en 4 st))] [(.int ex), (.int (pl_ix [x0, x1, x2, x3] ch en 4 st))])
    refine own_icmp X11 hx (hb hby at_189) (pc' := 196) (by decide) (by decide) (fun hc => ?_) (fun hc => ?_)
    · have hc189 : ¬ (pl_ix [x0, x1, x2, x3] ch en 4 st) = ex := own_ne1 hc
      exact absurd hex hc189
    · have hc189 : (pl_ix [x0, x1, x2, x3] ch en 4 st) = ex := own_ne0 hc
      clear hc
      show own_R p e below s _ _ _ T11 (mkF m 192 #[.val (.int p0), .val (.int p1), .val (.int p2), .val (.int p3), .val (.int p4), .val (.int p5), .val (.int ch), .val (.ref b1), .val (.int st), .val (.int en), .val (.int ex), .val (.int (pl_ix [x0, x1, x2, x3] ch en 4 st))] [])
      refine own_iconst X11 hx (1 : Int32) (hb hby at_192) rfl ?_
      show own_R p e below s _ _ _ T11 (mkF m 193 #[.val (.int p0), .val (.int p1), .val (.int p2), .val (.int p3), .val (.int p4), .val (.int p5), .val (.int ch), .val (.ref b1), .val (.int st), .val (.int en), .val (.int ex), .val (.int (pl_ix [x0, x1, x2, x3] ch en 4 st))] [(.int (1 : Int32))])
      refine own_goto X11 hx (hb hby at_193) (pc' := 197) (by decide) (by decide) ?_
      show own_R p e below s _ _ _ T11 (mkF m 197 #[.val (.int p0), .val (.int p1), .val (.int p2), .val (.int p3), .val (.int p4), .val (.int p5), .val (.int ch), .val (.ref b1), .val (.int st), .val (.int en), .val (.int ex), .val (.int (pl_ix [x0, x1, x2, x3] ch en 4 st))] [(.int (1 : Int32))])
      refine own_retN X11 hx (t := .boolean) Bd.returns (by simp) hlk (hb hby at_197) ?_ (by decide) (by decide)
      exact ⟨rfl, N11⟩
  refine own_aload X9 hx (hb hby at_85) rfl rfl ?_
  show own_R p e below s _ _ _ T9 (mkF m 87 #[.val (.int p0), .val (.int p1), .val (.int p2), .val (.int p3), .val (.int p4), .val (.int p5), .val (.int ch), .val (.ref b1), .val (.int st), .val (.int en), .unset, .unset] [(.ref b1)])
  refine own_iload X9 hx (hb hby at_87) rfl ?_
  show own_R p e below s _ _ _ T9 (mkF m 89 #[.val (.int p0), .val (.int p1), .val (.int p2), .val (.int p3), .val (.int p4), .val (.int p5), .val (.int ch), .val (.ref b1), .val (.int st), .val (.int en), .unset, .unset] [(.int ch), (.ref b1)])
  refine own_iconst X9 hx (0 : Int32) (hb hby at_89) rfl ?_
  show own_R p e below s _ _ _ T9 (mkF m 90 #[.val (.int p0), .val (.int p1), .val (.int p2), .val (.int p3), .val (.int p4), .val (.int p5), .val (.int ch), .val (.ref b1), .val (.int st), .val (.int en), .unset, .unset] [(.int (0 : Int32)), (.int ch), (.ref b1)])
  refine own_iload X9 hx (hb hby at_90) rfl ?_
  show own_R p e below s _ _ _ T9 (mkF m 92 #[.val (.int p0), .val (.int p1), .val (.int p2), .val (.int p3), .val (.int p4), .val (.int p5), .val (.int ch), .val (.ref b1), .val (.int st), .val (.int en), .unset, .unset] [(.int st), (.int (0 : Int32)), (.int ch), (.ref b1)])
  refine own_iload X9 hx (hb hby at_92) rfl ?_
  show own_R p e below s _ _ _ T9 (mkF m 94 #[.val (.int p0), .val (.int p1), .val (.int p2), .val (.int p3), .val (.int p4), .val (.int p5), .val (.int ch), .val (.ref b1), .val (.int st), .val (.int en), .unset, .unset] [(.int en), (.int st), (.int (0 : Int32)), (.int ch), (.ref b1)])
  refine own_callS X9 hx hZ (y := (⟨"com/example/normative/normative/listing/LineTextIndexOfPinLaw", "hit", "([CCIII)Z"⟩ : MethodName)) hown (hw _ (List.mem_of_getElem? (i := 6) rfl)) (hw _ (List.mem_of_getElem? (i := 7) rfl)) (hw _ (List.mem_of_getElem? (i := 3) rfl)) (hw _ (List.mem_of_getElem? (i := 8) rfl)) (by decide) (rm2 l Z a0 hw [] b1 ch (0 : Int32) st en k1 [x0, x1, x2, x3] h9 n0 (Nat.le_trans Z0 K9.1) V_b1_9 (by decide)) 0 (by decide) (by decide) e9 (by rw [hml]; rfl) [(.ref b1), (.int ch), (.int (0 : Int32)), (.int st), (.int en)] [] rfl (lenOf pd_2 rfl) rfl (Nat.le_of_eq rfl) (hb hby at_94) (by decide) (by decide) ?_
  rintro T12 _ L12 X12 ⟨rfl, N12q, e12⟩
  have N12 := Fr.app N9 N12q
  show own_R p e below s _ _ _ T12 (mkF m 97 #[.val (.int p0), .val (.int p1), .val (.int p2), .val (.int p3), .val (.int p4), .val (.int p5), .val (.int ch), .val (.ref b1), .val (.int st), .val (.int en), .unset, .unset] [(.int (pl_hit ch (0 : Int32) st en [x0, x1, x2, x3]))])
  refine own_if X12 hx (hb hby at_97) (pc' := 106) (by decide) (by decide) (fun hc => ?_) (fun hc => ?_)
  · have hc97 : (pl_hit ch (0 : Int32) st en [x0, x1, x2, x3]) = (0 : Int32) := own_eq1 hc
    clear hc
    show own_R p e below s _ _ _ T12 (mkF m 106 #[.val (.int p0), .val (.int p1), .val (.int p2), .val (.int p3), .val (.int p4), .val (.int p5), .val (.int ch), .val (.ref b1), .val (.int st), .val (.int en), .unset, .unset] [])
    refine own_aload X12 hx (hb hby at_106) rfl rfl ?_
    show own_R p e below s _ _ _ T12 (mkF m 108 #[.val (.int p0), .val (.int p1), .val (.int p2), .val (.int p3), .val (.int p4), .val (.int p5), .val (.int ch), .val (.ref b1), .val (.int st), .val (.int en), .unset, .unset] [(.ref b1)])
    refine own_iload X12 hx (hb hby at_108) rfl ?_
    show own_R p e below s _ _ _ T12 (mkF m 110 #[.val (.int p0), .val (.int p1), .val (.int p2), .val (.int p3), .val (.int p4), .val (.int p5), .val (.int ch), .val (.ref b1), .val (.int st), .val (.int en), .unset, .unset] [(.int ch), (.ref b1)])
    refine own_iconst X12 hx (1 : Int32) (hb hby at_110) rfl ?_
    show own_R p e below s _ _ _ T12 (mkF m 111 #[.val (.int p0), .val (.int p1), .val (.int p2), .val (.int p3), .val (.int p4), .val (.int p5), .val (.int ch), .val (.ref b1), .val (.int st), .val (.int en), .unset, .unset] [(.int (1 : Int32)), (.int ch), (.ref b1)])
    refine own_iload X12 hx (hb hby at_111) rfl ?_
    show own_R p e below s _ _ _ T12 (mkF m 113 #[.val (.int p0), .val (.int p1), .val (.int p2), .val (.int p3), .val (.int p4), .val (.int p5), .val (.int ch), .val (.ref b1), .val (.int st), .val (.int en), .unset, .unset] [(.int st), (.int (1 : Int32)), (.int ch), (.ref b1)])
    refine own_iload X12 hx (hb hby at_113) rfl ?_
    show own_R p e below s _ _ _ T12 (mkF m 115 #[.val (.int p0), .val (.int p1), .val (.int p2), .val (.int p3), .val (.int p4), .val (.int p5), .val (.int ch), .val (.ref b1), .val (.int st), .val (.int en), .unset, .unset] [(.int en), (.int st), (.int (1 : Int32)), (.int ch), (.ref b1)])
    refine own_callS X12 hx hZ (y := (⟨"com/example/normative/normative/listing/LineTextIndexOfPinLaw", "hit", "([CCIII)Z"⟩ : MethodName)) hown (hw _ (List.mem_of_getElem? (i := 6) rfl)) (hw _ (List.mem_of_getElem? (i := 7) rfl)) (hw _ (List.mem_of_getElem? (i := 3) rfl)) (hw _ (List.mem_of_getElem? (i := 8) rfl)) (by decide) (rm2 l Z a0 hw [] b1 ch (1 : Int32) st en k1 [x0, x1, x2, x3] h9 n0 (Nat.le_trans Z0 K9.1) V_b1_9 (by decide)) 0 (by decide) (by decide) e12 (by rw [hml]; rfl) [(.ref b1), (.int ch), (.int (1 : Int32)), (.int st), (.int en)] [] rfl (lenOf pd_2 rfl) rfl (Nat.le_of_eq rfl) (hb hby at_115) (by decide) (by decide) ?_
    rintro T13 _ L13 X13 ⟨rfl, N13q, e13⟩
    have N13 := Fr.app N12 N13q
    show own_R p e below s _ _ _ T13 (mkF m 118 #[.val (.int p0), .val (.int p1), .val (.int p2), .val (.int p3), .val (.int p4), .val (.int p5), .val (.int ch), .val (.ref b1), .val (.int st), .val (.int en), .unset, .unset] [(.int (pl_hit ch (1 : Int32) st en [x0, x1, x2, x3]))])
    refine own_if X13 hx (hb hby at_118) (pc' := 127) (by decide) (by decide) (fun hc => ?_) (fun hc => ?_)
    · have hc118 : (pl_hit ch (1 : Int32) st en [x0, x1, x2, x3]) = (0 : Int32) := own_eq1 hc
      clear hc
      show own_R p e below s _ _ _ T13 (mkF m 127 #[.val (.int p0), .val (.int p1), .val (.int p2), .val (.int p3), .val (.int p4), .val (.int p5), .val (.int ch), .val (.ref b1), .val (.int st), .val (.int en), .unset, .unset] [])
      refine own_aload X13 hx (hb hby at_127) rfl rfl ?_
      show own_R p e below s _ _ _ T13 (mkF m 129 #[.val (.int p0), .val (.int p1), .val (.int p2), .val (.int p3), .val (.int p4), .val (.int p5), .val (.int ch), .val (.ref b1), .val (.int st), .val (.int en), .unset, .unset] [(.ref b1)])
      refine own_iload X13 hx (hb hby at_129) rfl ?_
      show own_R p e below s _ _ _ T13 (mkF m 131 #[.val (.int p0), .val (.int p1), .val (.int p2), .val (.int p3), .val (.int p4), .val (.int p5), .val (.int ch), .val (.ref b1), .val (.int st), .val (.int en), .unset, .unset] [(.int ch), (.ref b1)])
      refine own_iconst X13 hx (2 : Int32) (hb hby at_131) rfl ?_
      show own_R p e below s _ _ _ T13 (mkF m 132 #[.val (.int p0), .val (.int p1), .val (.int p2), .val (.int p3), .val (.int p4), .val (.int p5), .val (.int ch), .val (.ref b1), .val (.int st), .val (.int en), .unset, .unset] [(.int (2 : Int32)), (.int ch), (.ref b1)])
      refine own_iload X13 hx (hb hby at_132) rfl ?_
      show own_R p e below s _ _ _ T13 (mkF m 134 #[.val (.int p0), .val (.int p1), .val (.int p2), .val (.int p3), .val (.int p4), .val (.int p5), .val (.int ch), .val (.ref b1), .val (.int st), .val (.int en), .unset, .unset] [(.int st), (.int (2 : Int32)), (.int ch), (.ref b1)])
      refine own_iload X13 hx (hb hby at_134) rfl ?_
      show own_R p e below s _ _ _ T13 (mkF m 136 #[.val (.int p0), .val (.int p1), .val (.int p2), .val (.int p3), .val (.int p4), .val (.int p5), .val (.int ch), .val (.ref b1), .val (.int st), .val (.int en), .unset, .unset] [(.int en), (.int st), (.int (2 : Int32)), (.int ch), (.ref b1)])
      refine own_callS X13 hx hZ (y := (⟨"com/example/normative/normative/listing/LineTextIndexOfPinLaw", "hit", "([CCIII)Z"⟩ : MethodName)) hown (hw _ (List.mem_of_getElem? (i := 6) rfl)) (hw _ (List.mem_of_getElem? (i := 7) rfl)) (hw _ (List.mem_of_getElem? (i := 3) rfl)) (hw _ (List.mem_of_getElem? (i := 8) rfl)) (by decide) (rm2 l Z a0 hw [] b1 ch (2 : Int32) st en k1 [x0, x1, x2, x3] h9 n0 (Nat.le_trans Z0 K9.1) V_b1_9 (by decide)) 0 (by decide) (by decide) e13 (by rw [hml]; rfl) [(.ref b1), (.int ch), (.int (2 : Int32)), (.int st), (.int en)] [] rfl (lenOf pd_2 rfl) rfl (Nat.le_of_eq rfl) (hb hby at_136) (by decide) (by decide) ?_
      rintro T14 _ L14 X14 ⟨rfl, N14q, e14⟩
      have N14 := Fr.app N13 N14q
      show own_R p e below s _ _ _ T14 (mkF m 139 #[.val (.int p0), .val (.int p1), .val (.int p2), .val (.int p3), .val (.int p4), .val (.int p5), .val (.int ch), .val (.ref b1), .val (.int st), .val (.int en), .unset, .unset] [(.int (pl_hit ch (2 : Int32) st en [x0, x1, x2, x3]))])
      refine own_if X14 hx (hb hby at_139) (pc' := 148) (by decide) (by decide) (fun hc => ?_) (fun hc => ?_)
      · have hc139 : (pl_hit ch (2 : Int32) st en [x0, x1, x2, x3]) = (0 : Int32) := own_eq1 hc
        clear hc
        show own_R p e below s _ _ _ T14 (mkF m 148 #[.val (.int p0), .val (.int p1), .val (.int p2), .val (.int p3), .val (.int p4), .val (.int p5), .val (.int ch), .val (.ref b1), .val (.int st), .val (.int en), .unset, .unset] [])
        refine own_aload X14 hx (hb hby at_148) rfl rfl ?_
        show own_R p e below s _ _ _ T14 (mkF m 150 #[.val (.int p0), .val (.int p1), .val (.int p2), .val (.int p3), .val (.int p4), .val (.int p5), .val (.int ch), .val (.ref b1), .val (.int st), .val (.int en), .unset, .unset] [(.ref b1)])
        refine own_iload X14 hx (hb hby at_150) rfl ?_
        show own_R p e below s _ _ _ T14 (mkF m 152 #[.val (.int p0), .val (.int p1), .val (.int p2), .val (.int p3), .val (.int p4), .val (.int p5), .val (.int ch), .val (.ref b1), .val (.int st), .val (.int en), .unset, .unset] [(.int ch), (.ref b1)])
        refine own_iconst X14 hx (3 : Int32) (hb hby at_152) rfl ?_
        show own_R p e below s _ _ _ T14 (mkF m 153 #[.val (.int p0), .val (.int p1), .val (.int p2), .val (.int p3), .val (.int p4), .val (.int p5), .val (.int ch), .val (.ref b1), .val (.int st), .val (.int en), .unset, .unset] [(.int (3 : Int32)), (.int ch), (.ref b1)])
        refine own_iload X14 hx (hb hby at_153) rfl ?_
        show own_R p e below s _ _ _ T14 (mkF m 155 #[.val (.int p0), .val (.int p1), .val (.int p2), .val (.int p3), .val (.int p4), .val (.int p5), .val (.int ch), .val (.ref b1), .val (.int st), .val (.int en), .unset, .unset] [(.int st), (.int (3 : Int32)), (.int ch), (.ref b1)])
        refine own_iload X14 hx (hb hby at_155) rfl ?_
        show own_R p e below s _ _ _ T14 (mkF m 157 #[.val (.int p0), .val (.int p1), .val (.int p2), .val (.int p3), .val (.int p4), .val (.int p5), .val (.int ch), .val (.ref b1), .val (.int st), .val (.int en), .unset, .unset] [(.int en), (.int st), (.int (3 : Int32)), (.int ch), (.ref b1)])
        refine own_callS X14 hx hZ (y := (⟨"com/example/normative/normative/listing/LineTextIndexOfPinLaw", "hit", "([CCIII)Z"⟩ : MethodName)) hown (hw _ (List.mem_of_getElem? (i := 6) rfl)) (hw _ (List.mem_of_getElem? (i := 7) rfl)) (hw _ (List.mem_of_getElem? (i := 3) rfl)) (hw _ (List.mem_of_getElem? (i := 8) rfl)) (by decide) (rm2 l Z a0 hw [] b1 ch (3 : Int32) st en k1 [x0, x1, x2, x3] h9 n0 (Nat.le_trans Z0 K9.1) V_b1_9 (by decide)) 0 (by decide) (by decide) e14 (by rw [hml]; rfl) [(.ref b1), (.int ch), (.int (3 : Int32)), (.int st), (.int en)] [] rfl (lenOf pd_2 rfl) rfl (Nat.le_of_eq rfl) (hb hby at_157) (by decide) (by decide) ?_
        rintro T15 _ L15 X15 ⟨rfl, N15q, e15⟩
        have N15 := Fr.app N14 N15q
        show own_R p e below s _ _ _ T15 (mkF m 160 #[.val (.int p0), .val (.int p1), .val (.int p2), .val (.int p3), .val (.int p4), .val (.int p5), .val (.int ch), .val (.ref b1), .val (.int st), .val (.int en), .unset, .unset] [(.int (pl_hit ch (3 : Int32) st en [x0, x1, x2, x3]))])
        refine own_if X15 hx (hb hby at_160) (pc' := 169) (by decide) (by decide) (fun hc => ?_) (fun hc => ?_)
        · have hc160 : (pl_hit ch (3 : Int32) st en [x0, x1, x2, x3]) = (0 : Int32) := own_eq1 hc
          clear hc
          show own_R p e below s _ _ _ T15 (mkF m 169 #[.val (.int p0), .val (.int p1), .val (.int p2), .val (.int p3), .val (.int p4), .val (.int p5), .val (.int ch), .val (.ref b1), .val (.int st), .val (.int en), .unset, .unset] [])
          refine own_iconst X15 hx (-1 : Int32) (hb hby at_169) rfl ?_
          show own_R p e below s _ _ _ T15 (mkF m 170 #[.val (.int p0), .val (.int p1), .val (.int p2), .val (.int p3), .val (.int p4), .val (.int p5), .val (.int ch), .val (.ref b1), .val (.int st), .val (.int en), .unset, .unset] [(.int (-1 : Int32))])
          refine own_istore X15 hx (hb hby at_170) (l' := #[.val (.int p0), .val (.int p1), .val (.int p2), .val (.int p3), .val (.int p4), .val (.int p5), .val (.int ch), .val (.ref b1), .val (.int st), .val (.int en), .val (.int (-1 : Int32)), .unset]) rfl ?_
          show own_R p e below s _ _ _ T15 (mkF m 172 #[.val (.int p0), .val (.int p1), .val (.int p2), .val (.int p3), .val (.int p4), .val (.int p5), .val (.int ch), .val (.ref b1), .val (.int st), .val (.int en), .val (.int (-1 : Int32)), .unset] [])
          exact J172 _ _ X15 e15 N15 _ (by rw [hmn, if_pos hc97, if_pos hc118, if_pos hc139, if_pos hc160])
        · have hc160 : ¬ (pl_hit ch (3 : Int32) st en [x0, x1, x2, x3]) = (0 : Int32) := own_eq0 hc
          clear hc
          show own_R p e below s _ _ _ T15 (mkF m 163 #[.val (.int p0), .val (.int p1), .val (.int p2), .val (.int p3), .val (.int p4), .val (.int p5), .val (.int ch), .val (.ref b1), .val (.int st), .val (.int en), .unset, .unset] [])
          refine own_iconst X15 hx (3 : Int32) (hb hby at_163) rfl ?_
          show own_R p e below s _ _ _ T15 (mkF m 164 #[.val (.int p0), .val (.int p1), .val (.int p2), .val (.int p3), .val (.int p4), .val (.int p5), .val (.int ch), .val (.ref b1), .val (.int st), .val (.int en), .unset, .unset] [(.int (3 : Int32))])
          refine own_istore X15 hx (hb hby at_164) (l' := #[.val (.int p0), .val (.int p1), .val (.int p2), .val (.int p3), .val (.int p4), .val (.int p5), .val (.int ch), .val (.ref b1), .val (.int st), .val (.int en), .val (.int (3 : Int32)), .unset]) rfl ?_
          show own_R p e below s _ _ _ T15 (mkF m 166 #[.val (.int p0), .val (.int p1), .val (.int p2), .val (.int p3), .val (.int p4), .val (.int p5), .val (.int ch), .val (.ref b1), .val (.int st), .val (.int en), .val (.int (3 : Int32)), .unset] [])
          refine own_goto X15 hx (hb hby at_166) (pc' := 172) (by decide) (by decide) ?_
          show own_R p e below s _ _ _ T15 (mkF m 172 #[.val (.int p0), .val (.int p1), .val (.int p2), .val (.int p3), .val (.int p4), .val (.int p5), .val (.int ch), .val (.ref b1), .val (.int st), .val (.int en), .val (.int (3 : Int32)), .unset] [])
          exact J172 _ _ X15 e15 N15 _ (by rw [hmn, if_pos hc97, if_pos hc118, if_pos hc139, if_neg hc160])
      · have hc139 : ¬ (pl_hit ch (2 : Int32) st en [x0, x1, x2, x3]) = (0 : Int32) := own_eq0 hc
        clear hc
        show own_R p e below s _ _ _ T14 (mkF m 142 #[.val (.int p0), .val (.int p1), .val (.int p2), .val (.int p3), .val (.int p4), .val (.int p5), .val (.int ch), .val (.ref b1), .val (.int st), .val (.int en), .unset, .unset] [])
        refine own_iconst X14 hx (2 : Int32) (hb hby at_142) rfl ?_
        show own_R p e below s _ _ _ T14 (mkF m 143 #[.val (.int p0), .val (.int p1), .val (.int p2), .val (.int p3), .val (.int p4), .val (.int p5), .val (.int ch), .val (.ref b1), .val (.int st), .val (.int en), .unset, .unset] [(.int (2 : Int32))])
        refine own_istore X14 hx (hb hby at_143) (l' := #[.val (.int p0), .val (.int p1), .val (.int p2), .val (.int p3), .val (.int p4), .val (.int p5), .val (.int ch), .val (.ref b1), .val (.int st), .val (.int en), .val (.int (2 : Int32)), .unset]) rfl ?_
        show own_R p e below s _ _ _ T14 (mkF m 145 #[.val (.int p0), .val (.int p1), .val (.int p2), .val (.int p3), .val (.int p4), .val (.int p5), .val (.int ch), .val (.ref b1), .val (.int st), .val (.int en), .val (.int (2 : Int32)), .unset] [])
        refine own_goto X14 hx (hb hby at_145) (pc' := 172) (by decide) (by decide) ?_
        show own_R p e below s _ _ _ T14 (mkF m 172 #[.val (.int p0), .val (.int p1), .val (.int p2), .val (.int p3), .val (.int p4), .val (.int p5), .val (.int ch), .val (.ref b1), .val (.int st), .val (.int en), .val (.int (2 : Int32)), .unset] [])
        exact J172 _ _ X14 e14 N14 _ (by rw [hmn, if_pos hc97, if_pos hc118, if_neg hc139])
    · have hc118 : ¬ (pl_hit ch (1 : Int32) st en [x0, x1, x2, x3]) = (0 : Int32) := own_eq0 hc
      clear hc
      show own_R p e below s _ _ _ T13 (mkF m 121 #[.val (.int p0), .val (.int p1), .val (.int p2), .val (.int p3), .val (.int p4), .val (.int p5), .val (.int ch), .val (.ref b1), .val (.int st), .val (.int en), .unset, .unset] [])
      refine own_iconst X13 hx (1 : Int32) (hb hby at_121) rfl ?_
      show own_R p e below s _ _ _ T13 (mkF m 122 #[.val (.int p0), .val (.int p1), .val (.int p2), .val (.int p3), .val (.int p4), .val (.int p5), .val (.int ch), .val (.ref b1), .val (.int st), .val (.int en), .unset, .unset] [(.int (1 : Int32))])
      refine own_istore X13 hx (hb hby at_122) (l' := #[.val (.int p0), .val (.int p1), .val (.int p2), .val (.int p3), .val (.int p4), .val (.int p5), .val (.int ch), .val (.ref b1), .val (.int st), .val (.int en), .val (.int (1 : Int32)), .unset]) rfl ?_
      show own_R p e below s _ _ _ T13 (mkF m 124 #[.val (.int p0), .val (.int p1), .val (.int p2), .val (.int p3), .val (.int p4), .val (.int p5), .val (.int ch), .val (.ref b1), .val (.int st), .val (.int en), .val (.int (1 : Int32)), .unset] [])
      refine own_goto X13 hx (hb hby at_124) (pc' := 172) (by decide) (by decide) ?_
      show own_R p e below s _ _ _ T13 (mkF m 172 #[.val (.int p0), .val (.int p1), .val (.int p2), .val (.int p3), .val (.int p4), .val (.int p5), .val (.int ch), .val (.ref b1), .val (.int st), .val (.int en), .val (.int (1 : Int32)), .unset] [])
      exact J172 _ _ X13 e13 N13 _ (by rw [hmn, if_pos hc97, if_neg hc118])
  · have hc97 : ¬ (pl_hit ch (0 : Int32) st en [x0, x1, x2, x3]) = (0 : Int32) := own_eq0 hc
    clear hc
    show own_R p e below s _ _ _ T12 (mkF m 100 #[.val (.int p0), .val (.int p1), .val (.int p2), .val (.int p3), .val (.int p4), .val (.int p5), .val (.int ch), .val (.ref b1), .val (.int st), .val (.int en), .unset, .unset] [])
    refine own_iconst X12 hx (0 : Int32) (hb hby at_100) rfl ?_
    show own_R p e below s _ _ _ T12 (mkF m 101 #[.val (.int p0), .val (.int p1), .val (.int p2), .val (.int p3), .val (.int p4), .val (.int p5), .val (.int ch), .val (.ref b1), .val (.int st), .val (.int en), .unset, .unset] [(.int (0 : Int32))])
    refine own_istore X12 hx (hb hby at_101) (l' := #[.val (.int p0), .val (.int p1), .val (.int p2), .val (.int p3), .val (.int p4), .val (.int p5), .val (.int ch), .val (.ref b1), .val (.int st), .val (.int en), .val (.int (0 : Int32)), .unset]) rfl ?_
    show own_R p e below s _ _ _ T12 (mkF m 103 #[.val (.int p0), .val (.int p1), .val (.int p2), .val (.int p3), .val (.int p4), .val (.int p5), .val (.int ch), .val (.ref b1), .val (.int st), .val (.int en), .val (.int (0 : Int32)), .unset] [])
    refine own_goto X12 hx (hb hby at_103) (pc' := 172) (by decide) (by decide) ?_
    show own_R p e below s _ _ _ T12 (mkF m 172 #[.val (.int p0), .val (.int p1), .val (.int p2), .val (.int p3), .val (.int p4), .val (.int p5), .val (.int ch), .val (.ref b1), .val (.int st), .val (.int en), .val (.int (0 : Int32)), .unset] [])
    exact J172 _ _ X12 e12 N12 _ (by rw [hmn, if_neg hc97])
set_option maxRecDepth 65536 in
set_option maxHeartbeats 40000000 in
theorem comes_1 {Post : Tables → Env → Array Value → State → Outcome → State → Prop} (hpost : ∀ tb e args s v u, (limb_1_1.after args s (.returned v) u = true ∧ limb_1_2.after args s (.returned v) u = true) → FrameEnd s (.returned v) u (Jvm.fieldLocs frame_1_writes args s ++ Jvm.arrayLocs frame_1_arrays args s ++ Jvm.staticLocs frame_1_statics s) 16 128 → Post tb e args s (.returned v) u) :
    ArmFor flags0 classFile x code maxLocals ret World_1 tables_1 room_1 Calls_1 rest_1 Pre_1 Post := by
  intro l hfl _ _ p e ha hc hk s m args below hf hA hF happ hP
  obtain ⟨hcalls, hrest, hpre⟩ := hP
  obtain ⟨-, -, -, hnamed, -, -, -, hat⟩ := (Spec.applies_iff hf).mp happ
  obtain ⟨hg, hn⟩ := and_e (Cond.before_iff.mp (show (Jvm.Cond.and given_1 narrow_1).before args s = true from hpre))
  obtain ⟨g1, g2⟩ := and_e hg
  obtain ⟨g3, g4⟩ := and_e g2
  obtain ⟨g5, g6⟩ := and_e g4
  obtain ⟨g7, g8⟩ := and_e g6
  obtain ⟨g9, g10⟩ := and_e g8
  obtain ⟨g11, g12⟩ := and_e g10
  obtain ⟨w0, w1, w2, w3, w4, w5, rfl⟩ : ∃ w0 w1 w2 w3 w4 w5 : Value, args = #[w0, w1, w2, w3, w4, w5] := by
    have hs : args.size = 6 := by simpa [Cond.value, given_1] using g1
    obtain ⟨L⟩ := args
    match L, hs with
    | [w0, w1, w2, w3, w4, w5], _ => exact ⟨w0, w1, w2, w3, w4, w5, rfl⟩
  have hw := fun d (hd : d ∈ tables_1) => atoms_spec (ws := Jvm.Cond.code x code maxLocals ret :: tables_1) hat d (List.mem_cons_of_mem _ hd)
  obtain ⟨i0, ei0⟩ := is_v g3
  obtain rfl : w0 = (.int i0) := Option.some.inj ei0
  obtain ⟨i1, ei1⟩ := is_v g5
  obtain rfl : w1 = (.int i1) := Option.some.inj ei1
  obtain ⟨i2, ei2⟩ := is_v g7
  obtain rfl : w2 = (.int i2) := Option.some.inj ei2
  obtain ⟨i3, ei3⟩ := is_v g9
  obtain rfl : w3 = (.int i3) := Option.some.inj ei3
  obtain ⟨i4, ei4⟩ := is_v g11
  obtain rfl : w4 = (.int i4) := Option.some.inj ei4
  obtain ⟨i5, ei5⟩ := is_v g12
  obtain rfl : w5 = (.int i5) := Option.some.inj ei5
  obtain ⟨n, o, h1, h2, h3, _, L, rfl, ⟨rfl, N⟩, hq⟩ := rm0 l s _ hw tables_1 i0 i1 i2 i3 i4 i5 s.heap s.heap.size (Nat.le_refl _) p e ha hc hk s m _ below hf ((Spec.applies_iff_loose hf).mp happ).1 ⟨rfl, State.Warmed39.refl s, rfl⟩ trivial
  refine ⟨n, _, h1, h2, h3, hpost _ _ _ _ _ _ ⟨Cond.after_iff.mpr rfl, Cond.after_iff.mpr (eq_i res_at (Term.int_eval (1)) rfl)⟩ ⟨hq.1, hq.2.1, (hq.2.2.sift fun y hy => Or.inr (N y hy)).mono (by decide) (by decide)⟩⟩
theorem main_1_1 : Claimed_1_1 := comes_1 fun _ _ _ _ _ _ h hF => ⟨h.1, hF⟩
theorem main_1_2 : Claimed_1_2 := comes_1 fun _ _ _ _ _ _ h hF => ⟨h.2, hF⟩
end Jvm.Pilot.@@N@@
namespace Jvm.Pilot.@@N@@
open Jvm Jvm.ClassFile Sem Op Lib Jvm.Free Jvm.Stand Jvm.Pilot.@@N@@.Jvm.D
/-! MADE BY PROGRAM (witnessworld.py) out of the Statement's table words and the real class files: 11 classes; the members and pool entries that the words name. The judged class is class 1, her method 3. -/
namespace start1
open Jvm.ClassFile
def u (s : String) : CpInfo := .utf8 (stringToUtf16 s)
/-- a pool by its gaps: so many unusable entries, then the entry; so many at the end -/
def gap : Nat → List CpInfo → List CpInfo
  | 0, r => r
  | n + 1, r => .unusable :: gap n r
def poolList (es : List (Nat × CpInfo)) (last : Nat) : List CpInfo := es.foldr (fun e r => gap e.1 (e.2 :: r)) (gap last [])
def pool (es : List (Nat × CpInfo)) (last : Nat) : Array CpInfo := ⟨poolList es last⟩
def fileOf (pool : Array CpInfo) (this : Nat) (attrs : Array Attribute := #[]) (ms : Array MethodInfo := #[]) (fl : Nat := 33) (sup : Nat := 0) (ifs : Array Nat := #[]) (fds : Array FieldInfo := #[]) : ClassFile where
  minorVersion := 0
  majorVersion := 65
  constantPool := pool
  accessFlags := fl
  thisClass := this
  superClass := sup
  interfaces := ifs
  fields := fds
  methods := ms
  attributes := attrs
def plain (name : String) (sup : Option ClassId) : Class where
  name := name
  kind := .ordinary
  loader := none
  accessFlags := 33
  super := sup
  interfaces := #[]
  cf := none
  fields := #[]
  methods := #[]
  instanceTypes := #[]
  staticTypes := #[]
  resolved := #[]
  callSites := []
  init := .initialized
  statics := none
  mirror := none

def pool0 : Array CpInfo := pool [(5, u "<init>"), (0, u "()V"), (1, .class_ 10), (1, u "java/lang/Object")] 113

def k0m0 : Method := { name := "<init>", desc := "()V", sig := { parameters := [], returnType := none }, accessFlags := 1, code := none }
/-- java/lang/Object -/
def k0 : Class := { plain "java/lang/Object" none with
  accessFlags := 33
  interfaces := #[]
  cf := some (fileOf pool0 8 #[] #[{ accessFlags := 1, nameIndex := 5, descriptorIndex := 6, attributes := #[] }] 33 0 #[] #[])
  fields := #[]
  methods := #[k0m0]
  instanceTypes := #[]
  staticTypes := #[]
  resolved := Array.replicate 124 none
  statics := none }

def pool1 : Array CpInfo := pool [(2, .class_ 4), (1, u "java/lang/Object"), (0, u "<init>"), (0, u "()V"), (0, .methodref 8 9), (0, .class_ 10), (0, .nameAndType 11 12), (0, u "com/example/normative/normative/listing/LineTextIndexOfPinLaw"), (0, u "pick"), (0, u "(IICC)C"), (0, .integer 2147483647), (0, .methodref 8 15), (0, .nameAndType 16 17), (0, u "hit"), (0, u "([CCIII)Z"), (0, .methodref 19 20), (0, .class_ 21), (0, .nameAndType 22 23), (0, u "com/example/normative/normative/listing/LineText"), (0, u "indexOf"), (0, u "([CCII)I"), (3, u "law"), (0, u "(IIIIII)Z")] 4

def k1m0 : Method := { name := "<init>", desc := "()V", sig := { parameters := [], returnType := none }, accessFlags := 2, code := none }
def k1c1 : Code := { maxStack := 2, maxLocals := 5, code := method_2_code, exceptionTable := #[], attributes := #[] }
def k1m1 : Method := { name := "hit", desc := "([CCIII)Z", sig := { parameters := [(.array .char), .char, .int, .int, .int], returnType := some .boolean }, accessFlags := 10, code := some k1c1 }
def k1c2 : Code := { maxStack := 2, maxLocals := 4, code := method_3_code, exceptionTable := #[], attributes := #[] }
def k1m2 : Method := { name := "pick", desc := "(IICC)C", sig := { parameters := [.int, .int, .char, .char], returnType := some .char }, accessFlags := 10, code := some k1c2 }
def k1c3 : Code := { maxStack := 7, maxLocals := 12, code := code, exceptionTable := #[], attributes := #[] }
def k1m3 : Method := { name := "law", desc := "(IIIIII)Z", sig := { parameters := [.int, .int, .int, .int, .int, .int], returnType := some .boolean }, accessFlags := 9, code := some k1c3 }
/-- com/example/normative/normative/listing/LineTextIndexOfPinLaw -/
def k1 : Class := { plain "com/example/normative/normative/listing/LineTextIndexOfPinLaw" (some 0) with
  accessFlags := 49
  interfaces := #[]
  cf := some (fileOf pool1 8 #[] #[{ accessFlags := 2, nameIndex := 5, descriptorIndex := 6, attributes := #[] }, { accessFlags := 10, nameIndex := 16, descriptorIndex := 17, attributes := #[] }, { accessFlags := 10, nameIndex := 11, descriptorIndex := 12, attributes := #[] }, { accessFlags := 9, nameIndex := 27, descriptorIndex := 28, attributes := #[] }] 49 2 #[] #[])
  fields := #[]
  methods := #[k1m0, k1m1, k1m2, k1m3]
  instanceTypes := #[]
  staticTypes := #[]
  resolved := Array.replicate 33 none
  statics := none }

def pool2 : Array CpInfo := pool [(2, .class_ 4), (1, u "java/lang/Object"), (0, u "<init>"), (0, u "()V"), (1, .class_ 10), (1, u "com/example/normative/normative/listing/LineText"), (20, u "indexOf"), (0, u "([CCII)I")] 4

def k2m0 : Method := { name := "<init>", desc := "()V", sig := { parameters := [], returnType := none }, accessFlags := 2, code := none }
def k2c1 : Code := { maxStack := 2, maxLocals := 5, code := prog_49_method_5_code, exceptionTable := #[], attributes := #[] }
def k2m1 : Method := { name := "indexOf", desc := "([CCII)I", sig := { parameters := [(.array .char), .char, .int, .int], returnType := some .int }, accessFlags := 8, code := some k2c1 }
/-- com/example/normative/normative/listing/LineText -/
def k2 : Class := { plain "com/example/normative/normative/listing/LineText" (some 0) with
  accessFlags := 32
  interfaces := #[]
  cf := some (fileOf pool2 8 #[] #[{ accessFlags := 2, nameIndex := 5, descriptorIndex := 6, attributes := #[] }, { accessFlags := 8, nameIndex := 31, descriptorIndex := 32, attributes := #[] }] 32 2 #[] #[])
  fields := #[]
  methods := #[k2m0, k2m1]
  instanceTypes := #[]
  staticTypes := #[]
  resolved := Array.replicate 37 none
  statics := none }

def pool3 : Array CpInfo := pool [(1, u "java/lang/Cloneable"), (0, .class_ 1), (0, u "java/lang/Object"), (0, .class_ 3)] 3

/-- java/lang/Cloneable -/
def k3 : Class := { plain "java/lang/Cloneable" (some 0) with
  accessFlags := 1537
  interfaces := #[]
  cf := some (fileOf pool3 2 #[] #[] 1537 4 #[] #[])
  fields := #[]
  methods := #[]
  instanceTypes := #[]
  staticTypes := #[]
  resolved := Array.replicate 8 none
  statics := none }

def pool4 : Array CpInfo := pool [(1, u "java/io/Serializable"), (0, .class_ 1), (0, u "java/lang/Object"), (0, .class_ 3)] 3

/-- java/io/Serializable -/
def k4 : Class := { plain "java/io/Serializable" (some 0) with
  accessFlags := 1537
  interfaces := #[]
  cf := some (fileOf pool4 2 #[] #[] 1537 4 #[] #[])
  fields := #[]
  methods := #[]
  instanceTypes := #[]
  staticTypes := #[]
  resolved := Array.replicate 8 none
  statics := none }

/-- the primitive byte -/
def k5 : Class := { plain "byte" none with kind := .primitive 'B', accessFlags := 0x411 }
/-- [B -/
def k6 : Class := { plain "[B" (some 0) with kind := .array 5 .byte, interfaces := #[3, 4], accessFlags := 1041 }

/-- the primitive char -/
def k7 : Class := { plain "char" none with kind := .primitive 'C', accessFlags := 0x411 }
/-- [C -/
def k8 : Class := { plain "[C" (some 0) with kind := .array 7 .char, interfaces := #[3, 4], accessFlags := 1041 }

/-- the primitive int -/
def k9 : Class := { plain "int" none with kind := .primitive 'I', accessFlags := 0x411 }
/-- [I -/
def k10 : Class := { plain "[I" (some 0) with kind := .array 9 .int, interfaces := #[3, 4], accessFlags := 1041 }

def heap : Heap := #[]
def classes : Array Class := #[k0, k1, k2, k3, k4, k5, k6, k7, k8, k9, k10]
def interned : List (Array UInt16 × Addr) := []
def slotsUsed : Nat := 0
def theMethod : MethodId := ⟨1, 3⟩
def args0 : Array Value := #[.int 5, .int 7, .int 1, .int 2, .int 1, .int 4]
def aboutOver (below : List Frame) : State where
  vm := { classes := classes, interned := interned.toArray }
  heap := heap
  slotsUsed := slotsUsed
  threads := #[{ frames := .invoking theMethod args0 :: below }]
def below0 : List Frame := [.native { method := ⟨0, 0⟩, args := #[] }]
def about1 : State := aboutOver below0
def p0 : Program := .bare "" "" ""
def e0 : Env := launch0.env 0 0 0
theorem w_frames : about1.frames = Frame.invoking theMethod args0 :: below0 := rfl
set_option maxRecDepth 65536 in
theorem w_args : argsFit about1.vm theMethod args0 = true := by decide +kernel
set_option maxRecDepth 65536 in
theorem w_heap : heapFits about1 = true := by decide +kernel
set_option maxRecDepth 65536 in
theorem w_runnable : about1.curStatus? = some .runnable := by decide +kernel
set_option maxRecDepth 65536 in
theorem w_alone : about1.alone = true := by decide +kernel
set_option maxRecDepth 65536 in
theorem w_named : about1.methodNamed? x = some theMethod := by decide +kernel
set_option maxRecDepth 65536 in
theorem w_hears : about1.hears theMethod below0 = true := by decide +kernel
set_option maxRecDepth 65536 in
theorem w_ripe : about1.ripe theMethod args0 below0 = true := by decide +kernel
theorem w_running : about1.status = .running := rfl
set_option maxRecDepth 65536 in
theorem w_room : about1.hasRoom e0.platform room_1 = true :=
  launch0.hasRoom_least _ room_1 (by decide +kernel) (by decide +kernel) (by decide +kernel) (by decide +kernel) (by decide +kernel) (by decide +kernel)
theorem allAtoms_all (ts : List Jvm.Cond) (a : Array Jvm.Value) (st : Jvm.State) : (allAtoms ts).before a st = ts.all (fun c => c.before a st) := by
  induction ts with
  | nil => rfl
  | cons c t ih =>
    show (Jvm.Cond.and c (allAtoms t)).before a st = _
    rw [Jvm.Cond.before_and, ih, List.all_cons]
def words1 : List Jvm.Cond := Jvm.Cond.code x code maxLocals ret :: tables_1
/-- a 'code' word, met by the world's own term for the bytes: nothing is compared byte by byte -/
theorem code_word {y : MethodName} {bytes : ByteArray} {mx : Nat} {rt : Option FieldType} {a : Array Value} {s : State} {m : MethodId} {meth : Method} {c : Code} (h1 : s.methodNamed? y = some m) (h2 : s.vm.method? m = some meth) (h3 : meth.code = some c) (h4 : c.code = bytes)
    (h5 : (c.maxLocals == mx && c.exceptionTable.isEmpty && decide (c.maxStack ≤ mostOperands) && decide (meth.sig.returnType = rt) && !meth.locks && decide (parseMethodDescriptor y.desc = some meth.sig)) = true) : (Jvm.Cond.code y bytes mx rt).before a s = true := by
  simp only [Bool.and_eq_true, beq_iff_eq, Bool.not_eq_true', decide_eq_true_eq] at h5
  obtain ⟨⟨⟨⟨⟨g1, g2⟩, g3⟩, g4⟩, g5⟩, g6⟩ := h5
  simp [Cond.before, Cond.holds, Cond.value, h1, h2, h3, h4, g1, g2, g3, g4, g5, g6]
def isCode : Jvm.Cond → Bool
  | .code _ _ _ _ => true
  | _ => false
theorem all_split {L : List Jvm.Cond} {P : Jvm.Cond → Bool} (h1 : L.all (fun c => isCode c || P c) = true) (h2 : ∀ c ∈ L.filter isCode, P c = true) : L.all P = true := by
  refine List.all_eq_true.mpr fun c hc => ?_
  have h := List.all_eq_true.mp h1 c hc
  rcases Bool.eq_false_or_eq_true (isCode c) with hi | hi
  · exact h2 c (List.mem_filter.mpr ⟨hc, hi⟩)
  · simpa [hi] using h
set_option maxRecDepth 65536 in
theorem w_c0 : (Jvm.Cond.code x code maxLocals ret).before args0 about1 = true := code_word (m := ⟨1, 3⟩) (meth := k1m3) (c := k1c3) (by decide +kernel) rfl rfl rfl (by decide +kernel)
set_option maxRecDepth 65536 in
theorem w_c1 : (Jvm.Cond.code ({ cls := "com/example/normative/normative/listing/LineTextIndexOfPinLaw", name := "pick", desc := "(IICC)C" } : Jvm.MethodName) method_3_code (4 : Nat) (Option.some Jvm.ClassFile.FieldType.char)).before args0 about1 = true := code_word (m := ⟨1, 2⟩) (meth := k1m2) (c := k1c2) (by decide +kernel) rfl rfl rfl (by decide +kernel)
set_option maxRecDepth 65536 in
theorem w_c2 : (Jvm.Cond.code ({ cls := "com/example/normative/normative/listing/LineTextIndexOfPinLaw", name := "hit", desc := "([CCIII)Z" } : Jvm.MethodName) method_2_code (5 : Nat) (Option.some Jvm.ClassFile.FieldType.boolean)).before args0 about1 = true := code_word (m := ⟨1, 1⟩) (meth := k1m1) (c := k1c1) (by decide +kernel) rfl rfl rfl (by decide +kernel)
set_option maxRecDepth 65536 in
theorem w_c3 : (Jvm.Cond.code ({ cls := "com/example/normative/normative/listing/LineText", name := "indexOf", desc := "([CCII)I" } : Jvm.MethodName) prog_49_method_5_code (5 : Nat) (Option.some Jvm.ClassFile.FieldType.int)).before args0 about1 = true := code_word (m := ⟨2, 1⟩) (meth := k2m1) (c := k2c1) (by decide +kernel) rfl rfl rfl (by decide +kernel)
def codes1 : List Jvm.Cond := [Jvm.Cond.code x code maxLocals ret, Jvm.Cond.code ({ cls := "com/example/normative/normative/listing/LineTextIndexOfPinLaw", name := "pick", desc := "(IICC)C" } : Jvm.MethodName) method_3_code (4 : Nat) (Option.some Jvm.ClassFile.FieldType.char), Jvm.Cond.code ({ cls := "com/example/normative/normative/listing/LineTextIndexOfPinLaw", name := "hit", desc := "([CCIII)Z" } : Jvm.MethodName) method_2_code (5 : Nat) (Option.some Jvm.ClassFile.FieldType.boolean), Jvm.Cond.code ({ cls := "com/example/normative/normative/listing/LineText", name := "indexOf", desc := "([CCII)I" } : Jvm.MethodName) prog_49_method_5_code (5 : Nat) (Option.some Jvm.ClassFile.FieldType.int)]
set_option maxRecDepth 65536 in
theorem codes_eq : words1.filter isCode = codes1 := rfl
theorem w_codes : ∀ c ∈ words1.filter isCode, c.before args0 about1 = true := by
  rw [codes_eq]
  intro c hc
  simp only [codes1, List.mem_cons, List.not_mem_nil, or_false] at hc
  rcases hc with rfl | rfl | rfl | rfl
  · exact w_c0
  · exact w_c1
  · exact w_c2
  · exact w_c3
set_option maxRecDepth 65536 in
theorem w_t1 : words1.all (fun c => isCode c || c.before args0 about1) = true := by decide +kernel
theorem w_tables : (allAtoms (Jvm.Cond.code x code maxLocals ret :: tables_1)).before args0 about1 = true := by
  rw [allAtoms_all]
  show words1.all (fun c => c.before args0 about1) = true
  refine all_split ?_ w_codes
  rw [w_t1]
set_option maxRecDepth 65536 in
theorem w_case : (Jvm.Cond.and given_1 narrow_1).before args0 about1 = true := by decide +kernel
theorem w_applies : (headSpec (Jvm.Cond.code x code maxLocals ret :: tables_1) room_1).applies x e0.platform about1 = true :=
  (Spec.applies_iff w_frames).mpr ⟨w_running, w_runnable, w_alone, w_named, w_hears, w_ripe, w_room, w_tables⟩
theorem atStart : AtStart classFile x code maxLocals ret World_1 tables_1 room_1 Calls_1 rest_1 Pre_1 launch0 p0 e0 about1 theMethod args0 below0 :=
  ⟨lists_1, trivial, launch0.admits_env _ _ _, launch0.least_env, fairChoices_fair.cas, fairChoices_fair.clock, w_frames, w_args, w_heap, w_applies, trivial, trivial, w_case⟩
end start1
theorem witness_1 : WitnessClaimed_1 := ⟨start1.p0, start1.e0, start1.about1, start1.theMethod, start1.args0, start1.below0, start1.atStart⟩
end Jvm.Pilot.@@N@@
