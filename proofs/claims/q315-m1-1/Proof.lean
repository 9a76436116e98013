import JvmDerived
import JvmDerived.Pilot.@@N@@Statement
import JvmDerived.Pilot.@@N@@Code
set_option linter.unusedVariables false
set_option linter.unusedSimpArgs false
namespace Jvm.Pilot.@@N@@
open Jvm Jvm.ClassFile Sem Op Lib Jvm.Free Jvm.Stand Jvm.LawKit Jvm.RoadKit Bundle Jvm.Pilot.@@N@@.Jvm.D
section OwnKit
variable {p : Program} {l : Launch} {e : Env} {R : Room} {s : State} {m : MethodId} {args : Array Value} {below : List Frame} {meth : Method} {c : Code} {T : State} {locs : List Loc} {cells slots : Nat} {Z : State} {a0 : Array Value} {h : Heap} {Q : Option Value → Heap → List Loc → Prop} {ck sk : Nat}
/-- from the state T with the frame g on top the run comes to a return that answers Q -/
def own_R (p : Program) (e : Env) (below : List Frame) (s : State) (Q : Option Value → Heap → List Loc → Prop) (ck sk : Nat) (T : State) (g : JFrame) : Prop :=
  ∃ (t : State) (o : Outcome), Steps p.tables e below (T.setTop g) t ∧ t.status = .running ∧ Ended t below o ∧ ∃ v L, o = .returned v ∧ Q v t.heap L ∧ FrameEnd s o t L ck sk
theorem own_lift {T' : State} {g g' : JFrame} (h : ∀ target, Steps p.tables e below (T'.setTop g') target → Steps p.tables e below (T.setTop g) target) (k : own_R p e below s Q ck sk T' g') : own_R p e below s Q ck sk T g := by
  obtain ⟨t, o, h1, h2⟩ := k
  exact ⟨t, o, h _ h1, h2⟩
theorem own_cast {g g' : JFrame} (q : g = g') (k : own_R p e below s Q ck sk T g') : own_R p e below s Q ck sk T g := q ▸ k
theorem own_iadd (X : Stand p l e R s m args below meth c T locs cells slots) (hx : p.tables.exec = Jvm.exec) {pc : Nat} {Ls : Array Slot} {St : List Value} {x y : Int32} (hd : decode c.code pc = .ok (.iadd, 1)) (k : own_R p e below s Q ck sk T (mkF m (pc + 1) Ls (.int (x + y) :: St))) : own_R p e below s Q ck sk T (mkF m pc Ls (.int y :: .int x :: St)) :=
  own_lift (fun _ q => XS.iadd X.here hx rfl hd rfl q) k
theorem own_isub (X : Stand p l e R s m args below meth c T locs cells slots) (hx : p.tables.exec = Jvm.exec) {pc : Nat} {Ls : Array Slot} {St : List Value} {x y : Int32} (hd : decode c.code pc = .ok (.isub, 1)) (k : own_R p e below s Q ck sk T (mkF m (pc + 1) Ls (.int (x - y) :: St))) : own_R p e below s Q ck sk T (mkF m pc Ls (.int y :: .int x :: St)) :=
  own_lift (fun _ q => XS.isub X.here hx rfl hd rfl q) k
theorem own_imul (X : Stand p l e R s m args below meth c T locs cells slots) (hx : p.tables.exec = Jvm.exec) {pc : Nat} {Ls : Array Slot} {St : List Value} {x y : Int32} (hd : decode c.code pc = .ok (.imul, 1)) (k : own_R p e below s Q ck sk T (mkF m (pc + 1) Ls (.int (x * y) :: St))) : own_R p e below s Q ck sk T (mkF m pc Ls (.int y :: .int x :: St)) :=
  own_lift (fun _ q => XS.imul X.here hx rfl hd rfl q) k
theorem own_iand (X : Stand p l e R s m args below meth c T locs cells slots) (hx : p.tables.exec = Jvm.exec) {pc : Nat} {Ls : Array Slot} {St : List Value} {x y : Int32} (hd : decode c.code pc = .ok (.iand, 1)) (k : own_R p e below s Q ck sk T (mkF m (pc + 1) Ls (.int (x &&& y) :: St))) : own_R p e below s Q ck sk T (mkF m pc Ls (.int y :: .int x :: St)) :=
  own_lift (fun _ q => XS.iand X.here hx rfl hd rfl q) k
theorem own_ior (X : Stand p l e R s m args below meth c T locs cells slots) (hx : p.tables.exec = Jvm.exec) {pc : Nat} {Ls : Array Slot} {St : List Value} {x y : Int32} (hd : decode c.code pc = .ok (.ior, 1)) (k : own_R p e below s Q ck sk T (mkF m (pc + 1) Ls (.int (x ||| y) :: St))) : own_R p e below s Q ck sk T (mkF m pc Ls (.int y :: .int x :: St)) :=
  own_lift (fun _ q => XS.ior X.here hx rfl hd rfl q) k
theorem own_ixor (X : Stand p l e R s m args below meth c T locs cells slots) (hx : p.tables.exec = Jvm.exec) {pc : Nat} {Ls : Array Slot} {St : List Value} {x y : Int32} (hd : decode c.code pc = .ok (.ixor, 1)) (k : own_R p e below s Q ck sk T (mkF m (pc + 1) Ls (.int (x ^^^ y) :: St))) : own_R p e below s Q ck sk T (mkF m pc Ls (.int y :: .int x :: St)) :=
  own_lift (fun _ q => XS.ixor X.here hx rfl hd rfl q) k
theorem own_ishl (X : Stand p l e R s m args below meth c T locs cells slots) (hx : p.tables.exec = Jvm.exec) {pc : Nat} {Ls : Array Slot} {St : List Value} {x y : Int32} (hd : decode c.code pc = .ok (.ishl, 1)) (k : own_R p e below s Q ck sk T (mkF m (pc + 1) Ls (.int (x <<< (y &&& 31)) :: St))) : own_R p e below s Q ck sk T (mkF m pc Ls (.int y :: .int x :: St)) :=
  own_lift (fun _ q => XS.ishl X.here hx rfl hd rfl q) k
theorem own_ishr (X : Stand p l e R s m args below meth c T locs cells slots) (hx : p.tables.exec = Jvm.exec) {pc : Nat} {Ls : Array Slot} {St : List Value} {x y : Int32} (hd : decode c.code pc = .ok (.ishr, 1)) (k : own_R p e below s Q ck sk T (mkF m (pc + 1) Ls (.int (x >>> (y &&& 31)) :: St))) : own_R p e below s Q ck sk T (mkF m pc Ls (.int y :: .int x :: St)) :=
  own_lift (fun _ q => XS.ishr X.here hx rfl hd rfl q) k
theorem own_iushr (X : Stand p l e R s m args below meth c T locs cells slots) (hx : p.tables.exec = Jvm.exec) {pc : Nat} {Ls : Array Slot} {St : List Value} {x y : Int32} (hd : decode c.code pc = .ok (.iushr, 1)) (k : own_R p e below s Q ck sk T (mkF m (pc + 1) Ls (.int ((x.toUInt32 >>> (y &&& 31).toUInt32).toInt32) :: St))) : own_R p e below s Q ck sk T (mkF m pc Ls (.int y :: .int x :: St)) :=
  own_lift (fun _ q => XS.iushr X.here hx rfl hd rfl q) k
theorem own_ladd (X : Stand p l e R s m args below meth c T locs cells slots) (hx : p.tables.exec = Jvm.exec) {pc : Nat} {Ls : Array Slot} {St : List Value} {x y : Int64} (hd : decode c.code pc = .ok (.ladd, 1)) (k : own_R p e below s Q ck sk T (mkF m (pc + 1) Ls (.long (x + y) :: St))) : own_R p e below s Q ck sk T (mkF m pc Ls (.long y :: .long x :: St)) :=
  own_lift (fun _ q => XS.ladd X.here hx rfl hd rfl q) k
theorem own_lsub (X : Stand p l e R s m args below meth c T locs cells slots) (hx : p.tables.exec = Jvm.exec) {pc : Nat} {Ls : Array Slot} {St : List Value} {x y : Int64} (hd : decode c.code pc = .ok (.lsub, 1)) (k : own_R p e below s Q ck sk T (mkF m (pc + 1) Ls (.long (x - y) :: St))) : own_R p e below s Q ck sk T (mkF m pc Ls (.long y :: .long x :: St)) :=
  own_lift (fun _ q => XS.lsub X.here hx rfl hd rfl q) k
theorem own_lmul (X : Stand p l e R s m args below meth c T locs cells slots) (hx : p.tables.exec = Jvm.exec) {pc : Nat} {Ls : Array Slot} {St : List Value} {x y : Int64} (hd : decode c.code pc = .ok (.lmul, 1)) (k : own_R p e below s Q ck sk T (mkF m (pc + 1) Ls (.long (x * y) :: St))) : own_R p e below s Q ck sk T (mkF m pc Ls (.long y :: .long x :: St)) :=
  own_lift (fun _ q => XS.lmul X.here hx rfl hd rfl q) k
theorem own_land (X : Stand p l e R s m args below meth c T locs cells slots) (hx : p.tables.exec = Jvm.exec) {pc : Nat} {Ls : Array Slot} {St : List Value} {x y : Int64} (hd : decode c.code pc = .ok (.land, 1)) (k : own_R p e below s Q ck sk T (mkF m (pc + 1) Ls (.long (x &&& y) :: St))) : own_R p e below s Q ck sk T (mkF m pc Ls (.long y :: .long x :: St)) :=
  own_lift (fun _ q => XS.land X.here hx rfl hd rfl q) k
theorem own_lor (X : Stand p l e R s m args below meth c T locs cells slots) (hx : p.tables.exec = Jvm.exec) {pc : Nat} {Ls : Array Slot} {St : List Value} {x y : Int64} (hd : decode c.code pc = .ok (.lor, 1)) (k : own_R p e below s Q ck sk T (mkF m (pc + 1) Ls (.long (x ||| y) :: St))) : own_R p e below s Q ck sk T (mkF m pc Ls (.long y :: .long x :: St)) :=
  own_lift (fun _ q => XS.lor X.here hx rfl hd rfl q) k
theorem own_lshl (X : Stand p l e R s m args below meth c T locs cells slots) (hx : p.tables.exec = Jvm.exec) {pc : Nat} {Ls : Array Slot} {St : List Value} {x : Int64} {y : Int32} (hd : decode c.code pc = .ok (.lshl, 1)) (k : own_R p e below s Q ck sk T (mkF m (pc + 1) Ls (.long (x <<< (y &&& 0x3f).toInt64) :: St))) : own_R p e below s Q ck sk T (mkF m pc Ls (.int y :: .long x :: St)) :=
  own_lift (fun _ q => XS.lshl X.here hx rfl hd rfl q) k
theorem own_lshr (X : Stand p l e R s m args below meth c T locs cells slots) (hx : p.tables.exec = Jvm.exec) {pc : Nat} {Ls : Array Slot} {St : List Value} {x : Int64} {y : Int32} (hd : decode c.code pc = .ok (.lshr, 1)) (k : own_R p e below s Q ck sk T (mkF m (pc + 1) Ls (.long (x >>> (y &&& 0x3f).toInt64) :: St))) : own_R p e below s Q ck sk T (mkF m pc Ls (.int y :: .long x :: St)) :=
  own_lift (fun _ q => XS.lshr X.here hx rfl hd rfl q) k
theorem own_lushr (X : Stand p l e R s m args below meth c T locs cells slots) (hx : p.tables.exec = Jvm.exec) {pc : Nat} {Ls : Array Slot} {St : List Value} {x : Int64} {y : Int32} (hd : decode c.code pc = .ok (.lushr, 1)) (k : own_R p e below s Q ck sk T (mkF m (pc + 1) Ls (.long ((x.toUInt64 >>> (y &&& 0x3f).toInt64.toUInt64).toInt64) :: St))) : own_R p e below s Q ck sk T (mkF m pc Ls (.int y :: .long x :: St)) :=
  own_lift (fun _ q => XS.lushr X.here hx rfl hd rfl q) k
theorem own_i2b (X : Stand p l e R s m args below meth c T locs cells slots) (hx : p.tables.exec = Jvm.exec) {pc : Nat} {Ls : Array Slot} {St : List Value} {x : Int32} (hd : decode c.code pc = .ok (.i2b, 1)) (k : own_R p e below s Q ck sk T (mkF m (pc + 1) Ls (.int x.toInt8.toInt32 :: St))) : own_R p e below s Q ck sk T (mkF m pc Ls (.int x :: St)) :=
  own_lift (fun _ q => XS.i2b X.here hx rfl hd rfl q) k
theorem own_i2s (X : Stand p l e R s m args below meth c T locs cells slots) (hx : p.tables.exec = Jvm.exec) {pc : Nat} {Ls : Array Slot} {St : List Value} {x : Int32} (hd : decode c.code pc = .ok (.i2s, 1)) (k : own_R p e below s Q ck sk T (mkF m (pc + 1) Ls (.int x.toInt16.toInt32 :: St))) : own_R p e below s Q ck sk T (mkF m pc Ls (.int x :: St)) :=
  own_lift (fun _ q => XS.i2s X.here hx rfl hd rfl q) k
theorem own_i2c (X : Stand p l e R s m args below meth c T locs cells slots) (hx : p.tables.exec = Jvm.exec) {pc : Nat} {Ls : Array Slot} {St : List Value} {x : Int32} (hd : decode c.code pc = .ok (.i2c, 1)) (k : own_R p e below s Q ck sk T (mkF m (pc + 1) Ls (.int x.toUInt32.toUInt16.toUInt32.toInt32 :: St))) : own_R p e below s Q ck sk T (mkF m pc Ls (.int x :: St)) :=
  own_lift (fun _ q => XS.i2c X.here hx rfl hd rfl q) k
theorem own_i2l (X : Stand p l e R s m args below meth c T locs cells slots) (hx : p.tables.exec = Jvm.exec) {pc : Nat} {Ls : Array Slot} {St : List Value} {x : Int32} (hd : decode c.code pc = .ok (.i2l, 1)) (k : own_R p e below s Q ck sk T (mkF m (pc + 1) Ls (.long x.toInt64 :: St))) : own_R p e below s Q ck sk T (mkF m pc Ls (.int x :: St)) :=
  own_lift (fun _ q => XS.i2l X.here hx rfl hd rfl q) k
theorem own_l2i (X : Stand p l e R s m args below meth c T locs cells slots) (hx : p.tables.exec = Jvm.exec) {pc : Nat} {Ls : Array Slot} {St : List Value} {x : Int64} (hd : decode c.code pc = .ok (.l2i, 1)) (k : own_R p e below s Q ck sk T (mkF m (pc + 1) Ls (.int x.toInt32 :: St))) : own_R p e below s Q ck sk T (mkF m pc Ls (.long x :: St)) :=
  own_lift (fun _ q => XS.l2i X.here hx rfl hd rfl q) k
theorem own_ineg (X : Stand p l e R s m args below meth c T locs cells slots) (hx : p.tables.exec = Jvm.exec) {pc : Nat} {Ls : Array Slot} {St : List Value} {x : Int32} (hd : decode c.code pc = .ok (.ineg, 1)) (k : own_R p e below s Q ck sk T (mkF m (pc + 1) Ls (.int (-x) :: St))) : own_R p e below s Q ck sk T (mkF m pc Ls (.int x :: St)) :=
  own_lift (fun _ q => XS.ineg X.here hx rfl hd rfl q) k
theorem own_lneg (X : Stand p l e R s m args below meth c T locs cells slots) (hx : p.tables.exec = Jvm.exec) {pc : Nat} {Ls : Array Slot} {St : List Value} {x : Int64} (hd : decode c.code pc = .ok (.lneg, 1)) (k : own_R p e below s Q ck sk T (mkF m (pc + 1) Ls (.long (-x) :: St))) : own_R p e below s Q ck sk T (mkF m pc Ls (.long x :: St)) :=
  own_lift (fun _ q => XS.lneg X.here hx rfl hd rfl q) k
theorem own_iloadN (X : Stand p l e R s m args below meth c T locs cells slots) (hx : p.tables.exec = Jvm.exec) {pc : Nat} {Ls : Array Slot} {St : List Value} {i : Fin 4} {v : Int32} (hd : decode c.code pc = .ok (.iload_n i, 1)) (hl : Ls[i.val]? = some (.val (.int v))) (k : own_R p e below s Q ck sk T (mkF m (pc + 1) Ls (.int v :: St))) : own_R p e below s Q ck sk T (mkF m pc Ls St) :=
  own_lift (fun _ q => XS.iloadN X.here hx rfl hd hl q) k
theorem own_iload (X : Stand p l e R s m args below meth c T locs cells slots) (hx : p.tables.exec = Jvm.exec) {pc : Nat} {Ls : Array Slot} {St : List Value} {i : Nat} {v : Int32} (hd : decode c.code pc = .ok (.iload i, 2)) (hl : Ls[i]? = some (.val (.int v))) (k : own_R p e below s Q ck sk T (mkF m (pc + 2) Ls (.int v :: St))) : own_R p e below s Q ck sk T (mkF m pc Ls St) :=
  own_lift (fun _ q => XS.iload X.here hx rfl hd hl q) k
theorem own_istoreN (X : Stand p l e R s m args below meth c T locs cells slots) (hx : p.tables.exec = Jvm.exec) {pc : Nat} {Ls : Array Slot} {St : List Value} {i : Fin 4} {v : Int32} {l' : Array Slot} (hd : decode c.code pc = .ok (.istore_n i, 1)) (hl : storeLocals Ls i.val (.int v) = some l') (k : own_R p e below s Q ck sk T (mkF m (pc + 1) l' St)) : own_R p e below s Q ck sk T (mkF m pc Ls (.int v :: St)) :=
  own_lift (fun _ q => XS.istoreN X.here hx rfl hd rfl hl q) k
theorem own_istore (X : Stand p l e R s m args below meth c T locs cells slots) (hx : p.tables.exec = Jvm.exec) {pc : Nat} {Ls : Array Slot} {St : List Value} {i : Nat} {v : Int32} {l' : Array Slot} (hd : decode c.code pc = .ok (.istore i, 2)) (hl : storeLocals Ls i (.int v) = some l') (k : own_R p e below s Q ck sk T (mkF m (pc + 2) l' St)) : own_R p e below s Q ck sk T (mkF m pc Ls (.int v :: St)) :=
  own_lift (fun _ q => XS.istore X.here hx rfl hd rfl hl q) k
theorem own_lloadN (X : Stand p l e R s m args below meth c T locs cells slots) (hx : p.tables.exec = Jvm.exec) {pc : Nat} {Ls : Array Slot} {St : List Value} {i : Fin 4} {v : Int64} (hd : decode c.code pc = .ok (.lload_n i, 1)) (hl : Ls[i.val]? = some (.val (.long v))) (k : own_R p e below s Q ck sk T (mkF m (pc + 1) Ls (.long v :: St))) : own_R p e below s Q ck sk T (mkF m pc Ls St) :=
  own_lift (fun _ q => XS.lloadN X.here hx rfl hd hl q) k
theorem own_lload (X : Stand p l e R s m args below meth c T locs cells slots) (hx : p.tables.exec = Jvm.exec) {pc : Nat} {Ls : Array Slot} {St : List Value} {i : Nat} {v : Int64} (hd : decode c.code pc = .ok (.lload i, 2)) (hl : Ls[i]? = some (.val (.long v))) (k : own_R p e below s Q ck sk T (mkF m (pc + 2) Ls (.long v :: St))) : own_R p e below s Q ck sk T (mkF m pc Ls St) :=
  own_lift (fun _ q => XS.lload X.here hx rfl hd hl q) k
theorem own_lstoreN (X : Stand p l e R s m args below meth c T locs cells slots) (hx : p.tables.exec = Jvm.exec) {pc : Nat} {Ls : Array Slot} {St : List Value} {i : Fin 4} {v : Int64} {l' : Array Slot} (hd : decode c.code pc = .ok (.lstore_n i, 1)) (hl : storeLocals Ls i.val (.long v) = some l') (k : own_R p e below s Q ck sk T (mkF m (pc + 1) l' St)) : own_R p e below s Q ck sk T (mkF m pc Ls (.long v :: St)) :=
  own_lift (fun _ q => XS.lstoreN X.here hx rfl hd rfl hl q) k
theorem own_lstore (X : Stand p l e R s m args below meth c T locs cells slots) (hx : p.tables.exec = Jvm.exec) {pc : Nat} {Ls : Array Slot} {St : List Value} {i : Nat} {v : Int64} {l' : Array Slot} (hd : decode c.code pc = .ok (.lstore i, 2)) (hl : storeLocals Ls i (.long v) = some l') (k : own_R p e below s Q ck sk T (mkF m (pc + 2) l' St)) : own_R p e below s Q ck sk T (mkF m pc Ls (.long v :: St)) :=
  own_lift (fun _ q => XS.lstore X.here hx rfl hd rfl hl q) k
theorem own_aloadN (X : Stand p l e R s m args below meth c T locs cells slots) (hx : p.tables.exec = Jvm.exec) {pc : Nat} {Ls : Array Slot} {St : List Value} {i : Fin 4} {v : Value} (hd : decode c.code pc = .ok (.aload_n i, 1)) (hl : Ls[i.val]? = some (.val v)) (hv : v.isRef = true) (k : own_R p e below s Q ck sk T (mkF m (pc + 1) Ls (v :: St))) : own_R p e below s Q ck sk T (mkF m pc Ls St) :=
  own_lift (fun _ q => XS.aloadN X.here hx rfl hd hl hv q) k
theorem own_aload (X : Stand p l e R s m args below meth c T locs cells slots) (hx : p.tables.exec = Jvm.exec) {pc : Nat} {Ls : Array Slot} {St : List Value} {i : Nat} {v : Value} (hd : decode c.code pc = .ok (.aload i, 2)) (hl : Ls[i]? = some (.val v)) (hv : v.isRef = true) (k : own_R p e below s Q ck sk T (mkF m (pc + 2) Ls (v :: St))) : own_R p e below s Q ck sk T (mkF m pc Ls St) :=
  own_lift (fun _ q => XS.aload X.here hx rfl hd hl hv q) k
theorem own_astoreN (X : Stand p l e R s m args below meth c T locs cells slots) (hx : p.tables.exec = Jvm.exec) {pc : Nat} {Ls : Array Slot} {St : List Value} {i : Fin 4} {v : Value} {l' : Array Slot} (hd : decode c.code pc = .ok (.astore_n i, 1)) (hv : v.isRef = true) (hl : storeLocals Ls i.val v = some l') (k : own_R p e below s Q ck sk T (mkF m (pc + 1) l' St)) : own_R p e below s Q ck sk T (mkF m pc Ls (v :: St)) :=
  own_lift (fun _ q => XS.astoreN X.here hx rfl hd rfl hv hl q) k
theorem own_astore (X : Stand p l e R s m args below meth c T locs cells slots) (hx : p.tables.exec = Jvm.exec) {pc : Nat} {Ls : Array Slot} {St : List Value} {i : Nat} {v : Value} {l' : Array Slot} (hd : decode c.code pc = .ok (.astore i, 2)) (hv : v.isRef = true) (hl : storeLocals Ls i v = some l') (k : own_R p e below s Q ck sk T (mkF m (pc + 2) l' St)) : own_R p e below s Q ck sk T (mkF m pc Ls (v :: St)) :=
  own_lift (fun _ q => XS.astore X.here hx rfl hd rfl hv hl q) k
theorem own_iconst (X : Stand p l e R s m args below meth c T locs cells slots) (hx : p.tables.exec = Jvm.exec) {pc : Nat} {Ls : Array Slot} {St : List Value} {i : Int} (v : Int32) (hd : decode c.code pc = .ok (.iconst i, 1)) (hv : Int32.ofInt i = v) (k : own_R p e below s Q ck sk T (mkF m (pc + 1) Ls (.int v :: St))) : own_R p e below s Q ck sk T (mkF m pc Ls St) :=
  own_lift (fun _ q => XS.iconst X.here hx rfl hd (hv ▸ q)) k
theorem own_bipush (X : Stand p l e R s m args below meth c T locs cells slots) (hx : p.tables.exec = Jvm.exec) {pc : Nat} {Ls : Array Slot} {St : List Value} {i : Int} (v : Int32) (hd : decode c.code pc = .ok (.bipush i, 2)) (hv : (Int8.ofInt i).toInt32 = v) (k : own_R p e below s Q ck sk T (mkF m (pc + 2) Ls (.int v :: St))) : own_R p e below s Q ck sk T (mkF m pc Ls St) :=
  own_lift (fun _ q => XS.bipush X.here hx rfl hd (hv ▸ q)) k
theorem own_sipush (X : Stand p l e R s m args below meth c T locs cells slots) (hx : p.tables.exec = Jvm.exec) {pc : Nat} {Ls : Array Slot} {St : List Value} {i : Int} (v : Int32) (hd : decode c.code pc = .ok (.sipush i, 3)) (hv : (Int16.ofInt i).toInt32 = v) (k : own_R p e below s Q ck sk T (mkF m (pc + 3) Ls (.int v :: St))) : own_R p e below s Q ck sk T (mkF m pc Ls St) :=
  own_lift (fun _ q => XS.sipush X.here hx rfl hd (hv ▸ q)) k
theorem own_lconst (X : Stand p l e R s m args below meth c T locs cells slots) (hx : p.tables.exec = Jvm.exec) {pc : Nat} {Ls : Array Slot} {St : List Value} {i : Fin 2} (v : Int64) (hd : decode c.code pc = .ok (.lconst i, 1)) (hv : Int64.ofNat i = v) (k : own_R p e below s Q ck sk T (mkF m (pc + 1) Ls (.long v :: St))) : own_R p e below s Q ck sk T (mkF m pc Ls St) :=
  own_lift (fun _ q => XS.lconst X.here hx rfl hd (hv ▸ q)) k
theorem own_iinc (X : Stand p l e R s m args below meth c T locs cells slots) (hx : p.tables.exec = Jvm.exec) {pc : Nat} {Ls : Array Slot} {St : List Value} {i : Nat} {cst : Int} {x : Int32} (v : Int32) {l' : Array Slot} (hd : decode c.code pc = .ok (.iinc i cst, 3)) (hv : Int32.ofInt cst = v) (hl : Ls[i]? = some (.val (.int x))) (hl' : storeLocals Ls i (.int (x + v)) = some l') (k : own_R p e below s Q ck sk T (mkF m (pc + 3) l' St)) : own_R p e below s Q ck sk T (mkF m pc Ls St) :=
  own_lift (fun _ q => XS.iinc X.here hx rfl hd hl (hv ▸ hl') q) k
theorem own_aconst_null (X : Stand p l e R s m args below meth c T locs cells slots) (hx : p.tables.exec = Jvm.exec) {pc : Nat} {Ls : Array Slot} {St : List Value}  (hd : decode c.code pc = .ok (.aconst_null, 1)) (k : own_R p e below s Q ck sk T (mkF m (pc + 1) Ls (.null :: St))) : own_R p e below s Q ck sk T (mkF m pc Ls St) :=
  own_lift (fun _ q => XS.aconstNull X.here hx rfl hd q) k
theorem own_dup (X : Stand p l e R s m args below meth c T locs cells slots) (hx : p.tables.exec = Jvm.exec) {pc : Nat} {Ls : Array Slot} {St : List Value} {x : Value} (hd : decode c.code pc = .ok (.dup, 1)) (hc : x.category = 1) (k : own_R p e below s Q ck sk T (mkF m (pc + 1) Ls (x :: x :: St))) : own_R p e below s Q ck sk T (mkF m pc Ls (x :: St)) :=
  own_lift (fun _ q => XS.dup X.here hx rfl hd rfl hc q) k
theorem own_dup_x1 (X : Stand p l e R s m args below meth c T locs cells slots) (hx : p.tables.exec = Jvm.exec) {pc : Nat} {Ls : Array Slot} {St : List Value} {x y : Value} (hd : decode c.code pc = .ok (.dup_x1, 1)) (hc : x.category = 1) (hc2 : y.category = 1) (k : own_R p e below s Q ck sk T (mkF m (pc + 1) Ls (x :: y :: x :: St))) : own_R p e below s Q ck sk T (mkF m pc Ls (x :: y :: St)) :=
  own_lift (fun _ q => XS.dupX1 X.here hx rfl hd rfl hc hc2 q) k
theorem own_pop (X : Stand p l e R s m args below meth c T locs cells slots) (hx : p.tables.exec = Jvm.exec) {pc : Nat} {Ls : Array Slot} {St : List Value} {x : Value} (hd : decode c.code pc = .ok (.pop, 1)) (hc : x.category = 1) (k : own_R p e below s Q ck sk T (mkF m (pc + 1) Ls St)) : own_R p e below s Q ck sk T (mkF m pc Ls (x :: St)) :=
  own_lift (fun _ q => XS.pop X.here hx rfl hd rfl hc q) k
theorem own_goto (X : Stand p l e R s m args below meth c T locs cells slots) (hx : p.tables.exec = Jvm.exec) {pc : Nat} {Ls : Array Slot} {St : List Value} {o : Int} {pc' : Nat} (hd : decode c.code pc = .ok (.goto o, 3)) (ho : 0 ≤ (pc : Int) + o) (hp : ((pc : Int) + o).toNat = pc') (k : own_R p e below s Q ck sk T (mkF m pc' Ls St)) : own_R p e below s Q ck sk T (mkF m pc Ls St) :=
  own_lift (fun _ q => XS.goto X.here hx rfl (pc0 := pc) rfl hd ho hp q) k
theorem own_ifnullY (X : Stand p l e R s m args below meth c T locs cells slots) (hx : p.tables.exec = Jvm.exec) {pc : Nat} {Ls : Array Slot} {St : List Value} {o : Int} {pc' : Nat} (hd : decode c.code pc = .ok (.ifnull o, 3)) (ho : 0 ≤ (pc : Int) + o) (hp : ((pc : Int) + o).toNat = pc') (k : own_R p e below s Q ck sk T (mkF m pc' Ls St)) : own_R p e below s Q ck sk T (mkF m pc Ls (.null :: St)) :=
  own_lift (fun _ q => XS.ifnullYes X.here hx rfl (pc0 := pc) rfl hd rfl ho hp q) k
theorem own_ifnullN (X : Stand p l e R s m args below meth c T locs cells slots) (hx : p.tables.exec = Jvm.exec) {pc : Nat} {Ls : Array Slot} {St : List Value} {o : Int} {b : Addr} (hd : decode c.code pc = .ok (.ifnull o, 3)) (k : own_R p e below s Q ck sk T (mkF m (pc + 3) Ls St)) : own_R p e below s Q ck sk T (mkF m pc Ls (.ref b :: St)) :=
  own_lift (fun _ q => XS.ifnullNo X.here hx rfl hd rfl q) k
theorem own_ifnonnullY (X : Stand p l e R s m args below meth c T locs cells slots) (hx : p.tables.exec = Jvm.exec) {pc : Nat} {Ls : Array Slot} {St : List Value} {o : Int} {pc' : Nat} {b : Addr} (hd : decode c.code pc = .ok (.ifnonnull o, 3)) (ho : 0 ≤ (pc : Int) + o) (hp : ((pc : Int) + o).toNat = pc') (k : own_R p e below s Q ck sk T (mkF m pc' Ls St)) : own_R p e below s Q ck sk T (mkF m pc Ls (.ref b :: St)) :=
  own_lift (fun _ q => XS.ifnonnullYes X.here hx rfl (pc0 := pc) rfl hd rfl ho hp q) k
theorem own_ifnonnullN (X : Stand p l e R s m args below meth c T locs cells slots) (hx : p.tables.exec = Jvm.exec) {pc : Nat} {Ls : Array Slot} {St : List Value} {o : Int} (hd : decode c.code pc = .ok (.ifnonnull o, 3)) (k : own_R p e below s Q ck sk T (mkF m (pc + 3) Ls St)) : own_R p e below s Q ck sk T (mkF m pc Ls (.null :: St)) :=
  own_lift (fun _ q => XS.ifnonnullNo X.here hx rfl hd rfl q) k
theorem own_irem (X : Stand p l e R s m args below meth c T locs cells slots) (hx : p.tables.exec = Jvm.exec) {pc : Nat} {Ls : Array Slot} {St : List Value} {x y : Int32} (hd : decode c.code pc = .ok (.irem, 1)) (hy : y ≠ 0) (k : own_R p e below s Q ck sk T (mkF m (pc + 1) Ls (.int (x % y) :: St))) : own_R p e below s Q ck sk T (mkF m pc Ls (.int y :: .int x :: St)) :=
  own_lift (fun _ q => iremM X hx rfl hd rfl hy q) k
theorem own_ldc (X : Stand p l e R s m args below meth c T locs cells slots) (hx : p.tables.exec = Jvm.exec) (hZ : Z.Warmed39 s.vm) {own : String} {index : Nat} {v : Int32} (hown : s.vm.findClass own = some m.cls) (w : (Cond.constant own index v).before a0 Z = true) {pc : Nat} {Ls : Array Slot} {St : List Value} (hd : decode c.code pc = .ok (.ldc index, 2)) (k : own_R p e below s Q ck sk T (mkF m (pc + 2) Ls (.int v :: St))) : own_R p e below s Q ck sk T (mkF m pc Ls St) :=
  own_lift (fun _ q => X.ldcInt hx hown (mvT hZ w) (g := mkF m pc Ls St) rfl hd _ q) k
theorem own_ldc2 (X : Stand p l e R s m args below meth c T locs cells slots) (hx : p.tables.exec = Jvm.exec) (hZ : Z.Warmed39 s.vm) {own : String} {index : Nat} {v : Int64} (hown : s.vm.findClass own = some m.cls) (w : (Cond.constantLong own index v).before a0 Z = true) {pc : Nat} {Ls : Array Slot} {St : List Value} (hd : decode c.code pc = .ok (.ldc2_w index, 3)) (k : own_R p e below s Q ck sk T (mkF m (pc + 3) Ls (.long v :: St))) : own_R p e below s Q ck sk T (mkF m pc Ls St) :=
  own_lift (fun _ q => X.ldc2Long hx hown (mvT hZ w) (g := mkF m pc Ls St) rfl hd _ q) k
theorem own_dup2 (X : Stand p l e R s m args below meth c T locs cells slots) (hx : p.tables.exec = Jvm.exec) {pc : Nat} {Ls : Array Slot} {St : List Value} {x y : Value} (hd : decode c.code pc = .ok (.dup2, 1)) (h1 : x.category = 1) (h2 : y.category = 1) (k : own_R p e below s Q ck sk T (mkF m (pc + 1) Ls (x :: y :: x :: y :: St))) : own_R p e below s Q ck sk T (mkF m pc Ls (x :: y :: St)) :=
  own_lift (fun _ q => by
    show Steps p.tables e below (T.setTop { method := m, pc := pc, locals := Ls, stack := x :: y :: St, locked := none }) _
    jvm_step X.here [X.here.top, hx, hd, h1, h2]
    exact q) k
/-! branches: both ways -/
theorem own_icmp (X : Stand p l e R s m args below meth c T locs cells slots) (hx : p.tables.exec = Jvm.exec) {pc pc' : Nat} {Ls : Array Slot} {St : List Value} {x y : Int32} {cd : ClassFile.Cond} {o : Int} (hd : decode c.code pc = .ok (.if_icmp cd o, 3)) (ho : 0 ≤ (pc : Int) + o) (hp : ((pc : Int) + o).toNat = pc')
    (k1 : if_icmp.holds cd x y = true → own_R p e below s Q ck sk T (mkF m pc' Ls St)) (k2 : if_icmp.holds cd x y = false → own_R p e below s Q ck sk T (mkF m (pc + 3) Ls St)) : own_R p e below s Q ck sk T (mkF m pc Ls (.int y :: .int x :: St)) := by
  cases hc : if_icmp.holds cd x y
  · exact own_lift (fun _ q => XS.icmpNo X.here hx rfl hd rfl hc q) (k2 hc)
  · exact own_lift (fun _ q => XS.icmpYes X.here hx rfl (pc0 := pc) rfl hd rfl hc ho hp q) (k1 hc)
theorem own_if (X : Stand p l e R s m args below meth c T locs cells slots) (hx : p.tables.exec = Jvm.exec) {pc pc' : Nat} {Ls : Array Slot} {St : List Value} {x : Int32} {cd : ClassFile.Cond} {o : Int} (hd : decode c.code pc = .ok (.ifCond cd o, 3)) (ho : 0 ≤ (pc : Int) + o) (hp : ((pc : Int) + o).toNat = pc')
    (k1 : if_icmp.holds cd x 0 = true → own_R p e below s Q ck sk T (mkF m pc' Ls St)) (k2 : if_icmp.holds cd x 0 = false → own_R p e below s Q ck sk T (mkF m (pc + 3) Ls St)) : own_R p e below s Q ck sk T (mkF m pc Ls (.int x :: St)) := by
  cases hc : if_icmp.holds cd x 0
  · exact own_lift (fun _ q => XS.ifNo X.here hx rfl hd rfl ((if0 _ _).trans hc) q) (k2 hc)
  · exact own_lift (fun _ q => XS.ifYes X.here hx rfl (pc0 := pc) rfl hd rfl ((if0 _ _).trans hc) ho hp q) (k1 hc)
theorem own_lt1 {x y : Int32} (q : if_icmp.holds .lt x y = true) : x < y := by simpa [if_icmp.holds] using q
theorem own_lt0 {x y : Int32} (q : if_icmp.holds .lt x y = false) : ¬ x < y := by simpa [if_icmp.holds] using q
theorem own_ge1 {x y : Int32} (q : if_icmp.holds .ge x y = true) : ¬ x < y := by simpa [if_icmp.holds] using q
theorem own_ge0 {x y : Int32} (q : if_icmp.holds .ge x y = false) : x < y := by simpa [if_icmp.holds] using q
theorem own_gt1 {x y : Int32} (q : if_icmp.holds .gt x y = true) : y < x := by simpa [if_icmp.holds] using q
theorem own_gt0 {x y : Int32} (q : if_icmp.holds .gt x y = false) : ¬ y < x := by simpa [if_icmp.holds] using q
theorem own_le1 {x y : Int32} (q : if_icmp.holds .le x y = true) : ¬ y < x := by simpa [if_icmp.holds] using q
theorem own_le0 {x y : Int32} (q : if_icmp.holds .le x y = false) : y < x := by simpa [if_icmp.holds] using q
theorem own_eq1 {x y : Int32} (q : if_icmp.holds .eq x y = true) : x = y := by simpa [if_icmp.holds] using q
theorem own_eq0 {x y : Int32} (q : if_icmp.holds .eq x y = false) : ¬ x = y := by simpa [if_icmp.holds] using q
theorem own_ne1 {x y : Int32} (q : if_icmp.holds .ne x y = true) : ¬ x = y := by simpa [if_icmp.holds] using q
theorem own_ne0 {x y : Int32} (q : if_icmp.holds .ne x y = false) : x = y := by simpa [if_icmp.holds] using q
/-! lcmp and the branch behind it, in one -/
theorem own_lcmp (X : Stand p l e R s m args below meth c T locs cells slots) (hx : p.tables.exec = Jvm.exec) {pc pc' : Nat} {Ls : Array Slot} {St : List Value} {x y : Int64} {cd : ClassFile.Cond} {o : Int} (hd1 : decode c.code pc = .ok (.lcmp, 1)) (hd : decode c.code (pc + 1) = .ok (.ifCond cd o, 3)) (ho : 0 ≤ ((pc + 1 : Nat) : Int) + o) (hp : (((pc + 1 : Nat) : Int) + o).toNat = pc')
    (k1 : if_icmp.holds cd (lcmpW x y) 0 = true → own_R p e below s Q ck sk T (mkF m pc' Ls St)) (k2 : if_icmp.holds cd (lcmpW x y) 0 = false → own_R p e below s Q ck sk T (mkF m (pc + 4) Ls St)) : own_R p e below s Q ck sk T (mkF m pc Ls (.long y :: .long x :: St)) :=
  own_lift (fun _ q => XS.lcmp X.here hx rfl hd1 rfl q) (own_if X hx hd ho hp k1 k2)
theorem own_llt1 {x y : Int64} (q : if_icmp.holds .lt (lcmpW x y) 0 = true) : x < y := (lw_lt x y).mp (own_lt1 q)
theorem own_llt0 {x y : Int64} (q : if_icmp.holds .lt (lcmpW x y) 0 = false) : ¬ x < y := fun z => own_lt0 q ((lw_lt x y).mpr z)
theorem own_lge1 {x y : Int64} (q : if_icmp.holds .ge (lcmpW x y) 0 = true) : ¬ x < y := fun z => own_ge1 q ((lw_lt x y).mpr z)
theorem own_lge0 {x y : Int64} (q : if_icmp.holds .ge (lcmpW x y) 0 = false) : x < y := (lw_lt x y).mp (own_ge0 q)
theorem own_lgt1 {x y : Int64} (q : if_icmp.holds .gt (lcmpW x y) 0 = true) : y < x := (lw_gt x y).mp (own_gt1 q)
theorem own_lgt0 {x y : Int64} (q : if_icmp.holds .gt (lcmpW x y) 0 = false) : ¬ y < x := fun z => own_gt0 q ((lw_gt x y).mpr z)
theorem own_lle1 {x y : Int64} (q : if_icmp.holds .le (lcmpW x y) 0 = true) : ¬ y < x := fun z => own_le1 q ((lw_gt x y).mpr z)
theorem own_lle0 {x y : Int64} (q : if_icmp.holds .le (lcmpW x y) 0 = false) : y < x := (lw_gt x y).mp (own_le0 q)
theorem own_leq1 {x y : Int64} (q : if_icmp.holds .eq (lcmpW x y) 0 = true) : x = y := (lw_eq x y).mp (own_eq1 q)
theorem own_leq0 {x y : Int64} (q : if_icmp.holds .eq (lcmpW x y) 0 = false) : ¬ x = y := fun z => own_eq0 q ((lw_eq x y).mpr z)
theorem own_lne1 {x y : Int64} (q : if_icmp.holds .ne (lcmpW x y) 0 = true) : ¬ x = y := fun z => own_ne1 q ((lw_eq x y).mpr z)
theorem own_lne0 {x y : Int64} (q : if_icmp.holds .ne (lcmpW x y) 0 = false) : x = y := (lw_eq x y).mp (own_ne0 q)
/-! returns -/
theorem own_ret0 (X : Stand p l e R s m args below meth c T locs cells slots) (hx : p.tables.exec = Jvm.exec) {pc : Nat} {Ls : Array Slot} (hret : meth.sig.returnType = none) (hlk : meth.locks = false) (hd : decode c.code pc = .ok (.return_, 1)) (hQ : Q none T.heap locs) (hc : cells ≤ ck) (hs : slots ≤ sk) : own_R p e below s Q ck sk T (mkF m pc Ls []) := by
  obtain ⟨fs, hr, hrun, hended, hW, hsame⟩ := X.leave (v := none) (fun _ => rfl) hlk
  exact ⟨_, _, X.returnOut hx hret hd hr, hrun, hended, _, _, rfl, hQ, ⟨_, rfl⟩, hW, hsame.mono hc hs⟩
theorem own_retN (X : Stand p l e R s m args below meth c T locs cells slots) (hx : p.tables.exec = Jvm.exec) {pc : Nat} {Ls : Array Slot} {St : List Value} {z : Int32} {t : FieldType} (hret : meth.sig.returnType = some t) (ht : t = .boolean ∨ t = .byte ∨ t = .char ∨ t = .short) (hlk : meth.locks = false) (hd : decode c.code pc = .ok (.ireturn, 1)) (hQ : Q (some (.int (nar t z))) T.heap locs) (hc : cells ≤ ck) (hs : slots ≤ sk) : own_R p e below s Q ck sk T (mkF m pc Ls (.int z :: St)) := by
  obtain ⟨fs, hr, hrun, hended, hW, hsame⟩ := X.leave (v := some (.int (nar t z))) (fun h => by rw [hret] at h; cases h) hlk
  exact ⟨_, _, retN X hx hret ht hd hr, hrun, hended, _, _, rfl, hQ, ⟨_, rfl⟩, hW, hsame.mono hc hs⟩
theorem own_retV (X : Stand p l e R s m args below meth c T locs cells slots) (hx : p.tables.exec = Jvm.exec) {pc : Nat} {Ls : Array Slot} {St : List Value} {w : Value} {t : FieldType} {i : Instr} (hret : meth.sig.returnType = some t) (hn : narrow t w = w)
    (hi : (i = .ireturn ∧ (t = .int ∨ t = .boolean ∨ t = .byte ∨ t = .char ∨ t = .short) ∧ ∃ z, w = .int z) ∨ (i = .lreturn ∧ t = .long ∧ ∃ z, w = .long z) ∨ (i = .dreturn ∧ t = .double ∧ ∃ z, w = .double z) ∨ (i = .freturn ∧ t = .float ∧ ∃ z, w = .float z) ∨ (i = .areturn ∧ t.isReference = true ∧ w.isRef = true)) (hlk : meth.locks = false)
    (hd : decode c.code pc = .ok (i, 1)) (hQ : Q (some w) T.heap locs) (hc : cells ≤ ck) (hs : slots ≤ sk) : own_R p e below s Q ck sk T (mkF m pc Ls (w :: St)) := by
  obtain ⟨fs, hr, hrun, hended, hW, hsame⟩ := X.leave (v := some w) (fun h => by rw [hret] at h; cases h) hlk
  exact ⟨_, _, retOut X hx hret hn hi hd hr, hrun, hended, _, _, rfl, hQ, ⟨_, rfl⟩, hW, hsame.mono hc hs⟩
theorem own_retI (X : Stand p l e R s m args below meth c T locs cells slots) (hx : p.tables.exec = Jvm.exec) {pc : Nat} {Ls : Array Slot} {St : List Value} {z : Int32} (hret : meth.sig.returnType = some .int) (hlk : meth.locks = false) (hd : decode c.code pc = .ok (.ireturn, 1)) (hQ : Q (some (.int z)) T.heap locs) (hc : cells ≤ ck) (hs : slots ≤ sk) : own_R p e below s Q ck sk T (mkF m pc Ls (.int z :: St)) :=
  own_retV X hx hret rfl (Or.inl ⟨rfl, Or.inl rfl, _, rfl⟩) hlk hd hQ hc hs
theorem own_retJ (X : Stand p l e R s m args below meth c T locs cells slots) (hx : p.tables.exec = Jvm.exec) {pc : Nat} {Ls : Array Slot} {St : List Value} {z : Int64} (hret : meth.sig.returnType = some .long) (hlk : meth.locks = false) (hd : decode c.code pc = .ok (.lreturn, 1)) (hQ : Q (some (.long z)) T.heap locs) (hc : cells ≤ ck) (hs : slots ≤ sk) : own_R p e below s Q ck sk T (mkF m pc Ls (.long z :: St)) :=
  own_retV X hx hret rfl (Or.inr (Or.inl ⟨rfl, rfl, _, rfl⟩)) hlk hd hQ hc hs
theorem own_retA (X : Stand p l e R s m args below meth c T locs cells slots) (hx : p.tables.exec = Jvm.exec) {pc : Nat} {Ls : Array Slot} {St : List Value} {w : Value} {t : FieldType} (hret : meth.sig.returnType = some t) (ht : t.isReference = true) (hw : w.isRef = true) (hlk : meth.locks = false) (hd : decode c.code pc = .ok (.areturn, 1)) (hQ : Q (some w) T.heap locs) (hc : cells ≤ ck) (hs : slots ≤ sk) : own_R p e below s Q ck sk T (mkF m pc Ls (w :: St)) :=
  own_retV X hx hret (by rcases ref_cases hw with rfl | ⟨a, rfl⟩ <;> cases t <;> first | rfl | (cases ht)) (Or.inr (Or.inr (Or.inr (Or.inr ⟨rfl, ht, hw⟩)))) hlk hd hQ hc hs
/-! the heap -/
theorem own_getF (X : Stand p l e R s m args below meth c T locs cells slots) (hx : p.tables.exec = Jvm.exec) (hZ : Z.Warmed39 s.vm) {own R0 O n d host : String} {index : Nat} (hown : s.vm.findClass own = some m.cls) (w : (Cond.fieldLink own index R0 n d).before a0 Z = true ∨ (Cond.fieldLinkNest own index R0 n d host).before a0 Z = true) (via : Via Z R0 O n d) (eT : T.heap = h) {a : Addr} {v : Value} (F : Fld Z h a O n d v) {pc : Nat} {Ls : Array Slot} {St : List Value} (hd : decode c.code pc = .ok (.getfield index, 3))
    (k : ∀ T', Stand p l e R s m args below meth c T' locs cells slots → T'.heap = h → own_R p e below s Q ck sk T' (mkF m (pc + 3) Ls (v :: St))) : own_R p e below s Q ck sk T (mkF m pc Ls (.ref a :: St)) := by
  obtain ⟨T', X', e', st⟩ := getF X hx hZ hown w via eT F (g := mkF m pc Ls (.ref a :: St)) rfl rfl hd
  exact own_lift st (k T' X' e')
theorem own_putF (X : Stand p l e R s m args below meth c T locs cells slots) (hx : p.tables.exec = Jvm.exec) (hZ : Z.Warmed39 s.vm) {own R0 O n d host C : String} {index kk : Nat} {ty : FieldType} (hown : s.vm.findClass own = some m.cls) (w : (Cond.fieldLink own index R0 n d).before a0 Z = true ∨ (Cond.fieldLinkNest own index R0 n d host).before a0 Z = true) (via : Via Z R0 O n d)
    (eT : T.heap = h) {a : Addr} {v old : Value} (F : Fld Z h a O n d old) (E : Exa Z h a C) (L : (Cond.lays C O n d).before a0 Z = true ∨ ((Cond.laysFinal C O n d).before a0 Z = true ∧ own = O ∧ meth.name = "<init>")) (wi : (Cond.instantiable C kk).before a0 Z = true)
    (hty : parseFieldDescriptor d = some ty) (hn : narrow ty v = v) (hf : fits ty v = true) {pc : Nat} {Ls : Array Slot} {St : List Value} (hd : decode c.code pc = .ok (.putfield index, 3))
    (k : ∀ T' h', Stand p l e R s m args below meth c T' (locs ++ [⟨a, Jvm.RoadKit.slotOf Z O n d⟩]) cells slots → T'.heap = h' → Wr h h' a (Jvm.RoadKit.slotOf Z O n d) v → own_R p e below s Q ck sk T' (mkF m (pc + 3) Ls St)) : own_R p e below s Q ck sk T (mkF m pc Ls (v :: .ref a :: St)) := by
  obtain ⟨T', h', X', e', W, st⟩ := putF X hx hZ hown w via eT F E L wi hty hn hf (g := mkF m pc Ls (v :: .ref a :: St)) rfl rfl hd
  exact own_lift st (k T' h' X' e' W)
theorem own_putFN (X : Stand p l e R s m args below meth c T locs cells slots) (hx : p.tables.exec = Jvm.exec) (hZ : Z.Warmed39 s.vm) {own R0 O n d C : String} {index kk : Nat} {ty : FieldType} (hown : s.vm.findClass own = some m.cls) (w : (Cond.fieldLink own index R0 n d).before a0 Z = true) (via : Via Z R0 O n d)
    (eT : T.heap = h) {a : Addr} {v v' old : Value} (F : Fld Z h a O n d old) (E : Exa Z h a C) (L : (Cond.lays C O n d).before a0 Z = true ∨ ((Cond.laysFinal C O n d).before a0 Z = true ∧ own = O ∧ meth.name = "<init>")) (wi : (Cond.instantiable C kk).before a0 Z = true)
    (hty : parseFieldDescriptor d = some ty) (hn : narrow ty v = v') (hf : fits ty v' = true) {pc : Nat} {Ls : Array Slot} {St : List Value} (hd : decode c.code pc = .ok (.putfield index, 3))
    (k : ∀ T' h', Stand p l e R s m args below meth c T' (locs ++ [⟨a, Jvm.RoadKit.slotOf Z O n d⟩]) cells slots → T'.heap = h' → Wr h h' a (Jvm.RoadKit.slotOf Z O n d) v' → own_R p e below s Q ck sk T' (mkF m (pc + 3) Ls St)) : own_R p e below s Q ck sk T (mkF m pc Ls (v :: .ref a :: St)) := by
  obtain ⟨T', h', X', e', W, st⟩ := putFN X hx hZ hown w via eT F E L wi hty hn hf (g := mkF m pc Ls (v :: .ref a :: St)) rfl rfl hd
  exact own_lift st (k T' h' X' e' W)
theorem own_new (X : Stand p l e R s m args below meth c T locs cells slots) (hx : p.tables.exec = Jvm.exec) (hZ : Z.Warmed39 s.vm) {own C : String} {index n : Nat} (hown : s.vm.findClass own = some m.cls) (w : (Cond.classLink own index C).before a0 Z = true) (wi : (Cond.instantiable C n).before a0 Z = true) (wz : (Cond.initialized C).before a0 Z = true) (eT : T.heap = h) {pc : Nat} {Ls : Array Slot} {St : List Value} (hd : decode c.code pc = .ok (.new index, 3)) (hc : cells + 1 ≤ R.cells) (hl : slots + n ≤ R.slots)
    (k : ∀ T' h' b, b = h.size → Stand p l e R s m args below meth c T' locs (cells + 1) (slots + n) → T'.heap = h' → Ext h h' → Exa Z h' b C → (∀ {O nm d : String} {ty : FieldType}, Laid Z a0 C O nm d → parseFieldDescriptor d = some ty → Fld Z h' b O nm d (defaultValue ty)) → own_R p e below s Q ck sk T' (mkF m (pc + 3) Ls (.ref b :: St))) : own_R p e below s Q ck sk T (mkF m pc Ls St) := by
  obtain ⟨T', h', X', e', E, A, D, -, st⟩ := newO X hx hZ hown w wi wz eT (g := mkF m pc Ls St) rfl hd hc hl
  exact own_lift st (k T' h' _ rfl X' e' E A D)
theorem own_newA (X : Stand p l e R s m args below meth c T locs cells slots) (hx : p.tables.exec = Jvm.exec) (hZ : Z.Warmed39 s.vm) {aty : ArrayType} (w : (Cond.arrayClass (newarray.typeOf aty)).before a0 Z = true) (eT : T.heap = h) {pc : Nat} {Ls : Array Slot} {St : List Value} {n : Int32} (hd : decode c.code pc = .ok (.newarray aty, 2)) (hn : ¬ n < 0) (cap : Nat) (hcap : n.toNatClampNeg ≤ cap) (hb : cap * 8 ≤ 536870912) (hc : cells + 1 ≤ R.cells) (hl : slots + cap ≤ R.slots) {ad : String} (had : "[" ++ (newarray.typeOf aty).toString = ad) (N : Nat)
    (k : ∀ T' h' b kA, b = h.size → Stand p l e R s m args below meth c T' locs (cells + 1) (slots + cap) → T'.heap = h' → Ext h h' → Arv Z h' b kA (newarray.typeOf aty) n (List.replicate N (defaultValue (newarray.typeOf aty))) (defaultValue (newarray.typeOf aty)) → Exa Z h' b ad → own_R p e below s Q ck sk T' (mkF m (pc + 2) Ls (.ref b :: St))) : own_R p e below s Q ck sk T (mkF m pc Ls (.int n :: St)) := by
  obtain ⟨T', h', kA, X', e', E, A, EA, st⟩ := newPE X hx hZ w eT (g := mkF m pc Ls (.int n :: St)) rfl hd rfl hn hcap hb hc hl had
  have V := (Arv.new A hn).pad (vs' := List.replicate N (defaultValue (newarray.typeOf aty))) (fun i => pad_rep [] (defaultValue (newarray.typeOf aty)) N i)
  exact own_lift st (k T' h' _ kA rfl X' e' E V EA)
theorem own_len (X : Stand p l e R s m args below meth c T locs cells slots) (hx : p.tables.exec = Jvm.exec) (hZ : Z.Warmed39 s.vm) (eT : T.heap = h) {a : Addr} {kA : ClassId} {ty : FieldType} {n : Int32} {vs : List Value} {dv : Value} (V : Arv Z h a kA ty n vs dv) {pc : Nat} {Ls : Array Slot} {St : List Value} (hd : decode c.code pc = .ok (.arraylength, 1))
    (k : own_R p e below s Q ck sk T (mkF m (pc + 1) Ls (.int n :: St))) : own_R p e below s Q ck sk T (mkF m pc Ls (.ref a :: St)) := by
  obtain ⟨cl, A, -, S, N, -⟩ := V
  rw [← len_of S N] at k
  exact own_lift (fun _ q => X.arraylength hx (by rw [eT]; exact A.1) (State.isArrayOf_alike hZ.alike A.2.1) (g := mkF m pc Ls (.ref a :: St)) rfl rfl hd _ q) k
theorem own_baload (X : Stand p l e R s m args below meth c T locs cells slots) (hx : p.tables.exec = Jvm.exec) (hZ : Z.Warmed39 s.vm) (eT : T.heap = h) {a : Addr} {kA : ClassId} {n : Int32} {vs : List Value} {dv v : Value} (V : Arv Z h a kA .byte n vs dv) {pc : Nat} {Ls : Array Slot} {St : List Value} {j : Int32} (hj : ¬ j < 0 ∧ j < n) (hv : vs.getD j.toNatClampNeg dv = v) (hd : decode c.code pc = .ok (.baload, 1))
    (k : own_R p e below s Q ck sk T (mkF m (pc + 1) Ls (v :: St))) : own_R p e below s Q ck sk T (mkF m pc Ls (.int j :: .ref a :: St)) := by
  obtain ⟨cl, A, -, S, N, H, -⟩ := V
  have hin := inb_of S hj
  exact own_lift (fun _ q => X.baloadBytes hx (by rw [eT]; exact A.1) (State.isArrayOf_alike hZ.alike A.2.1) A.2.2 hin (H.at hin hv) (g := mkF m pc Ls (.int j :: .ref a :: St)) rfl rfl hd _ q) k
theorem own_zaload (X : Stand p l e R s m args below meth c T locs cells slots) (hx : p.tables.exec = Jvm.exec) (hZ : Z.Warmed39 s.vm) (eT : T.heap = h) {a : Addr} {kA : ClassId} {n : Int32} {vs : List Value} {dv v : Value} (V : Arv Z h a kA .boolean n vs dv) {pc : Nat} {Ls : Array Slot} {St : List Value} {j : Int32} (hj : ¬ j < 0 ∧ j < n) (hv : vs.getD j.toNatClampNeg dv = v) (hd : decode c.code pc = .ok (.baload, 1))
    (k : own_R p e below s Q ck sk T (mkF m (pc + 1) Ls (v :: St))) : own_R p e below s Q ck sk T (mkF m pc Ls (.int j :: .ref a :: St)) := by
  obtain ⟨cl, A, -, S, N, H, -⟩ := V
  have hin := inb_of S hj
  exact own_lift (fun _ q => X.baloadBooleans hx (by rw [eT]; exact A.1) (State.isArrayOf_alike hZ.alike A.2.1) A.2.2 hin (H.at hin hv) (g := mkF m pc Ls (.int j :: .ref a :: St)) rfl rfl hd _ q) k
theorem own_caload (X : Stand p l e R s m args below meth c T locs cells slots) (hx : p.tables.exec = Jvm.exec) (hZ : Z.Warmed39 s.vm) (eT : T.heap = h) {a : Addr} {kA : ClassId} {n : Int32} {vs : List Value} {dv v : Value} (V : Arv Z h a kA .char n vs dv) {pc : Nat} {Ls : Array Slot} {St : List Value} {j : Int32} (hj : ¬ j < 0 ∧ j < n) (hv : vs.getD j.toNatClampNeg dv = v) (hd : decode c.code pc = .ok (.caload, 1))
    (k : own_R p e below s Q ck sk T (mkF m (pc + 1) Ls (v :: St))) : own_R p e below s Q ck sk T (mkF m pc Ls (.int j :: .ref a :: St)) := by
  obtain ⟨cl, A, -, S, N, H, -⟩ := V
  have hin := inb_of S hj
  exact own_lift (fun _ q => X.caload hx (by rw [eT]; exact A.1) (State.isArrayOf_alike hZ.alike A.2.1) A.2.2 hin (H.at hin hv) (g := mkF m pc Ls (.int j :: .ref a :: St)) rfl rfl hd _ q) k
theorem own_iaload (X : Stand p l e R s m args below meth c T locs cells slots) (hx : p.tables.exec = Jvm.exec) (hZ : Z.Warmed39 s.vm) (eT : T.heap = h) {a : Addr} {kA : ClassId} {n : Int32} {vs : List Value} {dv v : Value} (V : Arv Z h a kA .int n vs dv) {pc : Nat} {Ls : Array Slot} {St : List Value} {j : Int32} (hj : ¬ j < 0 ∧ j < n) (hv : vs.getD j.toNatClampNeg dv = v) (hd : decode c.code pc = .ok (.iaload, 1))
    (k : own_R p e below s Q ck sk T (mkF m (pc + 1) Ls (v :: St))) : own_R p e below s Q ck sk T (mkF m pc Ls (.int j :: .ref a :: St)) := by
  obtain ⟨cl, A, -, S, N, H, -⟩ := V
  have hin := inb_of S hj
  exact own_lift (fun _ q => X.iaload hx (by rw [eT]; exact A.1) (State.isArrayOf_alike hZ.alike A.2.1) A.2.2 hin (H.at hin hv) (g := mkF m pc Ls (.int j :: .ref a :: St)) rfl rfl hd _ q) k
theorem own_bastore (X : Stand p l e R s m args below meth c T locs cells slots) (hx : p.tables.exec = Jvm.exec) (hZ : Z.Warmed39 s.vm) (eT : T.heap = h) {a : Addr} {kA : ClassId} {n : Int32} {vs : List Value} {dv : Value} (V : Arv Z h a kA .byte n vs dv) {pc : Nat} {Ls : Array Slot} {St : List Value} {j x x' : Int32} (hn : nar .byte x = x') (hj : ¬ j < 0 ∧ j < n) (i : Nat) (hi : j.toNatClampNeg = i) (hl : i < vs.length) (hd : decode c.code pc = .ok (.bastore, 1))
    (k : ∀ T' h', Stand p l e R s m args below meth c T' (locs ++ [⟨a, j.toNatClampNeg⟩]) cells slots → T'.heap = h' → Wr h h' a j.toNatClampNeg (.int x') → Arv Z h' a kA .byte n (vs.set i (.int x')) dv → own_R p e below s Q ck sk T' (mkF m (pc + 1) Ls St)) : own_R p e below s Q ck sk T (mkF m pc Ls (.int x :: .int j :: .ref a :: St)) := by
  obtain ⟨cl, A, q1, S, N, H, G⟩ := V
  have hin := inb_of S hj
  obtain ⟨T', h', X', e', W, st⟩ := stB X hx hZ eT A hin (g := mkF m pc Ls (.int x :: .int j :: .ref a :: St)) rfl rfl hd
  subst hn
  exact own_lift st (k T' h' X' e' W (Arv.set A q1 S N H G (fits_nar_byte _) W i hi hl))
theorem own_zastore (X : Stand p l e R s m args below meth c T locs cells slots) (hx : p.tables.exec = Jvm.exec) (hZ : Z.Warmed39 s.vm) (eT : T.heap = h) {a : Addr} {kA : ClassId} {n : Int32} {vs : List Value} {dv : Value} (V : Arv Z h a kA .boolean n vs dv) {pc : Nat} {Ls : Array Slot} {St : List Value} {j x x' : Int32} (hn : nar .boolean x = x') (hj : ¬ j < 0 ∧ j < n) (i : Nat) (hi : j.toNatClampNeg = i) (hl : i < vs.length) (hd : decode c.code pc = .ok (.bastore, 1))
    (k : ∀ T' h', Stand p l e R s m args below meth c T' (locs ++ [⟨a, j.toNatClampNeg⟩]) cells slots → T'.heap = h' → Wr h h' a j.toNatClampNeg (.int x') → Arv Z h' a kA .boolean n (vs.set i (.int x')) dv → own_R p e below s Q ck sk T' (mkF m (pc + 1) Ls St)) : own_R p e below s Q ck sk T (mkF m pc Ls (.int x :: .int j :: .ref a :: St)) := by
  obtain ⟨cl, A, q1, S, N, H, G⟩ := V
  have hin := inb_of S hj
  obtain ⟨T', h', X', e', W, st⟩ := stZ X hx hZ eT A hin (g := mkF m pc Ls (.int x :: .int j :: .ref a :: St)) rfl rfl hd
  subst hn
  exact own_lift st (k T' h' X' e' W (Arv.set A q1 S N H G (fits_nar_bool _) W i hi hl))
theorem own_castore (X : Stand p l e R s m args below meth c T locs cells slots) (hx : p.tables.exec = Jvm.exec) (hZ : Z.Warmed39 s.vm) (eT : T.heap = h) {a : Addr} {kA : ClassId} {n : Int32} {vs : List Value} {dv : Value} (V : Arv Z h a kA .char n vs dv) {pc : Nat} {Ls : Array Slot} {St : List Value} {j x x' : Int32} (hn : nar .char x = x') (hj : ¬ j < 0 ∧ j < n) (i : Nat) (hi : j.toNatClampNeg = i) (hl : i < vs.length) (hd : decode c.code pc = .ok (.castore, 1))
    (k : ∀ T' h', Stand p l e R s m args below meth c T' (locs ++ [⟨a, j.toNatClampNeg⟩]) cells slots → T'.heap = h' → Wr h h' a j.toNatClampNeg (.int x') → Arv Z h' a kA .char n (vs.set i (.int x')) dv → own_R p e below s Q ck sk T' (mkF m (pc + 1) Ls St)) : own_R p e below s Q ck sk T (mkF m pc Ls (.int x :: .int j :: .ref a :: St)) := by
  obtain ⟨cl, A, q1, S, N, H, G⟩ := V
  have hin := inb_of S hj
  obtain ⟨T', h', X', e', W, st⟩ := stC X hx hZ eT A hin (g := mkF m pc Ls (.int x :: .int j :: .ref a :: St)) rfl rfl hd
  subst hn
  exact own_lift st (k T' h' X' e' W (Arv.set A q1 S N H G (fits_nar_char _) W i hi hl))
theorem own_iastore (X : Stand p l e R s m args below meth c T locs cells slots) (hx : p.tables.exec = Jvm.exec) (hZ : Z.Warmed39 s.vm) (eT : T.heap = h) {a : Addr} {kA : ClassId} {n : Int32} {vs : List Value} {dv : Value} (V : Arv Z h a kA .int n vs dv) {pc : Nat} {Ls : Array Slot} {St : List Value} {j x x' : Int32} (hn : x = x') (hj : ¬ j < 0 ∧ j < n) (i : Nat) (hi : j.toNatClampNeg = i) (hl : i < vs.length) (hd : decode c.code pc = .ok (.iastore, 1))
    (k : ∀ T' h', Stand p l e R s m args below meth c T' (locs ++ [⟨a, j.toNatClampNeg⟩]) cells slots → T'.heap = h' → Wr h h' a j.toNatClampNeg (.int x') → Arv Z h' a kA .int n (vs.set i (.int x')) dv → own_R p e below s Q ck sk T' (mkF m (pc + 1) Ls St)) : own_R p e below s Q ck sk T (mkF m pc Ls (.int x :: .int j :: .ref a :: St)) := by
  obtain ⟨cl, A, q1, S, N, H, G⟩ := V
  have hin := inb_of S hj
  obtain ⟨T', h', X', e', W, st⟩ := stI X hx hZ eT A hin (g := mkF m pc Ls (.int x :: .int j :: .ref a :: St)) rfl rfl hd
  subst hn
  exact own_lift st (k T' h' X' e' W (Arv.set A q1 S N H G rfl W i hi hl))
theorem own_initO (X : Stand p l e R s m args below meth c T locs cells slots) (hx : p.tables.exec = Jvm.exec) (hZ : Z.Warmed39 s.vm) {own : String} {idx : Nat} (hown : s.vm.findClass own = some m.cls) (w1 : (Cond.methodLink own idx Lib.objectInit).before a0 Z = true) (w2 : (Cond.instanceMethod Lib.objectInit).before a0 Z = true)
    (w3 : (Cond.code Lib.objectInit ⟨#[0xb1]⟩ 1 none).before a0 Z = true) (eT : T.heap = h) {pc : Nat} {Ls : Array Slot} {St : List Value} {a : Addr} (hsize : Ls.size = c.maxLocals) (hd : decode c.code pc = .ok (.invokespecial idx, 3)) (hf : 1 ≤ R.frames) {W : Nat} (hW : (St.map fun v => v.category).sum ≤ W) (hl : W + 12 ≤ R.locals)
    (k : ∀ T', Stand p l e R s m args below meth c T' locs cells slots → T'.heap = h → own_R p e below s Q ck sk T' (mkF m (pc + 3) Ls St)) : own_R p e below s Q ck sk T (mkF m pc Ls (.ref a :: St)) := by
  obtain ⟨T', X', e', st⟩ := initO X hx hZ hown w1 w2 w3 eT (g := mkF m pc Ls (.ref a :: St)) rfl hsize rfl hd hf (W := W) (by show 2 * 0 + _ ≤ _; omega) hl
  exact own_lift st (k T' X' e')
/-! calls by contract -/
theorem own_callS (X : Stand p l e R s m args below meth c T locs cells slots) (hx : p.tables.exec = Jvm.exec) (hZ : Z.Warmed39 s.vm) {own : String} {index : Nat} {y : MethodName} {bytes : ByteArray} {maxL : Nat} {ret : Option FieldType} {rm : Room} {as' : Array Value} {Q' : Option Value → Heap → List Loc → Prop}
    (hown : s.vm.findClass own = some m.cls) (w1 : (Cond.methodLink own index y).before a0 Z = true) (w2 : (Cond.static y).before a0 Z = true) (w3 : (Cond.initialized y.cls).before a0 Z = true) (w4 : (Cond.code y bytes maxL ret).before a0 Z = true) (hy : y.cls ≠ "java/lang/invoke/MethodHandle" ∧ y.cls ≠ "java/lang/invoke/VarHandle")
    (hM : MetFree l y (head1 [Cond.code y bytes maxL ret] rm) (fun a U => a = as' ∧ Z.Warmed39 U.vm ∧ U.heap = h) (fun _ _ _ _ _ => True) (fun _ U o U' => ∃ v L, o = .returned v ∧ Q' v U'.heap L ∧ FrameEnd U o U' L rm.cells rm.slots))
    (W : Nat) (hf : rm.frames + 1 ≤ R.frames) (hl : W + (maxL + 11) + rm.locals ≤ R.locals) (eT : T.heap = h) {pc : Nat} {Ls : Array Slot} {St : List Value} (hsize : Ls.size = c.maxLocals) (argsL rest : List Value) (has : as' = argsL.toArray) (hlen : ∀ sig, parseMethodDescriptor y.desc = some sig → argsL.length = sig.parameters.length) (hst : St = argsL.reverse ++ rest) (hW : (rest.map fun v => v.category).sum ≤ W)
    (hd : decode c.code pc = .ok (.invokestatic index, 3)) (hc : cells + rm.cells ≤ R.cells) (hs : slots + rm.slots ≤ R.slots)
    (k : ∀ T' v L, Stand p l e R s m args below meth c T' (locs ++ L) (cells + rm.cells) (slots + rm.slots) → Q' v T'.heap L → own_R p e below s Q ck sk T' (mkF m (pc + 3) Ls (v.toList ++ rest))) : own_R p e below s Q ck sk T (mkF m pc Ls St) := by
  obtain ⟨v, _, ⟨T', L', k', n'⟩, -, X', ⟨Lc, hQ, l', y', z'⟩, st⟩ := Jvm.LawKit.callS X hx (y := y) hown (mvT hZ w1) (mvT hZ w2) (mvT hZ w3) (mvT hZ w4) hy (backOf (W := W) hM hZ w4 w3 hf hl) (g := mkF m pc Ls St) rfl hsize (argsL := argsL) (rest := rest) hlen hst (by show 2 * 0 + _ ≤ _; omega) hd (fun _ _ => ⟨has.symm, eT, hc, hs⟩)
  dsimp only [Pt.U, Pt.locs, Pt.cells, Pt.slots] at X' l' y' z' st hQ
  subst l' y' z'
  exact own_lift st (k T' v Lc X' hQ)
theorem own_callI (X : Stand p l e R s m args below meth c T locs cells slots) (hx : p.tables.exec = Jvm.exec) (hZ : Z.Warmed39 s.vm) {own : String} {index : Nat} {y : MethodName} {bytes : ByteArray} {maxL : Nat} {rm : Room} {as' : Array Value} {Q' : Option Value → Heap → List Loc → Prop} (hy1 : y.name = "<init>")
    (hown : s.vm.findClass own = some m.cls) (w1 : (Cond.methodLink own index y).before a0 Z = true) (w2 : (Cond.instanceMethod y).before a0 Z = true) (w3 : (Cond.initialized y.cls).before a0 Z = true) (w4 : (Cond.code y bytes maxL none).before a0 Z = true) (hy : y.cls ≠ "java/lang/invoke/MethodHandle" ∧ y.cls ≠ "java/lang/invoke/VarHandle")
    (hM : MetFree l y (head1 [Cond.code y bytes maxL none] rm) (fun a U => a = as' ∧ Z.Warmed39 U.vm ∧ U.heap = h) (fun _ _ _ _ _ => True) (fun _ U o U' => ∃ v L, o = .returned v ∧ Q' v U'.heap L ∧ FrameEnd U o U' L rm.cells rm.slots))
    (W : Nat) (hf : rm.frames + 1 ≤ R.frames) (hl : W + (maxL + 11) + rm.locals ≤ R.locals) (eT : T.heap = h) {pc : Nat} {Ls : Array Slot} {St : List Value} (hsize : Ls.size = c.maxLocals) (a : Addr) (argsL rest : List Value) (has : as' = (.ref a :: argsL).toArray) (hlen : ∀ sig, parseMethodDescriptor y.desc = some sig → argsL.length = sig.parameters.length) (hst : St = argsL.reverse ++ .ref a :: rest) (hW : (rest.map fun v => v.category).sum ≤ W)
    (hd : decode c.code pc = .ok (.invokespecial index, 3)) (hc : cells + rm.cells ≤ R.cells) (hs : slots + rm.slots ≤ R.slots)
    (k : ∀ T' v L, Stand p l e R s m args below meth c T' (locs ++ L) (cells + rm.cells) (slots + rm.slots) → Q' v T'.heap L → own_R p e below s Q ck sk T' (mkF m (pc + 3) Ls (v.toList ++ rest))) : own_R p e below s Q ck sk T (mkF m pc Ls St) := by
  obtain ⟨v, _, ⟨T', L', k', n'⟩, -, X', ⟨Lc, hQ, l', y', z'⟩, st⟩ := X.specialBack hx (y := y) hy1 hown (mvT hZ w1) (mvT hZ w2) (mvT hZ w4) hy (backOf (W := W) hM hZ w4 w3 hf hl) (g := mkF m pc Ls St) rfl hsize (Steps.refl _) (a := a) (argsL := argsL) (rest := rest) hlen hst (by show 2 * 0 + _ ≤ _; omega) hd (fun _ _ => ⟨has.symm, eT, hc, hs⟩)
  dsimp only [Pt.U, Pt.locs, Pt.cells, Pt.slots] at X' l' y' z' st hQ
  subst l' y' z'
  exact own_lift (fun _ q => st.trans q) (k T' v Lc X' hQ)
theorem own_callV (X : Stand p l e R s m args below meth c T locs cells slots) (hx : p.tables.exec = Jvm.exec) (hZ : Z.Warmed39 s.vm) {own C : String} {index : Nat} {y z : MethodName} {bytes : ByteArray} {maxL : Nat} {ret : Option FieldType} {rm : Room} {as' : Array Value} {Q' : Option Value → Heap → List Loc → Prop}
    (hown : s.vm.findClass own = some m.cls) (w1 : (Cond.methodLink own index y).before a0 Z = true) (w2 : (Cond.declares y).before a0 Z = true) (nf : NotFace s y) (w5 : (Cond.selects C y z).before a0 Z = true) (w6 : (Cond.instanceMethod z).before a0 Z = true) (w3 : (Cond.initialized z.cls).before a0 Z = true) (w4 : (Cond.code z bytes maxL ret).before a0 Z = true) (hy : y.cls ≠ "java/lang/invoke/MethodHandle" ∧ y.cls ≠ "java/lang/invoke/VarHandle")
    (hM : MetFree l z (head1 [Cond.code z bytes maxL ret] rm) (fun a U => a = as' ∧ Z.Warmed39 U.vm ∧ U.heap = h) (fun _ _ _ _ _ => True) (fun _ U o U' => ∃ v L, o = .returned v ∧ Q' v U'.heap L ∧ FrameEnd U o U' L rm.cells rm.slots))
    (W : Nat) (hf : rm.frames + 1 ≤ R.frames) (hl : W + (maxL + 11) + rm.locals ≤ R.locals) (eT : T.heap = h) {pc : Nat} {Ls : Array Slot} {St : List Value} (hsize : Ls.size = c.maxLocals) (a : Addr) (E : Exa Z h a C) (argsL rest : List Value) (has : as' = (.ref a :: argsL).toArray) (hlen : ∀ sig, parseMethodDescriptor y.desc = some sig → argsL.length = sig.parameters.length) (hst : St = argsL.reverse ++ .ref a :: rest) (hW : (rest.map fun v => v.category).sum ≤ W)
    (hd : decode c.code pc = .ok (.invokevirtual index, 3)) (hc : cells + rm.cells ≤ R.cells) (hs : slots + rm.slots ≤ R.slots)
    (k : ∀ T' v L, Stand p l e R s m args below meth c T' (locs ++ L) (cells + rm.cells) (slots + rm.slots) → Q' v T'.heap L → own_R p e below s Q ck sk T' (mkF m (pc + 3) Ls (v.toList ++ rest))) : own_R p e below s Q ck sk T (mkF m pc Ls St) := by
  obtain ⟨cq, kq, qa, qb, qc⟩ := isOf hZ eT E
  obtain ⟨v, _, ⟨T', L', k', n'⟩, -, X', ⟨Lc, hQ, l', y', z'⟩, st⟩ := X.virtualBack hx (y := y) (z := z) hown (mvT hZ w1) (mvT hZ w2) nf (mvT hZ w5) (mvT hZ w6) hy (backOf (W := W) hM hZ w4 w3 hf hl) qa qc (g := mkF m pc Ls St) rfl hsize (Steps.refl _) (argsL := argsL) (rest := rest) hlen hst (by show 2 * 0 + _ ≤ _; omega) hd (fun _ _ => ⟨has.symm, eT, hc, hs⟩)
  dsimp only [Pt.U, Pt.locs, Pt.cells, Pt.slots] at X' l' y' z' st hQ
  subst l' y' z'
  exact own_lift (fun _ q => st.trans q) (k T' v Lc X' hQ)
end OwnKit

theorem pl_gd (xs : List Int32) (j : Nat) : (xs.map Value.int).getD j (.int (0 : Int32)) = .int (xs.getD j 0) := by
  induction xs generalizing j with
  | nil => rfl
  | cons a t ih => cases j with
    | zero => rfl
    | succ j => exact ih j
theorem pl_off (ix : Int32) (h0 : 0 ≤ ix.toInt) (h8 : ix.toInt < 8) : (ix + 1).toInt = ix.toInt + 1 ∧ (ix + 2).toInt = ix.toInt + 2 ∧ (ix + 3).toInt = ix.toInt + 3 ∧ (ix + 4).toInt = ix.toInt + 4 ∧ (ix + 2 + 1).toInt = ix.toInt + 3 ∧ (ix + 3 + 1).toInt = ix.toInt + 4 := by
  have a1 := c_iadd ix 1
  have a2 := c_iadd ix 2
  have a3 := c_iadd ix 3
  have a4 := c_iadd ix 4
  have a5 := c_iadd (ix + 2) 1
  have a6 := c_iadd (ix + 3) 1
  have b1 := rng32 (ix + 1)
  have b2 := rng32 (ix + 2)
  have b3 := rng32 (ix + 3)
  have b4 := rng32 (ix + 4)
  have b5 := rng32 (ix + 2 + 1)
  have b6 := rng32 (ix + 3 + 1)
  simp only [show (0 : Int32).toInt = 0 from by decide, show (1 : Int32).toInt = 1 from by decide, show (2 : Int32).toInt = 2 from by decide, show (3 : Int32).toInt = 3 from by decide, show (4 : Int32).toInt = 4 from by decide, show (5 : Int32).toInt = 5 from by decide, show (6 : Int32).toInt = 6 from by decide, show (7 : Int32).toInt = 7 from by decide, show (8 : Int32).toInt = 8 from by decide] at a1 a2 a3 a4 a5 a6
  omega
theorem pl_at0 (ix en : Int32) (h0 : 0 ≤ ix.toInt) (hlt : ix < en) (h8 : en.toInt ≤ 8) : ¬ ix < 0 ∧ ix < 8 := by
  simp only [Int32.lt_iff_toInt_lt, show (0 : Int32).toInt = 0 from by decide, show (1 : Int32).toInt = 1 from by decide, show (2 : Int32).toInt = 2 from by decide, show (3 : Int32).toInt = 3 from by decide, show (4 : Int32).toInt = 4 from by decide, show (5 : Int32).toInt = 5 from by decide, show (6 : Int32).toInt = 6 from by decide, show (7 : Int32).toInt = 7 from by decide, show (8 : Int32).toInt = 8 from by decide] at *
  omega
theorem pl_d (ix en : Int32) (h0 : 0 ≤ ix.toInt) (hlt : ix < en) (h8 : en.toInt ≤ 8) : (en - ix).toInt = en.toInt - ix.toInt ∧ ix.toInt < 8 := by
  have h1 := c_isub en ix
  have h2 := rng32 (en - ix)
  rw [Int32.lt_iff_toInt_lt] at hlt
  omega
theorem pl_at1 (ix en n : Int32) (h0 : 0 ≤ ix.toInt) (hlt : ix < en) (h8 : en.toInt ≤ 8) (hn : 2 ≤ n.toInt) (hd : ¬ en - ix < n) : ¬ ix + 1 < 0 ∧ ix + 1 < 8 := by
  obtain ⟨d1, d2⟩ := pl_d ix en h0 hlt h8
  obtain ⟨a1, a2, a3, a4, a5, a6⟩ := pl_off ix h0 d2
  simp only [Int32.lt_iff_toInt_lt, show (0 : Int32).toInt = 0 from by decide, show (1 : Int32).toInt = 1 from by decide, show (2 : Int32).toInt = 2 from by decide, show (3 : Int32).toInt = 3 from by decide, show (4 : Int32).toInt = 4 from by decide, show (5 : Int32).toInt = 5 from by decide, show (6 : Int32).toInt = 6 from by decide, show (7 : Int32).toInt = 7 from by decide, show (8 : Int32).toInt = 8 from by decide] at *
  omega
theorem pl_at2 (ix en n : Int32) (h0 : 0 ≤ ix.toInt) (hlt : ix < en) (h8 : en.toInt ≤ 8) (hn : 3 ≤ n.toInt) (hd : ¬ en - ix < n) : ¬ ix + 2 < 0 ∧ ix + 2 < 8 := by
  obtain ⟨d1, d2⟩ := pl_d ix en h0 hlt h8
  obtain ⟨a1, a2, a3, a4, a5, a6⟩ := pl_off ix h0 d2
  simp only [Int32.lt_iff_toInt_lt, show (0 : Int32).toInt = 0 from by decide, show (1 : Int32).toInt = 1 from by decide, show (2 : Int32).toInt = 2 from by decide, show (3 : Int32).toInt = 3 from by decide, show (4 : Int32).toInt = 4 from by decide, show (5 : Int32).toInt = 5 from by decide, show (6 : Int32).toInt = 6 from by decide, show (7 : Int32).toInt = 7 from by decide, show (8 : Int32).toInt = 8 from by decide] at *
  omega
theorem pl_at3 (ix en n : Int32) (h0 : 0 ≤ ix.toInt) (hlt : ix < en) (h8 : en.toInt ≤ 8) (hn : 4 ≤ n.toInt) (hd : ¬ en - ix < n) : ¬ ix + 3 < 0 ∧ ix + 3 < 8 := by
  obtain ⟨d1, d2⟩ := pl_d ix en h0 hlt h8
  obtain ⟨a1, a2, a3, a4, a5, a6⟩ := pl_off ix h0 d2
  simp only [Int32.lt_iff_toInt_lt, show (0 : Int32).toInt = 0 from by decide, show (1 : Int32).toInt = 1 from by decide, show (2 : Int32).toInt = 2 from by decide, show (3 : Int32).toInt = 3 from by decide, show (4 : Int32).toInt = 4 from by decide, show (5 : Int32).toInt = 5 from by decide, show (6 : Int32).toInt = 6 from by decide, show (7 : Int32).toInt = 7 from by decide, show (8 : Int32).toInt = 8 from by decide] at *
  omega
theorem pl_21 (ix : Int32) : ix + 2 + 1 = ix + 3 := by
  rw [Int32.add_assoc]; rfl
theorem pl_adv (ix en n : Int32) (k : Nat) (h0 : 0 ≤ ix.toInt) (hlt : ix < en) (h8 : en.toInt ≤ 8) (hk : en.toInt - ix.toInt ≤ (k : Int) + 1) (hn : 1 ≤ n.toInt ∧ n.toInt ≤ 4) : 0 ≤ (ix + n).toInt ∧ en.toInt - (ix + n).toInt ≤ (k : Int) := by
  rw [Int32.lt_iff_toInt_lt] at hlt
  have h1 := c_iadd ix n
  have h2 := rng32 (ix + n)
  omega

theorem d1_0 : decode method_3_code 0 = .ok (.lload_n 0, 1) := by decide +kernel
theorem d1_1 : decode method_3_code 1 = .ok (.bipush 8, 2) := by decide +kernel
theorem d1_3 : decode method_3_code 3 = .ok (.iload_n 3, 1) := by decide +kernel
theorem d1_4 : decode method_3_code 4 = .ok (.imul, 1) := by decide +kernel
theorem d1_5 : decode method_3_code 5 = .ok (.lushr, 1) := by decide +kernel
theorem d1_6 : decode method_3_code 6 = .ok (.l2i, 1) := by decide +kernel
theorem d1_7 : decode method_3_code 7 = .ok (.sipush 255, 3) := by decide +kernel
theorem d1_10 : decode method_3_code 10 = .ok (.iand, 1) := by decide +kernel
theorem d1_11 : decode method_3_code 11 = .ok (.istore 4, 2) := by decide +kernel
theorem d1_13 : decode method_3_code 13 = .ok (.iload_n 2, 1) := by decide +kernel
theorem d1_14 : decode method_3_code 14 = .ok (.iload_n 3, 1) := by decide +kernel
theorem d1_15 : decode method_3_code 15 = .ok (.iushr, 1) := by decide +kernel
theorem d1_16 : decode method_3_code 16 = .ok (.iconst 1, 1) := by decide +kernel
theorem d1_17 : decode method_3_code 17 = .ok (.iand, 1) := by decide +kernel
theorem d1_18 : decode method_3_code 18 = .ok (.ifCond .eq 17, 3) := by decide +kernel
theorem d1_21 : decode method_3_code 21 = .ok (.sipush 128, 3) := by decide +kernel
theorem d1_24 : decode method_3_code 24 = .ok (.iload 4, 2) := by decide +kernel
theorem d1_26 : decode method_3_code 26 = .ok (.bipush 63, 2) := by decide +kernel
theorem d1_28 : decode method_3_code 28 = .ok (.iand, 1) := by decide +kernel
theorem d1_29 : decode method_3_code 29 = .ok (.ior, 1) := by decide +kernel
theorem d1_30 : decode method_3_code 30 = .ok (.istore 4, 2) := by decide +kernel
theorem d1_32 : decode method_3_code 32 = .ok (.goto 25, 3) := by decide +kernel
theorem d1_35 : decode method_3_code 35 = .ok (.iload_n 2, 1) := by decide +kernel
theorem d1_36 : decode method_3_code 36 = .ok (.iload_n 3, 1) := by decide +kernel
theorem d1_37 : decode method_3_code 37 = .ok (.bipush 8, 2) := by decide +kernel
theorem d1_39 : decode method_3_code 39 = .ok (.iadd, 1) := by decide +kernel
theorem d1_40 : decode method_3_code 40 = .ok (.iushr, 1) := by decide +kernel
theorem d1_41 : decode method_3_code 41 = .ok (.iconst 1, 1) := by decide +kernel
theorem d1_42 : decode method_3_code 42 = .ok (.iand, 1) := by decide +kernel
theorem d1_43 : decode method_3_code 43 = .ok (.ifCond .eq 14, 3) := by decide +kernel
theorem d1_46 : decode method_3_code 46 = .ok (.sipush 192, 3) := by decide +kernel
theorem d1_49 : decode method_3_code 49 = .ok (.iload 4, 2) := by decide +kernel
theorem d1_51 : decode method_3_code 51 = .ok (.bipush 63, 2) := by decide +kernel
theorem d1_53 : decode method_3_code 53 = .ok (.iand, 1) := by decide +kernel
theorem d1_54 : decode method_3_code 54 = .ok (.ior, 1) := by decide +kernel
theorem d1_55 : decode method_3_code 55 = .ok (.istore 4, 2) := by decide +kernel
theorem d1_57 : decode method_3_code 57 = .ok (.iload 4, 2) := by decide +kernel
theorem d1_59 : decode method_3_code 59 = .ok (.i2b, 1) := by decide +kernel
theorem d1_60 : decode method_3_code 60 = .ok (.ireturn, 1) := by decide +kernel
theorem d2_0 : decode jdk_29_method_69_code 0 = .ok (.iload_n 0, 1) := by decide +kernel
theorem d2_1 : decode jdk_29_method_69_code 1 = .ok (.iload_n 1, 1) := by decide +kernel
theorem d2_2 : decode jdk_29_method_69_code 2 = .ok (.if_icmp .gt 7, 3) := by decide +kernel
theorem d2_5 : decode jdk_29_method_69_code 5 = .ok (.iload_n 0, 1) := by decide +kernel
theorem d2_6 : decode jdk_29_method_69_code 6 = .ok (.goto 4, 3) := by decide +kernel
theorem d2_9 : decode jdk_29_method_69_code 9 = .ok (.iload_n 1, 1) := by decide +kernel
theorem d2_10 : decode jdk_29_method_69_code 10 = .ok (.ireturn, 1) := by decide +kernel
theorem d3_0 : decode method_4_code 0 = .ok (.iload_n 1, 1) := by decide +kernel
theorem d3_1 : decode method_4_code 1 = .ok (.ifCond .lt 8, 3) := by decide +kernel
theorem d3_4 : decode method_4_code 4 = .ok (.iload_n 1, 1) := by decide +kernel
theorem d3_5 : decode method_4_code 5 = .ok (.iload_n 2, 1) := by decide +kernel
theorem d3_6 : decode method_4_code 6 = .ok (.if_icmp .lt 5, 3) := by decide +kernel
theorem d3_9 : decode method_4_code 9 = .ok (.iload_n 1, 1) := by decide +kernel
theorem d3_10 : decode method_4_code 10 = .ok (.ireturn, 1) := by decide +kernel
theorem d3_11 : decode method_4_code 11 = .ok (.aload_n 0, 1) := by decide +kernel
theorem d3_12 : decode method_4_code 12 = .ok (.iload_n 1, 1) := by decide +kernel
theorem d3_13 : decode method_4_code 13 = .ok (.iload_n 2, 1) := by decide +kernel
theorem d3_14 : decode method_4_code 14 = .ok (.invokestatic 28, 3) := by decide +kernel
theorem d3_17 : decode method_4_code 17 = .ok (.istore_n 3, 1) := by decide +kernel
theorem d3_18 : decode method_4_code 18 = .ok (.iload_n 3, 1) := by decide +kernel
theorem d3_19 : decode method_4_code 19 = .ok (.ifCond .ne 8, 3) := by decide +kernel
theorem d3_22 : decode method_4_code 22 = .ok (.bipush (-2), 2) := by decide +kernel
theorem d3_24 : decode method_4_code 24 = .ok (.iload_n 1, 1) := by decide +kernel
theorem d3_25 : decode method_4_code 25 = .ok (.isub, 1) := by decide +kernel
theorem d3_26 : decode method_4_code 26 = .ok (.ireturn, 1) := by decide +kernel
theorem d3_27 : decode method_4_code 27 = .ok (.iload_n 1, 1) := by decide +kernel
theorem d3_28 : decode method_4_code 28 = .ok (.iload_n 3, 1) := by decide +kernel
theorem d3_29 : decode method_4_code 29 = .ok (.iadd, 1) := by decide +kernel
theorem d3_30 : decode method_4_code 30 = .ok (.ireturn, 1) := by decide +kernel
theorem d4_0 : decode prog_43_method_27_code 0 = .ok (.iload_n 1, 1) := by decide +kernel
theorem d4_1 : decode prog_43_method_27_code 1 = .ok (.istore_n 3, 1) := by decide +kernel
theorem d4_2 : decode prog_43_method_27_code 2 = .ok (.iload_n 3, 1) := by decide +kernel
theorem d4_3 : decode prog_43_method_27_code 3 = .ok (.iload_n 2, 1) := by decide +kernel
theorem d4_4 : decode prog_43_method_27_code 4 = .ok (.if_icmp .ge 257, 3) := by decide +kernel
theorem d4_7 : decode prog_43_method_27_code 7 = .ok (.aload_n 0, 1) := by decide +kernel
theorem d4_8 : decode prog_43_method_27_code 8 = .ok (.iload_n 3, 1) := by decide +kernel
theorem d4_9 : decode prog_43_method_27_code 9 = .ok (.baload, 1) := by decide +kernel
theorem d4_10 : decode prog_43_method_27_code 10 = .ok (.sipush 255, 3) := by decide +kernel
theorem d4_13 : decode prog_43_method_27_code 13 = .ok (.iand, 1) := by decide +kernel
theorem d4_14 : decode prog_43_method_27_code 14 = .ok (.istore 4, 2) := by decide +kernel
theorem d4_16 : decode prog_43_method_27_code 16 = .ok (.iload 4, 2) := by decide +kernel
theorem d4_18 : decode prog_43_method_27_code 18 = .ok (.sipush 128, 3) := by decide +kernel
theorem d4_21 : decode prog_43_method_27_code 21 = .ok (.if_icmp .ge 9, 3) := by decide +kernel
theorem d4_24 : decode prog_43_method_27_code 24 = .ok (.iinc 3 1, 3) := by decide +kernel
theorem d4_27 : decode prog_43_method_27_code 27 = .ok (.goto (-25), 3) := by decide +kernel
theorem d4_30 : decode prog_43_method_27_code 30 = .ok (.sipush 128, 3) := by decide +kernel
theorem d4_33 : decode prog_43_method_27_code 33 = .ok (.istore 6, 2) := by decide +kernel
theorem d4_35 : decode prog_43_method_27_code 35 = .ok (.sipush 191, 3) := by decide +kernel
theorem d4_38 : decode prog_43_method_27_code 38 = .ok (.istore 7, 2) := by decide +kernel
theorem d4_40 : decode prog_43_method_27_code 40 = .ok (.iload 4, 2) := by decide +kernel
theorem d4_42 : decode prog_43_method_27_code 42 = .ok (.sipush 194, 3) := by decide +kernel
theorem d4_45 : decode prog_43_method_27_code 45 = .ok (.if_icmp .lt 17, 3) := by decide +kernel
theorem d4_48 : decode prog_43_method_27_code 48 = .ok (.iload 4, 2) := by decide +kernel
theorem d4_50 : decode prog_43_method_27_code 50 = .ok (.sipush 223, 3) := by decide +kernel
theorem d4_53 : decode prog_43_method_27_code 53 = .ok (.if_icmp .gt 9, 3) := by decide +kernel
theorem d4_56 : decode prog_43_method_27_code 56 = .ok (.iconst 2, 1) := by decide +kernel
theorem d4_57 : decode prog_43_method_27_code 57 = .ok (.istore 5, 2) := by decide +kernel
theorem d4_59 : decode prog_43_method_27_code 59 = .ok (.goto 121, 3) := by decide +kernel
theorem d4_62 : decode prog_43_method_27_code 62 = .ok (.iload 4, 2) := by decide +kernel
theorem d4_64 : decode prog_43_method_27_code 64 = .ok (.sipush 224, 3) := by decide +kernel
theorem d4_67 : decode prog_43_method_27_code 67 = .ok (.if_icmp .lt 53, 3) := by decide +kernel
theorem d4_70 : decode prog_43_method_27_code 70 = .ok (.iload 4, 2) := by decide +kernel
theorem d4_72 : decode prog_43_method_27_code 72 = .ok (.sipush 239, 3) := by decide +kernel
theorem d4_75 : decode prog_43_method_27_code 75 = .ok (.if_icmp .gt 45, 3) := by decide +kernel
theorem d4_78 : decode prog_43_method_27_code 78 = .ok (.iconst 3, 1) := by decide +kernel
theorem d4_79 : decode prog_43_method_27_code 79 = .ok (.istore 5, 2) := by decide +kernel
theorem d4_81 : decode prog_43_method_27_code 81 = .ok (.iload 4, 2) := by decide +kernel
theorem d4_83 : decode prog_43_method_27_code 83 = .ok (.sipush 224, 3) := by decide +kernel
theorem d4_86 : decode prog_43_method_27_code 86 = .ok (.if_icmp .ne 9, 3) := by decide +kernel
theorem d4_89 : decode prog_43_method_27_code 89 = .ok (.sipush 160, 3) := by decide +kernel
theorem d4_92 : decode prog_43_method_27_code 92 = .ok (.goto 5, 3) := by decide +kernel
theorem d4_95 : decode prog_43_method_27_code 95 = .ok (.iload 6, 2) := by decide +kernel
theorem d4_97 : decode prog_43_method_27_code 97 = .ok (.istore 6, 2) := by decide +kernel
theorem d4_99 : decode prog_43_method_27_code 99 = .ok (.iload 4, 2) := by decide +kernel
theorem d4_101 : decode prog_43_method_27_code 101 = .ok (.sipush 237, 3) := by decide +kernel
theorem d4_104 : decode prog_43_method_27_code 104 = .ok (.if_icmp .ne 9, 3) := by decide +kernel
theorem d4_107 : decode prog_43_method_27_code 107 = .ok (.sipush 159, 3) := by decide +kernel
theorem d4_110 : decode prog_43_method_27_code 110 = .ok (.goto 5, 3) := by decide +kernel
theorem d4_113 : decode prog_43_method_27_code 113 = .ok (.iload 7, 2) := by decide +kernel
theorem d4_115 : decode prog_43_method_27_code 115 = .ok (.istore 7, 2) := by decide +kernel
theorem d4_117 : decode prog_43_method_27_code 117 = .ok (.goto 63, 3) := by decide +kernel
theorem d4_120 : decode prog_43_method_27_code 120 = .ok (.iload 4, 2) := by decide +kernel
theorem d4_122 : decode prog_43_method_27_code 122 = .ok (.sipush 240, 3) := by decide +kernel
theorem d4_125 : decode prog_43_method_27_code 125 = .ok (.if_icmp .lt 53, 3) := by decide +kernel
theorem d4_128 : decode prog_43_method_27_code 128 = .ok (.iload 4, 2) := by decide +kernel
theorem d4_130 : decode prog_43_method_27_code 130 = .ok (.sipush 244, 3) := by decide +kernel
theorem d4_133 : decode prog_43_method_27_code 133 = .ok (.if_icmp .gt 45, 3) := by decide +kernel
theorem d4_136 : decode prog_43_method_27_code 136 = .ok (.iconst 4, 1) := by decide +kernel
theorem d4_137 : decode prog_43_method_27_code 137 = .ok (.istore 5, 2) := by decide +kernel
theorem d4_139 : decode prog_43_method_27_code 139 = .ok (.iload 4, 2) := by decide +kernel
theorem d4_141 : decode prog_43_method_27_code 141 = .ok (.sipush 240, 3) := by decide +kernel
theorem d4_144 : decode prog_43_method_27_code 144 = .ok (.if_icmp .ne 9, 3) := by decide +kernel
theorem d4_147 : decode prog_43_method_27_code 147 = .ok (.sipush 144, 3) := by decide +kernel
theorem d4_150 : decode prog_43_method_27_code 150 = .ok (.goto 5, 3) := by decide +kernel
theorem d4_153 : decode prog_43_method_27_code 153 = .ok (.iload 6, 2) := by decide +kernel
theorem d4_155 : decode prog_43_method_27_code 155 = .ok (.istore 6, 2) := by decide +kernel
theorem d4_157 : decode prog_43_method_27_code 157 = .ok (.iload 4, 2) := by decide +kernel
theorem d4_159 : decode prog_43_method_27_code 159 = .ok (.sipush 244, 3) := by decide +kernel
theorem d4_162 : decode prog_43_method_27_code 162 = .ok (.if_icmp .ne 9, 3) := by decide +kernel
theorem d4_165 : decode prog_43_method_27_code 165 = .ok (.sipush 143, 3) := by decide +kernel
theorem d4_168 : decode prog_43_method_27_code 168 = .ok (.goto 5, 3) := by decide +kernel
theorem d4_171 : decode prog_43_method_27_code 171 = .ok (.iload 7, 2) := by decide +kernel
theorem d4_173 : decode prog_43_method_27_code 173 = .ok (.istore 7, 2) := by decide +kernel
theorem d4_175 : decode prog_43_method_27_code 175 = .ok (.goto 5, 3) := by decide +kernel
theorem d4_178 : decode prog_43_method_27_code 178 = .ok (.iload_n 3, 1) := by decide +kernel
theorem d4_179 : decode prog_43_method_27_code 179 = .ok (.ireturn, 1) := by decide +kernel
theorem d4_180 : decode prog_43_method_27_code 180 = .ok (.iload_n 2, 1) := by decide +kernel
theorem d4_181 : decode prog_43_method_27_code 181 = .ok (.iload_n 3, 1) := by decide +kernel
theorem d4_182 : decode prog_43_method_27_code 182 = .ok (.isub, 1) := by decide +kernel
theorem d4_183 : decode prog_43_method_27_code 183 = .ok (.iload 5, 2) := by decide +kernel
theorem d4_185 : decode prog_43_method_27_code 185 = .ok (.if_icmp .ge 5, 3) := by decide +kernel
theorem d4_188 : decode prog_43_method_27_code 188 = .ok (.iload_n 3, 1) := by decide +kernel
theorem d4_189 : decode prog_43_method_27_code 189 = .ok (.ireturn, 1) := by decide +kernel
theorem d4_190 : decode prog_43_method_27_code 190 = .ok (.aload_n 0, 1) := by decide +kernel
theorem d4_191 : decode prog_43_method_27_code 191 = .ok (.iload_n 3, 1) := by decide +kernel
theorem d4_192 : decode prog_43_method_27_code 192 = .ok (.iconst 1, 1) := by decide +kernel
theorem d4_193 : decode prog_43_method_27_code 193 = .ok (.iadd, 1) := by decide +kernel
theorem d4_194 : decode prog_43_method_27_code 194 = .ok (.baload, 1) := by decide +kernel
theorem d4_195 : decode prog_43_method_27_code 195 = .ok (.sipush 255, 3) := by decide +kernel
theorem d4_198 : decode prog_43_method_27_code 198 = .ok (.iand, 1) := by decide +kernel
theorem d4_199 : decode prog_43_method_27_code 199 = .ok (.istore 8, 2) := by decide +kernel
theorem d4_201 : decode prog_43_method_27_code 201 = .ok (.iload 8, 2) := by decide +kernel
theorem d4_203 : decode prog_43_method_27_code 203 = .ok (.iload 6, 2) := by decide +kernel
theorem d4_205 : decode prog_43_method_27_code 205 = .ok (.if_icmp .lt 10, 3) := by decide +kernel
theorem d4_208 : decode prog_43_method_27_code 208 = .ok (.iload 8, 2) := by decide +kernel
theorem d4_210 : decode prog_43_method_27_code 210 = .ok (.iload 7, 2) := by decide +kernel
theorem d4_212 : decode prog_43_method_27_code 212 = .ok (.if_icmp .le 5, 3) := by decide +kernel
theorem d4_215 : decode prog_43_method_27_code 215 = .ok (.iload_n 3, 1) := by decide +kernel
theorem d4_216 : decode prog_43_method_27_code 216 = .ok (.ireturn, 1) := by decide +kernel
theorem d4_217 : decode prog_43_method_27_code 217 = .ok (.iload_n 3, 1) := by decide +kernel
theorem d4_218 : decode prog_43_method_27_code 218 = .ok (.iconst 2, 1) := by decide +kernel
theorem d4_219 : decode prog_43_method_27_code 219 = .ok (.iadd, 1) := by decide +kernel
theorem d4_220 : decode prog_43_method_27_code 220 = .ok (.istore 9, 2) := by decide +kernel
theorem d4_222 : decode prog_43_method_27_code 222 = .ok (.iload 9, 2) := by decide +kernel
theorem d4_224 : decode prog_43_method_27_code 224 = .ok (.iload_n 3, 1) := by decide +kernel
theorem d4_225 : decode prog_43_method_27_code 225 = .ok (.iload 5, 2) := by decide +kernel
theorem d4_227 : decode prog_43_method_27_code 227 = .ok (.iadd, 1) := by decide +kernel
theorem d4_228 : decode prog_43_method_27_code 228 = .ok (.if_icmp .ge 25, 3) := by decide +kernel
theorem d4_231 : decode prog_43_method_27_code 231 = .ok (.aload_n 0, 1) := by decide +kernel
theorem d4_232 : decode prog_43_method_27_code 232 = .ok (.iload 9, 2) := by decide +kernel
theorem d4_234 : decode prog_43_method_27_code 234 = .ok (.baload, 1) := by decide +kernel
theorem d4_235 : decode prog_43_method_27_code 235 = .ok (.sipush 192, 3) := by decide +kernel
theorem d4_238 : decode prog_43_method_27_code 238 = .ok (.iand, 1) := by decide +kernel
theorem d4_239 : decode prog_43_method_27_code 239 = .ok (.sipush 128, 3) := by decide +kernel
theorem d4_242 : decode prog_43_method_27_code 242 = .ok (.if_icmp .eq 5, 3) := by decide +kernel
theorem d4_245 : decode prog_43_method_27_code 245 = .ok (.iload_n 3, 1) := by decide +kernel
theorem d4_246 : decode prog_43_method_27_code 246 = .ok (.ireturn, 1) := by decide +kernel
theorem d4_247 : decode prog_43_method_27_code 247 = .ok (.iinc 9 1, 3) := by decide +kernel
theorem d4_250 : decode prog_43_method_27_code 250 = .ok (.goto (-28), 3) := by decide +kernel
theorem d4_253 : decode prog_43_method_27_code 253 = .ok (.iload_n 3, 1) := by decide +kernel
theorem d4_254 : decode prog_43_method_27_code 254 = .ok (.iload 5, 2) := by decide +kernel
theorem d4_256 : decode prog_43_method_27_code 256 = .ok (.iadd, 1) := by decide +kernel
theorem d4_257 : decode prog_43_method_27_code 257 = .ok (.istore_n 3, 1) := by decide +kernel
theorem d4_258 : decode prog_43_method_27_code 258 = .ok (.goto (-256), 3) := by decide +kernel
theorem d4_261 : decode prog_43_method_27_code 261 = .ok (.iconst (-1), 1) := by decide +kernel
theorem d4_262 : decode prog_43_method_27_code 262 = .ok (.ireturn, 1) := by decide +kernel
theorem d5_0 : decode method_5_code 0 = .ok (.aload_n 0, 1) := by decide +kernel
theorem d5_1 : decode method_5_code 1 = .ok (.iload_n 1, 1) := by decide +kernel
theorem d5_2 : decode method_5_code 2 = .ok (.baload, 1) := by decide +kernel
theorem d5_3 : decode method_5_code 3 = .ok (.sipush 255, 3) := by decide +kernel
theorem d5_6 : decode method_5_code 6 = .ok (.iand, 1) := by decide +kernel
theorem d5_7 : decode method_5_code 7 = .ok (.istore_n 3, 1) := by decide +kernel
theorem d5_8 : decode method_5_code 8 = .ok (.iload_n 3, 1) := by decide +kernel
theorem d5_9 : decode method_5_code 9 = .ok (.sipush 128, 3) := by decide +kernel
theorem d5_12 : decode method_5_code 12 = .ok (.if_icmp .ge 5, 3) := by decide +kernel
theorem d5_15 : decode method_5_code 15 = .ok (.iconst 1, 1) := by decide +kernel
theorem d5_16 : decode method_5_code 16 = .ok (.ireturn, 1) := by decide +kernel
theorem d5_17 : decode method_5_code 17 = .ok (.iload_n 3, 1) := by decide +kernel
theorem d5_18 : decode method_5_code 18 = .ok (.sipush 192, 3) := by decide +kernel
theorem d5_21 : decode method_5_code 21 = .ok (.if_icmp .ge 5, 3) := by decide +kernel
theorem d5_24 : decode method_5_code 24 = .ok (.iconst 0, 1) := by decide +kernel
theorem d5_25 : decode method_5_code 25 = .ok (.ireturn, 1) := by decide +kernel
theorem d5_26 : decode method_5_code 26 = .ok (.iload_n 3, 1) := by decide +kernel
theorem d5_27 : decode method_5_code 27 = .ok (.sipush 224, 3) := by decide +kernel
theorem d5_30 : decode method_5_code 30 = .ok (.if_icmp .ge 15, 3) := by decide +kernel
theorem d5_33 : decode method_5_code 33 = .ok (.iconst 2, 1) := by decide +kernel
theorem d5_34 : decode method_5_code 34 = .ok (.istore 4, 2) := by decide +kernel
theorem d5_36 : decode method_5_code 36 = .ok (.iload_n 3, 1) := by decide +kernel
theorem d5_37 : decode method_5_code 37 = .ok (.bipush 31, 2) := by decide +kernel
theorem d5_39 : decode method_5_code 39 = .ok (.iand, 1) := by decide +kernel
theorem d5_40 : decode method_5_code 40 = .ok (.istore 5, 2) := by decide +kernel
theorem d5_42 : decode method_5_code 42 = .ok (.goto 43, 3) := by decide +kernel
theorem d5_45 : decode method_5_code 45 = .ok (.iload_n 3, 1) := by decide +kernel
theorem d5_46 : decode method_5_code 46 = .ok (.sipush 240, 3) := by decide +kernel
theorem d5_49 : decode method_5_code 49 = .ok (.if_icmp .ge 15, 3) := by decide +kernel
theorem d5_52 : decode method_5_code 52 = .ok (.iconst 3, 1) := by decide +kernel
theorem d5_53 : decode method_5_code 53 = .ok (.istore 4, 2) := by decide +kernel
theorem d5_55 : decode method_5_code 55 = .ok (.iload_n 3, 1) := by decide +kernel
theorem d5_56 : decode method_5_code 56 = .ok (.bipush 15, 2) := by decide +kernel
theorem d5_58 : decode method_5_code 58 = .ok (.iand, 1) := by decide +kernel
theorem d5_59 : decode method_5_code 59 = .ok (.istore 5, 2) := by decide +kernel
theorem d5_61 : decode method_5_code 61 = .ok (.goto 24, 3) := by decide +kernel
theorem d5_64 : decode method_5_code 64 = .ok (.iload_n 3, 1) := by decide +kernel
theorem d5_65 : decode method_5_code 65 = .ok (.sipush 248, 3) := by decide +kernel
theorem d5_68 : decode method_5_code 68 = .ok (.if_icmp .ge 15, 3) := by decide +kernel
theorem d5_71 : decode method_5_code 71 = .ok (.iconst 4, 1) := by decide +kernel
theorem d5_72 : decode method_5_code 72 = .ok (.istore 4, 2) := by decide +kernel
theorem d5_74 : decode method_5_code 74 = .ok (.iload_n 3, 1) := by decide +kernel
theorem d5_75 : decode method_5_code 75 = .ok (.bipush 7, 2) := by decide +kernel
theorem d5_77 : decode method_5_code 77 = .ok (.iand, 1) := by decide +kernel
theorem d5_78 : decode method_5_code 78 = .ok (.istore 5, 2) := by decide +kernel
theorem d5_80 : decode method_5_code 80 = .ok (.goto 5, 3) := by decide +kernel
theorem d5_83 : decode method_5_code 83 = .ok (.iconst 0, 1) := by decide +kernel
theorem d5_84 : decode method_5_code 84 = .ok (.ireturn, 1) := by decide +kernel
theorem d5_85 : decode method_5_code 85 = .ok (.iload_n 2, 1) := by decide +kernel
theorem d5_86 : decode method_5_code 86 = .ok (.iload_n 1, 1) := by decide +kernel
theorem d5_87 : decode method_5_code 87 = .ok (.isub, 1) := by decide +kernel
theorem d5_88 : decode method_5_code 88 = .ok (.iload 4, 2) := by decide +kernel
theorem d5_90 : decode method_5_code 90 = .ok (.if_icmp .ge 5, 3) := by decide +kernel
theorem d5_93 : decode method_5_code 93 = .ok (.iconst 0, 1) := by decide +kernel
theorem d5_94 : decode method_5_code 94 = .ok (.ireturn, 1) := by decide +kernel
theorem d5_95 : decode method_5_code 95 = .ok (.aload_n 0, 1) := by decide +kernel
theorem d5_96 : decode method_5_code 96 = .ok (.iload_n 1, 1) := by decide +kernel
theorem d5_97 : decode method_5_code 97 = .ok (.iconst 1, 1) := by decide +kernel
theorem d5_98 : decode method_5_code 98 = .ok (.iadd, 1) := by decide +kernel
theorem d5_99 : decode method_5_code 99 = .ok (.baload, 1) := by decide +kernel
theorem d5_100 : decode method_5_code 100 = .ok (.sipush 255, 3) := by decide +kernel
theorem d5_103 : decode method_5_code 103 = .ok (.iand, 1) := by decide +kernel
theorem d5_104 : decode method_5_code 104 = .ok (.istore 6, 2) := by decide +kernel
theorem d5_106 : decode method_5_code 106 = .ok (.iload 6, 2) := by decide +kernel
theorem d5_108 : decode method_5_code 108 = .ok (.sipush 192, 3) := by decide +kernel
theorem d5_111 : decode method_5_code 111 = .ok (.iand, 1) := by decide +kernel
theorem d5_112 : decode method_5_code 112 = .ok (.sipush 128, 3) := by decide +kernel
theorem d5_115 : decode method_5_code 115 = .ok (.if_icmp .eq 5, 3) := by decide +kernel
theorem d5_118 : decode method_5_code 118 = .ok (.iconst 0, 1) := by decide +kernel
theorem d5_119 : decode method_5_code 119 = .ok (.ireturn, 1) := by decide +kernel
theorem d5_120 : decode method_5_code 120 = .ok (.iload 5, 2) := by decide +kernel
theorem d5_122 : decode method_5_code 122 = .ok (.bipush 6, 2) := by decide +kernel
theorem d5_124 : decode method_5_code 124 = .ok (.ishl, 1) := by decide +kernel
theorem d5_125 : decode method_5_code 125 = .ok (.iload 6, 2) := by decide +kernel
theorem d5_127 : decode method_5_code 127 = .ok (.bipush 63, 2) := by decide +kernel
theorem d5_129 : decode method_5_code 129 = .ok (.iand, 1) := by decide +kernel
theorem d5_130 : decode method_5_code 130 = .ok (.ior, 1) := by decide +kernel
theorem d5_131 : decode method_5_code 131 = .ok (.istore 5, 2) := by decide +kernel
theorem d5_133 : decode method_5_code 133 = .ok (.iload 4, 2) := by decide +kernel
theorem d5_135 : decode method_5_code 135 = .ok (.iconst 3, 1) := by decide +kernel
theorem d5_136 : decode method_5_code 136 = .ok (.if_icmp .lt 41, 3) := by decide +kernel
theorem d5_139 : decode method_5_code 139 = .ok (.aload_n 0, 1) := by decide +kernel
theorem d5_140 : decode method_5_code 140 = .ok (.iload_n 1, 1) := by decide +kernel
theorem d5_141 : decode method_5_code 141 = .ok (.iconst 2, 1) := by decide +kernel
theorem d5_142 : decode method_5_code 142 = .ok (.iadd, 1) := by decide +kernel
theorem d5_143 : decode method_5_code 143 = .ok (.baload, 1) := by decide +kernel
theorem d5_144 : decode method_5_code 144 = .ok (.sipush 255, 3) := by decide +kernel
theorem d5_147 : decode method_5_code 147 = .ok (.iand, 1) := by decide +kernel
theorem d5_148 : decode method_5_code 148 = .ok (.istore 7, 2) := by decide +kernel
theorem d5_150 : decode method_5_code 150 = .ok (.iload 7, 2) := by decide +kernel
theorem d5_152 : decode method_5_code 152 = .ok (.sipush 192, 3) := by decide +kernel
theorem d5_155 : decode method_5_code 155 = .ok (.iand, 1) := by decide +kernel
theorem d5_156 : decode method_5_code 156 = .ok (.sipush 128, 3) := by decide +kernel
theorem d5_159 : decode method_5_code 159 = .ok (.if_icmp .eq 5, 3) := by decide +kernel
theorem d5_162 : decode method_5_code 162 = .ok (.iconst 0, 1) := by decide +kernel
theorem d5_163 : decode method_5_code 163 = .ok (.ireturn, 1) := by decide +kernel
theorem d5_164 : decode method_5_code 164 = .ok (.iload 5, 2) := by decide +kernel
theorem d5_166 : decode method_5_code 166 = .ok (.bipush 6, 2) := by decide +kernel
theorem d5_168 : decode method_5_code 168 = .ok (.ishl, 1) := by decide +kernel
theorem d5_169 : decode method_5_code 169 = .ok (.iload 7, 2) := by decide +kernel
theorem d5_171 : decode method_5_code 171 = .ok (.bipush 63, 2) := by decide +kernel
theorem d5_173 : decode method_5_code 173 = .ok (.iand, 1) := by decide +kernel
theorem d5_174 : decode method_5_code 174 = .ok (.ior, 1) := by decide +kernel
theorem d5_175 : decode method_5_code 175 = .ok (.istore 5, 2) := by decide +kernel
theorem d5_177 : decode method_5_code 177 = .ok (.iload 4, 2) := by decide +kernel
theorem d5_179 : decode method_5_code 179 = .ok (.iconst 4, 1) := by decide +kernel
theorem d5_180 : decode method_5_code 180 = .ok (.if_icmp .ne 41, 3) := by decide +kernel
theorem d5_183 : decode method_5_code 183 = .ok (.aload_n 0, 1) := by decide +kernel
theorem d5_184 : decode method_5_code 184 = .ok (.iload_n 1, 1) := by decide +kernel
theorem d5_185 : decode method_5_code 185 = .ok (.iconst 3, 1) := by decide +kernel
theorem d5_186 : decode method_5_code 186 = .ok (.iadd, 1) := by decide +kernel
theorem d5_187 : decode method_5_code 187 = .ok (.baload, 1) := by decide +kernel
theorem d5_188 : decode method_5_code 188 = .ok (.sipush 255, 3) := by decide +kernel
theorem d5_191 : decode method_5_code 191 = .ok (.iand, 1) := by decide +kernel
theorem d5_192 : decode method_5_code 192 = .ok (.istore 7, 2) := by decide +kernel
theorem d5_194 : decode method_5_code 194 = .ok (.iload 7, 2) := by decide +kernel
theorem d5_196 : decode method_5_code 196 = .ok (.sipush 192, 3) := by decide +kernel
theorem d5_199 : decode method_5_code 199 = .ok (.iand, 1) := by decide +kernel
theorem d5_200 : decode method_5_code 200 = .ok (.sipush 128, 3) := by decide +kernel
theorem d5_203 : decode method_5_code 203 = .ok (.if_icmp .eq 5, 3) := by decide +kernel
theorem d5_206 : decode method_5_code 206 = .ok (.iconst 0, 1) := by decide +kernel
theorem d5_207 : decode method_5_code 207 = .ok (.ireturn, 1) := by decide +kernel
theorem d5_208 : decode method_5_code 208 = .ok (.iload 5, 2) := by decide +kernel
theorem d5_210 : decode method_5_code 210 = .ok (.bipush 6, 2) := by decide +kernel
theorem d5_212 : decode method_5_code 212 = .ok (.ishl, 1) := by decide +kernel
theorem d5_213 : decode method_5_code 213 = .ok (.iload 7, 2) := by decide +kernel
theorem d5_215 : decode method_5_code 215 = .ok (.bipush 63, 2) := by decide +kernel
theorem d5_217 : decode method_5_code 217 = .ok (.iand, 1) := by decide +kernel
theorem d5_218 : decode method_5_code 218 = .ok (.ior, 1) := by decide +kernel
theorem d5_219 : decode method_5_code 219 = .ok (.istore 5, 2) := by decide +kernel
theorem d5_221 : decode method_5_code 221 = .ok (.iload 4, 2) := by decide +kernel
theorem d5_223 : decode method_5_code 223 = .ok (.iconst 2, 1) := by decide +kernel
theorem d5_224 : decode method_5_code 224 = .ok (.if_icmp .ne 9, 3) := by decide +kernel
theorem d5_227 : decode method_5_code 227 = .ok (.sipush 128, 3) := by decide +kernel
theorem d5_230 : decode method_5_code 230 = .ok (.goto 17, 3) := by decide +kernel
theorem d5_233 : decode method_5_code 233 = .ok (.iload 4, 2) := by decide +kernel
theorem d5_235 : decode method_5_code 235 = .ok (.iconst 3, 1) := by decide +kernel
theorem d5_236 : decode method_5_code 236 = .ok (.if_icmp .ne 9, 3) := by decide +kernel
theorem d5_239 : decode method_5_code 239 = .ok (.sipush 2048, 3) := by decide +kernel
theorem d5_242 : decode method_5_code 242 = .ok (.goto 5, 3) := by decide +kernel
theorem d5_245 : decode method_5_code 245 = .ok (.ldc 31, 2) := by decide +kernel
theorem d5_247 : decode method_5_code 247 = .ok (.istore 7, 2) := by decide +kernel
theorem d5_249 : decode method_5_code 249 = .ok (.iload 5, 2) := by decide +kernel
theorem d5_251 : decode method_5_code 251 = .ok (.iload 7, 2) := by decide +kernel
theorem d5_253 : decode method_5_code 253 = .ok (.if_icmp .lt 24, 3) := by decide +kernel
theorem d5_256 : decode method_5_code 256 = .ok (.iload 5, 2) := by decide +kernel
theorem d5_258 : decode method_5_code 258 = .ok (.ldc 32, 2) := by decide +kernel
theorem d5_260 : decode method_5_code 260 = .ok (.if_icmp .gt 17, 3) := by decide +kernel
theorem d5_263 : decode method_5_code 263 = .ok (.iload 5, 2) := by decide +kernel
theorem d5_265 : decode method_5_code 265 = .ok (.ldc 33, 2) := by decide +kernel
theorem d5_267 : decode method_5_code 267 = .ok (.if_icmp .lt 12, 3) := by decide +kernel
theorem d5_270 : decode method_5_code 270 = .ok (.iload 5, 2) := by decide +kernel
theorem d5_272 : decode method_5_code 272 = .ok (.ldc 34, 2) := by decide +kernel
theorem d5_274 : decode method_5_code 274 = .ok (.if_icmp .gt 5, 3) := by decide +kernel
theorem d5_277 : decode method_5_code 277 = .ok (.iconst 0, 1) := by decide +kernel
theorem d5_278 : decode method_5_code 278 = .ok (.ireturn, 1) := by decide +kernel
theorem d5_279 : decode method_5_code 279 = .ok (.iload 4, 2) := by decide +kernel
theorem d5_281 : decode method_5_code 281 = .ok (.ireturn, 1) := by decide +kernel
theorem pd_0 : parseMethodDescriptor "([BII)I" = some ⟨[(.array .byte), .int, .int], some .int⟩ := by decide +kernel
theorem pd_1 : parseMethodDescriptor "(JII)B" = some ⟨[.long, .int, .int], some .byte⟩ := by decide +kernel
theorem pd_2 : parseMethodDescriptor "(II)I" = some ⟨[.int, .int], some .int⟩ := by decide +kernel
def pl_pick (q0 : Int64) (p2 : Int32) (p3 : Int32) : Int32 := (if (((p2.toUInt32 >>> (p3 &&& 31).toUInt32).toInt32) &&& (1 : Int32)) = (0 : Int32) then (if (((p2.toUInt32 >>> ((p3 + (8 : Int32)) &&& 31).toUInt32).toInt32) &&& (1 : Int32)) = (0 : Int32) then (nar .byte (((((q0.toUInt64 >>> (((8 : Int32) * p3) &&& 0x3f).toInt64.toUInt64).toInt64).toInt32) &&& (255 : Int32)).toInt8.toInt32)) else (nar .byte (((192 : Int32) ||| (((((q0.toUInt64 >>> (((8 : Int32) * p3) &&& 0x3f).toInt64.toUInt64).toInt64).toInt32) &&& (255 : Int32)) &&& (63 : Int32))).toInt8.toInt32))) else (nar .byte (((128 : Int32) ||| (((((q0.toUInt64 >>> (((8 : Int32) * p3) &&& 0x3f).toInt64.toUInt64).toInt64).toInt32) &&& (255 : Int32)) &&& (63 : Int32))).toInt8.toInt32)))
theorem pn_1 : plainFor (⟨"com/example/termweave/termweave/release/RrfReaderNotUtf8PinLaw", "pick", "(JII)B"⟩ : MethodName) = true := by decide +kernel
theorem ef_1 (m : MethodId) (q0 : Int64) (p2 : Int32) (p3 : Int32) : entryFrame m #[(.long q0), (.int p2), (.int p3)] 5 = mkF m 0 #[.val (.long q0), .second, .val (.int p2), .val (.int p3), .unset] [] := by first | (simp [entryFrame, mkF, argsToLocals, Value.category]; done) | rfl
def Q1 (Z : State) (q0 : Int64) (p2 : Int32) (p3 : Int32) (h0 : Heap) (n0 : Nat) (v : Option Value) (h : Heap) (L : List Loc) : Prop := v = some (.int (pl_pick q0 p2 p3)) ∧ Fr n0 L ∧ h = h0
set_option maxRecDepth 65536 in
set_option maxHeartbeats 40000000 in
theorem rm1 (l : Launch) (Z : State) (a0 : Array Value) (hw : ∀ d ∈ tables_1, d.before a0 Z = true) (ws : List Jvm.Cond) (q0 : Int64) (p2 : Int32) (p3 : Int32) (h0 : Heap) (n0 : Nat) (Z0 : n0 ≤ h0.size) :
    MetFree l (⟨"com/example/termweave/termweave/release/RrfReaderNotUtf8PinLaw", "pick", "(JII)B"⟩ : MethodName) (head1 (Jvm.Cond.code (⟨"com/example/termweave/termweave/release/RrfReaderNotUtf8PinLaw", "pick", "(JII)B"⟩ : MethodName) method_3_code 5 (some .byte) :: ws) ({ frames := 0, cells := 0, slots := 0, locals := 0 } : Room)) (fun a U => a = #[(.long q0), (.int p2), (.int p3)] ∧ Z.Warmed39 U.vm ∧ U.heap = h0) (fun _ _ _ _ _ => True) (fun _ U o U' => ∃ v L, o = .returned v ∧ Q1 Z q0 p2 p3 h0 n0 v U'.heap L ∧ FrameEnd U o U' L ({ frames := 0, cells := 0, slots := 0, locals := 0 } : Room).cells ({ frames := 0, cells := 0, slots := 0, locals := 0 } : Room).slots) := by
  refine MetFree.of_bodySF pn_1 hisR ?_
  intro p e s m args below meth c s₁ Bd hml0 hP hK
  obtain ⟨rfl, hZ, hh⟩ := hP
  have hx := Bd.exec
  have hby := Bd.bytes
  have hml : c.maxLocals = 5 := hml0
  have hown : s.vm.findClass "com/example/termweave/termweave/release/RrfReaderNotUtf8PinLaw" = some m.cls := findClass_of_methodNamed Bd.named
  have hnm := (name_of_methodNamed Bd.named Bd.method).1
  have hlk := BodyLoose.notSynchronized Bd
  have X0 : Stand p l e ({ frames := 0, cells := 0, slots := 0, locals := 0 } : Room) s m #[(.long q0), (.int p2), (.int p3)] below meth c s₁ [] 0 0 := Stand.of_body Bd
  have e0 : s₁.heap = h0 := by rw [← hh, Bd.state]; rfl
  have N0 := Fr.nil n0
  show own_R p e below s (Q1 Z q0 p2 p3 h0 n0) ({ frames := 0, cells := 0, slots := 0, locals := 0 } : Room).cells ({ frames := 0, cells := 0, slots := 0, locals := 0 } : Room).slots s₁ (entryFrame m #[(.long q0), (.int p2), (.int p3)] 5)
  refine own_cast (ef_1 m q0 p2 p3) ?_
  show own_R p e below s _ _ _ s₁ (mkF m 0 #[.val (.long q0), .second, .val (.int p2), .val (.int p3), .unset] [])
  refine own_lloadN X0 hx (hb hby d1_0) rfl ?_
  refine own_bipush X0 hx (8 : Int32) (hb hby d1_1) rfl ?_
  refine own_iloadN X0 hx (hb hby d1_3) rfl ?_
  refine own_imul X0 hx (hb hby d1_4) ?_
  refine own_lushr X0 hx (hb hby d1_5) ?_
  refine own_l2i X0 hx (hb hby d1_6) ?_
  refine own_sipush X0 hx (255 : Int32) (hb hby d1_7) rfl ?_
  refine own_iand X0 hx (hb hby d1_10) ?_
  refine own_istore X0 hx (hb hby d1_11) (l' := #[.val (.long q0), .second, .val (.int p2), .val (.int p3), .val (.int ((((q0.toUInt64 >>> (((8 : Int32) * p3) &&& 0x3f).toInt64.toUInt64).toInt64).toInt32) &&& (255 : Int32)))]) rfl ?_
  refine own_iloadN X0 hx (hb hby d1_13) rfl ?_
  refine own_iloadN X0 hx (hb hby d1_14) rfl ?_
  refine own_iushr X0 hx (hb hby d1_15) ?_
  refine own_iconst X0 hx (1 : Int32) (hb hby d1_16) rfl ?_
  refine own_iand X0 hx (hb hby d1_17) ?_
  refine own_if X0 hx (hb hby d1_18) (pc' := 35) (by decide) (by decide) (fun hc => ?_) (fun hc => ?_)
  · have hc18 : (((p2.toUInt32 >>> (p3 &&& 31).toUInt32).toInt32) &&& (1 : Int32)) = (0 : Int32) := own_eq1 hc
    clear hc
    show own_R p e below s _ _ _ s₁ (mkF m 35 #[.val (.long q0), .second, .val (.int p2), .val (.int p3), .val (.int ((((q0.toUInt64 >>> (((8 : Int32) * p3) &&& 0x3f).toInt64.toUInt64).toInt64).toInt32) &&& (255 : Int32)))] [])
    refine own_iloadN X0 hx (hb hby d1_35) rfl ?_
    refine own_iloadN X0 hx (hb hby d1_36) rfl ?_
    refine own_bipush X0 hx (8 : Int32) (hb hby d1_37) rfl ?_
    refine own_iadd X0 hx (hb hby d1_39) ?_
    refine own_iushr X0 hx (hb hby d1_40) ?_
    refine own_iconst X0 hx (1 : Int32) (hb hby d1_41) rfl ?_
    refine own_iand X0 hx (hb hby d1_42) ?_
    refine own_if X0 hx (hb hby d1_43) (pc' := 57) (by decide) (by decide) (fun hc => ?_) (fun hc => ?_)
    · have hc43 : (((p2.toUInt32 >>> ((p3 + (8 : Int32)) &&& 31).toUInt32).toInt32) &&& (1 : Int32)) = (0 : Int32) := own_eq1 hc
      clear hc
      show own_R p e below s _ _ _ s₁ (mkF m 57 #[.val (.long q0), .second, .val (.int p2), .val (.int p3), .val (.int ((((q0.toUInt64 >>> (((8 : Int32) * p3) &&& 0x3f).toInt64.toUInt64).toInt64).toInt32) &&& (255 : Int32)))] [])
      refine own_iload X0 hx (hb hby d1_57) rfl ?_
      refine own_i2b X0 hx (hb hby d1_59) ?_
      refine own_retN X0 hx (t := .byte) Bd.returns (by simp) hlk (hb hby d1_60) ?_ (by decide) (by decide)
      refine ⟨?_, N0, e0⟩
      show some (Value.int _) = some (Value.int (pl_pick q0 p2 p3))
      rw [pl_pick, if_pos hc18, if_pos hc43] <;> first | rfl | decide
    · have hc43 : ¬ (((p2.toUInt32 >>> ((p3 + (8 : Int32)) &&& 31).toUInt32).toInt32) &&& (1 : Int32)) = (0 : Int32) := own_eq0 hc
      clear hc
      show own_R p e below s _ _ _ s₁ (mkF m 46 #[.val (.long q0), .second, .val (.int p2), .val (.int p3), .val (.int ((((q0.toUInt64 >>> (((8 : Int32) * p3) &&& 0x3f).toInt64.toUInt64).toInt64).toInt32) &&& (255 : Int32)))] [])
      refine own_sipush X0 hx (192 : Int32) (hb hby d1_46) rfl ?_
      refine own_iload X0 hx (hb hby d1_49) rfl ?_
      refine own_bipush X0 hx (63 : Int32) (hb hby d1_51) rfl ?_
      refine own_iand X0 hx (hb hby d1_53) ?_
      refine own_ior X0 hx (hb hby d1_54) ?_
      refine own_istore X0 hx (hb hby d1_55) (l' := #[.val (.long q0), .second, .val (.int p2), .val (.int p3), .val (.int ((192 : Int32) ||| (((((q0.toUInt64 >>> (((8 : Int32) * p3) &&& 0x3f).toInt64.toUInt64).toInt64).toInt32) &&& (255 : Int32)) &&& (63 : Int32))))]) rfl ?_
      refine own_iload X0 hx (hb hby d1_57) rfl ?_
      refine own_i2b X0 hx (hb hby d1_59) ?_
      refine own_retN X0 hx (t := .byte) Bd.returns (by simp) hlk (hb hby d1_60) ?_ (by decide) (by decide)
      refine ⟨?_, N0, e0⟩
      show some (Value.int _) = some (Value.int (pl_pick q0 p2 p3))
      rw [pl_pick, if_pos hc18, if_neg hc43] <;> first | rfl | decide
  · have hc18 : ¬ (((p2.toUInt32 >>> (p3 &&& 31).toUInt32).toInt32) &&& (1 : Int32)) = (0 : Int32) := own_eq0 hc
    clear hc
    show own_R p e below s _ _ _ s₁ (mkF m 21 #[.val (.long q0), .second, .val (.int p2), .val (.int p3), .val (.int ((((q0.toUInt64 >>> (((8 : Int32) * p3) &&& 0x3f).toInt64.toUInt64).toInt64).toInt32) &&& (255 : Int32)))] [])
    refine own_sipush X0 hx (128 : Int32) (hb hby d1_21) rfl ?_
    refine own_iload X0 hx (hb hby d1_24) rfl ?_
    refine own_bipush X0 hx (63 : Int32) (hb hby d1_26) rfl ?_
    refine own_iand X0 hx (hb hby d1_28) ?_
    refine own_ior X0 hx (hb hby d1_29) ?_
    refine own_istore X0 hx (hb hby d1_30) (l' := #[.val (.long q0), .second, .val (.int p2), .val (.int p3), .val (.int ((128 : Int32) ||| (((((q0.toUInt64 >>> (((8 : Int32) * p3) &&& 0x3f).toInt64.toUInt64).toInt64).toInt32) &&& (255 : Int32)) &&& (63 : Int32))))]) rfl ?_
    refine own_goto X0 hx (hb hby d1_32) (pc' := 57) (by decide) (by decide) ?_
    show own_R p e below s _ _ _ s₁ (mkF m 57 #[.val (.long q0), .second, .val (.int p2), .val (.int p3), .val (.int ((128 : Int32) ||| (((((q0.toUInt64 >>> (((8 : Int32) * p3) &&& 0x3f).toInt64.toUInt64).toInt64).toInt32) &&& (255 : Int32)) &&& (63 : Int32))))] [])
    refine own_iload X0 hx (hb hby d1_57) rfl ?_
    refine own_i2b X0 hx (hb hby d1_59) ?_
    refine own_retN X0 hx (t := .byte) Bd.returns (by simp) hlk (hb hby d1_60) ?_ (by decide) (by decide)
    refine ⟨?_, N0, e0⟩
    show some (Value.int _) = some (Value.int (pl_pick q0 p2 p3))
    rw [pl_pick, if_neg hc18] <;> first | rfl | decide
def pl_min (p0 : Int32) (p1 : Int32) : Int32 := (if p1 < p0 then p1 else p0)
theorem pn_2 : plainFor (⟨"java/lang/Math", "min", "(II)I"⟩ : MethodName) = true := Jvm.Free.JP.mathPlain rfl (by decide +kernel)
theorem ef_2 (m : MethodId) (p0 : Int32) (p1 : Int32) : entryFrame m #[(.int p0), (.int p1)] 2 = mkF m 0 #[.val (.int p0), .val (.int p1)] [] := by first | (simp [entryFrame, mkF, argsToLocals, Value.category]; done) | rfl
def Q2 (Z : State) (p0 : Int32) (p1 : Int32) (h0 : Heap) (n0 : Nat) (v : Option Value) (h : Heap) (L : List Loc) : Prop := v = some (.int (pl_min p0 p1)) ∧ Fr n0 L ∧ h = h0
set_option maxRecDepth 65536 in
set_option maxHeartbeats 40000000 in
theorem rm2 (l : Launch) (Z : State) (a0 : Array Value) (hw : ∀ d ∈ tables_1, d.before a0 Z = true) (ws : List Jvm.Cond) (p0 : Int32) (p1 : Int32) (h0 : Heap) (n0 : Nat) (Z0 : n0 ≤ h0.size) :
    MetFree l (⟨"java/lang/Math", "min", "(II)I"⟩ : MethodName) (head1 (Jvm.Cond.code (⟨"java/lang/Math", "min", "(II)I"⟩ : MethodName) jdk_29_method_69_code 2 (some .int) :: ws) ({ frames := 0, cells := 0, slots := 0, locals := 0 } : Room)) (fun a U => a = #[(.int p0), (.int p1)] ∧ Z.Warmed39 U.vm ∧ U.heap = h0) (fun _ _ _ _ _ => True) (fun _ U o U' => ∃ v L, o = .returned v ∧ Q2 Z p0 p1 h0 n0 v U'.heap L ∧ FrameEnd U o U' L ({ frames := 0, cells := 0, slots := 0, locals := 0 } : Room).cells ({ frames := 0, cells := 0, slots := 0, locals := 0 } : Room).slots) := by
  refine MetFree.of_bodySF pn_2 hisR ?_
  intro p e s m args below meth c s₁ Bd hml0 hP hK
  obtain ⟨rfl, hZ, hh⟩ := hP
  have hx := Bd.exec
  have hby := Bd.bytes
  have hml : c.maxLocals = 2 := hml0
  have hown : s.vm.findClass "java/lang/Math" = some m.cls := findClass_of_methodNamed Bd.named
  have hnm := (name_of_methodNamed Bd.named Bd.method).1
  have hlk := BodyLoose.notSynchronized Bd
  have X0 : Stand p l e ({ frames := 0, cells := 0, slots := 0, locals := 0 } : Room) s m #[(.int p0), (.int p1)] below meth c s₁ [] 0 0 := Stand.of_body Bd
  have e0 : s₁.heap = h0 := by rw [← hh, Bd.state]; rfl
  have N0 := Fr.nil n0
  show own_R p e below s (Q2 Z p0 p1 h0 n0) ({ frames := 0, cells := 0, slots := 0, locals := 0 } : Room).cells ({ frames := 0, cells := 0, slots := 0, locals := 0 } : Room).slots s₁ (entryFrame m #[(.int p0), (.int p1)] 2)
  refine own_cast (ef_2 m p0 p1) ?_
  show own_R p e below s _ _ _ s₁ (mkF m 0 #[.val (.int p0), .val (.int p1)] [])
  refine own_iloadN X0 hx (hb hby d2_0) rfl ?_
  refine own_iloadN X0 hx (hb hby d2_1) rfl ?_
  refine own_icmp X0 hx (hb hby d2_2) (pc' := 9) (by decide) (by decide) (fun hc => ?_) (fun hc => ?_)
  · have hc2 : p1 < p0 := own_gt1 hc
    clear hc
    show own_R p e below s _ _ _ s₁ (mkF m 9 #[.val (.int p0), .val (.int p1)] [])
    refine own_iloadN X0 hx (hb hby d2_9) rfl ?_
    refine own_retI X0 hx Bd.returns hlk (hb hby d2_10) ?_ (by decide) (by decide)
    refine ⟨?_, N0, e0⟩
    show some (Value.int _) = some (Value.int (pl_min p0 p1))
    rw [pl_min, if_pos hc2] <;> first | rfl | decide
  · have hc2 : ¬ p1 < p0 := own_gt0 hc
    clear hc
    show own_R p e below s _ _ _ s₁ (mkF m 5 #[.val (.int p0), .val (.int p1)] [])
    refine own_iloadN X0 hx (hb hby d2_5) rfl ?_
    refine own_goto X0 hx (hb hby d2_6) (pc' := 10) (by decide) (by decide) ?_
    show own_R p e below s _ _ _ s₁ (mkF m 10 #[.val (.int p0), .val (.int p1)] [(.int p0)])
    refine own_retI X0 hx Bd.returns hlk (hb hby d2_10) ?_ (by decide) (by decide)
    refine ⟨?_, N0, e0⟩
    show some (Value.int _) = some (Value.int (pl_min p0 p1))
    rw [pl_min, if_neg hc2] <;> first | rfl | decide
def pl_wf (b0 : Int32) (c1 : Int32) (c2 : Int32) (c3 : Int32) (d : Int32) : Int32 := (if b0 < (128 : Int32) then (1 : Int32) else (if b0 < (192 : Int32) then (0 : Int32) else (if b0 < (224 : Int32) then (if d < (2 : Int32) then (0 : Int32) else (if (c1 &&& (192 : Int32)) = (128 : Int32) then (if (((b0 &&& (31 : Int32)) <<< ((6 : Int32) &&& 31)) ||| (c1 &&& (63 : Int32))) < (128 : Int32) then (0 : Int32) else (if (1114111 : Int32) < (((b0 &&& (31 : Int32)) <<< ((6 : Int32) &&& 31)) ||| (c1 &&& (63 : Int32))) then (0 : Int32) else (if (((b0 &&& (31 : Int32)) <<< ((6 : Int32) &&& 31)) ||| (c1 &&& (63 : Int32))) < (55296 : Int32) then (2 : Int32) else (if (57343 : Int32) < (((b0 &&& (31 : Int32)) <<< ((6 : Int32) &&& 31)) ||| (c1 &&& (63 : Int32))) then (2 : Int32) else (0 : Int32))))) else (0 : Int32))) else (if b0 < (240 : Int32) then (if d < (3 : Int32) then (0 : Int32) else (if (c1 &&& (192 : Int32)) = (128 : Int32) then (if (c2 &&& (192 : Int32)) = (128 : Int32) then (if (((((b0 &&& (15 : Int32)) <<< ((6 : Int32) &&& 31)) ||| (c1 &&& (63 : Int32))) <<< ((6 : Int32) &&& 31)) ||| (c2 &&& (63 : Int32))) < (2048 : Int32) then (0 : Int32) else (if (1114111 : Int32) < (((((b0 &&& (15 : Int32)) <<< ((6 : Int32) &&& 31)) ||| (c1 &&& (63 : Int32))) <<< ((6 : Int32) &&& 31)) ||| (c2 &&& (63 : Int32))) then (0 : Int32) else (if (((((b0 &&& (15 : Int32)) <<< ((6 : Int32) &&& 31)) ||| (c1 &&& (63 : Int32))) <<< ((6 : Int32) &&& 31)) ||| (c2 &&& (63 : Int32))) < (55296 : Int32) then (3 : Int32) else (if (57343 : Int32) < (((((b0 &&& (15 : Int32)) <<< ((6 : Int32) &&& 31)) ||| (c1 &&& (63 : Int32))) <<< ((6 : Int32) &&& 31)) ||| (c2 &&& (63 : Int32))) then (3 : Int32) else (0 : Int32))))) else (0 : Int32)) else (0 : Int32))) else (if b0 < (248 : Int32) then (if d < (4 : Int32) then (0 : Int32) else (if (c1 &&& (192 : Int32)) = (128 : Int32) then (if (c2 &&& (192 : Int32)) = (128 : Int32) then (if (c3 &&& (192 : Int32)) = (128 : Int32) then (if (((((((b0 &&& (7 : Int32)) <<< ((6 : Int32) &&& 31)) ||| (c1 &&& (63 : Int32))) <<< ((6 : Int32) &&& 31)) ||| (c2 &&& (63 : Int32))) <<< ((6 : Int32) &&& 31)) ||| (c3 &&& (63 : Int32))) < (65536 : Int32) then (0 : Int32) else (if (1114111 : Int32) < (((((((b0 &&& (7 : Int32)) <<< ((6 : Int32) &&& 31)) ||| (c1 &&& (63 : Int32))) <<< ((6 : Int32) &&& 31)) ||| (c2 &&& (63 : Int32))) <<< ((6 : Int32) &&& 31)) ||| (c3 &&& (63 : Int32))) then (0 : Int32) else (if (((((((b0 &&& (7 : Int32)) <<< ((6 : Int32) &&& 31)) ||| (c1 &&& (63 : Int32))) <<< ((6 : Int32) &&& 31)) ||| (c2 &&& (63 : Int32))) <<< ((6 : Int32) &&& 31)) ||| (c3 &&& (63 : Int32))) < (55296 : Int32) then (4 : Int32) else (if (57343 : Int32) < (((((((b0 &&& (7 : Int32)) <<< ((6 : Int32) &&& 31)) ||| (c1 &&& (63 : Int32))) <<< ((6 : Int32) &&& 31)) ||| (c2 &&& (63 : Int32))) <<< ((6 : Int32) &&& 31)) ||| (c3 &&& (63 : Int32))) then (4 : Int32) else (0 : Int32))))) else (0 : Int32)) else (0 : Int32)) else (0 : Int32))) else (0 : Int32))))))
theorem pn_5 : plainFor (⟨"com/example/termweave/termweave/release/RrfReaderNotUtf8PinLaw", "wellFormed", "([BII)I"⟩ : MethodName) = true := by decide +kernel
theorem ef_5 (m : MethodId) (a1 : Addr) (ix : Int32) (en : Int32) : entryFrame m #[(.ref a1), (.int ix), (.int en)] 8 = mkF m 0 #[.val (.ref a1), .val (.int ix), .val (.int en), .unset, .unset, .unset, .unset, .unset] [] := by first | (simp [entryFrame, mkF, argsToLocals, Value.category]; done) | rfl
def Q5 (Z : State) (a1 : Addr) (ix : Int32) (en : Int32) (k1 : ClassId) (xs : List Int32) (h0 : Heap) (n0 : Nat) (v : Option Value) (h : Heap) (L : List Loc) : Prop := v = some (.int (pl_wf ((xs.getD ix.toNatClampNeg 0) &&& (255 : Int32)) ((xs.getD (ix + (1 : Int32)).toNatClampNeg 0) &&& (255 : Int32)) ((xs.getD (ix + (2 : Int32)).toNatClampNeg 0) &&& (255 : Int32)) ((xs.getD (ix + (3 : Int32)).toNatClampNeg 0) &&& (255 : Int32)) (en - ix))) ∧ Fr n0 L ∧ h = h0
set_option maxRecDepth 65536 in
set_option maxHeartbeats 40000000 in
theorem rm5 (l : Launch) (Z : State) (a0 : Array Value) (hw : ∀ d ∈ tables_1, d.before a0 Z = true) (ws : List Jvm.Cond) (a1 : Addr) (ix : Int32) (en : Int32) (k1 : ClassId) (xs : List Int32) (h0 : Heap) (n0 : Nat) (Z0 : n0 ≤ h0.size) (hV : Arv Z h0 a1 k1 .byte 8 (xs.map Value.int) (.int (0 : Int32))) (h0' : 0 ≤ ix.toInt) (hlt : ix < en) (h8 : en.toInt ≤ 8) :
    MetFree l (⟨"com/example/termweave/termweave/release/RrfReaderNotUtf8PinLaw", "wellFormed", "([BII)I"⟩ : MethodName) (head1 (Jvm.Cond.code (⟨"com/example/termweave/termweave/release/RrfReaderNotUtf8PinLaw", "wellFormed", "([BII)I"⟩ : MethodName) method_5_code 8 (some .int) :: ws) ({ frames := 0, cells := 0, slots := 0, locals := 0 } : Room)) (fun a U => a = #[(.ref a1), (.int ix), (.int en)] ∧ Z.Warmed39 U.vm ∧ U.heap = h0) (fun _ _ _ _ _ => True) (fun _ U o U' => ∃ v L, o = .returned v ∧ Q5 Z a1 ix en k1 xs h0 n0 v U'.heap L ∧ FrameEnd U o U' L ({ frames := 0, cells := 0, slots := 0, locals := 0 } : Room).cells ({ frames := 0, cells := 0, slots := 0, locals := 0 } : Room).slots) := by
  refine MetFree.of_bodySF pn_5 hisR ?_
  intro p e s m args below meth c s₁ Bd hml0 hP hK
  obtain ⟨rfl, hZ, hh⟩ := hP
  have hx := Bd.exec
  have hby := Bd.bytes
  have hml : c.maxLocals = 8 := hml0
  have hown : s.vm.findClass "com/example/termweave/termweave/release/RrfReaderNotUtf8PinLaw" = some m.cls := findClass_of_methodNamed Bd.named
  have hnm := (name_of_methodNamed Bd.named Bd.method).1
  have hlk := BodyLoose.notSynchronized Bd
  have X0 : Stand p l e ({ frames := 0, cells := 0, slots := 0, locals := 0 } : Room) s m #[(.ref a1), (.int ix), (.int en)] below meth c s₁ [] 0 0 := Stand.of_body Bd
  have e0 : s₁.heap = h0 := by rw [← hh, Bd.state]; rfl
  have N0 := Fr.nil n0
  show own_R p e below s (Q5 Z a1 ix en k1 xs h0 n0) ({ frames := 0, cells := 0, slots := 0, locals := 0 } : Room).cells ({ frames := 0, cells := 0, slots := 0, locals := 0 } : Room).slots s₁ (entryFrame m #[(.ref a1), (.int ix), (.int en)] 8)
  refine own_cast (ef_5 m a1 ix en) ?_
  show own_R p e below s _ _ _ s₁ (mkF m 0 #[.val (.ref a1), .val (.int ix), .val (.int en), .unset, .unset, .unset, .unset, .unset] [])
  have K0 := Keep.refl h0 ([] : List Addr)
  refine own_aloadN X0 hx (hb hby d5_0) rfl rfl ?_
  refine own_iloadN X0 hx (hb hby d5_1) rfl ?_
  refine own_baload X0 hx hZ e0 hV (v := .int (xs.getD ix.toNatClampNeg 0)) (pl_at0 ix en h0' hlt h8) (pl_gd _ _) (hb hby d5_2) ?_
  show own_R p e below s _ _ _ s₁ (mkF m 3 #[.val (.ref a1), .val (.int ix), .val (.int en), .unset, .unset, .unset, .unset, .unset] [(.int (xs.getD ix.toNatClampNeg 0))])
  refine own_sipush X0 hx (255 : Int32) (hb hby d5_3) rfl ?_
  refine own_iand X0 hx (hb hby d5_6) ?_
  refine own_istoreN X0 hx (hb hby d5_7) (l' := #[.val (.ref a1), .val (.int ix), .val (.int en), .val (.int ((xs.getD ix.toNatClampNeg 0) &&& (255 : Int32))), .unset, .unset, .unset, .unset]) rfl ?_
  refine own_iloadN X0 hx (hb hby d5_8) rfl ?_
  refine own_sipush X0 hx (128 : Int32) (hb hby d5_9) rfl ?_
  refine own_icmp X0 hx (hb hby d5_12) (pc' := 17) (by decide) (by decide) (fun hc => ?_) (fun hc => ?_)
  · have hc12 : ¬ ((xs.getD ix.toNatClampNeg 0) &&& (255 : Int32)) < (128 : Int32) := own_ge1 hc
    clear hc
    show own_R p e below s _ _ _ s₁ (mkF m 17 #[.val (.ref a1), .val (.int ix), .val (.int en), .val (.int ((xs.getD ix.toNatClampNeg 0) &&& (255 : Int32))), .unset, .unset, .unset, .unset] [])
    refine own_iloadN X0 hx (hb hby d5_17) rfl ?_
    refine own_sipush X0 hx (192 : Int32) (hb hby d5_18) rfl ?_
    refine own_icmp X0 hx (hb hby d5_21) (pc' := 26) (by decide) (by decide) (fun hc => ?_) (fun hc => ?_)
    · have hc21 : ¬ ((xs.getD ix.toNatClampNeg 0) &&& (255 : Int32)) < (192 : Int32) := own_ge1 hc
      clear hc
      show own_R p e below s _ _ _ s₁ (mkF m 26 #[.val (.ref a1), .val (.int ix), .val (.int en), .val (.int ((xs.getD ix.toNatClampNeg 0) &&& (255 : Int32))), .unset, .unset, .unset, .unset] [])
      refine own_iloadN X0 hx (hb hby d5_26) rfl ?_
      refine own_sipush X0 hx (224 : Int32) (hb hby d5_27) rfl ?_
      refine own_icmp X0 hx (hb hby d5_30) (pc' := 45) (by decide) (by decide) (fun hc => ?_) (fun hc => ?_)
      · have hc30 : ¬ ((xs.getD ix.toNatClampNeg 0) &&& (255 : Int32)) < (224 : Int32) := own_ge1 hc
        clear hc
        show own_R p e below s _ _ _ s₁ (mkF m 45 #[.val (.ref a1), .val (.int ix), .val (.int en), .val (.int ((xs.getD ix.toNatClampNeg 0) &&& (255 : Int32))), .unset, .unset, .unset, .unset] [])
        refine own_iloadN X0 hx (hb hby d5_45) rfl ?_
        refine own_sipush X0 hx (240 : Int32) (hb hby d5_46) rfl ?_
        refine own_icmp X0 hx (hb hby d5_49) (pc' := 64) (by decide) (by decide) (fun hc => ?_) (fun hc => ?_)
        · have hc49 : ¬ ((xs.getD ix.toNatClampNeg 0) &&& (255 : Int32)) < (240 : Int32) := own_ge1 hc
          clear hc
          show own_R p e below s _ _ _ s₁ (mkF m 64 #[.val (.ref a1), .val (.int ix), .val (.int en), .val (.int ((xs.getD ix.toNatClampNeg 0) &&& (255 : Int32))), .unset, .unset, .unset, .unset] [])
          refine own_iloadN X0 hx (hb hby d5_64) rfl ?_
          refine own_sipush X0 hx (248 : Int32) (hb hby d5_65) rfl ?_
          refine own_icmp X0 hx (hb hby d5_68) (pc' := 83) (by decide) (by decide) (fun hc => ?_) (fun hc => ?_)
          · have hc68 : ¬ ((xs.getD ix.toNatClampNeg 0) &&& (255 : Int32)) < (248 : Int32) := own_ge1 hc
            clear hc
            show own_R p e below s _ _ _ s₁ (mkF m 83 #[.val (.ref a1), .val (.int ix), .val (.int en), .val (.int ((xs.getD ix.toNatClampNeg 0) &&& (255 : Int32))), .unset, .unset, .unset, .unset] [])
            refine own_iconst X0 hx (0 : Int32) (hb hby d5_83) rfl ?_
            refine own_retI X0 hx Bd.returns hlk (hb hby d5_84) ?_ (by decide) (by decide)
            refine ⟨?_, N0, e0⟩
            show some (Value.int _) = some (Value.int (pl_wf ((xs.getD ix.toNatClampNeg 0) &&& (255 : Int32)) ((xs.getD (ix + (1 : Int32)).toNatClampNeg 0) &&& (255 : Int32)) ((xs.getD (ix + (2 : Int32)).toNatClampNeg 0) &&& (255 : Int32)) ((xs.getD (ix + (3 : Int32)).toNatClampNeg 0) &&& (255 : Int32)) (en - ix)))
            rw [pl_wf, if_neg hc12, if_neg hc21, if_neg hc30, if_neg hc49, if_neg hc68] <;> first | rfl | decide
          · have hc68 : ((xs.getD ix.toNatClampNeg 0) &&& (255 : Int32)) < (248 : Int32) := own_ge0 hc
            clear hc
            show own_R p e below s _ _ _ s₁ (mkF m 71 #[.val (.ref a1), .val (.int ix), .val (.int en), .val (.int ((xs.getD ix.toNatClampNeg 0) &&& (255 : Int32))), .unset, .unset, .unset, .unset] [])
            refine own_iconst X0 hx (4 : Int32) (hb hby d5_71) rfl ?_
            refine own_istore X0 hx (hb hby d5_72) (l' := #[.val (.ref a1), .val (.int ix), .val (.int en), .val (.int ((xs.getD ix.toNatClampNeg 0) &&& (255 : Int32))), .val (.int (4 : Int32)), .unset, .unset, .unset]) rfl ?_
            refine own_iloadN X0 hx (hb hby d5_74) rfl ?_
            refine own_bipush X0 hx (7 : Int32) (hb hby d5_75) rfl ?_
            refine own_iand X0 hx (hb hby d5_77) ?_
            refine own_istore X0 hx (hb hby d5_78) (l' := #[.val (.ref a1), .val (.int ix), .val (.int en), .val (.int ((xs.getD ix.toNatClampNeg 0) &&& (255 : Int32))), .val (.int (4 : Int32)), .val (.int (((xs.getD ix.toNatClampNeg 0) &&& (255 : Int32)) &&& (7 : Int32))), .unset, .unset]) rfl ?_
            refine own_goto X0 hx (hb hby d5_80) (pc' := 85) (by decide) (by decide) ?_
            show own_R p e below s _ _ _ s₁ (mkF m 85 #[.val (.ref a1), .val (.int ix), .val (.int en), .val (.int ((xs.getD ix.toNatClampNeg 0) &&& (255 : Int32))), .val (.int (4 : Int32)), .val (.int (((xs.getD ix.toNatClampNeg 0) &&& (255 : Int32)) &&& (7 : Int32))), .unset, .unset] [])
            refine own_iloadN X0 hx (hb hby d5_85) rfl ?_
            refine own_iloadN X0 hx (hb hby d5_86) rfl ?_
            refine own_isub X0 hx (hb hby d5_87) ?_
            refine own_iload X0 hx (hb hby d5_88) rfl ?_
            refine own_icmp X0 hx (hb hby d5_90) (pc' := 95) (by decide) (by decide) (fun hc => ?_) (fun hc => ?_)
            · have hc90 : ¬ (en - ix) < (4 : Int32) := own_ge1 hc
              clear hc
              show own_R p e below s _ _ _ s₁ (mkF m 95 #[.val (.ref a1), .val (.int ix), .val (.int en), .val (.int ((xs.getD ix.toNatClampNeg 0) &&& (255 : Int32))), .val (.int (4 : Int32)), .val (.int (((xs.getD ix.toNatClampNeg 0) &&& (255 : Int32)) &&& (7 : Int32))), .unset, .unset] [])
              refine own_aloadN X0 hx (hb hby d5_95) rfl rfl ?_
              refine own_iloadN X0 hx (hb hby d5_96) rfl ?_
              refine own_iconst X0 hx (1 : Int32) (hb hby d5_97) rfl ?_
              refine own_iadd X0 hx (hb hby d5_98) ?_
              refine own_baload X0 hx hZ e0 hV (v := .int (xs.getD (ix + (1 : Int32)).toNatClampNeg 0)) (pl_at1 ix en (4 : Int32) h0' hlt h8 (by decide) hc90) (pl_gd _ _) (hb hby d5_99) ?_
              show own_R p e below s _ _ _ s₁ (mkF m 100 #[.val (.ref a1), .val (.int ix), .val (.int en), .val (.int ((xs.getD ix.toNatClampNeg 0) &&& (255 : Int32))), .val (.int (4 : Int32)), .val (.int (((xs.getD ix.toNatClampNeg 0) &&& (255 : Int32)) &&& (7 : Int32))), .unset, .unset] [(.int (xs.getD (ix + (1 : Int32)).toNatClampNeg 0))])
              refine own_sipush X0 hx (255 : Int32) (hb hby d5_100) rfl ?_
              refine own_iand X0 hx (hb hby d5_103) ?_
              refine own_istore X0 hx (hb hby d5_104) (l' := #[.val (.ref a1), .val (.int ix), .val (.int en), .val (.int ((xs.getD ix.toNatClampNeg 0) &&& (255 : Int32))), .val (.int (4 : Int32)), .val (.int (((xs.getD ix.toNatClampNeg 0) &&& (255 : Int32)) &&& (7 : Int32))), .val (.int ((xs.getD (ix + (1 : Int32)).toNatClampNeg 0) &&& (255 : Int32))), .unset]) rfl ?_
              refine own_iload X0 hx (hb hby d5_106) rfl ?_
              refine own_sipush X0 hx (192 : Int32) (hb hby d5_108) rfl ?_
              refine own_iand X0 hx (hb hby d5_111) ?_
              refine own_sipush X0 hx (128 : Int32) (hb hby d5_112) rfl ?_
              refine own_icmp X0 hx (hb hby d5_115) (pc' := 120) (by decide) (by decide) (fun hc => ?_) (fun hc => ?_)
              · have hc115 : (((xs.getD (ix + (1 : Int32)).toNatClampNeg 0) &&& (255 : Int32)) &&& (192 : Int32)) = (128 : Int32) := own_eq1 hc
                clear hc
                show own_R p e below s _ _ _ s₁ (mkF m 120 #[.val (.ref a1), .val (.int ix), .val (.int en), .val (.int ((xs.getD ix.toNatClampNeg 0) &&& (255 : Int32))), .val (.int (4 : Int32)), .val (.int (((xs.getD ix.toNatClampNeg 0) &&& (255 : Int32)) &&& (7 : Int32))), .val (.int ((xs.getD (ix + (1 : Int32)).toNatClampNeg 0) &&& (255 : Int32))), .unset] [])
                refine own_iload X0 hx (hb hby d5_120) rfl ?_
                refine own_bipush X0 hx (6 : Int32) (hb hby d5_122) rfl ?_
                refine own_ishl X0 hx (hb hby d5_124) ?_
                refine own_iload X0 hx (hb hby d5_125) rfl ?_
                refine own_bipush X0 hx (63 : Int32) (hb hby d5_127) rfl ?_
                refine own_iand X0 hx (hb hby d5_129) ?_
                refine own_ior X0 hx (hb hby d5_130) ?_
                refine own_istore X0 hx (hb hby d5_131) (l' := #[.val (.ref a1), .val (.int ix), .val (.int en), .val (.int ((xs.getD ix.toNatClampNeg 0) &&& (255 : Int32))), .val (.int (4 : Int32)), .val (.int (((((xs.getD ix.toNatClampNeg 0) &&& (255 : Int32)) &&& (7 : Int32)) <<< ((6 : Int32) &&& 31)) ||| (((xs.getD (ix + (1 : Int32)).toNatClampNeg 0) &&& (255 : Int32)) &&& (63 : Int32)))), .val (.int ((xs.getD (ix + (1 : Int32)).toNatClampNeg 0) &&& (255 : Int32))), .unset]) rfl ?_
                refine own_iload X0 hx (hb hby d5_133) rfl ?_
                refine own_iconst X0 hx (3 : Int32) (hb hby d5_135) rfl ?_
                refine own_icmp X0 hx (hb hby d5_136) (pc' := 177) (by decide) (by decide) (fun hc => ?_) (fun hc => ?_)
                · have hc136 : (4 : Int32) < (3 : Int32) := own_lt1 hc
                  exact absurd hc136 (by decide)
                · have hc136 : ¬ (4 : Int32) < (3 : Int32) := own_lt0 hc
                  clear hc
                  show own_R p e below s _ _ _ s₁ (mkF m 139 #[.val (.ref a1), .val (.int ix), .val (.int en), .val (.int ((xs.getD ix.toNatClampNeg 0) &&& (255 : Int32))), .val (.int (4 : Int32)), .val (.int (((((xs.getD ix.toNatClampNeg 0) &&& (255 : Int32)) &&& (7 : Int32)) <<< ((6 : Int32) &&& 31)) ||| (((xs.getD (ix + (1 : Int32)).toNatClampNeg 0) &&& (255 : Int32)) &&& (63 : Int32)))), .val (.int ((xs.getD (ix + (1 : Int32)).toNatClampNeg 0) &&& (255 : Int32))), .unset] [])
                  refine own_aloadN X0 hx (hb hby d5_139) rfl rfl ?_
                  refine own_iloadN X0 hx (hb hby d5_140) rfl ?_
                  refine own_iconst X0 hx (2 : Int32) (hb hby d5_141) rfl ?_
                  refine own_iadd X0 hx (hb hby d5_142) ?_
                  refine own_baload X0 hx hZ e0 hV (v := .int (xs.getD (ix + (2 : Int32)).toNatClampNeg 0)) (pl_at2 ix en (4 : Int32) h0' hlt h8 (by decide) hc90) (pl_gd _ _) (hb hby d5_143) ?_
                  show own_R p e below s _ _ _ s₁ (mkF m 144 #[.val (.ref a1), .val (.int ix), .val (.int en), .val (.int ((xs.getD ix.toNatClampNeg 0) &&& (255 : Int32))), .val (.int (4 : Int32)), .val (.int (((((xs.getD ix.toNatClampNeg 0) &&& (255 : Int32)) &&& (7 : Int32)) <<< ((6 : Int32) &&& 31)) ||| (((xs.getD (ix + (1 : Int32)).toNatClampNeg 0) &&& (255 : Int32)) &&& (63 : Int32)))), .val (.int ((xs.getD (ix + (1 : Int32)).toNatClampNeg 0) &&& (255 : Int32))), .unset] [(.int (xs.getD (ix + (2 : Int32)).toNatClampNeg 0))])
                  refine own_sipush X0 hx (255 : Int32) (hb hby d5_144) rfl ?_
                  refine own_iand X0 hx (hb hby d5_147) ?_
                  refine own_istore X0 hx (hb hby d5_148) (l' := #[.val (.ref a1), .val (.int ix), .val (.int en), .val (.int ((xs.getD ix.toNatClampNeg 0) &&& (255 : Int32))), .val (.int (4 : Int32)), .val (.int (((((xs.getD ix.toNatClampNeg 0) &&& (255 : Int32)) &&& (7 : Int32)) <<< ((6 : Int32) &&& 31)) ||| (((xs.getD (ix + (1 : Int32)).toNatClampNeg 0) &&& (255 : Int32)) &&& (63 : Int32)))), .val (.int ((xs.getD (ix + (1 : Int32)).toNatClampNeg 0) &&& (255 : Int32))), .val (.int ((xs.getD (ix + (2 : Int32)).toNatClampNeg 0) &&& (255 : Int32)))]) rfl ?_
                  refine own_iload X0 hx (hb hby d5_150) rfl ?_
                  refine own_sipush X0 hx (192 : Int32) (hb hby d5_152) rfl ?_
                  refine own_iand X0 hx (hb hby d5_155) ?_
                  refine own_sipush X0 hx (128 : Int32) (hb hby d5_156) rfl ?_
                  refine own_icmp X0 hx (hb hby d5_159) (pc' := 164) (by decide) (by decide) (fun hc => ?_) (fun hc => ?_)
                  · have hc159 : (((xs.getD (ix + (2 : Int32)).toNatClampNeg 0) &&& (255 : Int32)) &&& (192 : Int32)) = (128 : Int32) := own_eq1 hc
                    clear hc
                    show own_R p e below s _ _ _ s₁ (mkF m 164 #[.val (.ref a1), .val (.int ix), .val (.int en), .val (.int ((xs.getD ix.toNatClampNeg 0) &&& (255 : Int32))), .val (.int (4 : Int32)), .val (.int (((((xs.getD ix.toNatClampNeg 0) &&& (255 : Int32)) &&& (7 : Int32)) <<< ((6 : Int32) &&& 31)) ||| (((xs.getD (ix + (1 : Int32)).toNatClampNeg 0) &&& (255 : Int32)) &&& (63 : Int32)))), .val (.int ((xs.getD (ix + (1 : Int32)).toNatClampNeg 0) &&& (255 : Int32))), .val (.int ((xs.getD (ix + (2 : Int32)).toNatClampNeg 0) &&& (255 : Int32)))] [])
                    refine own_iload X0 hx (hb hby d5_164) rfl ?_
                    refine own_bipush X0 hx (6 : Int32) (hb hby d5_166) rfl ?_
                    refine own_ishl X0 hx (hb hby d5_168) ?_
                    refine own_iload X0 hx (hb hby d5_169) rfl ?_
                    refine own_bipush X0 hx (63 : Int32) (hb hby d5_171) rfl ?_
                    refine own_iand X0 hx (hb hby d5_173) ?_
                    refine own_ior X0 hx (hb hby d5_174) ?_
                    refine own_istore X0 hx (hb hby d5_175) (l' := #[.val (.ref a1), .val (.int ix), .val (.int en), .val (.int ((xs.getD ix.toNatClampNeg 0) &&& (255 : Int32))), .val (.int (4 : Int32)), .val (.int (((((((xs.getD ix.toNatClampNeg 0) &&& (255 : Int32)) &&& (7 : Int32)) <<< ((6 : Int32) &&& 31)) ||| (((xs.getD (ix + (1 : Int32)).toNatClampNeg 0) &&& (255 : Int32)) &&& (63 : Int32))) <<< ((6 : Int32) &&& 31)) ||| (((xs.getD (ix + (2 : Int32)).toNatClampNeg 0) &&& (255 : Int32)) &&& (63 : Int32)))), .val (.int ((xs.getD (ix + (1 : Int32)).toNatClampNeg 0) &&& (255 : Int32))), .val (.int ((xs.getD (ix + (2 : Int32)).toNatClampNeg 0) &&& (255 : Int32)))]) rfl ?_
                    refine own_iload X0 hx (hb hby d5_177) rfl ?_
                    refine own_iconst X0 hx (4 : Int32) (hb hby d5_179) rfl ?_
                    refine own_icmp X0 hx (hb hby d5_180) (pc' := 221) (by decide) (by decide) (fun hc => ?_) (fun hc => ?_)
                    · have hc180 : ¬ (4 : Int32) = (4 : Int32) := own_ne1 hc
                      exact absurd (by decide) hc180
                    · have hc180 : (4 : Int32) = (4 : Int32) := own_ne0 hc
                      clear hc
                      show own_R p e below s _ _ _ s₁ (mkF m 183 #[.val (.ref a1), .val (.int ix), .val (.int en), .val (.int ((xs.getD ix.toNatClampNeg 0) &&& (255 : Int32))), .val (.int (4 : Int32)), .val (.int (((((((xs.getD ix.toNatClampNeg 0) &&& (255 : Int32)) &&& (7 : Int32)) <<< ((6 : Int32) &&& 31)) ||| (((xs.getD (ix + (1 : Int32)).toNatClampNeg 0) &&& (255 : Int32)) &&& (63 : Int32))) <<< ((6 : Int32) &&& 31)) ||| (((xs.getD (ix + (2 : Int32)).toNatClampNeg 0) &&& (255 : Int32)) &&& (63 : Int32)))), .val (.int ((xs.getD (ix + (1 : Int32)).toNatClampNeg 0) &&& (255 : Int32))), .val (.int ((xs.getD (ix + (2 : Int32)).toNatClampNeg 0) &&& (255 : Int32)))] [])
                      refine own_aloadN X0 hx (hb hby d5_183) rfl rfl ?_
                      refine own_iloadN X0 hx (hb hby d5_184) rfl ?_
                      refine own_iconst X0 hx (3 : Int32) (hb hby d5_185) rfl ?_
                      refine own_iadd X0 hx (hb hby d5_186) ?_
                      refine own_baload X0 hx hZ e0 hV (v := .int (xs.getD (ix + (3 : Int32)).toNatClampNeg 0)) (pl_at3 ix en (4 : Int32) h0' hlt h8 (by decide) hc90) (pl_gd _ _) (hb hby d5_187) ?_
                      show own_R p e below s _ _ _ s₁ (mkF m 188 #[.val (.ref a1), .val (.int ix), .val (.int en), .val (.int ((xs.getD ix.toNatClampNeg 0) &&& (255 : Int32))), .val (.int (4 : Int32)), .val (.int (((((((xs.getD ix.toNatClampNeg 0) &&& (255 : Int32)) &&& (7 : Int32)) <<< ((6 : Int32) &&& 31)) ||| (((xs.getD (ix + (1 : Int32)).toNatClampNeg 0) &&& (255 : Int32)) &&& (63 : Int32))) <<< ((6 : Int32) &&& 31)) ||| (((xs.getD (ix + (2 : Int32)).toNatClampNeg 0) &&& (255 : Int32)) &&& (63 : Int32)))), .val (.int ((xs.getD (ix + (1 : Int32)).toNatClampNeg 0) &&& (255 : Int32))), .val (.int ((xs.getD (ix + (2 : Int32)).toNatClampNeg 0) &&& (255 : Int32)))] [(.int (xs.getD (ix + (3 : Int32)).toNatClampNeg 0))])
                      refine own_sipush X0 hx (255 : Int32) (hb hby d5_188) rfl ?_
                      refine own_iand X0 hx (hb hby d5_191) ?_
                      refine own_istore X0 hx (hb hby d5_192) (l' := #[.val (.ref a1), .val (.int ix), .val (.int en), .val (.int ((xs.getD ix.toNatClampNeg 0) &&& (255 : Int32))), .val (.int (4 : Int32)), .val (.int (((((((xs.getD ix.toNatClampNeg 0) &&& (255 : Int32)) &&& (7 : Int32)) <<< ((6 : Int32) &&& 31)) ||| (((xs.getD (ix + (1 : Int32)).toNatClampNeg 0) &&& (255 : Int32)) &&& (63 : Int32))) <<< ((6 : Int32) &&& 31)) ||| (((xs.getD (ix + (2 : Int32)).toNatClampNeg 0) &&& (255 : Int32)) &&& (63 : Int32)))), .val (.int ((xs.getD (ix + (1 : Int32)).toNatClampNeg 0) &&& (255 : Int32))), .val (.int ((xs.getD (ix + (3 : Int32)).toNatClampNeg 0) &&& (255 : Int32)))]) rfl ?_
                      refine own_iload X0 hx (hb hby d5_194) rfl ?_
                      refine own_sipush X0 hx (192 : Int32) (hb hby d5_196) rfl ?_
                      refine own_iand X0 hx (hb hby d5_199) ?_
                      refine own_sipush X0 hx (128 : Int32) (hb hby d5_200) rfl ?_
                      refine own_icmp X0 hx (hb hby d5_203) (pc' := 208) (by decide) (by decide) (fun hc => ?_) (fun hc => ?_)
                      · have hc203 : (((xs.getD (ix + (3 : Int32)).toNatClampNeg 0) &&& (255 : Int32)) &&& (192 : Int32)) = (128 : Int32) := own_eq1 hc
                        clear hc
                        show own_R p e below s _ _ _ s₁ (mkF m 208 #[.val (.ref a1), .val (.int ix), .val (.int en), .val (.int ((xs.getD ix.toNatClampNeg 0) &&& (255 : Int32))), .val (.int (4 : Int32)), .val (.int (((((((xs.getD ix.toNatClampNeg 0) &&& (255 : Int32)) &&& (7 : Int32)) <<< ((6 : Int32) &&& 31)) ||| (((xs.getD (ix + (1 : Int32)).toNatClampNeg 0) &&& (255 : Int32)) &&& (63 : Int32))) <<< ((6 : Int32) &&& 31)) ||| (((xs.getD (ix + (2 : Int32)).toNatClampNeg 0) &&& (255 : Int32)) &&& (63 : Int32)))), .val (.int ((xs.getD (ix + (1 : Int32)).toNatClampNeg 0) &&& (255 : Int32))), .val (.int ((xs.getD (ix + (3 : Int32)).toNatClampNeg 0) &&& (255 : Int32)))] [])
                        refine own_iload X0 hx (hb hby d5_208) rfl ?_
                        refine own_bipush X0 hx (6 : Int32) (hb hby d5_210) rfl ?_
                        refine own_ishl X0 hx (hb hby d5_212) ?_
                        refine own_iload X0 hx (hb hby d5_213) rfl ?_
                        refine own_bipush X0 hx (63 : Int32) (hb hby d5_215) rfl ?_
                        refine own_iand X0 hx (hb hby d5_217) ?_
                        refine own_ior X0 hx (hb hby d5_218) ?_
                        refine own_istore X0 hx (hb hby d5_219) (l' := #[.val (.ref a1), .val (.int ix), .val (.int en), .val (.int ((xs.getD ix.toNatClampNeg 0) &&& (255 : Int32))), .val (.int (4 : Int32)), .val (.int (((((((((xs.getD ix.toNatClampNeg 0) &&& (255 : Int32)) &&& (7 : Int32)) <<< ((6 : Int32) &&& 31)) ||| (((xs.getD (ix + (1 : Int32)).toNatClampNeg 0) &&& (255 : Int32)) &&& (63 : Int32))) <<< ((6 : Int32) &&& 31)) ||| (((xs.getD (ix + (2 : Int32)).toNatClampNeg 0) &&& (255 : Int32)) &&& (63 : Int32))) <<< ((6 : Int32) &&& 31)) ||| (((xs.getD (ix + (3 : Int32)).toNatClampNeg 0) &&& (255 : Int32)) &&& (63 : Int32)))), .val (.int ((xs.getD (ix + (1 : Int32)).toNatClampNeg 0) &&& (255 : Int32))), .val (.int ((xs.getD (ix + (3 : Int32)).toNatClampNeg 0) &&& (255 : Int32)))]) rfl ?_
                        refine own_iload X0 hx (hb hby d5_221) rfl ?_
                        refine own_iconst X0 hx (2 : Int32) (hb hby d5_223) rfl ?_
                        refine own_icmp X0 hx (hb hby d5_224) (pc' := 233) (by decide) (by decide) (fun hc => ?_) (fun hc => ?_)
                        · have hc224 : ¬ (4 : Int32) = (2 : Int32) := own_ne1 hc
                          clear hc
                          show own_R p e below s _ _ _ s₁ (mkF m 233 #[.val (.ref a1), .val (.int ix), .val (.int en), .val (.int ((xs.getD ix.toNatClampNeg 0) &&& (255 : Int32))), .val (.int (4 : Int32)), .val (.int (((((((((xs.getD ix.toNatClampNeg 0) &&& (255 : Int32)) &&& (7 : Int32)) <<< ((6 : Int32) &&& 31)) ||| (((xs.getD (ix + (1 : Int32)).toNatClampNeg 0) &&& (255 : Int32)) &&& (63 : Int32))) <<< ((6 : Int32) &&& 31)) ||| (((xs.getD (ix + (2 : Int32)).toNatClampNeg 0) &&& (255 : Int32)) &&& (63 : Int32))) <<< ((6 : Int32) &&& 31)) ||| (((xs.getD (ix + (3 : Int32)).toNatClampNeg 0) &&& (255 : Int32)) &&& (63 : Int32)))), .val (.int ((xs.getD (ix + (1 : Int32)).toNatClampNeg 0) &&& (255 : Int32))), .val (.int ((xs.getD (ix + (3 : Int32)).toNatClampNeg 0) &&& (255 : Int32)))] [])
                          refine own_iload X0 hx (hb hby d5_233) rfl ?_
                          refine own_iconst X0 hx (3 : Int32) (hb hby d5_235) rfl ?_
                          refine own_icmp X0 hx (hb hby d5_236) (pc' := 245) (by decide) (by decide) (fun hc => ?_) (fun hc => ?_)
                          · have hc236 : ¬ (4 : Int32) = (3 : Int32) := own_ne1 hc
                            clear hc
                            show own_R p e below s _ _ _ s₁ (mkF m 245 #[.val (.ref a1), .val (.int ix), .val (.int en), .val (.int ((xs.getD ix.toNatClampNeg 0) &&& (255 : Int32))), .val (.int (4 : Int32)), .val (.int (((((((((xs.getD ix.toNatClampNeg 0) &&& (255 : Int32)) &&& (7 : Int32)) <<< ((6 : Int32) &&& 31)) ||| (((xs.getD (ix + (1 : Int32)).toNatClampNeg 0) &&& (255 : Int32)) &&& (63 : Int32))) <<< ((6 : Int32) &&& 31)) ||| (((xs.getD (ix + (2 : Int32)).toNatClampNeg 0) &&& (255 : Int32)) &&& (63 : Int32))) <<< ((6 : Int32) &&& 31)) ||| (((xs.getD (ix + (3 : Int32)).toNatClampNeg 0) &&& (255 : Int32)) &&& (63 : Int32)))), .val (.int ((xs.getD (ix + (1 : Int32)).toNatClampNeg 0) &&& (255 : Int32))), .val (.int ((xs.getD (ix + (3 : Int32)).toNatClampNeg 0) &&& (255 : Int32)))] [])
                            refine own_ldc X0 hx hZ hown (hw _ (List.mem_of_getElem? (i := 22) rfl)) (hb hby d5_245) ?_
                            refine own_istore X0 hx (hb hby d5_247) (l' := #[.val (.ref a1), .val (.int ix), .val (.int en), .val (.int ((xs.getD ix.toNatClampNeg 0) &&& (255 : Int32))), .val (.int (4 : Int32)), .val (.int (((((((((xs.getD ix.toNatClampNeg 0) &&& (255 : Int32)) &&& (7 : Int32)) <<< ((6 : Int32) &&& 31)) ||| (((xs.getD (ix + (1 : Int32)).toNatClampNeg 0) &&& (255 : Int32)) &&& (63 : Int32))) <<< ((6 : Int32) &&& 31)) ||| (((xs.getD (ix + (2 : Int32)).toNatClampNeg 0) &&& (255 : Int32)) &&& (63 : Int32))) <<< ((6 : Int32) &&& 31)) ||| (((xs.getD (ix + (3 : Int32)).toNatClampNeg 0) &&& (255 : Int32)) &&& (63 : Int32)))), .val (.int ((xs.getD (ix + (1 : Int32)).toNatClampNeg 0) &&& (255 : Int32))), .val (.int (65536 : Int32))]) rfl ?_
                            refine own_iload X0 hx (hb hby d5_249) rfl ?_
                            refine own_iload X0 hx (hb hby d5_251) rfl ?_
                            refine own_icmp X0 hx (hb hby d5_253) (pc' := 277) (by decide) (by decide) (fun hc => ?_) (fun hc => ?_)
                            · have hc253 : (((((((((xs.getD ix.toNatClampNeg 0) &&& (255 : Int32)) &&& (7 : Int32)) <<< ((6 : Int32) &&& 31)) ||| (((xs.getD (ix + (1 : Int32)).toNatClampNeg 0) &&& (255 : Int32)) &&& (63 : Int32))) <<< ((6 : Int32) &&& 31)) ||| (((xs.getD (ix + (2 : Int32)).toNatClampNeg 0) &&& (255 : Int32)) &&& (63 : Int32))) <<< ((6 : Int32) &&& 31)) ||| (((xs.getD (ix + (3 : Int32)).toNatClampNeg 0) &&& (255 : Int32)) &&& (63 : Int32))) < (65536 : Int32) := own_lt1 hc
                              clear hc
                              show own_R p e below s _ _ _ s₁ (mkF m 277 #[.val (.ref a1), .val (.int ix), .val (.int en), .val (.int ((xs.getD ix.toNatClampNeg 0) &&& (255 : Int32))), .val (.int (4 : Int32)), .val (.int (((((((((xs.getD ix.toNatClampNeg 0) &&& (255 : Int32)) &&& (7 : Int32)) <<< ((6 : Int32) &&& 31)) ||| (((xs.getD (ix + (1 : Int32)).toNatClampNeg 0) &&& (255 : Int32)) &&& (63 : Int32))) <<< ((6 : Int32) &&& 31)) ||| (((xs.getD (ix + (2 : Int32)).toNatClampNeg 0) &&& (255 : Int32)) &&& (63 : Int32))) <<< ((6 : Int32) &&& 31)) ||| (((xs.getD (ix + (3 : Int32)).toNatClampNeg 0) &&& (255 : Int32)) &&& (63 : Int32)))), .val (.int ((xs.getD (ix + (1 : Int32)).toNatClampNeg 0) &&& (255 : Int32))), .val (.int (65536 : Int32))] [])
                              refine own_iconst X0 hx (0 : Int32) (hb hby d5_277) rfl ?_
                              refine own_retI X0 hx Bd.returns hlk (hb hby d5_278) ?_ (by decide) (by decide)
                              refine ⟨?_, N0, e0⟩
                              show some (Value.int _) = some (Value.int (pl_wf ((xs.getD ix.toNatClampNeg 0) &&& (255 : Int32)) ((xs.getD (ix + (1 : Int32)).toNatClampNeg 0) &&& (255 : Int32)) ((xs.getD (ix + (2 : Int32)).toNatClampNeg 0) &&& (255 : Int32)) ((xs.getD (ix + (3 : Int32)).toNatClampNeg 0) &&& (255 : Int32)) (en - ix)))
                              rw [pl_wf, if_neg hc12, if_neg hc21, if_neg hc30, if_neg hc49, if_pos hc68, if_neg hc90, if_pos hc115, if_pos hc159, if_pos hc203, if_pos hc253] <;> first | rfl | decide
                            · have hc253 : ¬ (((((((((xs.getD ix.toNatClampNeg 0) &&& (255 : Int32)) &&& (7 : Int32)) <<< ((6 : Int32) &&& 31)) ||| (((xs.getD (ix + (1 : Int32)).toNatClampNeg 0) &&& (255 : Int32)) &&& (63 : Int32))) <<< ((6 : Int32) &&& 31)) ||| (((xs.getD (ix + (2 : Int32)).toNatClampNeg 0) &&& (255 : Int32)) &&& (63 : Int32))) <<< ((6 : Int32) &&& 31)) ||| (((xs.getD (ix + (3 : Int32)).toNatClampNeg 0) &&& (255 : Int32)) &&& (63 : Int32))) < (65536 : Int32) := own_lt0 hc
                              clear hc
                              show own_R p e below s _ _ _ s₁ (mkF m 256 #[.val (.ref a1), .val (.int ix), .val (.int en), .val (.int ((xs.getD ix.toNatClampNeg 0) &&& (255 : Int32))), .val (.int (4 : Int32)), .val (.int (((((((((xs.getD ix.toNatClampNeg 0) &&& (255 : Int32)) &&& (7 : Int32)) <<< ((6 : Int32) &&& 31)) ||| (((xs.getD (ix + (1 : Int32)).toNatClampNeg 0) &&& (255 : Int32)) &&& (63 : Int32))) <<< ((6 : Int32) &&& 31)) ||| (((xs.getD (ix + (2 : Int32)).toNatClampNeg 0) &&& (255 : Int32)) &&& (63 : Int32))) <<< ((6 : Int32) &&& 31)) ||| (((xs.getD (ix + (3 : Int32)).toNatClampNeg 0) &&& (255 : Int32)) &&& (63 : Int32)))), .val (.int ((xs.getD (ix + (1 : Int32)).toNatClampNeg 0) &&& (255 : Int32))), .val (.int (65536 : Int32))] [])
                              refine own_iload X0 hx (hb hby d5_256) rfl ?_
                              refine own_ldc X0 hx hZ hown (hw _ (List.mem_of_getElem? (i := 19) rfl)) (hb hby d5_258) ?_
                              refine own_icmp X0 hx (hb hby d5_260) (pc' := 277) (by decide) (by decide) (fun hc => ?_) (fun hc => ?_)
                              · have hc260 : (1114111 : Int32) < (((((((((xs.getD ix.toNatClampNeg 0) &&& (255 : Int32)) &&& (7 : Int32)) <<< ((6 : Int32) &&& 31)) ||| (((xs.getD (ix + (1 : Int32)).toNatClampNeg 0) &&& (255 : Int32)) &&& (63 : Int32))) <<< ((6 : Int32) &&& 31)) ||| (((xs.getD (ix + (2 : Int32)).toNatClampNeg 0) &&& (255 : Int32)) &&& (63 : Int32))) <<< ((6 : Int32) &&& 31)) ||| (((xs.getD (ix + (3 : Int32)).toNatClampNeg 0) &&& (255 : Int32)) &&& (63 : Int32))) := own_gt1 hc
                                clear hc
                                show own_R p e below s _ _ _ s₁ (mkF m 277 #[.val (.ref a1), .val (.int ix), .val (.int en), .val (.int ((xs.getD ix.toNatClampNeg 0) &&& (255 : Int32))), .val (.int (4 : Int32)), .val (.int (((((((((xs.getD ix.toNatClampNeg 0) &&& (255 : Int32)) &&& (7 : Int32)) <<< ((6 : Int32) &&& 31)) ||| (((xs.getD (ix + (1 : Int32)).toNatClampNeg 0) &&& (255 : Int32)) &&& (63 : Int32))) <<< ((6 : Int32) &&& 31)) ||| (((xs.getD (ix + (2 : Int32)).toNatClampNeg 0) &&& (255 : Int32)) &&& (63 : Int32))) <<< ((6 : Int32) &&& 31)) ||| (((xs.getD (ix + (3 : Int32)).toNatClampNeg 0) &&& (255 : Int32)) &&& (63 : Int32)))), .val (.int ((xs.getD (ix + (1 : Int32)).toNatClampNeg 0) &&& (255 : Int32))), .val (.int (65536 : Int32))] [])
                                refine own_iconst X0 hx (0 : Int32) (hb hby d5_277) rfl ?_
                                refine own_retI X0 hx Bd.returns hlk (hb hby d5_278) ?_ (by decide) (by decide)
                                refine ⟨?_, N0, e0⟩
                                show some (Value.int _) = some (Value.int (pl_wf ((xs.getD ix.toNatClampNeg 0) &&& (255 : Int32)) ((xs.getD (ix + (1 : Int32)).toNatClampNeg 0) &&& (255 : Int32)) ((xs.getD (ix + (2 : Int32)).toNatClampNeg 0) &&& (255 : Int32)) ((xs.getD (ix + (3 : Int32)).toNatClampNeg 0) &&& (255 : Int32)) (en - ix)))
                                rw [pl_wf, if_neg hc12, if_neg hc21, if_neg hc30, if_neg hc49, if_pos hc68, if_neg hc90, if_pos hc115, if_pos hc159, if_pos hc203, if_neg hc253, if_pos hc260] <;> first | rfl | decide
                              · have hc260 : ¬ (1114111 : Int32) < (((((((((xs.getD ix.toNatClampNeg 0) &&& (255 : Int32)) &&& (7 : Int32)) <<< ((6 : Int32) &&& 31)) ||| (((xs.getD (ix + (1 : Int32)).toNatClampNeg 0) &&& (255 : Int32)) &&& (63 : Int32))) <<< ((6 : Int32) &&& 31)) ||| (((xs.getD (ix + (2 : Int32)).toNatClampNeg 0) &&& (255 : Int32)) &&& (63 : Int32))) <<< ((6 : Int32) &&& 31)) ||| (((xs.getD (ix + (3 : Int32)).toNatClampNeg 0) &&& (255 : Int32)) &&& (63 : Int32))) := own_gt0 hc
                                clear hc
                                show own_R p e below s _ _ _ s₁ (mkF m 263 #[.val (.ref a1), .val (.int ix), .val (.int en), .val (.int ((xs.getD ix.toNatClampNeg 0) &&& (255 : Int32))), .val (.int (4 : Int32)), .val (.int (((((((((xs.getD ix.toNatClampNeg 0) &&& (255 : Int32)) &&& (7 : Int32)) <<< ((6 : Int32) &&& 31)) ||| (((xs.getD (ix + (1 : Int32)).toNatClampNeg 0) &&& (255 : Int32)) &&& (63 : Int32))) <<< ((6 : Int32) &&& 31)) ||| (((xs.getD (ix + (2 : Int32)).toNatClampNeg 0) &&& (255 : Int32)) &&& (63 : Int32))) <<< ((6 : Int32) &&& 31)) ||| (((xs.getD (ix + (3 : Int32)).toNatClampNeg 0) &&& (255 : Int32)) &&& (63 : Int32)))), .val (.int ((xs.getD (ix + (1 : Int32)).toNatClampNeg 0) &&& (255 : Int32))), .val (.int (65536 : Int32))] [])
                                refine own_iload X0 hx (hb hby d5_263) rfl ?_
                                refine own_ldc X0 hx hZ hown (hw _ (List.mem_of_getElem? (i := 20) rfl)) (hb hby d5_265) ?_
                                refine own_icmp X0 hx (hb hby d5_267) (pc' := 279) (by decide) (by decide) (fun hc => ?_) (fun hc => ?_)
                                · have hc267 : (((((((((xs.getD ix.toNatClampNeg 0) &&& (255 : Int32)) &&& (7 : Int32)) <<< ((6 : Int32) &&& 31)) ||| (((xs.getD (ix + (1 : Int32)).toNatClampNeg 0) &&& (255 : Int32)) &&& (63 : Int32))) <<< ((6 : Int32) &&& 31)) ||| (((xs.getD (ix + (2 : Int32)).toNatClampNeg 0) &&& (255 : Int32)) &&& (63 : Int32))) <<< ((6 : Int32) &&& 31)) ||| (((xs.getD (ix + (3 : Int32)).toNatClampNeg 0) &&& (255 : Int32)) &&& (63 : Int32))) < (55296 : Int32) := own_lt1 hc
                                  clear hc
                                  show own_R p e below s _ _ _ s₁ (mkF m 279 #[.val (.ref a1), .val (.int ix), .val (.int en), .val (.int ((xs.getD ix.toNatClampNeg 0) &&& (255 : Int32))), .val (.int (4 : Int32)), .val (.int (((((((((xs.getD ix.toNatClampNeg 0) &&& (255 : Int32)) &&& (7 : Int32)) <<< ((6 : Int32) &&& 31)) ||| (((xs.getD (ix + (1 : Int32)).toNatClampNeg 0) &&& (255 : Int32)) &&& (63 : Int32))) <<< ((6 : Int32) &&& 31)) ||| (((xs.getD (ix + (2 : Int32)).toNatClampNeg 0) &&& (255 : Int32)) &&& (63 : Int32))) <<< ((6 : Int32) &&& 31)) ||| (((xs.getD (ix + (3 : Int32)).toNatClampNeg 0) &&& (255 : Int32)) &&& (63 : Int32)))), .val (.int ((xs.getD (ix + (1 : Int32)).toNatClampNeg 0) &&& (255 : Int32))), .val (.int (65536 : Int32))] [])
                                  refine own_iload X0 hx (hb hby d5_279) rfl ?_
                                  refine own_retI X0 hx Bd.returns hlk (hb hby d5_281) ?_ (by decide) (by decide)
                                  refine ⟨?_, N0, e0⟩
                                  show some (Value.int _) = some (Value.int (pl_wf ((xs.getD ix.toNatClampNeg 0) &&& (255 : Int32)) ((xs.getD (ix + (1 : Int32)).toNatClampNeg 0) &&& (255 : Int32)) ((xs.getD (ix + (2 : Int32)).toNatClampNeg 0) &&& (255 : Int32)) ((xs.getD (ix + (3 : Int32)).toNatClampNeg 0) &&& (255 : Int32)) (en - ix)))
                                  rw [pl_wf, if_neg hc12, if_neg hc21, if_neg hc30, if_neg hc49, if_pos hc68, if_neg hc90, if_pos hc115, if_pos hc159, if_pos hc203, if_neg hc253, if_neg hc260, if_pos hc267] <;> first | rfl | decide
                                · have hc267 : ¬ (((((((((xs.getD ix.toNatClampNeg 0) &&& (255 : Int32)) &&& (7 : Int32)) <<< ((6 : Int32) &&& 31)) ||| (((xs.getD (ix + (1 : Int32)).toNatClampNeg 0) &&& (255 : Int32)) &&& (63 : Int32))) <<< ((6 : Int32) &&& 31)) ||| (((xs.getD (ix + (2 : Int32)).toNatClampNeg 0) &&& (255 : Int32)) &&& (63 : Int32))) <<< ((6 : Int32) &&& 31)) ||| (((xs.getD (ix + (3 : Int32)).toNatClampNeg 0) &&& (255 : Int32)) &&& (63 : Int32))) < (55296 : Int32) := own_lt0 hc
                                  clear hc
                                  show own_R p e below s _ _ _ s₁ (mkF m 270 #[.val (.ref a1), .val (.int ix), .val (.int en), .val (.int ((xs.getD ix.toNatClampNeg 0) &&& (255 : Int32))), .val (.int (4 : Int32)), .val (.int (((((((((xs.getD ix.toNatClampNeg 0) &&& (255 : Int32)) &&& (7 : Int32)) <<< ((6 : Int32) &&& 31)) ||| (((xs.getD (ix + (1 : Int32)).toNatClampNeg 0) &&& (255 : Int32)) &&& (63 : Int32))) <<< ((6 : Int32) &&& 31)) ||| (((xs.getD (ix + (2 : Int32)).toNatClampNeg 0) &&& (255 : Int32)) &&& (63 : Int32))) <<< ((6 : Int32) &&& 31)) ||| (((xs.getD (ix + (3 : Int32)).toNatClampNeg 0) &&& (255 : Int32)) &&& (63 : Int32)))), .val (.int ((xs.getD (ix + (1 : Int32)).toNatClampNeg 0) &&& (255 : Int32))), .val (.int (65536 : Int32))] [])
                                  refine own_iload X0 hx (hb hby d5_270) rfl ?_
                                  refine own_ldc X0 hx hZ hown (hw _ (List.mem_of_getElem? (i := 21) rfl)) (hb hby d5_272) ?_
                                  refine own_icmp X0 hx (hb hby d5_274) (pc' := 279) (by decide) (by decide) (fun hc => ?_) (fun hc => ?_)
                                  · have hc274 : (57343 : Int32) < (((((((((xs.getD ix.toNatClampNeg 0) &&& (255 : Int32)) &&& (7 : Int32)) <<< ((6 : Int32) &&& 31)) ||| (((xs.getD (ix + (1 : Int32)).toNatClampNeg 0) &&& (255 : Int32)) &&& (63 : Int32))) <<< ((6 : Int32) &&& 31)) ||| (((xs.getD (ix + (2 : Int32)).toNatClampNeg 0) &&& (255 : Int32)) &&& (63 : Int32))) <<< ((6 : Int32) &&& 31)) ||| (((xs.getD (ix + (3 : Int32)).toNatClampNeg 0) &&& (255 : Int32)) &&& (63 : Int32))) := own_gt1 hc
                                    clear hc
                                    show own_R p e below s _ _ _ s₁ (mkF m 279 #[.val (.ref a1), .val (.int ix), .val (.int en), .val (.int ((xs.getD ix.toNatClampNeg 0) &&& (255 : Int32))), .val (.int (4 : Int32)), .val (.int (((((((((xs.getD ix.toNatClampNeg 0) &&& (255 : Int32)) &&& (7 : Int32)) <<< ((6 : Int32) &&& 31)) ||| (((xs.getD (ix + (1 : Int32)).toNatClampNeg 0) &&& (255 : Int32)) &&& (63 : Int32))) <<< ((6 : Int32) &&& 31)) ||| (((xs.getD (ix + (2 : Int32)).toNatClampNeg 0) &&& (255 : Int32)) &&& (63 : Int32))) <<< ((6 : Int32) &&& 31)) ||| (((xs.getD (ix + (3 : Int32)).toNatClampNeg 0) &&& (255 : Int32)) &&& (63 : Int32)))), .val (.int ((xs.getD (ix + (1 : Int32)).toNatClampNeg 0) &&& (255 : Int32))), .val (.int (65536 : Int32))] [])
                                    refine own_iload X0 hx (hb hby d5_279) rfl ?_
                                    refine own_retI X0 hx Bd.returns hlk (hb hby d5_281) ?_ (by decide) (by decide)
                                    refine ⟨?_, N0, e0⟩
                                    show some (Value.int _) = some (Value.int (pl_wf ((xs.getD ix.toNatClampNeg 0) &&& (255 : Int32)) ((xs.getD (ix + (1 : Int32)).toNatClampNeg 0) &&& (255 : Int32)) ((xs.getD (ix + (2 : Int32)).toNatClampNeg 0) &&& (255 : Int32)) ((xs.getD (ix + (3 : Int32)).toNatClampNeg 0) &&& (255 : Int32)) (en - ix)))
                                    rw [pl_wf, if_neg hc12, if_neg hc21, if_neg hc30, if_neg hc49, if_pos hc68, if_neg hc90, if_pos hc115, if_pos hc159, if_pos hc203, if_neg hc253, if_neg hc260, if_neg hc267, if_pos hc274] <;> first | rfl | decide
                                  · have hc274 : ¬ (57343 : Int32) < (((((((((xs.getD ix.toNatClampNeg 0) &&& (255 : Int32)) &&& (7 : Int32)) <<< ((6 : Int32) &&& 31)) ||| (((xs.getD (ix + (1 : Int32)).toNatClampNeg 0) &&& (255 : Int32)) &&& (63 : Int32))) <<< ((6 : Int32) &&& 31)) ||| (((xs.getD (ix + (2 : Int32)).toNatClampNeg 0) &&& (255 : Int32)) &&& (63 : Int32))) <<< ((6 : Int32) &&& 31)) ||| (((xs.getD (ix + (3 : Int32)).toNatClampNeg 0) &&& (255 : Int32)) &&& (63 : Int32))) := own_gt0 hc
                                    clear hc
                                    show own_R p e below s _ _ _ s₁ (mkF m 277 #[.val (.ref a1), .val (.int ix), .val (.int en), .val (.int ((xs.getD ix.toNatClampNeg 0) &&& (255 : Int32))), .val (.int (4 : Int32)), .val (.int (((((((((xs.getD ix.toNatClampNeg 0) &&& (255 : Int32)) &&& (7 : Int32)) <<< ((6 : Int32) &&& 31)) ||| (((xs.getD (ix + (1 : Int32)).toNatClampNeg 0) &&& (255 : Int32)) &&& (63 : Int32))) <<< ((6 : Int32) &&& 31)) ||| (((xs.getD (ix + (2 : Int32)).toNatClampNeg 0) &&& (255 : Int32)) &&& (63 : Int32))) <<< ((6 : Int32) &&& 31)) ||| (((xs.getD (ix + (3 : Int32)).toNatClampNeg 0) &&& (255 : Int32)) &&& (63 : Int32)))), .val (.int ((xs.getD (ix + (1 : Int32)).toNatClampNeg 0) &&& (255 : Int32))), .val (.int (65536 : Int32))] [])
                                    refine own_iconst X0 hx (0 : Int32) (hb hby d5_277) rfl ?_
                                    refine own_retI X0 hx Bd.returns hlk (hb hby d5_278) ?_ (by decide) (by decide)
                                    refine ⟨?_, N0, e0⟩
                                    show some (Value.int _) = some (Value.int (pl_wf ((xs.getD ix.toNatClampNeg 0) &&& (255 : Int32)) ((xs.getD (ix + (1 : Int32)).toNatClampNeg 0) &&& (255 : Int32)) ((xs.getD (ix + (2 : Int32)).toNatClampNeg 0) &&& (255 : Int32)) ((xs.getD (ix + (3 : Int32)).toNatClampNeg 0) &&& (255 : Int32)) (en - ix)))
                                    rw [pl_wf, if_neg hc12, if_neg hc21, if_neg hc30, if_neg hc49, if_pos hc68, if_neg hc90, if_pos hc115, if_pos hc159, if_pos hc203, if_neg hc253, if_neg hc260, if_neg hc267, if_neg hc274] <;> first | rfl | decide
                          · have hc236 : (4 : Int32) = (3 : Int32) := own_ne0 hc
                            exact absurd hc236 (by decide)
                        · have hc224 : (4 : Int32) = (2 : Int32) := own_ne0 hc
                          exact absurd hc224 (by decide)
                      · have hc203 : ¬ (((xs.getD (ix + (3 : Int32)).toNatClampNeg 0) &&& (255 : Int32)) &&& (192 : Int32)) = (128 : Int32) := own_eq0 hc
                        clear hc
                        show own_R p e below s _ _ _ s₁ (mkF m 206 #[.val (.ref a1), .val (.int ix), .val (.int en), .val (.int ((xs.getD ix.toNatClampNeg 0) &&& (255 : Int32))), .val (.int (4 : Int32)), .val (.int (((((((xs.getD ix.toNatClampNeg 0) &&& (255 : Int32)) &&& (7 : Int32)) <<< ((6 : Int32) &&& 31)) ||| (((xs.getD (ix + (1 : Int32)).toNatClampNeg 0) &&& (255 : Int32)) &&& (63 : Int32))) <<< ((6 : Int32) &&& 31)) ||| (((xs.getD (ix + (2 : Int32)).toNatClampNeg 0) &&& (255 : Int32)) &&& (63 : Int32)))), .val (.int ((xs.getD (ix + (1 : Int32)).toNatClampNeg 0) &&& (255 : Int32))), .val (.int ((xs.getD (ix + (3 : Int32)).toNatClampNeg 0) &&& (255 : Int32)))] [])
                        refine own_iconst X0 hx (0 : Int32) (hb hby d5_206) rfl ?_
                        refine own_retI X0 hx Bd.returns hlk (hb hby d5_207) ?_ (by decide) (by decide)
                        refine ⟨?_, N0, e0⟩
                        show some (Value.int _) = some (Value.int (pl_wf ((xs.getD ix.toNatClampNeg 0) &&& (255 : Int32)) ((xs.getD (ix + (1 : Int32)).toNatClampNeg 0) &&& (255 : Int32)) ((xs.getD (ix + (2 : Int32)).toNatClampNeg 0) &&& (255 : Int32)) ((xs.getD (ix + (3 : Int32)).toNatClampNeg 0) &&& (255 : Int32)) (en - ix)))
                        rw [pl_wf, if_neg hc12, if_neg hc21, if_neg hc30, if_neg hc49, if_pos hc68, if_neg hc90, if_pos hc115, if_pos hc159, if_neg hc203] <;> first | rfl | decide
                  · have hc159 : ¬ (((xs.getD (ix + (2 : Int32)).toNatClampNeg 0) &&& (255 : Int32)) &&& (192 : Int32)) = (128 : Int32) := own_eq0 hc
                    clear hc
                    show own_R p e below s _ _ _ s₁ (mkF m 162 #[.val (.ref a1), .val (.int ix), .val (.int en), .val (.int ((xs.getD ix.toNatClampNeg 0) &&& (255 : Int32))), .val (.int (4 : Int32)), .val (.int (((((xs.getD ix.toNatClampNeg 0) &&& (255 : Int32)) &&& (7 : Int32)) <<< ((6 : Int32) &&& 31)) ||| (((xs.getD (ix + (1 : Int32)).toNatClampNeg 0) &&& (255 : Int32)) &&& (63 : Int32)))), .val (.int ((xs.getD (ix + (1 : Int32)).toNatClampNeg 0) &&& (255 : Int32))), .val (.int ((xs.getD (ix + (2 : Int32)).toNatClampNeg 0) &&& (255 : Int32)))] [])
                    refine own_iconst X0 hx (0 : Int32) (hb hby d5_162) rfl ?_
                    refine own_retI X0 hx Bd.returns hlk (hb hby d5_163) ?_ (by decide) (by decide)
                    refine ⟨?_, N0, e0⟩
                    show some (Value.int _) = some (Value.int (pl_wf ((xs.getD ix.toNatClampNeg 0) &&& (255 : Int32)) ((xs.getD (ix + (1 : Int32)).toNatClampNeg 0) &&& (255 : Int32)) ((xs.getD (ix + (2 : Int32)).toNatClampNeg 0) &&& (255 : Int32)) ((xs.getD (ix + (3 : Int32)).toNatClampNeg 0) &&& (255 : Int32)) (en - ix)))
                    rw [pl_wf, if_neg hc12, if_neg hc21, if_neg hc30, if_neg hc49, if_pos hc68, if_neg hc90, if_pos hc115, if_neg hc159] <;> first | rfl | decide
              · have hc115 : ¬ (((xs.getD (ix + (1 : Int32)).toNatClampNeg 0) &&& (255 : Int32)) &&& (192 : Int32)) = (128 : Int32) := own_eq0 hc
                clear hc
                show own_R p e below s _ _ _ s₁ (mkF m 118 #[.val (.ref a1), .val (.int ix), .val (.int en), .val (.int ((xs.getD ix.toNatClampNeg 0) &&& (255 : Int32))), .val (.int (4 : Int32)), .val (.int (((xs.getD ix.toNatClampNeg 0) &&& (255 : Int32)) &&& (7 : Int32))), .val (.int ((xs.getD (ix + (1 : Int32)).toNatClampNeg 0) &&& (255 : Int32))), .unset] [])
                refine own_iconst X0 hx (0 : Int32) (hb hby d5_118) rfl ?_
                refine own_retI X0 hx Bd.returns hlk (hb hby d5_119) ?_ (by decide) (by decide)
                refine ⟨?_, N0, e0⟩
                show some (Value.int _) = some (Value.int (pl_wf ((xs.getD ix.toNatClampNeg 0) &&& (255 : Int32)) ((xs.getD (ix + (1 : Int32)).toNatClampNeg 0) &&& (255 : Int32)) ((xs.getD (ix + (2 : Int32)).toNatClampNeg 0) &&& (255 : Int32)) ((xs.getD (ix + (3 : Int32)).toNatClampNeg 0) &&& (255 : Int32)) (en - ix)))
                rw [pl_wf, if_neg hc12, if_neg hc21, if_neg hc30, if_neg hc49, if_pos hc68, if_neg hc90, if_neg hc115] <;> first | rfl | decide
            · have hc90 : (en - ix) < (4 : Int32) := own_ge0 hc
              clear hc
              show own_R p e below s _ _ _ s₁ (mkF m 93 #[.val (.ref a1), .val (.int ix), .val (.int en), .val (.int ((xs.getD ix.toNatClampNeg 0) &&& (255 : Int32))), .val (.int (4 : Int32)), .val (.int (((xs.getD ix.toNatClampNeg 0) &&& (255 : Int32)) &&& (7 : Int32))), .unset, .unset] [])
              refine own_iconst X0 hx (0 : Int32) (hb hby d5_93) rfl ?_
              refine own_retI X0 hx Bd.returns hlk (hb hby d5_94) ?_ (by decide) (by decide)
              refine ⟨?_, N0, e0⟩
              show some (Value.int _) = some (Value.int (pl_wf ((xs.getD ix.toNatClampNeg 0) &&& (255 : Int32)) ((xs.getD (ix + (1 : Int32)).toNatClampNeg 0) &&& (255 : Int32)) ((xs.getD (ix + (2 : Int32)).toNatClampNeg 0) &&& (255 : Int32)) ((xs.getD (ix + (3 : Int32)).toNatClampNeg 0) &&& (255 : Int32)) (en - ix)))
              rw [pl_wf, if_neg hc12, if_neg hc21, if_neg hc30, if_neg hc49, if_pos hc68, if_pos hc90] <;> first | rfl | decide
        · have hc49 : ((xs.getD ix.toNatClampNeg 0) &&& (255 : Int32)) < (240 : Int32) := own_ge0 hc
          clear hc
          show own_R p e below s _ _ _ s₁ (mkF m 52 #[.val (.ref a1), .val (.int ix), .val (.int en), .val (.int ((xs.getD ix.toNatClampNeg 0) &&& (255 : Int32))), .unset, .unset, .unset, .unset] [])
          refine own_iconst X0 hx (3 : Int32) (hb hby d5_52) rfl ?_
          refine own_istore X0 hx (hb hby d5_53) (l' := #[.val (.ref a1), .val (.int ix), .val (.int en), .val (.int ((xs.getD ix.toNatClampNeg 0) &&& (255 : Int32))), .val (.int (3 : Int32)), .unset, .unset, .unset]) rfl ?_
          refine own_iloadN X0 hx (hb hby d5_55) rfl ?_
          refine own_bipush X0 hx (15 : Int32) (hb hby d5_56) rfl ?_
          refine own_iand X0 hx (hb hby d5_58) ?_
          refine own_istore X0 hx (hb hby d5_59) (l' := #[.val (.ref a1), .val (.int ix), .val (.int en), .val (.int ((xs.getD ix.toNatClampNeg 0) &&& (255 : Int32))), .val (.int (3 : Int32)), .val (.int (((xs.getD ix.toNatClampNeg 0) &&& (255 : Int32)) &&& (15 : Int32))), .unset, .unset]) rfl ?_
          refine own_goto X0 hx (hb hby d5_61) (pc' := 85) (by decide) (by decide) ?_
          show own_R p e below s _ _ _ s₁ (mkF m 85 #[.val (.ref a1), .val (.int ix), .val (.int en), .val (.int ((xs.getD ix.toNatClampNeg 0) &&& (255 : Int32))), .val (.int (3 : Int32)), .val (.int (((xs.getD ix.toNatClampNeg 0) &&& (255 : Int32)) &&& (15 : Int32))), .unset, .unset] [])
          refine own_iloadN X0 hx (hb hby d5_85) rfl ?_
          refine own_iloadN X0 hx (hb hby d5_86) rfl ?_
          refine own_isub X0 hx (hb hby d5_87) ?_
          refine own_iload X0 hx (hb hby d5_88) rfl ?_
          refine own_icmp X0 hx (hb hby d5_90) (pc' := 95) (by decide) (by decide) (fun hc => ?_) (fun hc => ?_)
          · have hc90 : ¬ (en - ix) < (3 : Int32) := own_ge1 hc
            clear hc
            show own_R p e below s _ _ _ s₁ (mkF m 95 #[.val (.ref a1), .val (.int ix), .val (.int en), .val (.int ((xs.getD ix.toNatClampNeg 0) &&& (255 : Int32))), .val (.int (3 : Int32)), .val (.int (((xs.getD ix.toNatClampNeg 0) &&& (255 : Int32)) &&& (15 : Int32))), .unset, .unset] [])
            refine own_aloadN X0 hx (hb hby d5_95) rfl rfl ?_
            refine own_iloadN X0 hx (hb hby d5_96) rfl ?_
            refine own_iconst X0 hx (1 : Int32) (hb hby d5_97) rfl ?_
            refine own_iadd X0 hx (hb hby d5_98) ?_
            refine own_baload X0 hx hZ e0 hV (v := .int (xs.getD (ix + (1 : Int32)).toNatClampNeg 0)) (pl_at1 ix en (3 : Int32) h0' hlt h8 (by decide) hc90) (pl_gd _ _) (hb hby d5_99) ?_
            show own_R p e below s _ _ _ s₁ (mkF m 100 #[.val (.ref a1), .val (.int ix), .val (.int en), .val (.int ((xs.getD ix.toNatClampNeg 0) &&& (255 : Int32))), .val (.int (3 : Int32)), .val (.int (((xs.getD ix.toNatClampNeg 0) &&& (255 : Int32)) &&& (15 : Int32))), .unset, .unset] [(.int (xs.getD (ix + (1 : Int32)).toNatClampNeg 0))])
            refine own_sipush X0 hx (255 : Int32) (hb hby d5_100) rfl ?_
            refine own_iand X0 hx (hb hby d5_103) ?_
            refine own_istore X0 hx (hb hby d5_104) (l' := #[.val (.ref a1), .val (.int ix), .val (.int en), .val (.int ((xs.getD ix.toNatClampNeg 0) &&& (255 : Int32))), .val (.int (3 : Int32)), .val (.int (((xs.getD ix.toNatClampNeg 0) &&& (255 : Int32)) &&& (15 : Int32))), .val (.int ((xs.getD (ix + (1 : Int32)).toNatClampNeg 0) &&& (255 : Int32))), .unset]) rfl ?_
            refine own_iload X0 hx (hb hby d5_106) rfl ?_
            refine own_sipush X0 hx (192 : Int32) (hb hby d5_108) rfl ?_
            refine own_iand X0 hx (hb hby d5_111) ?_
            refine own_sipush X0 hx (128 : Int32) (hb hby d5_112) rfl ?_
            refine own_icmp X0 hx (hb hby d5_115) (pc' := 120) (by decide) (by decide) (fun hc => ?_) (fun hc => ?_)
            · have hc115 : (((xs.getD (ix + (1 : Int32)).toNatClampNeg 0) &&& (255 : Int32)) &&& (192 : Int32)) = (128 : Int32) := own_eq1 hc
              clear hc
              show own_R p e below s _ _ _ s₁ (mkF m 120 #[.val (.ref a1), .val (.int ix), .val (.int en), .val (.int ((xs.getD ix.toNatClampNeg 0) &&& (255 : Int32))), .val (.int (3 : Int32)), .val (.int (((xs.getD ix.toNatClampNeg 0) &&& (255 : Int32)) &&& (15 : Int32))), .val (.int ((xs.getD (ix + (1 : Int32)).toNatClampNeg 0) &&& (255 : Int32))), .unset] [])
              refine own_iload X0 hx (hb hby d5_120) rfl ?_
              refine own_bipush X0 hx (6 : Int32) (hb hby d5_122) rfl ?_
              refine own_ishl X0 hx (hb hby d5_124) ?_
              refine own_iload X0 hx (hb hby d5_125) rfl ?_
              refine own_bipush X0 hx (63 : Int32) (hb hby d5_127) rfl ?_
              refine own_iand X0 hx (hb hby d5_129) ?_
              refine own_ior X0 hx (hb hby d5_130) ?_
              refine own_istore X0 hx (hb hby d5_131) (l' := #[.val (.ref a1), .val (.int ix), .val (.int en), .val (.int ((xs.getD ix.toNatClampNeg 0) &&& (255 : Int32))), .val (.int (3 : Int32)), .val (.int (((((xs.getD ix.toNatClampNeg 0) &&& (255 : Int32)) &&& (15 : Int32)) <<< ((6 : Int32) &&& 31)) ||| (((xs.getD (ix + (1 : Int32)).toNatClampNeg 0) &&& (255 : Int32)) &&& (63 : Int32)))), .val (.int ((xs.getD (ix + (1 : Int32)).toNatClampNeg 0) &&& (255 : Int32))), .unset]) rfl ?_
              refine own_iload X0 hx (hb hby d5_133) rfl ?_
              refine own_iconst X0 hx (3 : Int32) (hb hby d5_135) rfl ?_
              refine own_icmp X0 hx (hb hby d5_136) (pc' := 177) (by decide) (by decide) (fun hc => ?_) (fun hc => ?_)
              · have hc136 : (3 : Int32) < (3 : Int32) := own_lt1 hc
                exact absurd hc136 (by decide)
              · have hc136 : ¬ (3 : Int32) < (3 : Int32) := own_lt0 hc
                clear hc
                show own_R p e below s _ _ _ s₁ (mkF m 139 #[.val (.ref a1), .val (.int ix), .val (.int en), .val (.int ((xs.getD ix.toNatClampNeg 0) &&& (255 : Int32))), .val (.int (3 : Int32)), .val (.int (((((xs.getD ix.toNatClampNeg 0) &&& (255 : Int32)) &&& (15 : Int32)) <<< ((6 : Int32) &&& 31)) ||| (((xs.getD (ix + (1 : Int32)).toNatClampNeg 0) &&& (255 : Int32)) &&& (63 : Int32)))), .val (.int ((xs.getD (ix + (1 : Int32)).toNatClampNeg 0) &&& (255 : Int32))), .unset] [])
                refine own_aloadN X0 hx (hb hby d5_139) rfl rfl ?_
                refine own_iloadN X0 hx (hb hby d5_140) rfl ?_
                refine own_iconst X0 hx (2 : Int32) (hb hby d5_141) rfl ?_
                refine own_iadd X0 hx (hb hby d5_142) ?_
                refine own_baload X0 hx hZ e0 hV (v := .int (xs.getD (ix + (2 : Int32)).toNatClampNeg 0)) (pl_at2 ix en (3 : Int32) h0' hlt h8 (by decide) hc90) (pl_gd _ _) (hb hby d5_143) ?_
                show own_R p e below s _ _ _ s₁ (mkF m 144 #[.val (.ref a1), .val (.int ix), .val (.int en), .val (.int ((xs.getD ix.toNatClampNeg 0) &&& (255 : Int32))), .val (.int (3 : Int32)), .val (.int (((((xs.getD ix.toNatClampNeg 0) &&& (255 : Int32)) &&& (15 : Int32)) <<< ((6 : Int32) &&& 31)) ||| (((xs.getD (ix + (1 : Int32)).toNatClampNeg 0) &&& (255 : Int32)) &&& (63 : Int32)))), .val (.int ((xs.getD (ix + (1 : Int32)).toNatClampNeg 0) &&& (255 : Int32))), .unset] [(.int (xs.getD (ix + (2 : Int32)).toNatClampNeg 0))])
                refine own_sipush X0 hx (255 : Int32) (hb hby d5_144) rfl ?_
                refine own_iand X0 hx (hb hby d5_147) ?_
                refine own_istore X0 hx (hb hby d5_148) (l' := #[.val (.ref a1), .val (.int ix), .val (.int en), .val (.int ((xs.getD ix.toNatClampNeg 0) &&& (255 : Int32))), .val (.int (3 : Int32)), .val (.int (((((xs.getD ix.toNatClampNeg 0) &&& (255 : Int32)) &&& (15 : Int32)) <<< ((6 : Int32) &&& 31)) ||| (((xs.getD (ix + (1 : Int32)).toNatClampNeg 0) &&& (255 : Int32)) &&& (63 : Int32)))), .val (.int ((xs.getD (ix + (1 : Int32)).toNatClampNeg 0) &&& (255 : Int32))), .val (.int ((xs.getD (ix + (2 : Int32)).toNatClampNeg 0) &&& (255 : Int32)))]) rfl ?_
                refine own_iload X0 hx (hb hby d5_150) rfl ?_
                refine own_sipush X0 hx (192 : Int32) (hb hby d5_152) rfl ?_
                refine own_iand X0 hx (hb hby d5_155) ?_
                refine own_sipush X0 hx (128 : Int32) (hb hby d5_156) rfl ?_
                refine own_icmp X0 hx (hb hby d5_159) (pc' := 164) (by decide) (by decide) (fun hc => ?_) (fun hc => ?_)
                · have hc159 : (((xs.getD (ix + (2 : Int32)).toNatClampNeg 0) &&& (255 : Int32)) &&& (192 : Int32)) = (128 : Int32) := own_eq1 hc
                  clear hc
                  show own_R p e below s _ _ _ s₁ (mkF m 164 #[.val (.ref a1), .val (.int ix), .val (.int en), .val (.int ((xs.getD ix.toNatClampNeg 0) &&& (255 : Int32))), .val (.int (3 : Int32)), .val (.int (((((xs.getD ix.toNatClampNeg 0) &&& (255 : Int32)) &&& (15 : Int32)) <<< ((6 : Int32) &&& 31)) ||| (((xs.getD (ix + (1 : Int32)).toNatClampNeg 0) &&& (255 : Int32)) &&& (63 : Int32)))), .val (.int ((xs.getD (ix + (1 : Int32)).toNatClampNeg 0) &&& (255 : Int32))), .val (.int ((xs.getD (ix + (2 : Int32)).toNatClampNeg 0) &&& (255 : Int32)))] [])
                  refine own_iload X0 hx (hb hby d5_164) rfl ?_
                  refine own_bipush X0 hx (6 : Int32) (hb hby d5_166) rfl ?_
                  refine own_ishl X0 hx (hb hby d5_168) ?_
                  refine own_iload X0 hx (hb hby d5_169) rfl ?_
                  refine own_bipush X0 hx (63 : Int32) (hb hby d5_171) rfl ?_
                  refine own_iand X0 hx (hb hby d5_173) ?_
                  refine own_ior X0 hx (hb hby d5_174) ?_
                  refine own_istore X0 hx (hb hby d5_175) (l' := #[.val (.ref a1), .val (.int ix), .val (.int en), .val (.int ((xs.getD ix.toNatClampNeg 0) &&& (255 : Int32))), .val (.int (3 : Int32)), .val (.int (((((((xs.getD ix.toNatClampNeg 0) &&& (255 : Int32)) &&& (15 : Int32)) <<< ((6 : Int32) &&& 31)) ||| (((xs.getD (ix + (1 : Int32)).toNatClampNeg 0) &&& (255 : Int32)) &&& (63 : Int32))) <<< ((6 : Int32) &&& 31)) ||| (((xs.getD (ix + (2 : Int32)).toNatClampNeg 0) &&& (255 : Int32)) &&& (63 : Int32)))), .val (.int ((xs.getD (ix + (1 : Int32)).toNatClampNeg 0) &&& (255 : Int32))), .val (.int ((xs.getD (ix + (2 : Int32)).toNatClampNeg 0) &&& (255 : Int32)))]) rfl ?_
                  refine own_iload X0 hx (hb hby d5_177) rfl ?_
                  refine own_iconst X0 hx (4 : Int32) (hb hby d5_179) rfl ?_
                  refine own_icmp X0 hx (hb hby d5_180) (pc' := 221) (by decide) (by decide) (fun hc => ?_) (fun hc => ?_)
                  · have hc180 : ¬ (3 : Int32) = (4 : Int32) := own_ne1 hc
                    clear hc
                    show own_R p e below s _ _ _ s₁ (mkF m 221 #[.val (.ref a1), .val (.int ix), .val (.int en), .val (.int ((xs.getD ix.toNatClampNeg 0) &&& (255 : Int32))), .val (.int (3 : Int32)), .val (.int (((((((xs.getD ix.toNatClampNeg 0) &&& (255 : Int32)) &&& (15 : Int32)) <<< ((6 : Int32) &&& 31)) ||| (((xs.getD (ix + (1 : Int32)).toNatClampNeg 0) &&& (255 : Int32)) &&& (63 : Int32))) <<< ((6 : Int32) &&& 31)) ||| (((xs.getD (ix + (2 : Int32)).toNatClampNeg 0) &&& (255 : Int32)) &&& (63 : Int32)))), .val (.int ((xs.getD (ix + (1 : Int32)).toNatClampNeg 0) &&& (255 : Int32))), .val (.int ((xs.getD (ix + (2 : Int32)).toNatClampNeg 0) &&& (255 : Int32)))] [])
                    refine own_iload X0 hx (hb hby d5_221) rfl ?_
                    refine own_iconst X0 hx (2 : Int32) (hb hby d5_223) rfl ?_
                    refine own_icmp X0 hx (hb hby d5_224) (pc' := 233) (by decide) (by decide) (fun hc => ?_) (fun hc => ?_)
                    · have hc224 : ¬ (3 : Int32) = (2 : Int32) := own_ne1 hc
                      clear hc
                      show own_R p e below s _ _ _ s₁ (mkF m 233 #[.val (.ref a1), .val (.int ix), .val (.int en), .val (.int ((xs.getD ix.toNatClampNeg 0) &&& (255 : Int32))), .val (.int (3 : Int32)), .val (.int (((((((xs.getD ix.toNatClampNeg 0) &&& (255 : Int32)) &&& (15 : Int32)) <<< ((6 : Int32) &&& 31)) ||| (((xs.getD (ix + (1 : Int32)).toNatClampNeg 0) &&& (255 : Int32)) &&& (63 : Int32))) <<< ((6 : Int32) &&& 31)) ||| (((xs.getD (ix + (2 : Int32)).toNatClampNeg 0) &&& (255 : Int32)) &&& (63 : Int32)))), .val (.int ((xs.getD (ix + (1 : Int32)).toNatClampNeg 0) &&& (255 : Int32))), .val (.int ((xs.getD (ix + (2 : Int32)).toNatClampNeg 0) &&& (255 : Int32)))] [])
                      refine own_iload X0 hx (hb hby d5_233) rfl ?_
                      refine own_iconst X0 hx (3 : Int32) (hb hby d5_235) rfl ?_
                      refine own_icmp X0 hx (hb hby d5_236) (pc' := 245) (by decide) (by decide) (fun hc => ?_) (fun hc => ?_)
                      · have hc236 : ¬ (3 : Int32) = (3 : Int32) := own_ne1 hc
                        exact absurd (by decide) hc236
                      · have hc236 : (3 : Int32) = (3 : Int32) := own_ne0 hc
                        clear hc
                        show own_R p e below s _ _ _ s₁ (mkF m 239 #[.val (.ref a1), .val (.int ix), .val (.int en), .val (.int ((xs.getD ix.toNatClampNeg 0) &&& (255 : Int32))), .val (.int (3 : Int32)), .val (.int (((((((xs.getD ix.toNatClampNeg 0) &&& (255 : Int32)) &&& (15 : Int32)) <<< ((6 : Int32) &&& 31)) ||| (((xs.getD (ix + (1 : Int32)).toNatClampNeg 0) &&& (255 : Int32)) &&& (63 : Int32))) <<< ((6 : Int32) &&& 31)) ||| (((xs.getD (ix + (2 : Int32)).toNatClampNeg 0) &&& (255 : Int32)) &&& (63 : Int32)))), .val (.int ((xs.getD (ix + (1 : Int32)).toNatClampNeg 0) &&& (255 : Int32))), .val (.int ((xs.getD (ix + (2 : Int32)).toNatClampNeg 0) &&& (255 : Int32)))] [])
                        refine own_sipush X0 hx (2048 : Int32) (hb hby d5_239) rfl ?_
                        refine own_goto X0 hx (hb hby d5_242) (pc' := 247) (by decide) (by decide) ?_
                        show own_R p e below s _ _ _ s₁ (mkF m 247 #[.val (.ref a1), .val (.int ix), .val (.int en), .val (.int ((xs.getD ix.toNatClampNeg 0) &&& (255 : Int32))), .val (.int (3 : Int32)), .val (.int (((((((xs.getD ix.toNatClampNeg 0) &&& (255 : Int32)) &&& (15 : Int32)) <<< ((6 : Int32) &&& 31)) ||| (((xs.getD (ix + (1 : Int32)).toNatClampNeg 0) &&& (255 : Int32)) &&& (63 : Int32))) <<< ((6 : Int32) &&& 31)) ||| (((xs.getD (ix + (2 : Int32)).toNatClampNeg 0) &&& (255 : Int32)) &&& (63 : Int32)))), .val (.int ((xs.getD (ix + (1 : Int32)).toNatClampNeg 0) &&& (255 : Int32))), .val (.int ((xs.getD (ix + (2 : Int32)).toNatClampNeg 0) &&& (255 : Int32)))] [(.int (2048 : Int32))])
                        refine own_istore X0 hx (hb hby d5_247) (l' := #[.val (.ref a1), .val (.int ix), .val (.int en), .val (.int ((xs.getD ix.toNatClampNeg 0) &&& (255 : Int32))), .val (.int (3 : Int32)), .val (.int (((((((xs.getD ix.toNatClampNeg 0) &&& (255 : Int32)) &&& (15 : Int32)) <<< ((6 : Int32) &&& 31)) ||| (((xs.getD (ix + (1 : Int32)).toNatClampNeg 0) &&& (255 : Int32)) &&& (63 : Int32))) <<< ((6 : Int32) &&& 31)) ||| (((xs.getD (ix + (2 : Int32)).toNatClampNeg 0) &&& (255 : Int32)) &&& (63 : Int32)))), .val (.int ((xs.getD (ix + (1 : Int32)).toNatClampNeg 0) &&& (255 : Int32))), .val (.int (2048 : Int32))]) rfl ?_
                        refine own_iload X0 hx (hb hby d5_249) rfl ?_
                        refine own_iload X0 hx (hb hby d5_251) rfl ?_
                        refine own_icmp X0 hx (hb hby d5_253) (pc' := 277) (by decide) (by decide) (fun hc => ?_) (fun hc => ?_)
                        · have hc253 : (((((((xs.getD ix.toNatClampNeg 0) &&& (255 : Int32)) &&& (15 : Int32)) <<< ((6 : Int32) &&& 31)) ||| (((xs.getD (ix + (1 : Int32)).toNatClampNeg 0) &&& (255 : Int32)) &&& (63 : Int32))) <<< ((6 : Int32) &&& 31)) ||| (((xs.getD (ix + (2 : Int32)).toNatClampNeg 0) &&& (255 : Int32)) &&& (63 : Int32))) < (2048 : Int32) := own_lt1 hc
                          clear hc
                          show own_R p e below s _ _ _ s₁ (mkF m 277 #[.val (.ref a1), .val (.int ix), .val (.int en), .val (.int ((xs.getD ix.toNatClampNeg 0) &&& (255 : Int32))), .val (.int (3 : Int32)), .val (.int (((((((xs.getD ix.toNatClampNeg 0) &&& (255 : Int32)) &&& (15 : Int32)) <<< ((6 : Int32) &&& 31)) ||| (((xs.getD (ix + (1 : Int32)).toNatClampNeg 0) &&& (255 : Int32)) &&& (63 : Int32))) <<< ((6 : Int32) &&& 31)) ||| (((xs.getD (ix + (2 : Int32)).toNatClampNeg 0) &&& (255 : Int32)) &&& (63 : Int32)))), .val (.int ((xs.getD (ix + (1 : Int32)).toNatClampNeg 0) &&& (255 : Int32))), .val (.int (2048 : Int32))] [])
                          refine own_iconst X0 hx (0 : Int32) (hb hby d5_277) rfl ?_
                          refine own_retI X0 hx Bd.returns hlk (hb hby d5_278) ?_ (by decide) (by decide)
                          refine ⟨?_, N0, e0⟩
                          show some (Value.int _) = some (Value.int (pl_wf ((xs.getD ix.toNatClampNeg 0) &&& (255 : Int32)) ((xs.getD (ix + (1 : Int32)).toNatClampNeg 0) &&& (255 : Int32)) ((xs.getD (ix + (2 : Int32)).toNatClampNeg 0) &&& (255 : Int32)) ((xs.getD (ix + (3 : Int32)).toNatClampNeg 0) &&& (255 : Int32)) (en - ix)))
                          rw [pl_wf, if_neg hc12, if_neg hc21, if_neg hc30, if_pos hc49, if_neg hc90, if_pos hc115, if_pos hc159, if_pos hc253] <;> first | rfl | decide
                        · have hc253 : ¬ (((((((xs.getD ix.toNatClampNeg 0) &&& (255 : Int32)) &&& (15 : Int32)) <<< ((6 : Int32) &&& 31)) ||| (((xs.getD (ix + (1 : Int32)).toNatClampNeg 0) &&& (255 : Int32)) &&& (63 : Int32))) <<< ((6 : Int32) &&& 31)) ||| (((xs.getD (ix + (2 : Int32)).toNatClampNeg 0) &&& (255 : Int32)) &&& (63 : Int32))) < (2048 : Int32) := own_lt0 hc
                          clear hc
                          show own_R p e below s _ _ _ s₁ (mkF m 256 #[.val (.ref a1), .val (.int ix), .val (.int en), .val (.int ((xs.getD ix.toNatClampNeg 0) &&& (255 : Int32))), .val (.int (3 : Int32)), .val (.int (((((((xs.getD ix.toNatClampNeg 0) &&& (255 : Int32)) &&& (15 : Int32)) <<< ((6 : Int32) &&& 31)) ||| (((xs.getD (ix + (1 : Int32)).toNatClampNeg 0) &&& (255 : Int32)) &&& (63 : Int32))) <<< ((6 : Int32) &&& 31)) ||| (((xs.getD (ix + (2 : Int32)).toNatClampNeg 0) &&& (255 : Int32)) &&& (63 : Int32)))), .val (.int ((xs.getD (ix + (1 : Int32)).toNatClampNeg 0) &&& (255 : Int32))), .val (.int (2048 : Int32))] [])
                          refine own_iload X0 hx (hb hby d5_256) rfl ?_
                          refine own_ldc X0 hx hZ hown (hw _ (List.mem_of_getElem? (i := 19) rfl)) (hb hby d5_258) ?_
                          refine own_icmp X0 hx (hb hby d5_260) (pc' := 277) (by decide) (by decide) (fun hc => ?_) (fun hc => ?_)
                          · have hc260 : (1114111 : Int32) < (((((((xs.getD ix.toNatClampNeg 0) &&& (255 : Int32)) &&& (15 : Int32)) <<< ((6 : Int32) &&& 31)) ||| (((xs.getD (ix + (1 : Int32)).toNatClampNeg 0) &&& (255 : Int32)) &&& (63 : Int32))) <<< ((6 : Int32) &&& 31)) ||| (((xs.getD (ix + (2 : Int32)).toNatClampNeg 0) &&& (255 : Int32)) &&& (63 : Int32))) := own_gt1 hc
                            clear hc
                            show own_R p e below s _ _ _ s₁ (mkF m 277 #[.val (.ref a1), .val (.int ix), .val (.int en), .val (.int ((xs.getD ix.toNatClampNeg 0) &&& (255 : Int32))), .val (.int (3 : Int32)), .val (.int (((((((xs.getD ix.toNatClampNeg 0) &&& (255 : Int32)) &&& (15 : Int32)) <<< ((6 : Int32) &&& 31)) ||| (((xs.getD (ix + (1 : Int32)).toNatClampNeg 0) &&& (255 : Int32)) &&& (63 : Int32))) <<< ((6 : Int32) &&& 31)) ||| (((xs.getD (ix + (2 : Int32)).toNatClampNeg 0) &&& (255 : Int32)) &&& (63 : Int32)))), .val (.int ((xs.getD (ix + (1 : Int32)).toNatClampNeg 0) &&& (255 : Int32))), .val (.int (2048 : Int32))] [])
                            refine own_iconst X0 hx (0 : Int32) (hb hby d5_277) rfl ?_
                            refine own_retI X0 hx Bd.returns hlk (hb hby d5_278) ?_ (by decide) (by decide)
                            refine ⟨?_, N0, e0⟩
                            show some (Value.int _) = some (Value.int (pl_wf ((xs.getD ix.toNatClampNeg 0) &&& (255 : Int32)) ((xs.getD (ix + (1 : Int32)).toNatClampNeg 0) &&& (255 : Int32)) ((xs.getD (ix + (2 : Int32)).toNatClampNeg 0) &&& (255 : Int32)) ((xs.getD (ix + (3 : Int32)).toNatClampNeg 0) &&& (255 : Int32)) (en - ix)))
                            rw [pl_wf, if_neg hc12, if_neg hc21, if_neg hc30, if_pos hc49, if_neg hc90, if_pos hc115, if_pos hc159, if_neg hc253, if_pos hc260] <;> first | rfl | decide
                          · have hc260 : ¬ (1114111 : Int32) < (((((((xs.getD ix.toNatClampNeg 0) &&& (255 : Int32)) &&& (15 : Int32)) <<< ((6 : Int32) &&& 31)) ||| (((xs.getD (ix + (1 : Int32)).toNatClampNeg 0) &&& (255 : Int32)) &&& (63 : Int32))) <<< ((6 : Int32) &&& 31)) ||| (((xs.getD (ix + (2 : Int32)).toNatClampNeg 0) &&& (255 : Int32)) &&& (63 : Int32))) := own_gt0 hc
                            clear hc
                            show own_R p e below s _ _ _ s₁ (mkF m 263 #[.val (.ref a1), .val (.int ix), .val (.int en), .val (.int ((xs.getD ix.toNatClampNeg 0) &&& (255 : Int32))), .val (.int (3 : Int32)), .val (.int (((((((xs.getD ix.toNatClampNeg 0) &&& (255 : Int32)) &&& (15 : Int32)) <<< ((6 : Int32) &&& 31)) ||| (((xs.getD (ix + (1 : Int32)).toNatClampNeg 0) &&& (255 : Int32)) &&& (63 : Int32))) <<< ((6 : Int32) &&& 31)) ||| (((xs.getD (ix + (2 : Int32)).toNatClampNeg 0) &&& (255 : Int32)) &&& (63 : Int32)))), .val (.int ((xs.getD (ix + (1 : Int32)).toNatClampNeg 0) &&& (255 : Int32))), .val (.int (2048 : Int32))] [])
                            refine own_iload X0 hx (hb hby d5_263) rfl ?_
                            refine own_ldc X0 hx hZ hown (hw _ (List.mem_of_getElem? (i := 20) rfl)) (hb hby d5_265) ?_
                            refine own_icmp X0 hx (hb hby d5_267) (pc' := 279) (by decide) (by decide) (fun hc => ?_) (fun hc => ?_)
                            · have hc267 : (((((((xs.getD ix.toNatClampNeg 0) &&& (255 : Int32)) &&& (15 : Int32)) <<< ((6 : Int32) &&& 31)) ||| (((xs.getD (ix + (1 : Int32)).toNatClampNeg 0) &&& (255 : Int32)) &&& (63 : Int32))) <<< ((6 : Int32) &&& 31)) ||| (((xs.getD (ix + (2 : Int32)).toNatClampNeg 0) &&& (255 : Int32)) &&& (63 : Int32))) < (55296 : Int32) := own_lt1 hc
                              clear hc
                              show own_R p e below s _ _ _ s₁ (mkF m 279 #[.val (.ref a1), .val (.int ix), .val (.int en), .val (.int ((xs.getD ix.toNatClampNeg 0) &&& (255 : Int32))), .val (.int (3 : Int32)), .val (.int (((((((xs.getD ix.toNatClampNeg 0) &&& (255 : Int32)) &&& (15 : Int32)) <<< ((6 : Int32) &&& 31)) ||| (((xs.getD (ix + (1 : Int32)).toNatClampNeg 0) &&& (255 : Int32)) &&& (63 : Int32))) <<< ((6 : Int32) &&& 31)) ||| (((xs.getD (ix + (2 : Int32)).toNatClampNeg 0) &&& (255 : Int32)) &&& (63 : Int32)))), .val (.int ((xs.getD (ix + (1 : Int32)).toNatClampNeg 0) &&& (255 : Int32))), .val (.int (2048 : Int32))] [])
                              refine own_iload X0 hx (hb hby d5_279) rfl ?_
                              refine own_retI X0 hx Bd.returns hlk (hb hby d5_281) ?_ (by decide) (by decide)
                              refine ⟨?_, N0, e0⟩
                              show some (Value.int _) = some (Value.int (pl_wf ((xs.getD ix.toNatClampNeg 0) &&& (255 : Int32)) ((xs.getD (ix + (1 : Int32)).toNatClampNeg 0) &&& (255 : Int32)) ((xs.getD (ix + (2 : Int32)).toNatClampNeg 0) &&& (255 : Int32)) ((xs.getD (ix + (3 : Int32)).toNatClampNeg 0) &&& (255 : Int32)) (en - ix)))
                              rw [pl_wf, if_neg hc12, if_neg hc21, if_neg hc30, if_pos hc49, if_neg hc90, if_pos hc115, if_pos hc159, if_neg hc253, if_neg hc260, if_pos hc267] <;> first | rfl | decide
                            · have hc267 : ¬ (((((((xs.getD ix.toNatClampNeg 0) &&& (255 : Int32)) &&& (15 : Int32)) <<< ((6 : Int32) &&& 31)) ||| (((xs.getD (ix + (1 : Int32)).toNatClampNeg 0) &&& (255 : Int32)) &&& (63 : Int32))) <<< ((6 : Int32) &&& 31)) ||| (((xs.getD (ix + (2 : Int32)).toNatClampNeg 0) &&& (255 : Int32)) &&& (63 : Int32))) < (55296 : Int32) := own_lt0 hc
                              clear hc
                              show own_R p e below s _ _ _ s₁ (mkF m 270 #[.val (.ref a1), .val (.int ix), .val (.int en), .val (.int ((xs.getD ix.toNatClampNeg 0) &&& (255 : Int32))), .val (.int (3 : Int32)), .val (.int (((((((xs.getD ix.toNatClampNeg 0) &&& (255 : Int32)) &&& (15 : Int32)) <<< ((6 : Int32) &&& 31)) ||| (((xs.getD (ix + (1 : Int32)).toNatClampNeg 0) &&& (255 : Int32)) &&& (63 : Int32))) <<< ((6 : Int32) &&& 31)) ||| (((xs.getD (ix + (2 : Int32)).toNatClampNeg 0) &&& (255 : Int32)) &&& (63 : Int32)))), .val (.int ((xs.getD (ix + (1 : Int32)).toNatClampNeg 0) &&& (255 : Int32))), .val (.int (2048 : Int32))] [])
                              refine own_iload X0 hx (hb hby d5_270) rfl ?_
                              refine own_ldc X0 hx hZ hown (hw _ (List.mem_of_getElem? (i := 21) rfl)) (hb hby d5_272) ?_
                              refine own_icmp X0 hx (hb hby d5_274) (pc' := 279) (by decide) (by decide) (fun hc => ?_) (fun hc => ?_)
                              · have hc274 : (57343 : Int32) < (((((((xs.getD ix.toNatClampNeg 0) &&& (255 : Int32)) &&& (15 : Int32)) <<< ((6 : Int32) &&& 31)) ||| (((xs.getD (ix + (1 : Int32)).toNatClampNeg 0) &&& (255 : Int32)) &&& (63 : Int32))) <<< ((6 : Int32) &&& 31)) ||| (((xs.getD (ix + (2 : Int32)).toNatClampNeg 0) &&& (255 : Int32)) &&& (63 : Int32))) := own_gt1 hc
                                clear hc
                                show own_R p e below s _ _ _ s₁ (mkF m 279 #[.val (.ref a1), .val (.int ix), .val (.int en), .val (.int ((xs.getD ix.toNatClampNeg 0) &&& (255 : Int32))), .val (.int (3 : Int32)), .val (.int (((((((xs.getD ix.toNatClampNeg 0) &&& (255 : Int32)) &&& (15 : Int32)) <<< ((6 : Int32) &&& 31)) ||| (((xs.getD (ix + (1 : Int32)).toNatClampNeg 0) &&& (255 : Int32)) &&& (63 : Int32))) <<< ((6 : Int32) &&& 31)) ||| (((xs.getD (ix + (2 : Int32)).toNatClampNeg 0) &&& (255 : Int32)) &&& (63 : Int32)))), .val (.int ((xs.getD (ix + (1 : Int32)).toNatClampNeg 0) &&& (255 : Int32))), .val (.int (2048 : Int32))] [])
                                refine own_iload X0 hx (hb hby d5_279) rfl ?_
                                refine own_retI X0 hx Bd.returns hlk (hb hby d5_281) ?_ (by decide) (by decide)
                                refine ⟨?_, N0, e0⟩
                                show some (Value.int _) = some (Value.int (pl_wf ((xs.getD ix.toNatClampNeg 0) &&& (255 : Int32)) ((xs.getD (ix + (1 : Int32)).toNatClampNeg 0) &&& (255 : Int32)) ((xs.getD (ix + (2 : Int32)).toNatClampNeg 0) &&& (255 : Int32)) ((xs.getD (ix + (3 : Int32)).toNatClampNeg 0) &&& (255 : Int32)) (en - ix)))
                                rw [pl_wf, if_neg hc12, if_neg hc21, if_neg hc30, if_pos hc49, if_neg hc90, if_pos hc115, if_pos hc159, if_neg hc253, if_neg hc260, if_neg hc267, if_pos hc274] <;> first | rfl | decide
                              · have hc274 : ¬ (57343 : Int32) < (((((((xs.getD ix.toNatClampNeg 0) &&& (255 : Int32)) &&& (15 : Int32)) <<< ((6 : Int32) &&& 31)) ||| (((xs.getD (ix + (1 : Int32)).toNatClampNeg 0) &&& (255 : Int32)) &&& (63 : Int32))) <<< ((6 : Int32) &&& 31)) ||| (((xs.getD (ix + (2 : Int32)).toNatClampNeg 0) &&& (255 : Int32)) &&& (63 : Int32))) := own_gt0 hc
                                clear hc
                                show own_R p e below s _ _ _ s₁ (mkF m 277 #[.val (.ref a1), .val (.int ix), .val (.int en), .val (.int ((xs.getD ix.toNatClampNeg 0) &&& (255 : Int32))), .val (.int (3 : Int32)), .val (.int (((((((xs.getD ix.toNatClampNeg 0) &&& (255 : Int32)) &&& (15 : Int32)) <<< ((6 : Int32) &&& 31)) ||| (((xs.getD (ix + (1 : Int32)).toNatClampNeg 0) &&& (255 : Int32)) &&& (63 : Int32))) <<< ((6 : Int32) &&& 31)) ||| (((xs.getD (ix + (2 : Int32)).toNatClampNeg 0) &&& (255 : Int32)) &&& (63 : Int32)))), .val (.int ((xs.getD (ix + (1 : Int32)).toNatClampNeg 0) &&& (255 : Int32))), .val (.int (2048 : Int32))] [])
                                refine own_iconst X0 hx (0 : Int32) (hb hby d5_277) rfl ?_
                                refine own_retI X0 hx Bd.returns hlk (hb hby d5_278) ?_ (by decide) (by decide)
                                refine ⟨?_, N0, e0⟩
                                show some (Value.int _) = some (Value.int (pl_wf ((xs.getD ix.toNatClampNeg 0) &&& (255 : Int32)) ((xs.getD (ix + (1 : Int32)).toNatClampNeg 0) &&& (255 : Int32)) ((xs.getD (ix + (2 : Int32)).toNatClampNeg 0) &&& (255 : Int32)) ((xs.getD (ix + (3 : Int32)).toNatClampNeg 0) &&& (255 : Int32)) (en - ix)))
                                rw [pl_wf, if_neg hc12, if_neg hc21, if_neg hc30, if_pos hc49, if_neg hc90, if_pos hc115, if_pos hc159, if_neg hc253, if_neg hc260, if_neg hc267, if_neg hc274] <;> first | rfl | decide
                    · have hc224 : (3 : Int32) = (2 : Int32) := own_ne0 hc
                      exact absurd hc224 (by decide)
                  · have hc180 : (3 : Int32) = (4 : Int32) := own_ne0 hc
                    exact absurd hc180 (by decide)
                · have hc159 : ¬ (((xs.getD (ix + (2 : Int32)).toNatClampNeg 0) &&& (255 : Int32)) &&& (192 : Int32)) = (128 : Int32) := own_eq0 hc
                  clear hc
                  show own_R p e below s _ _ _ s₁ (mkF m 162 #[.val (.ref a1), .val (.int ix), .val (.int en), .val (.int ((xs.getD ix.toNatClampNeg 0) &&& (255 : Int32))), .val (.int (3 : Int32)), .val (.int (((((xs.getD ix.toNatClampNeg 0) &&& (255 : Int32)) &&& (15 : Int32)) <<< ((6 : Int32) &&& 31)) ||| (((xs.getD (ix + (1 : Int32)).toNatClampNeg 0) &&& (255 : Int32)) &&& (63 : Int32)))), .val (.int ((xs.getD (ix + (1 : Int32)).toNatClampNeg 0) &&& (255 : Int32))), .val (.int ((xs.getD (ix + (2 : Int32)).toNatClampNeg 0) &&& (255 : Int32)))] [])
                  refine own_iconst X0 hx (0 : Int32) (hb hby d5_162) rfl ?_
                  refine own_retI X0 hx Bd.returns hlk (hb hby d5_163) ?_ (by decide) (by decide)
                  refine ⟨?_, N0, e0⟩
                  show some (Value.int _) = some (Value.int (pl_wf ((xs.getD ix.toNatClampNeg 0) &&& (255 : Int32)) ((xs.getD (ix + (1 : Int32)).toNatClampNeg 0) &&& (255 : Int32)) ((xs.getD (ix + (2 : Int32)).toNatClampNeg 0) &&& (255 : Int32)) ((xs.getD (ix + (3 : Int32)).toNatClampNeg 0) &&& (255 : Int32)) (en - ix)))
                  rw [pl_wf, if_neg hc12, if_neg hc21, if_neg hc30, if_pos hc49, if_neg hc90, if_pos hc115, if_neg hc159] <;> first | rfl | decide
            · have hc115 : ¬ (((xs.getD (ix + (1 : Int32)).toNatClampNeg 0) &&& (255 : Int32)) &&& (192 : Int32)) = (128 : Int32) := own_eq0 hc
              clear hc
              show own_R p e below s _ _ _ s₁ (mkF m 118 #[.val (.ref a1), .val (.int ix), .val (.int en), .val (.int ((xs.getD ix.toNatClampNeg 0) &&& (255 : Int32))), .val (.int (3 : Int32)), .val (.int (((xs.getD ix.toNatClampNeg 0) &&& (255 : Int32)) &&& (15 : Int32))), .val (.int ((xs.getD (ix + (1 : Int32)).toNatClampNeg 0) &&& (255 : Int32))), .unset] [])
              refine own_iconst X0 hx (0 : Int32) (hb hby d5_118) rfl ?_
              refine own_retI X0 hx Bd.returns hlk (hb hby d5_119) ?_ (by decide) (by decide)
              refine ⟨?_, N0, e0⟩
              show some (Value.int _) = some (Value.int (pl_wf ((xs.getD ix.toNatClampNeg 0) &&& (255 : Int32)) ((xs.getD (ix + (1 : Int32)).toNatClampNeg 0) &&& (255 : Int32)) ((xs.getD (ix + (2 : Int32)).toNatClampNeg 0) &&& (255 : Int32)) ((xs.getD (ix + (3 : Int32)).toNatClampNeg 0) &&& (255 : Int32)) (en - ix)))
              rw [pl_wf, if_neg hc12, if_neg hc21, if_neg hc30, if_pos hc49, if_neg hc90, if_neg hc115] <;> first | rfl | decide
          · have hc90 : (en - ix) < (3 : Int32) := own_ge0 hc
            clear hc
            show own_R p e below s _ _ _ s₁ (mkF m 93 #[.val (.ref a1), .val (.int ix), .val (.int en), .val (.int ((xs.getD ix.toNatClampNeg 0) &&& (255 : Int32))), .val (.int (3 : Int32)), .val (.int (((xs.getD ix.toNatClampNeg 0) &&& (255 : Int32)) &&& (15 : Int32))), .unset, .unset] [])
            refine own_iconst X0 hx (0 : Int32) (hb hby d5_93) rfl ?_
            refine own_retI X0 hx Bd.returns hlk (hb hby d5_94) ?_ (by decide) (by decide)
            refine ⟨?_, N0, e0⟩
            show some (Value.int _) = some (Value.int (pl_wf ((xs.getD ix.toNatClampNeg 0) &&& (255 : Int32)) ((xs.getD (ix + (1 : Int32)).toNatClampNeg 0) &&& (255 : Int32)) ((xs.getD (ix + (2 : Int32)).toNatClampNeg 0) &&& (255 : Int32)) ((xs.getD (ix + (3 : Int32)).toNatClampNeg 0) &&& (255 : Int32)) (en - ix)))
            rw [pl_wf, if_neg hc12, if_neg hc21, if_neg hc30, if_pos hc49, if_pos hc90] <;> first | rfl | decide
      · have hc30 : ((xs.getD ix.toNatClampNeg 0) &&& (255 : Int32)) < (224 : Int32) := own_ge0 hc
        clear hc
        show own_R p e below s _ _ _ s₁ (mkF m 33 #[.val (.ref a1), .val (.int ix), .val (.int en), .val (.int ((xs.getD ix.toNatClampNeg 0) &&& (255 : Int32))), .unset, .unset, .unset, .unset] [])
        refine own_iconst X0 hx (2 : Int32) (hb hby d5_33) rfl ?_
        refine own_istore X0 hx (hb hby d5_34) (l' := #[.val (.ref a1), .val (.int ix), .val (.int en), .val (.int ((xs.getD ix.toNatClampNeg 0) &&& (255 : Int32))), .val (.int (2 : Int32)), .unset, .unset, .unset]) rfl ?_
        refine own_iloadN X0 hx (hb hby d5_36) rfl ?_
        refine own_bipush X0 hx (31 : Int32) (hb hby d5_37) rfl ?_
        refine own_iand X0 hx (hb hby d5_39) ?_
        refine own_istore X0 hx (hb hby d5_40) (l' := #[.val (.ref a1), .val (.int ix), .val (.int en), .val (.int ((xs.getD ix.toNatClampNeg 0) &&& (255 : Int32))), .val (.int (2 : Int32)), .val (.int (((xs.getD ix.toNatClampNeg 0) &&& (255 : Int32)) &&& (31 : Int32))), .unset, .unset]) rfl ?_
        refine own_goto X0 hx (hb hby d5_42) (pc' := 85) (by decide) (by decide) ?_
        show own_R p e below s _ _ _ s₁ (mkF m 85 #[.val (.ref a1), .val (.int ix), .val (.int en), .val (.int ((xs.getD ix.toNatClampNeg 0) &&& (255 : Int32))), .val (.int (2 : Int32)), .val (.int (((xs.getD ix.toNatClampNeg 0) &&& (255 : Int32)) &&& (31 : Int32))), .unset, .unset] [])
        refine own_iloadN X0 hx (hb hby d5_85) rfl ?_
        refine own_iloadN X0 hx (hb hby d5_86) rfl ?_
        refine own_isub X0 hx (hb hby d5_87) ?_
        refine own_iload X0 hx (hb hby d5_88) rfl ?_
        refine own_icmp X0 hx (hb hby d5_90) (pc' := 95) (by decide) (by decide) (fun hc => ?_) (fun hc => ?_)
        · have hc90 : ¬ (en - ix) < (2 : Int32) := own_ge1 hc
          clear hc
          show own_R p e below s _ _ _ s₁ (mkF m 95 #[.val (.ref a1), .val (.int ix), .val (.int en), .val (.int ((xs.getD ix.toNatClampNeg 0) &&& (255 : Int32))), .val (.int (2 : Int32)), .val (.int (((xs.getD ix.toNatClampNeg 0) &&& (255 : Int32)) &&& (31 : Int32))), .unset, .unset] [])
          refine own_aloadN X0 hx (hb hby d5_95) rfl rfl ?_
          refine own_iloadN X0 hx (hb hby d5_96) rfl ?_
          refine own_iconst X0 hx (1 : Int32) (hb hby d5_97) rfl ?_
          refine own_iadd X0 hx (hb hby d5_98) ?_
          refine own_baload X0 hx hZ e0 hV (v := .int (xs.getD (ix + (1 : Int32)).toNatClampNeg 0)) (pl_at1 ix en (2 : Int32) h0' hlt h8 (by decide) hc90) (pl_gd _ _) (hb hby d5_99) ?_
          show own_R p e below s _ _ _ s₁ (mkF m 100 #[.val (.ref a1), .val (.int ix), .val (.int en), .val (.int ((xs.getD ix.toNatClampNeg 0) &&& (255 : Int32))), .val (.int (2 : Int32)), .val (.int (((xs.getD ix.toNatClampNeg 0) &&& (255 : Int32)) &&& (31 : Int32))), .unset, .unset] [(.int (xs.getD (ix + (1 : Int32)).toNatClampNeg 0))])
          refine own_sipush X0 hx (255 : Int32) (hb hby d5_100) rfl ?_
          refine own_iand X0 hx (hb hby d5_103) ?_
          refine own_istore X0 hx (hb hby d5_104) (l' := #[.val (.ref a1), .val (.int ix), .val (.int en), .val (.int ((xs.getD ix.toNatClampNeg 0) &&& (255 : Int32))), .val (.int (2 : Int32)), .val (.int (((xs.getD ix.toNatClampNeg 0) &&& (255 : Int32)) &&& (31 : Int32))), .val (.int ((xs.getD (ix + (1 : Int32)).toNatClampNeg 0) &&& (255 : Int32))), .unset]) rfl ?_
          refine own_iload X0 hx (hb hby d5_106) rfl ?_
          refine own_sipush X0 hx (192 : Int32) (hb hby d5_108) rfl ?_
          refine own_iand X0 hx (hb hby d5_111) ?_
          refine own_sipush X0 hx (128 : Int32) (hb hby d5_112) rfl ?_
          refine own_icmp X0 hx (hb hby d5_115) (pc' := 120) (by decide) (by decide) (fun hc => ?_) (fun hc => ?_)
          · have hc115 : (((xs.getD (ix + (1 : Int32)).toNatClampNeg 0) &&& (255 : Int32)) &&& (192 : Int32)) = (128 : Int32) := own_eq1 hc
            clear hc
            show own_R p e below s _ _ _ s₁ (mkF m 120 #[.val (.ref a1), .val (.int ix), .val (.int en), .val (.int ((xs.getD ix.toNatClampNeg 0) &&& (255 : Int32))), .val (.int (2 : Int32)), .val (.int (((xs.getD ix.toNatClampNeg 0) &&& (255 : Int32)) &&& (31 : Int32))), .val (.int ((xs.getD (ix + (1 : Int32)).toNatClampNeg 0) &&& (255 : Int32))), .unset] [])
            refine own_iload X0 hx (hb hby d5_120) rfl ?_
            refine own_bipush X0 hx (6 : Int32) (hb hby d5_122) rfl ?_
            refine own_ishl X0 hx (hb hby d5_124) ?_
            refine own_iload X0 hx (hb hby d5_125) rfl ?_
            refine own_bipush X0 hx (63 : Int32) (hb hby d5_127) rfl ?_
            refine own_iand X0 hx (hb hby d5_129) ?_
            refine own_ior X0 hx (hb hby d5_130) ?_
            refine own_istore X0 hx (hb hby d5_131) (l' := #[.val (.ref a1), .val (.int ix), .val (.int en), .val (.int ((xs.getD ix.toNatClampNeg 0) &&& (255 : Int32))), .val (.int (2 : Int32)), .val (.int (((((xs.getD ix.toNatClampNeg 0) &&& (255 : Int32)) &&& (31 : Int32)) <<< ((6 : Int32) &&& 31)) ||| (((xs.getD (ix + (1 : Int32)).toNatClampNeg 0) &&& (255 : Int32)) &&& (63 : Int32)))), .val (.int ((xs.getD (ix + (1 : Int32)).toNatClampNeg 0) &&& (255 : Int32))), .unset]) rfl ?_
            refine own_iload X0 hx (hb hby d5_133) rfl ?_
            refine own_iconst X0 hx (3 : Int32) (hb hby d5_135) rfl ?_
            refine own_icmp X0 hx (hb hby d5_136) (pc' := 177) (by decide) (by decide) (fun hc => ?_) (fun hc => ?_)
            · have hc136 : (2 : Int32) < (3 : Int32) := own_lt1 hc
              clear hc
              show own_R p e below s _ _ _ s₁ (mkF m 177 #[.val (.ref a1), .val (.int ix), .val (.int en), .val (.int ((xs.getD ix.toNatClampNeg 0) &&& (255 : Int32))), .val (.int (2 : Int32)), .val (.int (((((xs.getD ix.toNatClampNeg 0) &&& (255 : Int32)) &&& (31 : Int32)) <<< ((6 : Int32) &&& 31)) ||| (((xs.getD (ix + (1 : Int32)).toNatClampNeg 0) &&& (255 : Int32)) &&& (63 : Int32)))), .val (.int ((xs.getD (ix + (1 : Int32)).toNatClampNeg 0) &&& (255 : Int32))), .unset] [])
              refine own_iload X0 hx (hb hby d5_177) rfl ?_
              refine own_iconst X0 hx (4 : Int32) (hb hby d5_179) rfl ?_
              refine own_icmp X0 hx (hb hby d5_180) (pc' := 221) (by decide) (by decide) (fun hc => ?_) (fun hc => ?_)
              · have hc180 : ¬ (2 : Int32) = (4 : Int32) := own_ne1 hc
                clear hc
                show own_R p e below s _ _ _ s₁ (mkF m 221 #[.val (.ref a1), .val (.int ix), .val (.int en), .val (.int ((xs.getD ix.toNatClampNeg 0) &&& (255 : Int32))), .val (.int (2 : Int32)), .val (.int (((((xs.getD ix.toNatClampNeg 0) &&& (255 : Int32)) &&& (31 : Int32)) <<< ((6 : Int32) &&& 31)) ||| (((xs.getD (ix + (1 : Int32)).toNatClampNeg 0) &&& (255 : Int32)) &&& (63 : Int32)))), .val (.int ((xs.getD (ix + (1 : Int32)).toNatClampNeg 0) &&& (255 : Int32))), .unset] [])
                refine own_iload X0 hx (hb hby d5_221) rfl ?_
                refine own_iconst X0 hx (2 : Int32) (hb hby d5_223) rfl ?_
                refine own_icmp X0 hx (hb hby d5_224) (pc' := 233) (by decide) (by decide) (fun hc => ?_) (fun hc => ?_)
                · have hc224 : ¬ (2 : Int32) = (2 : Int32) := own_ne1 hc
                  exact absurd (by decide) hc224
                · have hc224 : (2 : Int32) = (2 : Int32) := own_ne0 hc
                  clear hc
                  show own_R p e below s _ _ _ s₁ (mkF m 227 #[.val (.ref a1), .val (.int ix), .val (.int en), .val (.int ((xs.getD ix.toNatClampNeg 0) &&& (255 : Int32))), .val (.int (2 : Int32)), .val (.int (((((xs.getD ix.toNatClampNeg 0) &&& (255 : Int32)) &&& (31 : Int32)) <<< ((6 : Int32) &&& 31)) ||| (((xs.getD (ix + (1 : Int32)).toNatClampNeg 0) &&& (255 : Int32)) &&& (63 : Int32)))), .val (.int ((xs.getD (ix + (1 : Int32)).toNatClampNeg 0) &&& (255 : Int32))), .unset] [])
                  refine own_sipush X0 hx (128 : Int32) (hb hby d5_227) rfl ?_
                  refine own_goto X0 hx (hb hby d5_230) (pc' := 247) (by decide) (by decide) ?_
                  show own_R p e below s _ _ _ s₁ (mkF m 247 #[.val (.ref a1), .val (.int ix), .val (.int en), .val (.int ((xs.getD ix.toNatClampNeg 0) &&& (255 : Int32))), .val (.int (2 : Int32)), .val (.int (((((xs.getD ix.toNatClampNeg 0) &&& (255 : Int32)) &&& (31 : Int32)) <<< ((6 : Int32) &&& 31)) ||| (((xs.getD (ix + (1 : Int32)).toNatClampNeg 0) &&& (255 : Int32)) &&& (63 : Int32)))), .val (.int ((xs.getD (ix + (1 : Int32)).toNatClampNeg 0) &&& (255 : Int32))), .unset] [(.int (128 : Int32))])
                  refine own_istore X0 hx (hb hby d5_247) (l' := #[.val (.ref a1), .val (.int ix), .val (.int en), .val (.int ((xs.getD ix.toNatClampNeg 0) &&& (255 : Int32))), .val (.int (2 : Int32)), .val (.int (((((xs.getD ix.toNatClampNeg 0) &&& (255 : Int32)) &&& (31 : Int32)) <<< ((6 : Int32) &&& 31)) ||| (((xs.getD (ix + (1 : Int32)).toNatClampNeg 0) &&& (255 : Int32)) &&& (63 : Int32)))), .val (.int ((xs.getD (ix + (1 : Int32)).toNatClampNeg 0) &&& (255 : Int32))), .val (.int (128 : Int32))]) rfl ?_
                  refine own_iload X0 hx (hb hby d5_249) rfl ?_
                  refine own_iload X0 hx (hb hby d5_251) rfl ?_
                  refine own_icmp X0 hx (hb hby d5_253) (pc' := 277) (by decide) (by decide) (fun hc => ?_) (fun hc => ?_)
                  · have hc253 : (((((xs.getD ix.toNatClampNeg 0) &&& (255 : Int32)) &&& (31 : Int32)) <<< ((6 : Int32) &&& 31)) ||| (((xs.getD (ix + (1 : Int32)).toNatClampNeg 0) &&& (255 : Int32)) &&& (63 : Int32))) < (128 : Int32) := own_lt1 hc
                    clear hc
                    show own_R p e below s _ _ _ s₁ (mkF m 277 #[.val (.ref a1), .val (.int ix), .val (.int en), .val (.int ((xs.getD ix.toNatClampNeg 0) &&& (255 : Int32))), .val (.int (2 : Int32)), .val (.int (((((xs.getD ix.toNatClampNeg 0) &&& (255 : Int32)) &&& (31 : Int32)) <<< ((6 : Int32) &&& 31)) ||| (((xs.getD (ix + (1 : Int32)).toNatClampNeg 0) &&& (255 : Int32)) &&& (63 : Int32)))), .val (.int ((xs.getD (ix + (1 : Int32)).toNatClampNeg 0) &&& (255 : Int32))), .val (.int (128 : Int32))] [])
                    refine own_iconst X0 hx (0 : Int32) (hb hby d5_277) rfl ?_
                    refine own_retI X0 hx Bd.returns hlk (hb hby d5_278) ?_ (by decide) (by decide)
                    refine ⟨?_, N0, e0⟩
                    show some (Value.int _) = some (Value.int (pl_wf ((xs.getD ix.toNatClampNeg 0) &&& (255 : Int32)) ((xs.getD (ix + (1 : Int32)).toNatClampNeg 0) &&& (255 : Int32)) ((xs.getD (ix + (2 : Int32)).toNatClampNeg 0) &&& (255 : Int32)) ((xs.getD (ix + (3 : Int32)).toNatClampNeg 0) &&& (255 : Int32)) (en - ix)))
                    rw [pl_wf, if_neg hc12, if_neg hc21, if_pos hc30, if_neg hc90, if_pos hc115, if_pos hc253] <;> first | rfl | decide
                  · have hc253 : ¬ (((((xs.getD ix.toNatClampNeg 0) &&& (255 : Int32)) &&& (31 : Int32)) <<< ((6 : Int32) &&& 31)) ||| (((xs.getD (ix + (1 : Int32)).toNatClampNeg 0) &&& (255 : Int32)) &&& (63 : Int32))) < (128 : Int32) := own_lt0 hc
                    clear hc
                    show own_R p e below s _ _ _ s₁ (mkF m 256 #[.val (.ref a1), .val (.int ix), .val (.int en), .val (.int ((xs.getD ix.toNatClampNeg 0) &&& (255 : Int32))), .val (.int (2 : Int32)), .val (.int (((((xs.getD ix.toNatClampNeg 0) &&& (255 : Int32)) &&& (31 : Int32)) <<< ((6 : Int32) &&& 31)) ||| (((xs.getD (ix + (1 : Int32)).toNatClampNeg 0) &&& (255 : Int32)) &&& (63 : Int32)))), .val (.int ((xs.getD (ix + (1 : Int32)).toNatClampNeg 0) &&& (255 : Int32))), .val (.int (128 : Int32))] [])
                    refine own_iload X0 hx (hb hby d5_256) rfl ?_
                    refine own_ldc X0 hx hZ hown (hw _ (List.mem_of_getElem? (i := 19) rfl)) (hb hby d5_258) ?_
                    refine own_icmp X0 hx (hb hby d5_260) (pc' := 277) (by decide) (by decide) (fun hc => ?_) (fun hc => ?_)
                    · have hc260 : (1114111 : Int32) < (((((xs.getD ix.toNatClampNeg 0) &&& (255 : Int32)) &&& (31 : Int32)) <<< ((6 : Int32) &&& 31)) ||| (((xs.getD (ix + (1 : Int32)).toNatClampNeg 0) &&& (255 : Int32)) &&& (63 : Int32))) := own_gt1 hc
                      clear hc
                      show own_R p e below s _ _ _ s₁ (mkF m 277 #[.val (.ref a1), .val (.int ix), .val (.int en), .val (.int ((xs.getD ix.toNatClampNeg 0) &&& (255 : Int32))), .val (.int (2 : Int32)), .val (.int (((((xs.getD ix.toNatClampNeg 0) &&& (255 : Int32)) &&& (31 : Int32)) <<< ((6 : Int32) &&& 31)) ||| (((xs.getD (ix + (1 : Int32)).toNatClampNeg 0) &&& (255 : Int32)) &&& (63 : Int32)))), .val (.int ((xs.getD (ix + (1 : Int32)).toNatClampNeg 0) &&& (255 : Int32))), .val (.int (128 : Int32))] [])
                      refine own_iconst X0 hx (0 : Int32) (hb hby d5_277) rfl ?_
                      refine own_retI X0 hx Bd.returns hlk (hb hby d5_278) ?_ (by decide) (by decide)
                      refine ⟨?_, N0, e0⟩
                      show some (Value.int _) = some (Value.int (pl_wf ((xs.getD ix.toNatClampNeg 0) &&& (255 : Int32)) ((xs.getD (ix + (1 : Int32)).toNatClampNeg 0) &&& (255 : Int32)) ((xs.getD (ix + (2 : Int32)).toNatClampNeg 0) &&& (255 : Int32)) ((xs.getD (ix + (3 : Int32)).toNatClampNeg 0) &&& (255 : Int32)) (en - ix)))
                      rw [pl_wf, if_neg hc12, if_neg hc21, if_pos hc30, if_neg hc90, if_pos hc115, if_neg hc253, if_pos hc260] <;> first | rfl | decide
                    · have hc260 : ¬ (1114111 : Int32) < (((((xs.getD ix.toNatClampNeg 0) &&& (255 : Int32)) &&& (31 : Int32)) <<< ((6 : Int32) &&& 31)) ||| (((xs.getD (ix + (1 : Int32)).toNatClampNeg 0) &&& (255 : Int32)) &&& (63 : Int32))) := own_gt0 hc
                      clear hc
                      show own_R p e below s _ _ _ s₁ (mkF m 263 #[.val (.ref a1), .val (.int ix), .val (.int en), .val (.int ((xs.getD ix.toNatClampNeg 0) &&& (255 : Int32))), .val (.int (2 : Int32)), .val (.int (((((xs.getD ix.toNatClampNeg 0) &&& (255 : Int32)) &&& (31 : Int32)) <<< ((6 : Int32) &&& 31)) ||| (((xs.getD (ix + (1 : Int32)).toNatClampNeg 0) &&& (255 : Int32)) &&& (63 : Int32)))), .val (.int ((xs.getD (ix + (1 : Int32)).toNatClampNeg 0) &&& (255 : Int32))), .val (.int (128 : Int32))] [])
                      refine own_iload X0 hx (hb hby d5_263) rfl ?_
                      refine own_ldc X0 hx hZ hown (hw _ (List.mem_of_getElem? (i := 20) rfl)) (hb hby d5_265) ?_
                      refine own_icmp X0 hx (hb hby d5_267) (pc' := 279) (by decide) (by decide) (fun hc => ?_) (fun hc => ?_)
                      · have hc267 : (((((xs.getD ix.toNatClampNeg 0) &&& (255 : Int32)) &&& (31 : Int32)) <<< ((6 : Int32) &&& 31)) ||| (((xs.getD (ix + (1 : Int32)).toNatClampNeg 0) &&& (255 : Int32)) &&& (63 : Int32))) < (55296 : Int32) := own_lt1 hc
                        clear hc
                        show own_R p e below s _ _ _ s₁ (mkF m 279 #[.val (.ref a1), .val (.int ix), .val (.int en), .val (.int ((xs.getD ix.toNatClampNeg 0) &&& (255 : Int32))), .val (.int (2 : Int32)), .val (.int (((((xs.getD ix.toNatClampNeg 0) &&& (255 : Int32)) &&& (31 : Int32)) <<< ((6 : Int32) &&& 31)) ||| (((xs.getD (ix + (1 : Int32)).toNatClampNeg 0) &&& (255 : Int32)) &&& (63 : Int32)))), .val (.int ((xs.getD (ix + (1 : Int32)).toNatClampNeg 0) &&& (255 : Int32))), .val (.int (128 : Int32))] [])
                        refine own_iload X0 hx (hb hby d5_279) rfl ?_
                        refine own_retI X0 hx Bd.returns hlk (hb hby d5_281) ?_ (by decide) (by decide)
                        refine ⟨?_, N0, e0⟩
                        show some (Value.int _) = some (Value.int (pl_wf ((xs.getD ix.toNatClampNeg 0) &&& (255 : Int32)) ((xs.getD (ix + (1 : Int32)).toNatClampNeg 0) &&& (255 : Int32)) ((xs.getD (ix + (2 : Int32)).toNatClampNeg 0) &&& (255 : Int32)) ((xs.getD (ix + (3 : Int32)).toNatClampNeg 0) &&& (255 : Int32)) (en - ix)))
                        rw [pl_wf, if_neg hc12, if_neg hc21, if_pos hc30, if_neg hc90, if_pos hc115, if_neg hc253, if_neg hc260, if_pos hc267] <;> first | rfl | decide
                      · have hc267 : ¬ (((((xs.getD ix.toNatClampNeg 0) &&& (255 : Int32)) &&& (31 : Int32)) <<< ((6 : Int32) &&& 31)) ||| (((xs.getD (ix + (1 : Int32)).toNatClampNeg 0) &&& (255 : Int32)) &&& (63 : Int32))) < (55296 : Int32) := own_lt0 hc
                        clear hc
                        show own_R p e below s _ _ _ s₁ (mkF m 270 #[.val (.ref a1), .val (.int ix), .val (.int en), .val (.int ((xs.getD ix.toNatClampNeg 0) &&& (255 : Int32))), .val (.int (2 : Int32)), .val (.int (((((xs.getD ix.toNatClampNeg 0) &&& (255 : Int32)) &&& (31 : Int32)) <<< ((6 : Int32) &&& 31)) ||| (((xs.getD (ix + (1 : Int32)).toNatClampNeg 0) &&& (255 : Int32)) &&& (63 : Int32)))), .val (.int ((xs.getD (ix + (1 : Int32)).toNatClampNeg 0) &&& (255 : Int32))), .val (.int (128 : Int32))] [])
                        refine own_iload X0 hx (hb hby d5_270) rfl ?_
                        refine own_ldc X0 hx hZ hown (hw _ (List.mem_of_getElem? (i := 21) rfl)) (hb hby d5_272) ?_
                        refine own_icmp X0 hx (hb hby d5_274) (pc' := 279) (by decide) (by decide) (fun hc => ?_) (fun hc => ?_)
                        · have hc274 : (57343 : Int32) < (((((xs.getD ix.toNatClampNeg 0) &&& (255 : Int32)) &&& (31 : Int32)) <<< ((6 : Int32) &&& 31)) ||| (((xs.getD (ix + (1 : Int32)).toNatClampNeg 0) &&& (255 : Int32)) &&& (63 : Int32))) := own_gt1 hc
                          clear hc
                          show own_R p e below s _ _ _ s₁ (mkF m 279 #[.val (.ref a1), .val (.int ix), .val (.int en), .val (.int ((xs.getD ix.toNatClampNeg 0) &&& (255 : Int32))), .val (.int (2 : Int32)), .val (.int (((((xs.getD ix.toNatClampNeg 0) &&& (255 : Int32)) &&& (31 : Int32)) <<< ((6 : Int32) &&& 31)) ||| (((xs.getD (ix + (1 : Int32)).toNatClampNeg 0) &&& (255 : Int32)) &&& (63 : Int32)))), .val (.int ((xs.getD (ix + (1 : Int32)).toNatClampNeg 0) &&& (255 : Int32))), .val (.int (128 : Int32))] [])
                          refine own_iload X0 hx (hb hby d5_279) rfl ?_
                          refine own_retI X0 hx Bd.returns hlk (hb hby d5_281) ?_ (by decide) (by decide)
                          refine ⟨?_, N0, e0⟩
                          show some (Value.int _) = some (Value.int (pl_wf ((xs.getD ix.toNatClampNeg 0) &&& (255 : Int32)) ((xs.getD (ix + (1 : Int32)).toNatClampNeg 0) &&& (255 : Int32)) ((xs.getD (ix + (2 : Int32)).toNatClampNeg 0) &&& (255 : Int32)) ((xs.getD (ix + (3 : Int32)).toNatClampNeg 0) &&& (255 : Int32)) (en - ix)))
                          rw [pl_wf, if_neg hc12, if_neg hc21, if_pos hc30, if_neg hc90, if_pos hc115, if_neg hc253, if_neg hc260, if_neg hc267, if_pos hc274] <;> first | rfl | decide
                        · have hc274 : ¬ (57343 : Int32) < (((((xs.getD ix.toNatClampNeg 0) &&& (255 : Int32)) &&& (31 : Int32)) <<< ((6 : Int32) &&& 31)) ||| (((xs.getD (ix + (1 : Int32)).toNatClampNeg 0) &&& (255 : Int32)) &&& (63 : Int32))) := own_gt0 hc
                          clear hc
                          show own_R p e below s _ _ _ s₁ (mkF m 277 #[.val (.ref a1), .val (.int ix), .val (.int en), .val (.int ((xs.getD ix.toNatClampNeg 0) &&& (255 : Int32))), .val (.int (2 : Int32)), .val (.int (((((xs.getD ix.toNatClampNeg 0) &&& (255 : Int32)) &&& (31 : Int32)) <<< ((6 : Int32) &&& 31)) ||| (((xs.getD (ix + (1 : Int32)).toNatClampNeg 0) &&& (255 : Int32)) &&& (63 : Int32)))), .val (.int ((xs.getD (ix + (1 : Int32)).toNatClampNeg 0) &&& (255 : Int32))), .val (.int (128 : Int32))] [])
                          refine own_iconst X0 hx (0 : Int32) (hb hby d5_277) rfl ?_
                          refine own_retI X0 hx Bd.returns hlk (hb hby d5_278) ?_ (by decide) (by decide)
                          refine ⟨?_, N0, e0⟩
                          show some (Value.int _) = some (Value.int (pl_wf ((xs.getD ix.toNatClampNeg 0) &&& (255 : Int32)) ((xs.getD (ix + (1 : Int32)).toNatClampNeg 0) &&& (255 : Int32)) ((xs.getD (ix + (2 : Int32)).toNatClampNeg 0) &&& (255 : Int32)) ((xs.getD (ix + (3 : Int32)).toNatClampNeg 0) &&& (255 : Int32)) (en - ix)))
                          rw [pl_wf, if_neg hc12, if_neg hc21, if_pos hc30, if_neg hc90, if_pos hc115, if_neg hc253, if_neg hc260, if_neg hc267, if_neg hc274] <;> first | rfl | decide
              · have hc180 : (2 : Int32) = (4 : Int32) := own_ne0 hc
                exact absurd hc180 (by decide)
            · have hc136 : ¬ (2 : Int32) < (3 : Int32) := own_lt0 hc
              exact absurd (by decide) hc136
          · have hc115 : ¬ (((xs.getD (ix + (1 : Int32)).toNatClampNeg 0) &&& (255 : Int32)) &&& (192 : Int32)) = (128 : Int32) := own_eq0 hc
            clear hc
            show own_R p e below s _ _ _ s₁ (mkF m 118 #[.val (.ref a1), .val (.int ix), .val (.int en), .val (.int ((xs.getD ix.toNatClampNeg 0) &&& (255 : Int32))), .val (.int (2 : Int32)), .val (.int (((xs.getD ix.toNatClampNeg 0) &&& (255 : Int32)) &&& (31 : Int32))), .val (.int ((xs.getD (ix + (1 : Int32)).toNatClampNeg 0) &&& (255 : Int32))), .unset] [])
            refine own_iconst X0 hx (0 : Int32) (hb hby d5_118) rfl ?_
            refine own_retI X0 hx Bd.returns hlk (hb hby d5_119) ?_ (by decide) (by decide)
            refine ⟨?_, N0, e0⟩
            show some (Value.int _) = some (Value.int (pl_wf ((xs.getD ix.toNatClampNeg 0) &&& (255 : Int32)) ((xs.getD (ix + (1 : Int32)).toNatClampNeg 0) &&& (255 : Int32)) ((xs.getD (ix + (2 : Int32)).toNatClampNeg 0) &&& (255 : Int32)) ((xs.getD (ix + (3 : Int32)).toNatClampNeg 0) &&& (255 : Int32)) (en - ix)))
            rw [pl_wf, if_neg hc12, if_neg hc21, if_pos hc30, if_neg hc90, if_neg hc115] <;> first | rfl | decide
        · have hc90 : (en - ix) < (2 : Int32) := own_ge0 hc
          clear hc
          show own_R p e below s _ _ _ s₁ (mkF m 93 #[.val (.ref a1), .val (.int ix), .val (.int en), .val (.int ((xs.getD ix.toNatClampNeg 0) &&& (255 : Int32))), .val (.int (2 : Int32)), .val (.int (((xs.getD ix.toNatClampNeg 0) &&& (255 : Int32)) &&& (31 : Int32))), .unset, .unset] [])
          refine own_iconst X0 hx (0 : Int32) (hb hby d5_93) rfl ?_
          refine own_retI X0 hx Bd.returns hlk (hb hby d5_94) ?_ (by decide) (by decide)
          refine ⟨?_, N0, e0⟩
          show some (Value.int _) = some (Value.int (pl_wf ((xs.getD ix.toNatClampNeg 0) &&& (255 : Int32)) ((xs.getD (ix + (1 : Int32)).toNatClampNeg 0) &&& (255 : Int32)) ((xs.getD (ix + (2 : Int32)).toNatClampNeg 0) &&& (255 : Int32)) ((xs.getD (ix + (3 : Int32)).toNatClampNeg 0) &&& (255 : Int32)) (en - ix)))
          rw [pl_wf, if_neg hc12, if_neg hc21, if_pos hc30, if_pos hc90] <;> first | rfl | decide
    · have hc21 : ((xs.getD ix.toNatClampNeg 0) &&& (255 : Int32)) < (192 : Int32) := own_ge0 hc
      clear hc
      show own_R p e below s _ _ _ s₁ (mkF m 24 #[.val (.ref a1), .val (.int ix), .val (.int en), .val (.int ((xs.getD ix.toNatClampNeg 0) &&& (255 : Int32))), .unset, .unset, .unset, .unset] [])
      refine own_iconst X0 hx (0 : Int32) (hb hby d5_24) rfl ?_
      refine own_retI X0 hx Bd.returns hlk (hb hby d5_25) ?_ (by decide) (by decide)
      refine ⟨?_, N0, e0⟩
      show some (Value.int _) = some (Value.int (pl_wf ((xs.getD ix.toNatClampNeg 0) &&& (255 : Int32)) ((xs.getD (ix + (1 : Int32)).toNatClampNeg 0) &&& (255 : Int32)) ((xs.getD (ix + (2 : Int32)).toNatClampNeg 0) &&& (255 : Int32)) ((xs.getD (ix + (3 : Int32)).toNatClampNeg 0) &&& (255 : Int32)) (en - ix)))
      rw [pl_wf, if_neg hc12, if_pos hc21] <;> first | rfl | decide
  · have hc12 : ((xs.getD ix.toNatClampNeg 0) &&& (255 : Int32)) < (128 : Int32) := own_ge0 hc
    clear hc
    show own_R p e below s _ _ _ s₁ (mkF m 15 #[.val (.ref a1), .val (.int ix), .val (.int en), .val (.int ((xs.getD ix.toNatClampNeg 0) &&& (255 : Int32))), .unset, .unset, .unset, .unset] [])
    refine own_iconst X0 hx (1 : Int32) (hb hby d5_15) rfl ?_
    refine own_retI X0 hx Bd.returns hlk (hb hby d5_16) ?_ (by decide) (by decide)
    refine ⟨?_, N0, e0⟩
    show some (Value.int _) = some (Value.int (pl_wf ((xs.getD ix.toNatClampNeg 0) &&& (255 : Int32)) ((xs.getD (ix + (1 : Int32)).toNatClampNeg 0) &&& (255 : Int32)) ((xs.getD (ix + (2 : Int32)).toNatClampNeg 0) &&& (255 : Int32)) ((xs.getD (ix + (3 : Int32)).toNatClampNeg 0) &&& (255 : Int32)) (en - ix)))
    rw [pl_wf, if_pos hc12] <;> first | rfl | decide
theorem pl_n0 {x : Int32} (h : ¬ x < 0) : 0 ≤ x.toInt := by rw [Int32.lt_iff_toInt_lt, show (0 : Int32).toInt = 0 from by decide] at h; omega
def pl_st (ix : Int32) (en : Int32) (xs : List Int32) : Int32 := (if ix < (0 : Int32) then ix else (if ix < en then (if (pl_wf ((xs.getD ix.toNatClampNeg 0) &&& (255 : Int32)) ((xs.getD (ix + (1 : Int32)).toNatClampNeg 0) &&& (255 : Int32)) ((xs.getD (ix + (2 : Int32)).toNatClampNeg 0) &&& (255 : Int32)) ((xs.getD (ix + (3 : Int32)).toNatClampNeg 0) &&& (255 : Int32)) (en - ix)) = (0 : Int32) then ((-2 : Int32) - ix) else (ix + (pl_wf ((xs.getD ix.toNatClampNeg 0) &&& (255 : Int32)) ((xs.getD (ix + (1 : Int32)).toNatClampNeg 0) &&& (255 : Int32)) ((xs.getD (ix + (2 : Int32)).toNatClampNeg 0) &&& (255 : Int32)) ((xs.getD (ix + (3 : Int32)).toNatClampNeg 0) &&& (255 : Int32)) (en - ix)))) else ix))
theorem pn_3 : plainFor (⟨"com/example/termweave/termweave/release/RrfReaderNotUtf8PinLaw", "step", "([BII)I"⟩ : MethodName) = true := by decide +kernel
theorem ef_3 (m : MethodId) (a1 : Addr) (ix : Int32) (en : Int32) : entryFrame m #[(.ref a1), (.int ix), (.int en)] 4 = mkF m 0 #[.val (.ref a1), .val (.int ix), .val (.int en), .unset] [] := by first | (simp [entryFrame, mkF, argsToLocals, Value.category]; done) | rfl
def Q3 (Z : State) (a1 : Addr) (ix : Int32) (en : Int32) (k1 : ClassId) (xs : List Int32) (h0 : Heap) (n0 : Nat) (v : Option Value) (h : Heap) (L : List Loc) : Prop := v = some (.int (pl_st ix en xs)) ∧ Fr n0 L ∧ h = h0
set_option maxRecDepth 65536 in
set_option maxHeartbeats 40000000 in
theorem rm3 (l : Launch) (Z : State) (a0 : Array Value) (hw : ∀ d ∈ tables_1, d.before a0 Z = true) (ws : List Jvm.Cond) (a1 : Addr) (ix : Int32) (en : Int32) (k1 : ClassId) (xs : List Int32) (h0 : Heap) (n0 : Nat) (Z0 : n0 ≤ h0.size) (hV : Arv Z h0 a1 k1 .byte 8 (xs.map Value.int) (.int (0 : Int32))) (h8 : en.toInt ≤ 8) :
    MetFree l (⟨"com/example/termweave/termweave/release/RrfReaderNotUtf8PinLaw", "step", "([BII)I"⟩ : MethodName) (head1 (Jvm.Cond.code (⟨"com/example/termweave/termweave/release/RrfReaderNotUtf8PinLaw", "step", "([BII)I"⟩ : MethodName) method_4_code 4 (some .int) :: ws) ({ frames := 1, cells := 0, slots := 0, locals := 30 } : Room)) (fun a U => a = #[(.ref a1), (.int ix), (.int en)] ∧ Z.Warmed39 U.vm ∧ U.heap = h0) (fun _ _ _ _ _ => True) (fun _ U o U' => ∃ v L, o = .returned v ∧ Q3 Z a1 ix en k1 xs h0 n0 v U'.heap L ∧ FrameEnd U o U' L ({ frames := 1, cells := 0, slots := 0, locals := 30 } : Room).cells ({ frames := 1, cells := 0, slots := 0, locals := 30 } : Room).slots) := by
  refine MetFree.of_bodySF pn_3 hisR ?_
  intro p e s m args below meth c s₁ Bd hml0 hP hK
  obtain ⟨rfl, hZ, hh⟩ := hP
  have hx := Bd.exec
  have hby := Bd.bytes
  have hml : c.maxLocals = 4 := hml0
  have hown : s.vm.findClass "com/example/termweave/termweave/release/RrfReaderNotUtf8PinLaw" = some m.cls := findClass_of_methodNamed Bd.named
  have hnm := (name_of_methodNamed Bd.named Bd.method).1
  have hlk := BodyLoose.notSynchronized Bd
  have X0 : Stand p l e ({ frames := 1, cells := 0, slots := 0, locals := 30 } : Room) s m #[(.ref a1), (.int ix), (.int en)] below meth c s₁ [] 0 0 := Stand.of_body Bd
  have e0 : s₁.heap = h0 := by rw [← hh, Bd.state]; rfl
  have N0 := Fr.nil n0
  show own_R p e below s (Q3 Z a1 ix en k1 xs h0 n0) ({ frames := 1, cells := 0, slots := 0, locals := 30 } : Room).cells ({ frames := 1, cells := 0, slots := 0, locals := 30 } : Room).slots s₁ (entryFrame m #[(.ref a1), (.int ix), (.int en)] 4)
  refine own_cast (ef_3 m a1 ix en) ?_
  show own_R p e below s _ _ _ s₁ (mkF m 0 #[.val (.ref a1), .val (.int ix), .val (.int en), .unset] [])
  have K0 := Keep.refl h0 ([] : List Addr)
  refine own_iloadN X0 hx (hb hby d3_0) rfl ?_
  refine own_if X0 hx (hb hby d3_1) (pc' := 9) (by decide) (by decide) (fun hc => ?_) (fun hc => ?_)
  · have hc1 : ix < (0 : Int32) := own_lt1 hc
    clear hc
    show own_R p e below s _ _ _ s₁ (mkF m 9 #[.val (.ref a1), .val (.int ix), .val (.int en), .unset] [])
    refine own_iloadN X0 hx (hb hby d3_9) rfl ?_
    refine own_retI X0 hx Bd.returns hlk (hb hby d3_10) ?_ (by decide) (by decide)
    refine ⟨?_, N0, e0⟩
    show some (Value.int _) = some (Value.int (pl_st ix en xs))
    rw [pl_st, if_pos hc1] <;> first | rfl | decide
  · have hc1 : ¬ ix < (0 : Int32) := own_lt0 hc
    clear hc
    show own_R p e below s _ _ _ s₁ (mkF m 4 #[.val (.ref a1), .val (.int ix), .val (.int en), .unset] [])
    refine own_iloadN X0 hx (hb hby d3_4) rfl ?_
    refine own_iloadN X0 hx (hb hby d3_5) rfl ?_
    refine own_icmp X0 hx (hb hby d3_6) (pc' := 11) (by decide) (by decide) (fun hc => ?_) (fun hc => ?_)
    · have hc6 : ix < en := own_lt1 hc
      clear hc
      show own_R p e below s _ _ _ s₁ (mkF m 11 #[.val (.ref a1), .val (.int ix), .val (.int en), .unset] [])
      refine own_aloadN X0 hx (hb hby d3_11) rfl rfl ?_
      refine own_iloadN X0 hx (hb hby d3_12) rfl ?_
      refine own_iloadN X0 hx (hb hby d3_13) rfl ?_
      refine own_callS X0 hx hZ (y := (⟨"com/example/termweave/termweave/release/RrfReaderNotUtf8PinLaw", "wellFormed", "([BII)I"⟩ : MethodName)) hown (hw _ (List.mem_of_getElem? (i := 16) rfl)) (hw _ (List.mem_of_getElem? (i := 17) rfl)) (hw _ (List.mem_of_getElem? (i := 3) rfl)) (hw _ (List.mem_of_getElem? (i := 18) rfl)) (by decide) (rm5 l Z a0 hw [] a1 ix en k1 xs h0 n0 Z0 hV (pl_n0 hc1) hc6 h8) 0 (by decide) (by decide) e0 (by rw [hml]; rfl) [(.ref a1), (.int ix), (.int en)] [] rfl (lenOf pd_0 rfl) rfl (Nat.le_of_eq rfl) (hb hby d3_14) (by decide) (by decide) ?_
      rintro T1 _ L1 X1 ⟨rfl, N1q, e1⟩
      have N1 := Fr.app N0 N1q
      show own_R p e below s _ _ _ T1 (mkF m 17 #[.val (.ref a1), .val (.int ix), .val (.int en), .unset] [(.int (pl_wf ((xs.getD ix.toNatClampNeg 0) &&& (255 : Int32)) ((xs.getD (ix + (1 : Int32)).toNatClampNeg 0) &&& (255 : Int32)) ((xs.getD (ix + (2 : Int32)).toNatClampNeg 0) &&& (255 : Int32)) ((xs.getD (ix + (3 : Int32)).toNatClampNeg 0) &&& (255 : Int32)) (en - ix)))])
      refine own_istoreN X1 hx (hb hby d3_17) (l' := #[.val (.ref a1), .val (.int ix), .val (.int en), .val (.int (pl_wf ((xs.getD ix.toNatClampNeg 0) &&& (255 : Int32)) ((xs.getD (ix + (1 : Int32)).toNatClampNeg 0) &&& (255 : Int32)) ((xs.getD (ix + (2 : Int32)).toNatClampNeg 0) &&& (255 : Int32)) ((xs.getD (ix + (3 : Int32)).toNatClampNeg 0) &&& (255 : Int32)) (en - ix)))]) rfl ?_
      refine own_iloadN X1 hx (hb hby d3_18) rfl ?_
      refine own_if X1 hx (hb hby d3_19) (pc' := 27) (by decide) (by decide) (fun hc => ?_) (fun hc => ?_)
      · have hc19 : ¬ (pl_wf ((xs.getD ix.toNatClampNeg 0) &&& (255 : Int32)) ((xs.getD (ix + (1 : Int32)).toNatClampNeg 0) &&& (255 : Int32)) ((xs.getD (ix + (2 : Int32)).toNatClampNeg 0) &&& (255 : Int32)) ((xs.getD (ix + (3 : Int32)).toNatClampNeg 0) &&& (255 : Int32)) (en - ix)) = (0 : Int32) := own_ne1 hc
        clear hc
        show own_R p e below s _ _ _ T1 (mkF m 27 #[.val (.ref a1), .val (.int ix), .val (.int en), .val (.int (pl_wf ((xs.getD ix.toNatClampNeg 0) &&& (255 : Int32)) ((xs.getD (ix + (1 : Int32)).toNatClampNeg 0) &&& (255 : Int32)) ((xs.getD (ix + (2 : Int32)).toNatClampNeg 0) &&& (255 : Int32)) ((xs.getD (ix + (3 : Int32)).toNatClampNeg 0) &&& (255 : Int32)) (en - ix)))] [])
        refine own_iloadN X1 hx (hb hby d3_27) rfl ?_
        refine own_iloadN X1 hx (hb hby d3_28) rfl ?_
        refine own_iadd X1 hx (hb hby d3_29) ?_
        refine own_retI X1 hx Bd.returns hlk (hb hby d3_30) ?_ (by decide) (by decide)
        refine ⟨?_, N1, e1⟩
        show some (Value.int _) = some (Value.int (pl_st ix en xs))
        rw [pl_st, if_neg hc1, if_pos hc6, if_neg hc19] <;> first | rfl | decide
      · have hc19 : (pl_wf ((xs.getD ix.toNatClampNeg 0) &&& (255 : Int32)) ((xs.getD (ix + (1 : Int32)).toNatClampNeg 0) &&& (255 : Int32)) ((xs.getD (ix + (2 : Int32)).toNatClampNeg 0) &&& (255 : Int32)) ((xs.getD (ix + (3 : Int32)).toNatClampNeg 0) &&& (255 : Int32)) (en - ix)) = (0 : Int32) := own_ne0 hc
        clear hc
        show own_R p e below s _ _ _ T1 (mkF m 22 #[.val (.ref a1), .val (.int ix), .val (.int en), .val (.int (pl_wf ((xs.getD ix.toNatClampNeg 0) &&& (255 : Int32)) ((xs.getD (ix + (1 : Int32)).toNatClampNeg 0) &&& (255 : Int32)) ((xs.getD (ix + (2 : Int32)).toNatClampNeg 0) &&& (255 : Int32)) ((xs.getD (ix + (3 : Int32)).toNatClampNeg 0) &&& (255 : Int32)) (en - ix)))] [])
        refine own_bipush X1 hx (-2 : Int32) (hb hby d3_22) rfl ?_
        refine own_iloadN X1 hx (hb hby d3_24) rfl ?_
        refine own_isub X1 hx (hb hby d3_25) ?_
        refine own_retI X1 hx Bd.returns hlk (hb hby d3_26) ?_ (by decide) (by decide)
        refine ⟨?_, N1, e1⟩
        show some (Value.int _) = some (Value.int (pl_st ix en xs))
        rw [pl_st, if_neg hc1, if_pos hc6, if_pos hc19] <;> first | rfl | decide
    · have hc6 : ¬ ix < en := own_lt0 hc
      clear hc
      show own_R p e below s _ _ _ s₁ (mkF m 9 #[.val (.ref a1), .val (.int ix), .val (.int en), .unset] [])
      refine own_iloadN X0 hx (hb hby d3_9) rfl ?_
      refine own_retI X0 hx Bd.returns hlk (hb hby d3_10) ?_ (by decide) (by decide)
      refine ⟨?_, N0, e0⟩
      show some (Value.int _) = some (Value.int (pl_st ix en xs))
      rw [pl_st, if_neg hc1, if_neg hc6] <;> first | rfl | decide
def pl_nl (b0 c1 r2 r3 d : Int32) : Int32 := (if b0 < (128 : Int32) then (1 : Int32) else (if b0 < (194 : Int32) then (if b0 < (224 : Int32) then (if b0 < (240 : Int32) then (0 : Int32) else (if (244 : Int32) < b0 then (0 : Int32) else (if b0 = (240 : Int32) then (if b0 = (244 : Int32) then (if d < (4 : Int32) then (0 : Int32) else (if c1 < (144 : Int32) then (0 : Int32) else (if (143 : Int32) < c1 then (0 : Int32) else (if (r2 &&& (192 : Int32)) = (128 : Int32) then (if (r3 &&& (192 : Int32)) = (128 : Int32) then (4 : Int32) else (0 : Int32)) else (0 : Int32))))) else (if d < (4 : Int32) then (0 : Int32) else (if c1 < (144 : Int32) then (0 : Int32) else (if (191 : Int32) < c1 then (0 : Int32) else (if (r2 &&& (192 : Int32)) = (128 : Int32) then (if (r3 &&& (192 : Int32)) = (128 : Int32) then (4 : Int32) else (0 : Int32)) else (0 : Int32)))))) else (if b0 = (244 : Int32) then (if d < (4 : Int32) then (0 : Int32) else (if c1 < (128 : Int32) then (0 : Int32) else (if (143 : Int32) < c1 then (0 : Int32) else (if (r2 &&& (192 : Int32)) = (128 : Int32) then (if (r3 &&& (192 : Int32)) = (128 : Int32) then (4 : Int32) else (0 : Int32)) else (0 : Int32))))) else (if d < (4 : Int32) then (0 : Int32) else (if c1 < (128 : Int32) then (0 : Int32) else (if (191 : Int32) < c1 then (0 : Int32) else (if (r2 &&& (192 : Int32)) = (128 : Int32) then (if (r3 &&& (192 : Int32)) = (128 : Int32) then (4 : Int32) else (0 : Int32)) else (0 : Int32))))))))) else (if (239 : Int32) < b0 then (if b0 < (240 : Int32) then (0 : Int32) else (if (244 : Int32) < b0 then (0 : Int32) else (if b0 = (240 : Int32) then (if b0 = (244 : Int32) then (if d < (4 : Int32) then (0 : Int32) else (if c1 < (144 : Int32) then (0 : Int32) else (if (143 : Int32) < c1 then (0 : Int32) else (if (r2 &&& (192 : Int32)) = (128 : Int32) then (if (r3 &&& (192 : Int32)) = (128 : Int32) then (4 : Int32) else (0 : Int32)) else (0 : Int32))))) else (if d < (4 : Int32) then (0 : Int32) else (if c1 < (144 : Int32) then (0 : Int32) else (if (191 : Int32) < c1 then (0 : Int32) else (if (r2 &&& (192 : Int32)) = (128 : Int32) then (if (r3 &&& (192 : Int32)) = (128 : Int32) then (4 : Int32) else (0 : Int32)) else (0 : Int32)))))) else (if b0 = (244 : Int32) then (if d < (4 : Int32) then (0 : Int32) else (if c1 < (128 : Int32) then (0 : Int32) else (if (143 : Int32) < c1 then (0 : Int32) else (if (r2 &&& (192 : Int32)) = (128 : Int32) then (if (r3 &&& (192 : Int32)) = (128 : Int32) then (4 : Int32) else (0 : Int32)) else (0 : Int32))))) else (if d < (4 : Int32) then (0 : Int32) else (if c1 < (128 : Int32) then (0 : Int32) else (if (191 : Int32) < c1 then (0 : Int32) else (if (r2 &&& (192 : Int32)) = (128 : Int32) then (if (r3 &&& (192 : Int32)) = (128 : Int32) then (4 : Int32) else (0 : Int32)) else (0 : Int32))))))))) else (if b0 = (224 : Int32) then (if b0 = (237 : Int32) then (if d < (3 : Int32) then (0 : Int32) else (if c1 < (160 : Int32) then (0 : Int32) else (if (159 : Int32) < c1 then (0 : Int32) else (if (r2 &&& (192 : Int32)) = (128 : Int32) then (3 : Int32) else (0 : Int32))))) else (if d < (3 : Int32) then (0 : Int32) else (if c1 < (160 : Int32) then (0 : Int32) else (if (191 : Int32) < c1 then (0 : Int32) else (if (r2 &&& (192 : Int32)) = (128 : Int32) then (3 : Int32) else (0 : Int32)))))) else (if b0 = (237 : Int32) then (if d < (3 : Int32) then (0 : Int32) else (if c1 < (128 : Int32) then (0 : Int32) else (if (159 : Int32) < c1 then (0 : Int32) else (if (r2 &&& (192 : Int32)) = (128 : Int32) then (3 : Int32) else (0 : Int32))))) else (if d < (3 : Int32) then (0 : Int32) else (if c1 < (128 : Int32) then (0 : Int32) else (if (191 : Int32) < c1 then (0 : Int32) else (if (r2 &&& (192 : Int32)) = (128 : Int32) then (3 : Int32) else (0 : Int32))))))))) else (if (223 : Int32) < b0 then (if b0 < (224 : Int32) then (if b0 < (240 : Int32) then (0 : Int32) else (if (244 : Int32) < b0 then (0 : Int32) else (if b0 = (240 : Int32) then (if b0 = (244 : Int32) then (if d < (4 : Int32) then (0 : Int32) else (if c1 < (144 : Int32) then (0 : Int32) else (if (143 : Int32) < c1 then (0 : Int32) else (if (r2 &&& (192 : Int32)) = (128 : Int32) then (if (r3 &&& (192 : Int32)) = (128 : Int32) then (4 : Int32) else (0 : Int32)) else (0 : Int32))))) else (if d < (4 : Int32) then (0 : Int32) else (if c1 < (144 : Int32) then (0 : Int32) else (if (191 : Int32) < c1 then (0 : Int32) else (if (r2 &&& (192 : Int32)) = (128 : Int32) then (if (r3 &&& (192 : Int32)) = (128 : Int32) then (4 : Int32) else (0 : Int32)) else (0 : Int32)))))) else (if b0 = (244 : Int32) then (if d < (4 : Int32) then (0 : Int32) else (if c1 < (128 : Int32) then (0 : Int32) else (if (143 : Int32) < c1 then (0 : Int32) else (if (r2 &&& (192 : Int32)) = (128 : Int32) then (if (r3 &&& (192 : Int32)) = (128 : Int32) then (4 : Int32) else (0 : Int32)) else (0 : Int32))))) else (if d < (4 : Int32) then (0 : Int32) else (if c1 < (128 : Int32) then (0 : Int32) else (if (191 : Int32) < c1 then (0 : Int32) else (if (r2 &&& (192 : Int32)) = (128 : Int32) then (if (r3 &&& (192 : Int32)) = (128 : Int32) then (4 : Int32) else (0 : Int32)) else (0 : Int32))))))))) else (if (239 : Int32) < b0 then (if b0 < (240 : Int32) then (0 : Int32) else (if (244 : Int32) < b0 then (0 : Int32) else (if b0 = (240 : Int32) then (if b0 = (244 : Int32) then (if d < (4 : Int32) then (0 : Int32) else (if c1 < (144 : Int32) then (0 : Int32) else (if (143 : Int32) < c1 then (0 : Int32) else (if (r2 &&& (192 : Int32)) = (128 : Int32) then (if (r3 &&& (192 : Int32)) = (128 : Int32) then (4 : Int32) else (0 : Int32)) else (0 : Int32))))) else (if d < (4 : Int32) then (0 : Int32) else (if c1 < (144 : Int32) then (0 : Int32) else (if (191 : Int32) < c1 then (0 : Int32) else (if (r2 &&& (192 : Int32)) = (128 : Int32) then (if (r3 &&& (192 : Int32)) = (128 : Int32) then (4 : Int32) else (0 : Int32)) else (0 : Int32)))))) else (if b0 = (244 : Int32) then (if d < (4 : Int32) then (0 : Int32) else (if c1 < (128 : Int32) then (0 : Int32) else (if (143 : Int32) < c1 then (0 : Int32) else (if (r2 &&& (192 : Int32)) = (128 : Int32) then (if (r3 &&& (192 : Int32)) = (128 : Int32) then (4 : Int32) else (0 : Int32)) else (0 : Int32))))) else (if d < (4 : Int32) then (0 : Int32) else (if c1 < (128 : Int32) then (0 : Int32) else (if (191 : Int32) < c1 then (0 : Int32) else (if (r2 &&& (192 : Int32)) = (128 : Int32) then (if (r3 &&& (192 : Int32)) = (128 : Int32) then (4 : Int32) else (0 : Int32)) else (0 : Int32))))))))) else (if b0 = (224 : Int32) then (if b0 = (237 : Int32) then (if d < (3 : Int32) then (0 : Int32) else (if c1 < (160 : Int32) then (0 : Int32) else (if (159 : Int32) < c1 then (0 : Int32) else (if (r2 &&& (192 : Int32)) = (128 : Int32) then (3 : Int32) else (0 : Int32))))) else (if d < (3 : Int32) then (0 : Int32) else (if c1 < (160 : Int32) then (0 : Int32) else (if (191 : Int32) < c1 then (0 : Int32) else (if (r2 &&& (192 : Int32)) = (128 : Int32) then (3 : Int32) else (0 : Int32)))))) else (if b0 = (237 : Int32) then (if d < (3 : Int32) then (0 : Int32) else (if c1 < (128 : Int32) then (0 : Int32) else (if (159 : Int32) < c1 then (0 : Int32) else (if (r2 &&& (192 : Int32)) = (128 : Int32) then (3 : Int32) else (0 : Int32))))) else (if d < (3 : Int32) then (0 : Int32) else (if c1 < (128 : Int32) then (0 : Int32) else (if (191 : Int32) < c1 then (0 : Int32) else (if (r2 &&& (192 : Int32)) = (128 : Int32) then (3 : Int32) else (0 : Int32))))))))) else (if d < (2 : Int32) then (0 : Int32) else (if c1 < (128 : Int32) then (0 : Int32) else (if (191 : Int32) < c1 then (0 : Int32) else (2 : Int32)))))))
def pl_nu (xs : List Int32) (en : Int32) : Nat → Int32 → Int32
  | 0, _ => -1
  | k + 1, ix => if ix < en then (if pl_nl ((xs.getD ix.toNatClampNeg 0) &&& (255 : Int32)) ((xs.getD (ix + (1 : Int32)).toNatClampNeg 0) &&& (255 : Int32)) (xs.getD (ix + (2 : Int32)).toNatClampNeg 0) (xs.getD (ix + (3 : Int32)).toNatClampNeg 0) (en - ix) = 0 then ix else pl_nu xs en k (ix + pl_nl ((xs.getD ix.toNatClampNeg 0) &&& (255 : Int32)) ((xs.getD (ix + (1 : Int32)).toNatClampNeg 0) &&& (255 : Int32)) (xs.getD (ix + (2 : Int32)).toNatClampNeg 0) (xs.getD (ix + (3 : Int32)).toNatClampNeg 0) (en - ix))) else -1
theorem pn_4 : plainFor (⟨"com/example/termweave/termweave/release/RrfReader", "notUtf8", "([BII)I"⟩ : MethodName) = true := by decide +kernel
theorem ef_4 (m : MethodId) (a1 : Addr) (fr : Int32) (en : Int32) : entryFrame m #[(.ref a1), (.int fr), (.int en)] 10 = mkF m 0 #[.val (.ref a1), .val (.int fr), .val (.int en), .unset, .unset, .unset, .unset, .unset, .unset, .unset] [] := by first | (simp [entryFrame, mkF, argsToLocals, Value.category]; done) | rfl
def Q4 (Z : State) (a1 : Addr) (fr : Int32) (en : Int32) (k1 : ClassId) (xs : List Int32) (h0 : Heap) (n0 : Nat) (v : Option Value) (h : Heap) (L : List Loc) : Prop := v = some (.int (pl_nu xs en 8 fr)) ∧ Fr n0 L ∧ h = h0
set_option maxRecDepth 65536 in
set_option maxHeartbeats 40000000 in
theorem rm4 (l : Launch) (Z : State) (a0 : Array Value) (hw : ∀ d ∈ tables_1, d.before a0 Z = true) (ws : List Jvm.Cond) (a1 : Addr) (fr : Int32) (en : Int32) (k1 : ClassId) (xs : List Int32) (h0 : Heap) (n0 : Nat) (Z0 : n0 ≤ h0.size) (hV : Arv Z h0 a1 k1 .byte 8 (xs.map Value.int) (.int (0 : Int32))) (hs0 : 0 ≤ fr.toInt) (h8 : en.toInt ≤ 8) :
    MetFree l (⟨"com/example/termweave/termweave/release/RrfReader", "notUtf8", "([BII)I"⟩ : MethodName) (head1 (Jvm.Cond.code (⟨"com/example/termweave/termweave/release/RrfReader", "notUtf8", "([BII)I"⟩ : MethodName) prog_43_method_27_code 10 (some .int) :: ws) ({ frames := 0, cells := 0, slots := 0, locals := 0 } : Room)) (fun a U => a = #[(.ref a1), (.int fr), (.int en)] ∧ Z.Warmed39 U.vm ∧ U.heap = h0) (fun _ _ _ _ _ => True) (fun _ U o U' => ∃ v L, o = .returned v ∧ Q4 Z a1 fr en k1 xs h0 n0 v U'.heap L ∧ FrameEnd U o U' L ({ frames := 0, cells := 0, slots := 0, locals := 0 } : Room).cells ({ frames := 0, cells := 0, slots := 0, locals := 0 } : Room).slots) := by
  refine MetFree.of_bodySF pn_4 hisR ?_
  intro p e s m args below meth c s₁ Bd hml0 hP hK
  obtain ⟨rfl, hZ, hh⟩ := hP
  have hx := Bd.exec
  have hby := Bd.bytes
  have hml : c.maxLocals = 10 := hml0
  have hown : s.vm.findClass "com/example/termweave/termweave/release/RrfReader" = some m.cls := findClass_of_methodNamed Bd.named
  have hnm := (name_of_methodNamed Bd.named Bd.method).1
  have hlk := BodyLoose.notSynchronized Bd
  have X0 : Stand p l e ({ frames := 0, cells := 0, slots := 0, locals := 0 } : Room) s m #[(.ref a1), (.int fr), (.int en)] below meth c s₁ [] 0 0 := Stand.of_body Bd
  have e0 : s₁.heap = h0 := by rw [← hh, Bd.state]; rfl
  have N0 := Fr.nil n0
  show own_R p e below s (Q4 Z a1 fr en k1 xs h0 n0) ({ frames := 0, cells := 0, slots := 0, locals := 0 } : Room).cells ({ frames := 0, cells := 0, slots := 0, locals := 0 } : Room).slots s₁ (entryFrame m #[(.ref a1), (.int fr), (.int en)] 10)
  refine own_cast (ef_4 m a1 fr en) ?_
  show own_R p e below s _ _ _ s₁ (mkF m 0 #[.val (.ref a1), .val (.int fr), .val (.int en), .unset, .unset, .unset, .unset, .unset, .unset, .unset] [])
  have K0 := Keep.refl h0 ([] : List Addr)
  have lp : ∀ (k : Nat) (ix : Int32) (s4 s5 s6 s7 s8 s9 : Slot), One s4 → One s5 → One s6 → One s7 → One s8 → One s9 → 0 ≤ ix.toInt → en.toInt - ix.toInt ≤ (k : Int) → pl_nu xs en k ix = pl_nu xs en 8 fr → own_R p e below s (Q4 Z a1 fr en k1 xs h0 n0) ({ frames := 0, cells := 0, slots := 0, locals := 0 } : Room).cells ({ frames := 0, cells := 0, slots := 0, locals := 0 } : Room).slots s₁ (mkF m 2 #[.val (.ref a1), .val (.int fr), .val (.int en), .val (.int ix), s4, s5, s6, s7, s8, s9] []) := by
    intro k
    induction k with
    | zero =>
      intro ix s4 s5 s6 s7 s8 s9 hs4 hs5 hs6 hs7 hs8 hs9 h0' hk hr
      show own_R p e below s _ _ _ s₁ (mkF m 2 #[.val (.ref a1), .val (.int fr), .val (.int en), .val (.int ix), s4, s5, s6, s7, s8, s9] [])
      refine own_iloadN X0 hx (hb hby d4_2) rfl ?_
      refine own_iloadN X0 hx (hb hby d4_3) rfl ?_
      refine own_icmp X0 hx (hb hby d4_4) (pc' := 261) (by decide) (by decide) (fun hc => ?_) (fun hc => ?_)
      · have hc4 : ¬ ix < en := own_ge1 hc
        clear hc
        show own_R p e below s _ _ _ s₁ (mkF m 261 #[.val (.ref a1), .val (.int fr), .val (.int en), .val (.int ix), s4, s5, s6, s7, s8, s9] [])
        refine own_iconst X0 hx (-1 : Int32) (hb hby d4_261) rfl ?_
        refine own_retI X0 hx Bd.returns hlk (hb hby d4_262) ?_ (by decide) (by decide)
        refine ⟨?_, N0, e0⟩
        show some (Value.int _) = some (Value.int (pl_nu xs en 8 fr))
        rw [← hr, pl_nu]
      · have hc4 : ix < en := own_ge0 hc
        exfalso; rw [Int32.lt_iff_toInt_lt] at hc4; omega
    | succ k ih =>
      intro ix s4 s5 s6 s7 s8 s9 hs4 hs5 hs6 hs7 hs8 hs9 h0' hk hr
      have hk' : en.toInt - ix.toInt ≤ (k : Int) + 1 := by omega
      show own_R p e below s _ _ _ s₁ (mkF m 2 #[.val (.ref a1), .val (.int fr), .val (.int en), .val (.int ix), s4, s5, s6, s7, s8, s9] [])
      refine own_iloadN X0 hx (hb hby d4_2) rfl ?_
      refine own_iloadN X0 hx (hb hby d4_3) rfl ?_
      refine own_icmp X0 hx (hb hby d4_4) (pc' := 261) (by decide) (by decide) (fun hc => ?_) (fun hc => ?_)
      · have hc4 : ¬ ix < en := own_ge1 hc
        clear hc
        show own_R p e below s _ _ _ s₁ (mkF m 261 #[.val (.ref a1), .val (.int fr), .val (.int en), .val (.int ix), s4, s5, s6, s7, s8, s9] [])
        refine own_iconst X0 hx (-1 : Int32) (hb hby d4_261) rfl ?_
        refine own_retI X0 hx Bd.returns hlk (hb hby d4_262) ?_ (by decide) (by decide)
        refine ⟨?_, N0, e0⟩
        show some (Value.int _) = some (Value.int (pl_nu xs en 8 fr))
        rw [← hr, pl_nu, if_neg hc4]
      · have hc4 : ix < en := own_ge0 hc
        clear hc
        show own_R p e below s _ _ _ s₁ (mkF m 7 #[.val (.ref a1), .val (.int fr), .val (.int en), .val (.int ix), s4, s5, s6, s7, s8, s9] [])
        have hlt := hc4
        refine own_aloadN X0 hx (hb hby d4_7) rfl rfl ?_
        refine own_iloadN X0 hx (hb hby d4_8) rfl ?_
        refine own_baload X0 hx hZ e0 hV (v := .int (xs.getD ix.toNatClampNeg 0)) (pl_at0 ix en h0' hlt h8) (pl_gd _ _) (hb hby d4_9) ?_
        show own_R p e below s _ _ _ s₁ (mkF m 10 #[.val (.ref a1), .val (.int fr), .val (.int en), .val (.int ix), s4, s5, s6, s7, s8, s9] [(.int (xs.getD ix.toNatClampNeg 0))])
        refine own_sipush X0 hx (255 : Int32) (hb hby d4_10) rfl ?_
        refine own_iand X0 hx (hb hby d4_13) ?_
        refine own_istore X0 hx (hb hby d4_14) (l' := #[.val (.ref a1), .val (.int fr), .val (.int en), .val (.int ix), .val (.int ((xs.getD ix.toNatClampNeg 0) &&& (255 : Int32))), s5, s6, s7, s8, s9]) (by rcases hs4 with rfl | ⟨w, rfl, hw'⟩ <;> first | rfl | (cases w <;> first | rfl | (simp [Value.category] at hw'))) ?_
        refine own_iload X0 hx (hb hby d4_16) rfl ?_
        refine own_sipush X0 hx (128 : Int32) (hb hby d4_18) rfl ?_
        refine own_icmp X0 hx (hb hby d4_21) (pc' := 30) (by decide) (by decide) (fun hc => ?_) (fun hc => ?_)
        · have hc21 : ¬ ((xs.getD ix.toNatClampNeg 0) &&& (255 : Int32)) < (128 : Int32) := own_ge1 hc
          clear hc
          show own_R p e below s _ _ _ s₁ (mkF m 30 #[.val (.ref a1), .val (.int fr), .val (.int en), .val (.int ix), .val (.int ((xs.getD ix.toNatClampNeg 0) &&& (255 : Int32))), s5, s6, s7, s8, s9] [])
          refine own_sipush X0 hx (128 : Int32) (hb hby d4_30) rfl ?_
          refine own_istore X0 hx (hb hby d4_33) (l' := #[.val (.ref a1), .val (.int fr), .val (.int en), .val (.int ix), .val (.int ((xs.getD ix.toNatClampNeg 0) &&& (255 : Int32))), s5, .val (.int (128 : Int32)), s7, s8, s9]) (by rcases hs6 with rfl | ⟨w, rfl, hw'⟩ <;> first | rfl | (cases w <;> first | rfl | (simp [Value.category] at hw'))) ?_
          refine own_sipush X0 hx (191 : Int32) (hb hby d4_35) rfl ?_
          refine own_istore X0 hx (hb hby d4_38) (l' := #[.val (.ref a1), .val (.int fr), .val (.int en), .val (.int ix), .val (.int ((xs.getD ix.toNatClampNeg 0) &&& (255 : Int32))), s5, .val (.int (128 : Int32)), .val (.int (191 : Int32)), s8, s9]) (by rcases hs7 with rfl | ⟨w, rfl, hw'⟩ <;> first | rfl | (cases w <;> first | rfl | (simp [Value.category] at hw'))) ?_
          refine own_iload X0 hx (hb hby d4_40) rfl ?_
          refine own_sipush X0 hx (194 : Int32) (hb hby d4_42) rfl ?_
          refine own_icmp X0 hx (hb hby d4_45) (pc' := 62) (by decide) (by decide) (fun hc => ?_) (fun hc => ?_)
          · have hc45 : ((xs.getD ix.toNatClampNeg 0) &&& (255 : Int32)) < (194 : Int32) := own_lt1 hc
            clear hc
            show own_R p e below s _ _ _ s₁ (mkF m 62 #[.val (.ref a1), .val (.int fr), .val (.int en), .val (.int ix), .val (.int ((xs.getD ix.toNatClampNeg 0) &&& (255 : Int32))), s5, .val (.int (128 : Int32)), .val (.int (191 : Int32)), s8, s9] [])
            refine own_iload X0 hx (hb hby d4_62) rfl ?_
            refine own_sipush X0 hx (224 : Int32) (hb hby d4_64) rfl ?_
            refine own_icmp X0 hx (hb hby d4_67) (pc' := 120) (by decide) (by decide) (fun hc => ?_) (fun hc => ?_)
            · have hc67 : ((xs.getD ix.toNatClampNeg 0) &&& (255 : Int32)) < (224 : Int32) := own_lt1 hc
              clear hc
              show own_R p e below s _ _ _ s₁ (mkF m 120 #[.val (.ref a1), .val (.int fr), .val (.int en), .val (.int ix), .val (.int ((xs.getD ix.toNatClampNeg 0) &&& (255 : Int32))), s5, .val (.int (128 : Int32)), .val (.int (191 : Int32)), s8, s9] [])
              refine own_iload X0 hx (hb hby d4_120) rfl ?_
              refine own_sipush X0 hx (240 : Int32) (hb hby d4_122) rfl ?_
              refine own_icmp X0 hx (hb hby d4_125) (pc' := 178) (by decide) (by decide) (fun hc => ?_) (fun hc => ?_)
              · have hc125 : ((xs.getD ix.toNatClampNeg 0) &&& (255 : Int32)) < (240 : Int32) := own_lt1 hc
                clear hc
                show own_R p e below s _ _ _ s₁ (mkF m 178 #[.val (.ref a1), .val (.int fr), .val (.int en), .val (.int ix), .val (.int ((xs.getD ix.toNatClampNeg 0) &&& (255 : Int32))), s5, .val (.int (128 : Int32)), .val (.int (191 : Int32)), s8, s9] [])
                refine own_iloadN X0 hx (hb hby d4_178) rfl ?_
                have hnl : pl_nl ((xs.getD ix.toNatClampNeg 0) &&& (255 : Int32)) ((xs.getD (ix + (1 : Int32)).toNatClampNeg 0) &&& (255 : Int32)) (xs.getD (ix + (2 : Int32)).toNatClampNeg 0) (xs.getD (ix + (3 : Int32)).toNatClampNeg 0) (en - ix) = 0 := by rw [pl_nl, if_neg hc21, if_pos hc45, if_pos hc67, if_pos hc125]
                refine own_retI X0 hx Bd.returns hlk (hb hby d4_179) ?_ (by decide) (by decide)
                refine ⟨?_, N0, e0⟩
                show some (Value.int _) = some (Value.int (pl_nu xs en 8 fr))
                rw [← hr, pl_nu, if_pos hlt, if_pos hnl]
              · have hc125 : ¬ ((xs.getD ix.toNatClampNeg 0) &&& (255 : Int32)) < (240 : Int32) := own_lt0 hc
                clear hc
                show own_R p e below s _ _ _ s₁ (mkF m 128 #[.val (.ref a1), .val (.int fr), .val (.int en), .val (.int ix), .val (.int ((xs.getD ix.toNatClampNeg 0) &&& (255 : Int32))), s5, .val (.int (128 : Int32)), .val (.int (191 : Int32)), s8, s9] [])
                refine own_iload X0 hx (hb hby d4_128) rfl ?_
                refine own_sipush X0 hx (244 : Int32) (hb hby d4_130) rfl ?_
                refine own_icmp X0 hx (hb hby d4_133) (pc' := 178) (by decide) (by decide) (fun hc => ?_) (fun hc => ?_)
                · have hc133 : (244 : Int32) < ((xs.getD ix.toNatClampNeg 0) &&& (255 : Int32)) := own_gt1 hc
                  clear hc
                  show own_R p e below s _ _ _ s₁ (mkF m 178 #[.val (.ref a1), .val (.int fr), .val (.int en), .val (.int ix), .val (.int ((xs.getD ix.toNatClampNeg 0) &&& (255 : Int32))), s5, .val (.int (128 : Int32)), .val (.int (191 : Int32)), s8, s9] [])
                  refine own_iloadN X0 hx (hb hby d4_178) rfl ?_
                  have hnl : pl_nl ((xs.getD ix.toNatClampNeg 0) &&& (255 : Int32)) ((xs.getD (ix + (1 : Int32)).toNatClampNeg 0) &&& (255 : Int32)) (xs.getD (ix + (2 : Int32)).toNatClampNeg 0) (xs.getD (ix + (3 : Int32)).toNatClampNeg 0) (en - ix) = 0 := by rw [pl_nl, if_neg hc21, if_pos hc45, if_pos hc67, if_neg hc125, if_pos hc133]
                  refine own_retI X0 hx Bd.returns hlk (hb hby d4_179) ?_ (by decide) (by decide)
                  refine ⟨?_, N0, e0⟩
                  show some (Value.int _) = some (Value.int (pl_nu xs en 8 fr))
                  rw [← hr, pl_nu, if_pos hlt, if_pos hnl]
                · have hc133 : ¬ (244 : Int32) < ((xs.getD ix.toNatClampNeg 0) &&& (255 : Int32)) := own_gt0 hc
                  clear hc
                  show own_R p e below s _ _ _ s₁ (mkF m 136 #[.val (.ref a1), .val (.int fr), .val (.int en), .val (.int ix), .val (.int ((xs.getD ix.toNatClampNeg 0) &&& (255 : Int32))), s5, .val (.int (128 : Int32)), .val (.int (191 : Int32)), s8, s9] [])
                  refine own_iconst X0 hx (4 : Int32) (hb hby d4_136) rfl ?_
                  refine own_istore X0 hx (hb hby d4_137) (l' := #[.val (.ref a1), .val (.int fr), .val (.int en), .val (.int ix), .val (.int ((xs.getD ix.toNatClampNeg 0) &&& (255 : Int32))), .val (.int (4 : Int32)), .val (.int (128 : Int32)), .val (.int (191 : Int32)), s8, s9]) (by rcases hs5 with rfl | ⟨w, rfl, hw'⟩ <;> first | rfl | (cases w <;> first | rfl | (simp [Value.category] at hw'))) ?_
                  refine own_iload X0 hx (hb hby d4_139) rfl ?_
                  refine own_sipush X0 hx (240 : Int32) (hb hby d4_141) rfl ?_
                  refine own_icmp X0 hx (hb hby d4_144) (pc' := 153) (by decide) (by decide) (fun hc => ?_) (fun hc => ?_)
                  · have hc144 : ¬ ((xs.getD ix.toNatClampNeg 0) &&& (255 : Int32)) = (240 : Int32) := own_ne1 hc
                    clear hc
                    show own_R p e below s _ _ _ s₁ (mkF m 153 #[.val (.ref a1), .val (.int fr), .val (.int en), .val (.int ix), .val (.int ((xs.getD ix.toNatClampNeg 0) &&& (255 : Int32))), .val (.int (4 : Int32)), .val (.int (128 : Int32)), .val (.int (191 : Int32)), s8, s9] [])
                    refine own_iload X0 hx (hb hby d4_153) rfl ?_
                    refine own_istore X0 hx (hb hby d4_155) (l' := #[.val (.ref a1), .val (.int fr), .val (.int en), .val (.int ix), .val (.int ((xs.getD ix.toNatClampNeg 0) &&& (255 : Int32))), .val (.int (4 : Int32)), .val (.int (128 : Int32)), .val (.int (191 : Int32)), s8, s9]) rfl ?_
                    refine own_iload X0 hx (hb hby d4_157) rfl ?_
                    refine own_sipush X0 hx (244 : Int32) (hb hby d4_159) rfl ?_
                    refine own_icmp X0 hx (hb hby d4_162) (pc' := 171) (by decide) (by decide) (fun hc => ?_) (fun hc => ?_)
                    · have hc162 : ¬ ((xs.getD ix.toNatClampNeg 0) &&& (255 : Int32)) = (244 : Int32) := own_ne1 hc
                      clear hc
                      show own_R p e below s _ _ _ s₁ (mkF m 171 #[.val (.ref a1), .val (.int fr), .val (.int en), .val (.int ix), .val (.int ((xs.getD ix.toNatClampNeg 0) &&& (255 : Int32))), .val (.int (4 : Int32)), .val (.int (128 : Int32)), .val (.int (191 : Int32)), s8, s9] [])
                      refine own_iload X0 hx (hb hby d4_171) rfl ?_
                      refine own_istore X0 hx (hb hby d4_173) (l' := #[.val (.ref a1), .val (.int fr), .val (.int en), .val (.int ix), .val (.int ((xs.getD ix.toNatClampNeg 0) &&& (255 : Int32))), .val (.int (4 : Int32)), .val (.int (128 : Int32)), .val (.int (191 : Int32)), s8, s9]) rfl ?_
                      refine own_goto X0 hx (hb hby d4_175) (pc' := 180) (by decide) (by decide) ?_
                      show own_R p e below s _ _ _ s₁ (mkF m 180 #[.val (.ref a1), .val (.int fr), .val (.int en), .val (.int ix), .val (.int ((xs.getD ix.toNatClampNeg 0) &&& (255 : Int32))), .val (.int (4 : Int32)), .val (.int (128 : Int32)), .val (.int (191 : Int32)), s8, s9] [])
                      refine own_iloadN X0 hx (hb hby d4_180) rfl ?_
                      refine own_iloadN X0 hx (hb hby d4_181) rfl ?_
                      refine own_isub X0 hx (hb hby d4_182) ?_
                      refine own_iload X0 hx (hb hby d4_183) rfl ?_
                      refine own_icmp X0 hx (hb hby d4_185) (pc' := 190) (by decide) (by decide) (fun hc => ?_) (fun hc => ?_)
                      · have hc185 : ¬ (en - ix) < (4 : Int32) := own_ge1 hc
                        clear hc
                        show own_R p e below s _ _ _ s₁ (mkF m 190 #[.val (.ref a1), .val (.int fr), .val (.int en), .val (.int ix), .val (.int ((xs.getD ix.toNatClampNeg 0) &&& (255 : Int32))), .val (.int (4 : Int32)), .val (.int (128 : Int32)), .val (.int (191 : Int32)), s8, s9] [])
                        refine own_aloadN X0 hx (hb hby d4_190) rfl rfl ?_
                        refine own_iloadN X0 hx (hb hby d4_191) rfl ?_
                        refine own_iconst X0 hx (1 : Int32) (hb hby d4_192) rfl ?_
                        refine own_iadd X0 hx (hb hby d4_193) ?_
                        refine own_baload X0 hx hZ e0 hV (v := .int (xs.getD (ix + (1 : Int32)).toNatClampNeg 0)) (pl_at1 ix en (4 : Int32) h0' hlt h8 (by decide) hc185) (pl_gd _ _) (hb hby d4_194) ?_
                        show own_R p e below s _ _ _ s₁ (mkF m 195 #[.val (.ref a1), .val (.int fr), .val (.int en), .val (.int ix), .val (.int ((xs.getD ix.toNatClampNeg 0) &&& (255 : Int32))), .val (.int (4 : Int32)), .val (.int (128 : Int32)), .val (.int (191 : Int32)), s8, s9] [(.int (xs.getD (ix + (1 : Int32)).toNatClampNeg 0))])
                        refine own_sipush X0 hx (255 : Int32) (hb hby d4_195) rfl ?_
                        refine own_iand X0 hx (hb hby d4_198) ?_
                        refine own_istore X0 hx (hb hby d4_199) (l' := #[.val (.ref a1), .val (.int fr), .val (.int en), .val (.int ix), .val (.int ((xs.getD ix.toNatClampNeg 0) &&& (255 : Int32))), .val (.int (4 : Int32)), .val (.int (128 : Int32)), .val (.int (191 : Int32)), .val (.int ((xs.getD (ix + (1 : Int32)).toNatClampNeg 0) &&& (255 : Int32))), s9]) (by rcases hs8 with rfl | ⟨w, rfl, hw'⟩ <;> first | rfl | (cases w <;> first | rfl | (simp [Value.category] at hw'))) ?_
                        refine own_iload X0 hx (hb hby d4_201) rfl ?_
                        refine own_iload X0 hx (hb hby d4_203) rfl ?_
                        refine own_icmp X0 hx (hb hby d4_205) (pc' := 215) (by decide) (by decide) (fun hc => ?_) (fun hc => ?_)
                        · have hc205 : ((xs.getD (ix + (1 : Int32)).toNatClampNeg 0) &&& (255 : Int32)) < (128 : Int32) := own_lt1 hc
                          clear hc
                          show own_R p e below s _ _ _ s₁ (mkF m 215 #[.val (.ref a1), .val (.int fr), .val (.int en), .val (.int ix), .val (.int ((xs.getD ix.toNatClampNeg 0) &&& (255 : Int32))), .val (.int (4 : Int32)), .val (.int (128 : Int32)), .val (.int (191 : Int32)), .val (.int ((xs.getD (ix + (1 : Int32)).toNatClampNeg 0) &&& (255 : Int32))), s9] [])
                          refine own_iloadN X0 hx (hb hby d4_215) rfl ?_
                          have hnl : pl_nl ((xs.getD ix.toNatClampNeg 0) &&& (255 : Int32)) ((xs.getD (ix + (1 : Int32)).toNatClampNeg 0) &&& (255 : Int32)) (xs.getD (ix + (2 : Int32)).toNatClampNeg 0) (xs.getD (ix + (3 : Int32)).toNatClampNeg 0) (en - ix) = 0 := by rw [pl_nl, if_neg hc21, if_pos hc45, if_pos hc67, if_neg hc125, if_neg hc133, if_neg hc144, if_neg hc162, if_neg hc185, if_pos hc205]
                          refine own_retI X0 hx Bd.returns hlk (hb hby d4_216) ?_ (by decide) (by decide)
                          refine ⟨?_, N0, e0⟩
                          show some (Value.int _) = some (Value.int (pl_nu xs en 8 fr))
                          rw [← hr, pl_nu, if_pos hlt, if_pos hnl]
                        · have hc205 : ¬ ((xs.getD (ix + (1 : Int32)).toNatClampNeg 0) &&& (255 : Int32)) < (128 : Int32) := own_lt0 hc
                          clear hc
                          show own_R p e below s _ _ _ s₁ (mkF m 208 #[.val (.ref a1), .val (.int fr), .val (.int en), .val (.int ix), .val (.int ((xs.getD ix.toNatClampNeg 0) &&& (255 : Int32))), .val (.int (4 : Int32)), .val (.int (128 : Int32)), .val (.int (191 : Int32)), .val (.int ((xs.getD (ix + (1 : Int32)).toNatClampNeg 0) &&& (255 : Int32))), s9] [])
                          refine own_iload X0 hx (hb hby d4_208) rfl ?_
                          refine own_iload X0 hx (hb hby d4_210) rfl ?_
                          refine own_icmp X0 hx (hb hby d4_212) (pc' := 217) (by decide) (by decide) (fun hc => ?_) (fun hc => ?_)
                          · have hc212 : ¬ (191 : Int32) < ((xs.getD (ix + (1 : Int32)).toNatClampNeg 0) &&& (255 : Int32)) := own_le1 hc
                            clear hc
                            show own_R p e below s _ _ _ s₁ (mkF m 217 #[.val (.ref a1), .val (.int fr), .val (.int en), .val (.int ix), .val (.int ((xs.getD ix.toNatClampNeg 0) &&& (255 : Int32))), .val (.int (4 : Int32)), .val (.int (128 : Int32)), .val (.int (191 : Int32)), .val (.int ((xs.getD (ix + (1 : Int32)).toNatClampNeg 0) &&& (255 : Int32))), s9] [])
                            refine own_iloadN X0 hx (hb hby d4_217) rfl ?_
                            refine own_iconst X0 hx (2 : Int32) (hb hby d4_218) rfl ?_
                            refine own_iadd X0 hx (hb hby d4_219) ?_
                            refine own_istore X0 hx (hb hby d4_220) (l' := #[.val (.ref a1), .val (.int fr), .val (.int en), .val (.int ix), .val (.int ((xs.getD ix.toNatClampNeg 0) &&& (255 : Int32))), .val (.int (4 : Int32)), .val (.int (128 : Int32)), .val (.int (191 : Int32)), .val (.int ((xs.getD (ix + (1 : Int32)).toNatClampNeg 0) &&& (255 : Int32))), .val (.int (ix + (2 : Int32)))]) (by rcases hs9 with rfl | ⟨w, rfl, hw'⟩ <;> first | rfl | (cases w <;> first | rfl | (simp [Value.category] at hw'))) ?_
                            refine own_iload X0 hx (hb hby d4_222) rfl ?_
                            refine own_iloadN X0 hx (hb hby d4_224) rfl ?_
                            refine own_iload X0 hx (hb hby d4_225) rfl ?_
                            refine own_iadd X0 hx (hb hby d4_227) ?_
                            refine own_icmp X0 hx (hb hby d4_228) (pc' := 253) (by decide) (by decide) (fun hc => ?_) (fun hc => ?_)
                            · have hl2 : ¬ (ix + (2 : Int32)) < (ix + (4 : Int32)) := own_ge1 hc
                              exfalso; obtain ⟨d1, d2⟩ := pl_d ix en h0' hlt h8; obtain ⟨a1, a2, a3, a4, a5, a6⟩ := pl_off ix h0' d2; rw [Int32.lt_iff_toInt_lt] at hl2; omega
                            · have hl2 : (ix + (2 : Int32)) < (ix + (4 : Int32)) := own_ge0 hc
                              clear hc
                              show own_R p e below s _ _ _ s₁ (mkF m 231 #[.val (.ref a1), .val (.int fr), .val (.int en), .val (.int ix), .val (.int ((xs.getD ix.toNatClampNeg 0) &&& (255 : Int32))), .val (.int (4 : Int32)), .val (.int (128 : Int32)), .val (.int (191 : Int32)), .val (.int ((xs.getD (ix + (1 : Int32)).toNatClampNeg 0) &&& (255 : Int32))), .val (.int (ix + (2 : Int32)))] [])
                              refine own_aloadN X0 hx (hb hby d4_231) rfl rfl ?_
                              refine own_iload X0 hx (hb hby d4_232) rfl ?_
                              refine own_baload X0 hx hZ e0 hV (v := .int (xs.getD (ix + (2 : Int32)).toNatClampNeg 0)) (pl_at2 ix en (4 : Int32) h0' hlt h8 (by decide) hc185) (pl_gd _ _) (hb hby d4_234) ?_
                              show own_R p e below s _ _ _ s₁ (mkF m 235 #[.val (.ref a1), .val (.int fr), .val (.int en), .val (.int ix), .val (.int ((xs.getD ix.toNatClampNeg 0) &&& (255 : Int32))), .val (.int (4 : Int32)), .val (.int (128 : Int32)), .val (.int (191 : Int32)), .val (.int ((xs.getD (ix + (1 : Int32)).toNatClampNeg 0) &&& (255 : Int32))), .val (.int (ix + (2 : Int32)))] [(.int (xs.getD (ix + (2 : Int32)).toNatClampNeg 0))])
                              refine own_sipush X0 hx (192 : Int32) (hb hby d4_235) rfl ?_
                              refine own_iand X0 hx (hb hby d4_238) ?_
                              refine own_sipush X0 hx (128 : Int32) (hb hby d4_239) rfl ?_
                              refine own_icmp X0 hx (hb hby d4_242) (pc' := 247) (by decide) (by decide) (fun hc => ?_) (fun hc => ?_)
                              · have hc242_2 : ((xs.getD (ix + (2 : Int32)).toNatClampNeg 0) &&& (192 : Int32)) = (128 : Int32) := own_eq1 hc
                                clear hc
                                show own_R p e below s _ _ _ s₁ (mkF m 247 #[.val (.ref a1), .val (.int fr), .val (.int en), .val (.int ix), .val (.int ((xs.getD ix.toNatClampNeg 0) &&& (255 : Int32))), .val (.int (4 : Int32)), .val (.int (128 : Int32)), .val (.int (191 : Int32)), .val (.int ((xs.getD (ix + (1 : Int32)).toNatClampNeg 0) &&& (255 : Int32))), .val (.int (ix + (2 : Int32)))] [])
                                refine own_iinc X0 hx (1 : Int32) (hb hby d4_247) rfl rfl (l' := #[.val (.ref a1), .val (.int fr), .val (.int en), .val (.int ix), .val (.int ((xs.getD ix.toNatClampNeg 0) &&& (255 : Int32))), .val (.int (4 : Int32)), .val (.int (128 : Int32)), .val (.int (191 : Int32)), .val (.int ((xs.getD (ix + (1 : Int32)).toNatClampNeg 0) &&& (255 : Int32))), .val (.int ((ix + (2 : Int32)) + (1 : Int32)))]) rfl ?_
                                refine own_goto X0 hx (hb hby d4_250) (pc' := 222) (by decide) (by decide) ?_
                                show own_R p e below s _ _ _ s₁ (mkF m 222 #[.val (.ref a1), .val (.int fr), .val (.int en), .val (.int ix), .val (.int ((xs.getD ix.toNatClampNeg 0) &&& (255 : Int32))), .val (.int (4 : Int32)), .val (.int (128 : Int32)), .val (.int (191 : Int32)), .val (.int ((xs.getD (ix + (1 : Int32)).toNatClampNeg 0) &&& (255 : Int32))), .val (.int ((ix + (2 : Int32)) + (1 : Int32)))] [])
                                refine own_iload X0 hx (hb hby d4_222) rfl ?_
                                refine own_iloadN X0 hx (hb hby d4_224) rfl ?_
                                refine own_iload X0 hx (hb hby d4_225) rfl ?_
                                refine own_iadd X0 hx (hb hby d4_227) ?_
                                refine own_icmp X0 hx (hb hby d4_228) (pc' := 253) (by decide) (by decide) (fun hc => ?_) (fun hc => ?_)
                                · have hl3 : ¬ ((ix + (2 : Int32)) + (1 : Int32)) < (ix + (4 : Int32)) := own_ge1 hc
                                  exfalso; obtain ⟨d1, d2⟩ := pl_d ix en h0' hlt h8; obtain ⟨a1, a2, a3, a4, a5, a6⟩ := pl_off ix h0' d2; rw [Int32.lt_iff_toInt_lt] at hl3; omega
                                · have hl3 : ((ix + (2 : Int32)) + (1 : Int32)) < (ix + (4 : Int32)) := own_ge0 hc
                                  clear hc
                                  show own_R p e below s _ _ _ s₁ (mkF m 231 #[.val (.ref a1), .val (.int fr), .val (.int en), .val (.int ix), .val (.int ((xs.getD ix.toNatClampNeg 0) &&& (255 : Int32))), .val (.int (4 : Int32)), .val (.int (128 : Int32)), .val (.int (191 : Int32)), .val (.int ((xs.getD (ix + (1 : Int32)).toNatClampNeg 0) &&& (255 : Int32))), .val (.int ((ix + (2 : Int32)) + (1 : Int32)))] [])
                                  refine own_aloadN X0 hx (hb hby d4_231) rfl rfl ?_
                                  refine own_iload X0 hx (hb hby d4_232) rfl ?_
                                  rw [pl_21]
                                  show own_R p e below s _ _ _ s₁ (mkF m 234 #[.val (.ref a1), .val (.int fr), .val (.int en), .val (.int ix), .val (.int ((xs.getD ix.toNatClampNeg 0) &&& (255 : Int32))), .val (.int (4 : Int32)), .val (.int (128 : Int32)), .val (.int (191 : Int32)), .val (.int ((xs.getD (ix + (1 : Int32)).toNatClampNeg 0) &&& (255 : Int32))), .val (.int (ix + (3 : Int32)))] [(.int (ix + (3 : Int32))), (.ref a1)])
                                  refine own_baload X0 hx hZ e0 hV (v := .int (xs.getD (ix + (3 : Int32)).toNatClampNeg 0)) (pl_at3 ix en (4 : Int32) h0' hlt h8 (by decide) hc185) (pl_gd _ _) (hb hby d4_234) ?_
                                  show own_R p e below s _ _ _ s₁ (mkF m 235 #[.val (.ref a1), .val (.int fr), .val (.int en), .val (.int ix), .val (.int ((xs.getD ix.toNatClampNeg 0) &&& (255 : Int32))), .val (.int (4 : Int32)), .val (.int (128 : Int32)), .val (.int (191 : Int32)), .val (.int ((xs.getD (ix + (1 : Int32)).toNatClampNeg 0) &&& (255 : Int32))), .val (.int (ix + (3 : Int32)))] [(.int (xs.getD (ix + (3 : Int32)).toNatClampNeg 0))])
                                  refine own_sipush X0 hx (192 : Int32) (hb hby d4_235) rfl ?_
                                  refine own_iand X0 hx (hb hby d4_238) ?_
                                  refine own_sipush X0 hx (128 : Int32) (hb hby d4_239) rfl ?_
                                  refine own_icmp X0 hx (hb hby d4_242) (pc' := 247) (by decide) (by decide) (fun hc => ?_) (fun hc => ?_)
                                  · have hc242_3 : ((xs.getD (ix + (3 : Int32)).toNatClampNeg 0) &&& (192 : Int32)) = (128 : Int32) := own_eq1 hc
                                    clear hc
                                    show own_R p e below s _ _ _ s₁ (mkF m 247 #[.val (.ref a1), .val (.int fr), .val (.int en), .val (.int ix), .val (.int ((xs.getD ix.toNatClampNeg 0) &&& (255 : Int32))), .val (.int (4 : Int32)), .val (.int (128 : Int32)), .val (.int (191 : Int32)), .val (.int ((xs.getD (ix + (1 : Int32)).toNatClampNeg 0) &&& (255 : Int32))), .val (.int (ix + (3 : Int32)))] [])
                                    refine own_iinc X0 hx (1 : Int32) (hb hby d4_247) rfl rfl (l' := #[.val (.ref a1), .val (.int fr), .val (.int en), .val (.int ix), .val (.int ((xs.getD ix.toNatClampNeg 0) &&& (255 : Int32))), .val (.int (4 : Int32)), .val (.int (128 : Int32)), .val (.int (191 : Int32)), .val (.int ((xs.getD (ix + (1 : Int32)).toNatClampNeg 0) &&& (255 : Int32))), .val (.int ((ix + (3 : Int32)) + (1 : Int32)))]) rfl ?_
                                    refine own_goto X0 hx (hb hby d4_250) (pc' := 222) (by decide) (by decide) ?_
                                    show own_R p e below s _ _ _ s₁ (mkF m 222 #[.val (.ref a1), .val (.int fr), .val (.int en), .val (.int ix), .val (.int ((xs.getD ix.toNatClampNeg 0) &&& (255 : Int32))), .val (.int (4 : Int32)), .val (.int (128 : Int32)), .val (.int (191 : Int32)), .val (.int ((xs.getD (ix + (1 : Int32)).toNatClampNeg 0) &&& (255 : Int32))), .val (.int ((ix + (3 : Int32)) + (1 : Int32)))] [])
                                    refine own_iload X0 hx (hb hby d4_222) rfl ?_
                                    refine own_iloadN X0 hx (hb hby d4_224) rfl ?_
                                    refine own_iload X0 hx (hb hby d4_225) rfl ?_
                                    refine own_iadd X0 hx (hb hby d4_227) ?_
                                    refine own_icmp X0 hx (hb hby d4_228) (pc' := 253) (by decide) (by decide) (fun hc => ?_) (fun hc => ?_)
                                    · have hl4 : ¬ ((ix + (3 : Int32)) + (1 : Int32)) < (ix + (4 : Int32)) := own_ge1 hc
                                      clear hc
                                      show own_R p e below s _ _ _ s₁ (mkF m 253 #[.val (.ref a1), .val (.int fr), .val (.int en), .val (.int ix), .val (.int ((xs.getD ix.toNatClampNeg 0) &&& (255 : Int32))), .val (.int (4 : Int32)), .val (.int (128 : Int32)), .val (.int (191 : Int32)), .val (.int ((xs.getD (ix + (1 : Int32)).toNatClampNeg 0) &&& (255 : Int32))), .val (.int ((ix + (3 : Int32)) + (1 : Int32)))] [])
                                      refine own_iloadN X0 hx (hb hby d4_253) rfl ?_
                                      refine own_iload X0 hx (hb hby d4_254) rfl ?_
                                      refine own_iadd X0 hx (hb hby d4_256) ?_
                                      refine own_istoreN X0 hx (hb hby d4_257) (l' := #[.val (.ref a1), .val (.int fr), .val (.int en), .val (.int (ix + (4 : Int32))), .val (.int ((xs.getD ix.toNatClampNeg 0) &&& (255 : Int32))), .val (.int (4 : Int32)), .val (.int (128 : Int32)), .val (.int (191 : Int32)), .val (.int ((xs.getD (ix + (1 : Int32)).toNatClampNeg 0) &&& (255 : Int32))), .val (.int ((ix + (3 : Int32)) + (1 : Int32)))]) rfl ?_
                                      refine own_goto X0 hx (hb hby d4_258) (pc' := 2) (by decide) (by decide) ?_
                                      show own_R p e below s _ _ _ s₁ (mkF m 2 #[.val (.ref a1), .val (.int fr), .val (.int en), .val (.int (ix + (4 : Int32))), .val (.int ((xs.getD ix.toNatClampNeg 0) &&& (255 : Int32))), .val (.int (4 : Int32)), .val (.int (128 : Int32)), .val (.int (191 : Int32)), .val (.int ((xs.getD (ix + (1 : Int32)).toNatClampNeg 0) &&& (255 : Int32))), .val (.int ((ix + (3 : Int32)) + (1 : Int32)))] [])
                                      have hnl : pl_nl ((xs.getD ix.toNatClampNeg 0) &&& (255 : Int32)) ((xs.getD (ix + (1 : Int32)).toNatClampNeg 0) &&& (255 : Int32)) (xs.getD (ix + (2 : Int32)).toNatClampNeg 0) (xs.getD (ix + (3 : Int32)).toNatClampNeg 0) (en - ix) = (4 : Int32) := by rw [pl_nl, if_neg hc21, if_pos hc45, if_pos hc67, if_neg hc125, if_neg hc133, if_neg hc144, if_neg hc162, if_neg hc185, if_neg hc205, if_neg hc212, if_pos hc242_2, if_pos hc242_3]
                                      obtain ⟨u0, uk⟩ := pl_adv ix en (4 : Int32) k h0' hlt h8 hk' (by decide)
                                      exact ih _ _ _ _ _ _ _ (One.val rfl) (One.val rfl) (One.val rfl) (One.val rfl) (One.val rfl) (One.val rfl) u0 uk (by rw [← hr]; conv => rhs; rw [pl_nu, if_pos hlt, hnl, if_neg (by decide)])
                                    · have hl4 : ((ix + (3 : Int32)) + (1 : Int32)) < (ix + (4 : Int32)) := own_ge0 hc
                                      exfalso; obtain ⟨d1, d2⟩ := pl_d ix en h0' hlt h8; obtain ⟨a1, a2, a3, a4, a5, a6⟩ := pl_off ix h0' d2; rw [Int32.lt_iff_toInt_lt] at hl4; omega
                                  · have hc242_3 : ¬ ((xs.getD (ix + (3 : Int32)).toNatClampNeg 0) &&& (192 : Int32)) = (128 : Int32) := own_eq0 hc
                                    clear hc
                                    show own_R p e below s _ _ _ s₁ (mkF m 245 #[.val (.ref a1), .val (.int fr), .val (.int en), .val (.int ix), .val (.int ((xs.getD ix.toNatClampNeg 0) &&& (255 : Int32))), .val (.int (4 : Int32)), .val (.int (128 : Int32)), .val (.int (191 : Int32)), .val (.int ((xs.getD (ix + (1 : Int32)).toNatClampNeg 0) &&& (255 : Int32))), .val (.int (ix + (3 : Int32)))] [])
                                    refine own_iloadN X0 hx (hb hby d4_245) rfl ?_
                                    have hnl : pl_nl ((xs.getD ix.toNatClampNeg 0) &&& (255 : Int32)) ((xs.getD (ix + (1 : Int32)).toNatClampNeg 0) &&& (255 : Int32)) (xs.getD (ix + (2 : Int32)).toNatClampNeg 0) (xs.getD (ix + (3 : Int32)).toNatClampNeg 0) (en - ix) = 0 := by rw [pl_nl, if_neg hc21, if_pos hc45, if_pos hc67, if_neg hc125, if_neg hc133, if_neg hc144, if_neg hc162, if_neg hc185, if_neg hc205, if_neg hc212, if_pos hc242_2, if_neg hc242_3]
                                    refine own_retI X0 hx Bd.returns hlk (hb hby d4_246) ?_ (by decide) (by decide)
                                    refine ⟨?_, N0, e0⟩
                                    show some (Value.int _) = some (Value.int (pl_nu xs en 8 fr))
                                    rw [← hr, pl_nu, if_pos hlt, if_pos hnl]
                              · have hc242_2 : ¬ ((xs.getD (ix + (2 : Int32)).toNatClampNeg 0) &&& (192 : Int32)) = (128 : Int32) := own_eq0 hc
                                clear hc
                                show own_R p e below s _ _ _ s₁ (mkF m 245 #[.val (.ref a1), .val (.int fr), .val (.int en), .val (.int ix), .val (.int ((xs.getD ix.toNatClampNeg 0) &&& (255 : Int32))), .val (.int (4 : Int32)), .val (.int (128 : Int32)), .val (.int (191 : Int32)), .val (.int ((xs.getD (ix + (1 : Int32)).toNatClampNeg 0) &&& (255 : Int32))), .val (.int (ix + (2 : Int32)))] [])
                                refine own_iloadN X0 hx (hb hby d4_245) rfl ?_
                                have hnl : pl_nl ((xs.getD ix.toNatClampNeg 0) &&& (255 : Int32)) ((xs.getD (ix + (1 : Int32)).toNatClampNeg 0) &&& (255 : Int32)) (xs.getD (ix + (2 : Int32)).toNatClampNeg 0) (xs.getD (ix + (3 : Int32)).toNatClampNeg 0) (en - ix) = 0 := by rw [pl_nl, if_neg hc21, if_pos hc45, if_pos hc67, if_neg hc125, if_neg hc133, if_neg hc144, if_neg hc162, if_neg hc185, if_neg hc205, if_neg hc212, if_neg hc242_2]
                                refine own_retI X0 hx Bd.returns hlk (hb hby d4_246) ?_ (by decide) (by decide)
                                refine ⟨?_, N0, e0⟩
                                show some (Value.int _) = some (Value.int (pl_nu xs en 8 fr))
                                rw [← hr, pl_nu, if_pos hlt, if_pos hnl]
                          · have hc212 : (191 : Int32) < ((xs.getD (ix + (1 : Int32)).toNatClampNeg 0) &&& (255 : Int32)) := own_le0 hc
                            clear hc
                            show own_R p e below s _ _ _ s₁ (mkF m 215 #[.val (.ref a1), .val (.int fr), .val (.int en), .val (.int ix), .val (.int ((xs.getD ix.toNatClampNeg 0) &&& (255 : Int32))), .val (.int (4 : Int32)), .val (.int (128 : Int32)), .val (.int (191 : Int32)), .val (.int ((xs.getD (ix + (1 : Int32)).toNatClampNeg 0) &&& (255 : Int32))), s9] [])
                            refine own_iloadN X0 hx (hb hby d4_215) rfl ?_
                            have hnl : pl_nl ((xs.getD ix.toNatClampNeg 0) &&& (255 : Int32)) ((xs.getD (ix + (1 : Int32)).toNatClampNeg 0) &&& (255 : Int32)) (xs.getD (ix + (2 : Int32)).toNatClampNeg 0) (xs.getD (ix + (3 : Int32)).toNatClampNeg 0) (en - ix) = 0 := by rw [pl_nl, if_neg hc21, if_pos hc45, if_pos hc67, if_neg hc125, if_neg hc133, if_neg hc144, if_neg hc162, if_neg hc185, if_neg hc205, if_pos hc212]
                            refine own_retI X0 hx Bd.returns hlk (hb hby d4_216) ?_ (by decide) (by decide)
                            refine ⟨?_, N0, e0⟩
                            show some (Value.int _) = some (Value.int (pl_nu xs en 8 fr))
                            rw [← hr, pl_nu, if_pos hlt, if_pos hnl]
                      · have hc185 : (en - ix) < (4 : Int32) := own_ge0 hc
                        clear hc
                        show own_R p e below s _ _ _ s₁ (mkF m 188 #[.val (.ref a1), .val (.int fr), .val (.int en), .val (.int ix), .val (.int ((xs.getD ix.toNatClampNeg 0) &&& (255 : Int32))), .val (.int (4 : Int32)), .val (.int (128 : Int32)), .val (.int (191 : Int32)), s8, s9] [])
                        refine own_iloadN X0 hx (hb hby d4_188) rfl ?_
                        have hnl : pl_nl ((xs.getD ix.toNatClampNeg 0) &&& (255 : Int32)) ((xs.getD (ix + (1 : Int32)).toNatClampNeg 0) &&& (255 : Int32)) (xs.getD (ix + (2 : Int32)).toNatClampNeg 0) (xs.getD (ix + (3 : Int32)).toNatClampNeg 0) (en - ix) = 0 := by rw [pl_nl, if_neg hc21, if_pos hc45, if_pos hc67, if_neg hc125, if_neg hc133, if_neg hc144, if_neg hc162, if_pos hc185]
                        refine own_retI X0 hx Bd.returns hlk (hb hby d4_189) ?_ (by decide) (by decide)
                        refine ⟨?_, N0, e0⟩
                        show some (Value.int _) = some (Value.int (pl_nu xs en 8 fr))
                        rw [← hr, pl_nu, if_pos hlt, if_pos hnl]
                    · have hc162 : ((xs.getD ix.toNatClampNeg 0) &&& (255 : Int32)) = (244 : Int32) := own_ne0 hc
                      clear hc
                      show own_R p e below s _ _ _ s₁ (mkF m 165 #[.val (.ref a1), .val (.int fr), .val (.int en), .val (.int ix), .val (.int ((xs.getD ix.toNatClampNeg 0) &&& (255 : Int32))), .val (.int (4 : Int32)), .val (.int (128 : Int32)), .val (.int (191 : Int32)), s8, s9] [])
                      refine own_sipush X0 hx (143 : Int32) (hb hby d4_165) rfl ?_
                      refine own_goto X0 hx (hb hby d4_168) (pc' := 173) (by decide) (by decide) ?_
                      show own_R p e below s _ _ _ s₁ (mkF m 173 #[.val (.ref a1), .val (.int fr), .val (.int en), .val (.int ix), .val (.int ((xs.getD ix.toNatClampNeg 0) &&& (255 : Int32))), .val (.int (4 : Int32)), .val (.int (128 : Int32)), .val (.int (191 : Int32)), s8, s9] [(.int (143 : Int32))])
                      refine own_istore X0 hx (hb hby d4_173) (l' := #[.val (.ref a1), .val (.int fr), .val (.int en), .val (.int ix), .val (.int ((xs.getD ix.toNatClampNeg 0) &&& (255 : Int32))), .val (.int (4 : Int32)), .val (.int (128 : Int32)), .val (.int (143 : Int32)), s8, s9]) rfl ?_
                      refine own_goto X0 hx (hb hby d4_175) (pc' := 180) (by decide) (by decide) ?_
                      show own_R p e below s _ _ _ s₁ (mkF m 180 #[.val (.ref a1), .val (.int fr), .val (.int en), .val (.int ix), .val (.int ((xs.getD ix.toNatClampNeg 0) &&& (255 : Int32))), .val (.int (4 : Int32)), .val (.int (128 : Int32)), .val (.int (143 : Int32)), s8, s9] [])
                      refine own_iloadN X0 hx (hb hby d4_180) rfl ?_
                      refine own_iloadN X0 hx (hb hby d4_181) rfl ?_
                      refine own_isub X0 hx (hb hby d4_182) ?_
                      refine own_iload X0 hx (hb hby d4_183) rfl ?_
                      refine own_icmp X0 hx (hb hby d4_185) (pc' := 190) (by decide) (by decide) (fun hc => ?_) (fun hc => ?_)
                      · have hc185 : ¬ (en - ix) < (4 : Int32) := own_ge1 hc
                        clear hc
                        show own_R p e below s _ _ _ s₁ (mkF m 190 #[.val (.ref a1), .val (.int fr), .val (.int en), .val (.int ix), .val (.int ((xs.getD ix.toNatClampNeg 0) &&& (255 : Int32))), .val (.int (4 : Int32)), .val (.int (128 : Int32)), .val (.int (143 : Int32)), s8, s9] [])
                        refine own_aloadN X0 hx (hb hby d4_190) rfl rfl ?_
                        refine own_iloadN X0 hx (hb hby d4_191) rfl ?_
                        refine own_iconst X0 hx (1 : Int32) (hb hby d4_192) rfl ?_
                        refine own_iadd X0 hx (hb hby d4_193) ?_
                        refine own_baload X0 hx hZ e0 hV (v := .int (xs.getD (ix + (1 : Int32)).toNatClampNeg 0)) (pl_at1 ix en (4 : Int32) h0' hlt h8 (by decide) hc185) (pl_gd _ _) (hb hby d4_194) ?_
                        show own_R p e below s _ _ _ s₁ (mkF m 195 #[.val (.ref a1), .val (.int fr), .val (.int en), .val (.int ix), .val (.int ((xs.getD ix.toNatClampNeg 0) &&& (255 : Int32))), .val (.int (4 : Int32)), .val (.int (128 : Int32)), .val (.int (143 : Int32)), s8, s9] [(.int (xs.getD (ix + (1 : Int32)).toNatClampNeg 0))])
                        refine own_sipush X0 hx (255 : Int32) (hb hby d4_195) rfl ?_
                        refine own_iand X0 hx (hb hby d4_198) ?_
                        refine own_istore X0 hx (hb hby d4_199) (l' := #[.val (.ref a1), .val (.int fr), .val (.int en), .val (.int ix), .val (.int ((xs.getD ix.toNatClampNeg 0) &&& (255 : Int32))), .val (.int (4 : Int32)), .val (.int (128 : Int32)), .val (.int (143 : Int32)), .val (.int ((xs.getD (ix + (1 : Int32)).toNatClampNeg 0) &&& (255 : Int32))), s9]) (by rcases hs8 with rfl | ⟨w, rfl, hw'⟩ <;> first | rfl | (cases w <;> first | rfl | (simp [Value.category] at hw'))) ?_
                        refine own_iload X0 hx (hb hby d4_201) rfl ?_
                        refine own_iload X0 hx (hb hby d4_203) rfl ?_
                        refine own_icmp X0 hx (hb hby d4_205) (pc' := 215) (by decide) (by decide) (fun hc => ?_) (fun hc => ?_)
                        · have hc205 : ((xs.getD (ix + (1 : Int32)).toNatClampNeg 0) &&& (255 : Int32)) < (128 : Int32) := own_lt1 hc
                          clear hc
                          show own_R p e below s _ _ _ s₁ (mkF m 215 #[.val (.ref a1), .val (.int fr), .val (.int en), .val (.int ix), .val (.int ((xs.getD ix.toNatClampNeg 0) &&& (255 : Int32))), .val (.int (4 : Int32)), .val (.int (128 : Int32)), .val (.int (143 : Int32)), .val (.int ((xs.getD (ix + (1 : Int32)).toNatClampNeg 0) &&& (255 : Int32))), s9] [])
                          refine own_iloadN X0 hx (hb hby d4_215) rfl ?_
                          have hnl : pl_nl ((xs.getD ix.toNatClampNeg 0) &&& (255 : Int32)) ((xs.getD (ix + (1 : Int32)).toNatClampNeg 0) &&& (255 : Int32)) (xs.getD (ix + (2 : Int32)).toNatClampNeg 0) (xs.getD (ix + (3 : Int32)).toNatClampNeg 0) (en - ix) = 0 := by rw [pl_nl, if_neg hc21, if_pos hc45, if_pos hc67, if_neg hc125, if_neg hc133, if_neg hc144, if_pos hc162, if_neg hc185, if_pos hc205]
                          refine own_retI X0 hx Bd.returns hlk (hb hby d4_216) ?_ (by decide) (by decide)
                          refine ⟨?_, N0, e0⟩
                          show some (Value.int _) = some (Value.int (pl_nu xs en 8 fr))
                          rw [← hr, pl_nu, if_pos hlt, if_pos hnl]
                        · have hc205 : ¬ ((xs.getD (ix + (1 : Int32)).toNatClampNeg 0) &&& (255 : Int32)) < (128 : Int32) := own_lt0 hc
                          clear hc
                          show own_R p e below s _ _ _ s₁ (mkF m 208 #[.val (.ref a1), .val (.int fr), .val (.int en), .val (.int ix), .val (.int ((xs.getD ix.toNatClampNeg 0) &&& (255 : Int32))), .val (.int (4 : Int32)), .val (.int (128 : Int32)), .val (.int (143 : Int32)), .val (.int ((xs.getD (ix + (1 : Int32)).toNatClampNeg 0) &&& (255 : Int32))), s9] [])
                          refine own_iload X0 hx (hb hby d4_208) rfl ?_
                          refine own_iload X0 hx (hb hby d4_210) rfl ?_
                          refine own_icmp X0 hx (hb hby d4_212) (pc' := 217) (by decide) (by decide) (fun hc => ?_) (fun hc => ?_)
                          · have hc212 : ¬ (143 : Int32) < ((xs.getD (ix + (1 : Int32)).toNatClampNeg 0) &&& (255 : Int32)) := own_le1 hc
                            clear hc
                            show own_R p e below s _ _ _ s₁ (mkF m 217 #[.val (.ref a1), .val (.int fr), .val (.int en), .val (.int ix), .val (.int ((xs.getD ix.toNatClampNeg 0) &&& (255 : Int32))), .val (.int (4 : Int32)), .val (.int (128 : Int32)), .val (.int (143 : Int32)), .val (.int ((xs.getD (ix + (1 : Int32)).toNatClampNeg 0) &&& (255 : Int32))), s9] [])
                            refine own_iloadN X0 hx (hb hby d4_217) rfl ?_
                            refine own_iconst X0 hx (2 : Int32) (hb hby d4_218) rfl ?_
                            refine own_iadd X0 hx (hb hby d4_219) ?_
                            refine own_istore X0 hx (hb hby d4_220) (l' := #[.val (.ref a1), .val (.int fr), .val (.int en), .val (.int ix), .val (.int ((xs.getD ix.toNatClampNeg 0) &&& (255 : Int32))), .val (.int (4 : Int32)), .val (.int (128 : Int32)), .val (.int (143 : Int32)), .val (.int ((xs.getD (ix + (1 : Int32)).toNatClampNeg 0) &&& (255 : Int32))), .val (.int (ix + (2 : Int32)))]) (by rcases hs9 with rfl | ⟨w, rfl, hw'⟩ <;> first | rfl | (cases w <;> first | rfl | (simp [Value.category] at hw'))) ?_
                            refine own_iload X0 hx (hb hby d4_222) rfl ?_
                            refine own_iloadN X0 hx (hb hby d4_224) rfl ?_
                            refine own_iload X0 hx (hb hby d4_225) rfl ?_
                            refine own_iadd X0 hx (hb hby d4_227) ?_
                            refine own_icmp X0 hx (hb hby d4_228) (pc' := 253) (by decide) (by decide) (fun hc => ?_) (fun hc => ?_)
                            · have hl2 : ¬ (ix + (2 : Int32)) < (ix + (4 : Int32)) := own_ge1 hc
                              exfalso; obtain ⟨d1, d2⟩ := pl_d ix en h0' hlt h8; obtain ⟨a1, a2, a3, a4, a5, a6⟩ := pl_off ix h0' d2; rw [Int32.lt_iff_toInt_lt] at hl2; omega
                            · have hl2 : (ix + (2 : Int32)) < (ix + (4 : Int32)) := own_ge0 hc
                              clear hc
                              show own_R p e below s _ _ _ s₁ (mkF m 231 #[.val (.ref a1), .val (.int fr), .val (.int en), .val (.int ix), .val (.int ((xs.getD ix.toNatClampNeg 0) &&& (255 : Int32))), .val (.int (4 : Int32)), .val (.int (128 : Int32)), .val (.int (143 : Int32)), .val (.int ((xs.getD (ix + (1 : Int32)).toNatClampNeg 0) &&& (255 : Int32))), .val (.int (ix + (2 : Int32)))] [])
                              refine own_aloadN X0 hx (hb hby d4_231) rfl rfl ?_
                              refine own_iload X0 hx (hb hby d4_232) rfl ?_
                              refine own_baload X0 hx hZ e0 hV (v := .int (xs.getD (ix + (2 : Int32)).toNatClampNeg 0)) (pl_at2 ix en (4 : Int32) h0' hlt h8 (by decide) hc185) (pl_gd _ _) (hb hby d4_234) ?_
                              show own_R p e below s _ _ _ s₁ (mkF m 235 #[.val (.ref a1), .val (.int fr), .val (.int en), .val (.int ix), .val (.int ((xs.getD ix.toNatClampNeg 0) &&& (255 : Int32))), .val (.int (4 : Int32)), .val (.int (128 : Int32)), .val (.int (143 : Int32)), .val (.int ((xs.getD (ix + (1 : Int32)).toNatClampNeg 0) &&& (255 : Int32))), .val (.int (ix + (2 : Int32)))] [(.int (xs.getD (ix + (2 : Int32)).toNatClampNeg 0))])
                              refine own_sipush X0 hx (192 : Int32) (hb hby d4_235) rfl ?_
                              refine own_iand X0 hx (hb hby d4_238) ?_
                              refine own_sipush X0 hx (128 : Int32) (hb hby d4_239) rfl ?_
                              refine own_icmp X0 hx (hb hby d4_242) (pc' := 247) (by decide) (by decide) (fun hc => ?_) (fun hc => ?_)
                              · have hc242_2 : ((xs.getD (ix + (2 : Int32)).toNatClampNeg 0) &&& (192 : Int32)) = (128 : Int32) := own_eq1 hc
                                clear hc
                                show own_R p e below s _ _ _ s₁ (mkF m 247 #[.val (.ref a1), .val (.int fr), .val (.int en), .val (.int ix), .val (.int ((xs.getD ix.toNatClampNeg 0) &&& (255 : Int32))), .val (.int (4 : Int32)), .val (.int (128 : Int32)), .val (.int (143 : Int32)), .val (.int ((xs.getD (ix + (1 : Int32)).toNatClampNeg 0) &&& (255 : Int32))), .val (.int (ix + (2 : Int32)))] [])
                                refine own_iinc X0 hx (1 : Int32) (hb hby d4_247) rfl rfl (l' := #[.val (.ref a1), .val (.int fr), .val (.int en), .val (.int ix), .val (.int ((xs.getD ix.toNatClampNeg 0) &&& (255 : Int32))), .val (.int (4 : Int32)), .val (.int (128 : Int32)), .val (.int (143 : Int32)), .val (.int ((xs.getD (ix + (1 : Int32)).toNatClampNeg 0) &&& (255 : Int32))), .val (.int ((ix + (2 : Int32)) + (1 : Int32)))]) rfl ?_
                                refine own_goto X0 hx (hb hby d4_250) (pc' := 222) (by decide) (by decide) ?_
                                show own_R p e below s _ _ _ s₁ (mkF m 222 #[.val (.ref a1), .val (.int fr), .val (.int en), .val (.int ix), .val (.int ((xs.getD ix.toNatClampNeg 0) &&& (255 : Int32))), .val (.int (4 : Int32)), .val (.int (128 : Int32)), .val (.int (143 : Int32)), .val (.int ((xs.getD (ix + (1 : Int32)).toNatClampNeg 0) &&& (255 : Int32))), .val (.int ((ix + (2 : Int32)) + (1 : Int32)))] [])
                                refine own_iload X0 hx (hb hby d4_222) rfl ?_
                                refine own_iloadN X0 hx (hb hby d4_224) rfl ?_
                                refine own_iload X0 hx (hb hby d4_225) rfl ?_
                                refine own_iadd X0 hx (hb hby d4_227) ?_
                                refine own_icmp X0 hx (hb hby d4_228) (pc' := 253) (by decide) (by decide) (fun hc => ?_) (fun hc => ?_)
                                · have hl3 : ¬ ((ix + (2 : Int32)) + (1 : Int32)) < (ix + (4 : Int32)) := own_ge1 hc
                                  exfalso; obtain ⟨d1, d2⟩ := pl_d ix en h0' hlt h8; obtain ⟨a1, a2, a3, a4, a5, a6⟩ := pl_off ix h0' d2; rw [Int32.lt_iff_toInt_lt] at hl3; omega
                                · have hl3 : ((ix + (2 : Int32)) + (1 : Int32)) < (ix + (4 : Int32)) := own_ge0 hc
                                  clear hc
                                  show own_R p e below s _ _ _ s₁ (mkF m 231 #[.val (.ref a1), .val (.int fr), .val (.int en), .val (.int ix), .val (.int ((xs.getD ix.toNatClampNeg 0) &&& (255 : Int32))), .val (.int (4 : Int32)), .val (.int (128 : Int32)), .val (.int (143 : Int32)), .val (.int ((xs.getD (ix + (1 : Int32)).toNatClampNeg 0) &&& (255 : Int32))), .val (.int ((ix + (2 : Int32)) + (1 : Int32)))] [])
                                  refine own_aloadN X0 hx (hb hby d4_231) rfl rfl ?_
                                  refine own_iload X0 hx (hb hby d4_232) rfl ?_
                                  rw [pl_21]
                                  show own_R p e below s _ _ _ s₁ (mkF m 234 #[.val (.ref a1), .val (.int fr), .val (.int en), .val (.int ix), .val (.int ((xs.getD ix.toNatClampNeg 0) &&& (255 : Int32))), .val (.int (4 : Int32)), .val (.int (128 : Int32)), .val (.int (143 : Int32)), .val (.int ((xs.getD (ix + (1 : Int32)).toNatClampNeg 0) &&& (255 : Int32))), .val (.int (ix + (3 : Int32)))] [(.int (ix + (3 : Int32))), (.ref a1)])
                                  refine own_baload X0 hx hZ e0 hV (v := .int (xs.getD (ix + (3 : Int32)).toNatClampNeg 0)) (pl_at3 ix en (4 : Int32) h0' hlt h8 (by decide) hc185) (pl_gd _ _) (hb hby d4_234) ?_
                                  show own_R p e below s _ _ _ s₁ (mkF m 235 #[.val (.ref a1), .val (.int fr), .val (.int en), .val (.int ix), .val (.int ((xs.getD ix.toNatClampNeg 0) &&& (255 : Int32))), .val (.int (4 : Int32)), .val (.int (128 : Int32)), .val (.int (143 : Int32)), .val (.int ((xs.getD (ix + (1 : Int32)).toNatClampNeg 0) &&& (255 : Int32))), .val (.int (ix + (3 : Int32)))] [(.int (xs.getD (ix + (3 : Int32)).toNatClampNeg 0))])
                                  refine own_sipush X0 hx (192 : Int32) (hb hby d4_235) rfl ?_
                                  refine own_iand X0 hx (hb hby d4_238) ?_
                                  refine own_sipush X0 hx (128 : Int32) (hb hby d4_239) rfl ?_
                                  refine own_icmp X0 hx (hb hby d4_242) (pc' := 247) (by decide) (by decide) (fun hc => ?_) (fun hc => ?_)
                                  · have hc242_3 : ((xs.getD (ix + (3 : Int32)).toNatClampNeg 0) &&& (192 : Int32)) = (128 : Int32) := own_eq1 hc
                                    clear hc
                                    show own_R p e below s _ _ _ s₁ (mkF m 247 #[.val (.ref a1), .val (.int fr), .val (.int en), .val (.int ix), .val (.int ((xs.getD ix.toNatClampNeg 0) &&& (255 : Int32))), .val (.int (4 : Int32)), .val (.int (128 : Int32)), .val (.int (143 : Int32)), .val (.int ((xs.getD (ix + (1 : Int32)).toNatClampNeg 0) &&& (255 : Int32))), .val (.int (ix + (3 : Int32)))] [])
                                    refine own_iinc X0 hx (1 : Int32) (hb hby d4_247) rfl rfl (l' := #[.val (.ref a1), .val (.int fr), .val (.int en), .val (.int ix), .val (.int ((xs.getD ix.toNatClampNeg 0) &&& (255 : Int32))), .val (.int (4 : Int32)), .val (.int (128 : Int32)), .val (.int (143 : Int32)), .val (.int ((xs.getD (ix + (1 : Int32)).toNatClampNeg 0) &&& (255 : Int32))), .val (.int ((ix + (3 : Int32)) + (1 : Int32)))]) rfl ?_
                                    refine own_goto X0 hx (hb hby d4_250) (pc' := 222) (by decide) (by decide) ?_
                                    show own_R p e below s _ _ _ s₁ (mkF m 222 #[.val (.ref a1), .val (.int fr), .val (.int en), .val (.int ix), .val (.int ((xs.getD ix.toNatClampNeg 0) &&& (255 : Int32))), .val (.int (4 : Int32)), .val (.int (128 : Int32)), .val (.int (143 : Int32)), .val (.int ((xs.getD (ix + (1 : Int32)).toNatClampNeg 0) &&& (255 : Int32))), .val (.int ((ix + (3 : Int32)) + (1 : Int32)))] [])
                                    refine own_iload X0 hx (hb hby d4_222) rfl ?_
                                    refine own_iloadN X0 hx (hb hby d4_224) rfl ?_
                                    refine own_iload X0 hx (hb hby d4_225) rfl ?_
                                    refine own_iadd X0 hx (hb hby d4_227) ?_
                                    refine own_icmp X0 hx (hb hby d4_228) (pc' := 253) (by decide) (by decide) (fun hc => ?_) (fun hc => ?_)
                                    · have hl4 : ¬ ((ix + (3 : Int32)) + (1 : Int32)) < (ix + (4 : Int32)) := own_ge1 hc
                                      clear hc
                                      show own_R p e below s _ _ _ s₁ (mkF m 253 #[.val (.ref a1), .val (.int fr), .val (.int en), .val (.int ix), .val (.int ((xs.getD ix.toNatClampNeg 0) &&& (255 : Int32))), .val (.int (4 : Int32)), .val (.int (128 : Int32)), .val (.int (143 : Int32)), .val (.int ((xs.getD (ix + (1 : Int32)).toNatClampNeg 0) &&& (255 : Int32))), .val (.int ((ix + (3 : Int32)) + (1 : Int32)))] [])
                                      refine own_iloadN X0 hx (hb hby d4_253) rfl ?_
                                      refine own_iload X0 hx (hb hby d4_254) rfl ?_
                                      refine own_iadd X0 hx (hb hby d4_256) ?_
                                      refine own_istoreN X0 hx (hb hby d4_257) (l' := #[.val (.ref a1), .val (.int fr), .val (.int en), .val (.int (ix + (4 : Int32))), .val (.int ((xs.getD ix.toNatClampNeg 0) &&& (255 : Int32))), .val (.int (4 : Int32)), .val (.int (128 : Int32)), .val (.int (143 : Int32)), .val (.int ((xs.getD (ix + (1 : Int32)).toNatClampNeg 0) &&& (255 : Int32))), .val (.int ((ix + (3 : Int32)) + (1 : Int32)))]) rfl ?_
                                      refine own_goto X0 hx (hb hby d4_258) (pc' := 2) (by decide) (by decide) ?_
                                      show own_R p e below s _ _ _ s₁ (mkF m 2 #[.val (.ref a1), .val (.int fr), .val (.int en), .val (.int (ix + (4 : Int32))), .val (.int ((xs.getD ix.toNatClampNeg 0) &&& (255 : Int32))), .val (.int (4 : Int32)), .val (.int (128 : Int32)), .val (.int (143 : Int32)), .val (.int ((xs.getD (ix + (1 : Int32)).toNatClampNeg 0) &&& (255 : Int32))), .val (.int ((ix + (3 : Int32)) + (1 : Int32)))] [])
                                      have hnl : pl_nl ((xs.getD ix.toNatClampNeg 0) &&& (255 : Int32)) ((xs.getD (ix + (1 : Int32)).toNatClampNeg 0) &&& (255 : Int32)) (xs.getD (ix + (2 : Int32)).toNatClampNeg 0) (xs.getD (ix + (3 : Int32)).toNatClampNeg 0) (en - ix) = (4 : Int32) := by rw [pl_nl, if_neg hc21, if_pos hc45, if_pos hc67, if_neg hc125, if_neg hc133, if_neg hc144, if_pos hc162, if_neg hc185, if_neg hc205, if_neg hc212, if_pos hc242_2, if_pos hc242_3]
                                      obtain ⟨u0, uk⟩ := pl_adv ix en (4 : Int32) k h0' hlt h8 hk' (by decide)
                                      exact ih _ _ _ _ _ _ _ (One.val rfl) (One.val rfl) (One.val rfl) (One.val rfl) (One.val rfl) (One.val rfl) u0 uk (by rw [← hr]; conv => rhs; rw [pl_nu, if_pos hlt, hnl, if_neg (by decide)])
                                    · have hl4 : ((ix + (3 : Int32)) + (1 : Int32)) < (ix + (4 : Int32)) := own_ge0 hc
                                      exfalso; obtain ⟨d1, d2⟩ := pl_d ix en h0' hlt h8; obtain ⟨a1, a2, a3, a4, a5, a6⟩ := pl_off ix h0' d2; rw [Int32.lt_iff_toInt_lt] at hl4; omega
                                  · have hc242_3 : ¬ ((xs.getD (ix + (3 : Int32)).toNatClampNeg 0) &&& (192 : Int32)) = (128 : Int32) := own_eq0 hc
                                    clear hc
                                    show own_R p e below s _ _ _ s₁ (mkF m 245 #[.val (.ref a1), .val (.int fr), .val (.int en), .val (.int ix), .val (.int ((xs.getD ix.toNatClampNeg 0) &&& (255 : Int32))), .val (.int (4 : Int32)), .val (.int (128 : Int32)), .val (.int (143 : Int32)), .val (.int ((xs.getD (ix + (1 : Int32)).toNatClampNeg 0) &&& (255 : Int32))), .val (.int (ix + (3 : Int32)))] [])
                                    refine own_iloadN X0 hx (hb hby d4_245) rfl ?_
                                    have hnl : pl_nl ((xs.getD ix.toNatClampNeg 0) &&& (255 : Int32)) ((xs.getD (ix + (1 : Int32)).toNatClampNeg 0) &&& (255 : Int32)) (xs.getD (ix + (2 : Int32)).toNatClampNeg 0) (xs.getD (ix + (3 : Int32)).toNatClampNeg 0) (en - ix) = 0 := by rw [pl_nl, if_neg hc21, if_pos hc45, if_pos hc67, if_neg hc125, if_neg hc133, if_neg hc144, if_pos hc162, if_neg hc185, if_neg hc205, if_neg hc212, if_pos hc242_2, if_neg hc242_3]
                                    refine own_retI X0 hx Bd.returns hlk (hb hby d4_246) ?_ (by decide) (by decide)
                                    refine ⟨?_, N0, e0⟩
                                    show some (Value.int _) = some (Value.int (pl_nu xs en 8 fr))
                                    rw [← hr, pl_nu, if_pos hlt, if_pos hnl]
                              · have hc242_2 : ¬ ((xs.getD (ix + (2 : Int32)).toNatClampNeg 0) &&& (192 : Int32)) = (128 : Int32) := own_eq0 hc
                                clear hc
                                show own_R p e below s _ _ _ s₁ (mkF m 245 #[.val (.ref a1), .val (.int fr), .val (.int en), .val (.int ix), .val (.int ((xs.getD ix.toNatClampNeg 0) &&& (255 : Int32))), .val (.int (4 : Int32)), .val (.int (128 : Int32)), .val (.int (143 : Int32)), .val (.int ((xs.getD (ix + (1 : Int32)).toNatClampNeg 0) &&& (255 : Int32))), .val (.int (ix + (2 : Int32)))] [])
                                refine own_iloadN X0 hx (hb hby d4_245) rfl ?_
                                have hnl : pl_nl ((xs.getD ix.toNatClampNeg 0) &&& (255 : Int32)) ((xs.getD (ix + (1 : Int32)).toNatClampNeg 0) &&& (255 : Int32)) (xs.getD (ix + (2 : Int32)).toNatClampNeg 0) (xs.getD (ix + (3 : Int32)).toNatClampNeg 0) (en - ix) = 0 := by rw [pl_nl, if_neg hc21, if_pos hc45, if_pos hc67, if_neg hc125, if_neg hc133, if_neg hc144, if_pos hc162, if_neg hc185, if_neg hc205, if_neg hc212, if_neg hc242_2]
                                refine own_retI X0 hx Bd.returns hlk (hb hby d4_246) ?_ (by decide) (by decide)
                                refine ⟨?_, N0, e0⟩
                                show some (Value.int _) = some (Value.int (pl_nu xs en 8 fr))
                                rw [← hr, pl_nu, if_pos hlt, if_pos hnl]
                          · have hc212 : (143 : Int32) < ((xs.getD (ix + (1 : Int32)).toNatClampNeg 0) &&& (255 : Int32)) := own_le0 hc
                            clear hc
                            show own_R p e below s _ _ _ s₁ (mkF m 215 #[.val (.ref a1), .val (.int fr), .val (.int en), .val (.int ix), .val (.int ((xs.getD ix.toNatClampNeg 0) &&& (255 : Int32))), .val (.int (4 : Int32)), .val (.int (128 : Int32)), .val (.int (143 : Int32)), .val (.int ((xs.getD (ix + (1 : Int32)).toNatClampNeg 0) &&& (255 : Int32))), s9] [])
                            refine own_iloadN X0 hx (hb hby d4_215) rfl ?_
                            have hnl : pl_nl ((xs.getD ix.toNatClampNeg 0) &&& (255 : Int32)) ((xs.getD (ix + (1 : Int32)).toNatClampNeg 0) &&& (255 : Int32)) (xs.getD (ix + (2 : Int32)).toNatClampNeg 0) (xs.getD (ix + (3 : Int32)).toNatClampNeg 0) (en - ix) = 0 := by rw [pl_nl, if_neg hc21, if_pos hc45, if_pos hc67, if_neg hc125, if_neg hc133, if_neg hc144, if_pos hc162, if_neg hc185, if_neg hc205, if_pos hc212]
                            refine own_retI X0 hx Bd.returns hlk (hb hby d4_216) ?_ (by decide) (by decide)
                            refine ⟨?_, N0, e0⟩
                            show some (Value.int _) = some (Value.int (pl_nu xs en 8 fr))
                            rw [← hr, pl_nu, if_pos hlt, if_pos hnl]
                      · have hc185 : (en - ix) < (4 : Int32) := own_ge0 hc
                        clear hc
                        show own_R p e below s _ _ _ s₁ (mkF m 188 #[.val (.ref a1), .val (.int fr), .val (.int en), .val (.int ix), .val (.int ((xs.getD ix.toNatClampNeg 0) &&& (255 : Int32))), .val (.int (4 : Int32)), .val (.int (128 : Int32)), .val (.int (143 : Int32)), s8, s9] [])
                        refine own_iloadN X0 hx (hb hby d4_188) rfl ?_
                        have hnl : pl_nl ((xs.getD ix.toNatClampNeg 0) &&& (255 : Int32)) ((xs.getD (ix + (1 : Int32)).toNatClampNeg 0) &&& (255 : Int32)) (xs.getD (ix + (2 : Int32)).toNatClampNeg 0) (xs.getD (ix + (3 : Int32)).toNatClampNeg 0) (en - ix) = 0 := by rw [pl_nl, if_neg hc21, if_pos hc45, if_pos hc67, if_neg hc125, if_neg hc133, if_neg hc144, if_pos hc162, if_pos hc185]
                        refine own_retI X0 hx Bd.returns hlk (hb hby d4_189) ?_ (by decide) (by decide)
                        refine ⟨?_, N0, e0⟩
                        show some (Value.int _) = some (Value.int (pl_nu xs en 8 fr))
                        rw [← hr, pl_nu, if_pos hlt, if_pos hnl]
                  · have hc144 : ((xs.getD ix.toNatClampNeg 0) &&& (255 : Int32)) = (240 : Int32) := own_ne0 hc
                    clear hc
                    show own_R p e below s _ _ _ s₁ (mkF m 147 #[.val (.ref a1), .val (.int fr), .val (.int en), .val (.int ix), .val (.int ((xs.getD ix.toNatClampNeg 0) &&& (255 : Int32))), .val (.int (4 : Int32)), .val (.int (128 : Int32)), .val (.int (191 : Int32)), s8, s9] [])
                    refine own_sipush X0 hx (144 : Int32) (hb hby d4_147) rfl ?_
                    refine own_goto X0 hx (hb hby d4_150) (pc' := 155) (by decide) (by decide) ?_
                    show own_R p e below s _ _ _ s₁ (mkF m 155 #[.val (.ref a1), .val (.int fr), .val (.int en), .val (.int ix), .val (.int ((xs.getD ix.toNatClampNeg 0) &&& (255 : Int32))), .val (.int (4 : Int32)), .val (.int (128 : Int32)), .val (.int (191 : Int32)), s8, s9] [(.int (144 : Int32))])
                    refine own_istore X0 hx (hb hby d4_155) (l' := #[.val (.ref a1), .val (.int fr), .val (.int en), .val (.int ix), .val (.int ((xs.getD ix.toNatClampNeg 0) &&& (255 : Int32))), .val (.int (4 : Int32)), .val (.int (144 : Int32)), .val (.int (191 : Int32)), s8, s9]) rfl ?_
                    refine own_iload X0 hx (hb hby d4_157) rfl ?_
                    refine own_sipush X0 hx (244 : Int32) (hb hby d4_159) rfl ?_
                    refine own_icmp X0 hx (hb hby d4_162) (pc' := 171) (by decide) (by decide) (fun hc => ?_) (fun hc => ?_)
                    · have hc162 : ¬ ((xs.getD ix.toNatClampNeg 0) &&& (255 : Int32)) = (244 : Int32) := own_ne1 hc
                      clear hc
                      show own_R p e below s _ _ _ s₁ (mkF m 171 #[.val (.ref a1), .val (.int fr), .val (.int en), .val (.int ix), .val (.int ((xs.getD ix.toNatClampNeg 0) &&& (255 : Int32))), .val (.int (4 : Int32)), .val (.int (144 : Int32)), .val (.int (191 : Int32)), s8, s9] [])
                      refine own_iload X0 hx (hb hby d4_171) rfl ?_
                      refine own_istore X0 hx (hb hby d4_173) (l' := #[.val (.ref a1), .val (.int fr), .val (.int en), .val (.int ix), .val (.int ((xs.getD ix.toNatClampNeg 0) &&& (255 : Int32))), .val (.int (4 : Int32)), .val (.int (144 : Int32)), .val (.int (191 : Int32)), s8, s9]) rfl ?_
                      refine own_goto X0 hx (hb hby d4_175) (pc' := 180) (by decide) (by decide) ?_
                      show own_R p e below s _ _ _ s₁ (mkF m 180 #[.val (.ref a1), .val (.int fr), .val (.int en), .val (.int ix), .val (.int ((xs.getD ix.toNatClampNeg 0) &&& (255 : Int32))), .val (.int (4 : Int32)), .val (.int (144 : Int32)), .val (.int (191 : Int32)), s8, s9] [])
                      refine own_iloadN X0 hx (hb hby d4_180) rfl ?_
                      refine own_iloadN X0 hx (hb hby d4_181) rfl ?_
                      refine own_isub X0 hx (hb hby d4_182) ?_
                      refine own_iload X0 hx (hb hby d4_183) rfl ?_
                      refine own_icmp X0 hx (hb hby d4_185) (pc' := 190) (by decide) (by decide) (fun hc => ?_) (fun hc => ?_)
                      · have hc185 : ¬ (en - ix) < (4 : Int32) := own_ge1 hc
                        clear hc
                        show own_R p e below s _ _ _ s₁ (mkF m 190 #[.val (.ref a1), .val (.int fr), .val (.int en), .val (.int ix), .val (.int ((xs.getD ix.toNatClampNeg 0) &&& (255 : Int32))), .val (.int (4 : Int32)), .val (.int (144 : Int32)), .val (.int (191 : Int32)), s8, s9] [])
                        refine own_aloadN X0 hx (hb hby d4_190) rfl rfl ?_
                        refine own_iloadN X0 hx (hb hby d4_191) rfl ?_
                        refine own_iconst X0 hx (1 : Int32) (hb hby d4_192) rfl ?_
                        refine own_iadd X0 hx (hb hby d4_193) ?_
                        refine own_baload X0 hx hZ e0 hV (v := .int (xs.getD (ix + (1 : Int32)).toNatClampNeg 0)) (pl_at1 ix en (4 : Int32) h0' hlt h8 (by decide) hc185) (pl_gd _ _) (hb hby d4_194) ?_
                        show own_R p e below s _ _ _ s₁ (mkF m 195 #[.val (.ref a1), .val (.int fr), .val (.int en), .val (.int ix), .val (.int ((xs.getD ix.toNatClampNeg 0) &&& (255 : Int32))), .val (.int (4 : Int32)), .val (.int (144 : Int32)), .val (.int (191 : Int32)), s8, s9] [(.int (xs.getD (ix + (1 : Int32)).toNatClampNeg 0))])
                        refine own_sipush X0 hx (255 : Int32) (hb hby d4_195) rfl ?_
                        refine own_iand X0 hx (hb hby d4_198) ?_
                        refine own_istore X0 hx (hb hby d4_199) (l' := #[.val (.ref a1), .val (.int fr), .val (.int en), .val (.int ix), .val (.int ((xs.getD ix.toNatClampNeg 0) &&& (255 : Int32))), .val (.int (4 : Int32)), .val (.int (144 : Int32)), .val (.int (191 : Int32)), .val (.int ((xs.getD (ix + (1 : Int32)).toNatClampNeg 0) &&& (255 : Int32))), s9]) (by rcases hs8 with rfl | ⟨w, rfl, hw'⟩ <;> first | rfl | (cases w <;> first | rfl | (simp [Value.category] at hw'))) ?_
                        refine own_iload X0 hx (hb hby d4_201) rfl ?_
                        refine own_iload X0 hx (hb hby d4_203) rfl ?_
                        refine own_icmp X0 hx (hb hby d4_205) (pc' := 215) (by decide) (by decide) (fun hc => ?_) (fun hc => ?_)
                        · have hc205 : ((xs.getD (ix + (1 : Int32)).toNatClampNeg 0) &&& (255 : Int32)) < (144 : Int32) := own_lt1 hc
                          clear hc
                          show own_R p e below s _ _ _ s₁ (mkF m 215 #[.val (.ref a1), .val (.int fr), .val (.int en), .val (.int ix), .val (.int ((xs.getD ix.toNatClampNeg 0) &&& (255 : Int32))), .val (.int (4 : Int32)), .val (.int (144 : Int32)), .val (.int (191 : Int32)), .val (.int ((xs.getD (ix + (1 : Int32)).toNatClampNeg 0) &&& (255 : Int32))), s9] [])
                          refine own_iloadN X0 hx (hb hby d4_215) rfl ?_
                          have hnl : pl_nl ((xs.getD ix.toNatClampNeg 0) &&& (255 : Int32)) ((xs.getD (ix + (1 : Int32)).toNatClampNeg 0) &&& (255 : Int32)) (xs.getD (ix + (2 : Int32)).toNatClampNeg 0) (xs.getD (ix + (3 : Int32)).toNatClampNeg 0) (en - ix) = 0 := by rw [pl_nl, if_neg hc21, if_pos hc45, if_pos hc67, if_neg hc125, if_neg hc133, if_pos hc144, if_neg hc162, if_neg hc185, if_pos hc205]
                          refine own_retI X0 hx Bd.returns hlk (hb hby d4_216) ?_ (by decide) (by decide)
                          refine ⟨?_, N0, e0⟩
                          show some (Value.int _) = some (Value.int (pl_nu xs en 8 fr))
                          rw [← hr, pl_nu, if_pos hlt, if_pos hnl]
                        · have hc205 : ¬ ((xs.getD (ix + (1 : Int32)).toNatClampNeg 0) &&& (255 : Int32)) < (144 : Int32) := own_lt0 hc
                          clear hc
                          show own_R p e below s _ _ _ s₁ (mkF m 208 #[.val (.ref a1), .val (.int fr), .val (.int en), .val (.int ix), .val (.int ((xs.getD ix.toNatClampNeg 0) &&& (255 : Int32))), .val (.int (4 : Int32)), .val (.int (144 : Int32)), .val (.int (191 : Int32)), .val (.int ((xs.getD (ix + (1 : Int32)).toNatClampNeg 0) &&& (255 : Int32))), s9] [])
                          refine own_iload X0 hx (hb hby d4_208) rfl ?_
                          refine own_iload X0 hx (hb hby d4_210) rfl ?_
                          refine own_icmp X0 hx (hb hby d4_212) (pc' := 217) (by decide) (by decide) (fun hc => ?_) (fun hc => ?_)
                          · have hc212 : ¬ (191 : Int32) < ((xs.getD (ix + (1 : Int32)).toNatClampNeg 0) &&& (255 : Int32)) := own_le1 hc
                            clear hc
                            show own_R p e below s _ _ _ s₁ (mkF m 217 #[.val (.ref a1), .val (.int fr), .val (.int en), .val (.int ix), .val (.int ((xs.getD ix.toNatClampNeg 0) &&& (255 : Int32))), .val (.int (4 : Int32)), .val (.int (144 : Int32)), .val (.int (191 : Int32)), .val (.int ((xs.getD (ix + (1 : Int32)).toNatClampNeg 0) &&& (255 : Int32))), s9] [])
                            refine own_iloadN X0 hx (hb hby d4_217) rfl ?_
                            refine own_iconst X0 hx (2 : Int32) (hb hby d4_218) rfl ?_
                            refine own_iadd X0 hx (hb hby d4_219) ?_
                            refine own_istore X0 hx (hb hby d4_220) (l' := #[.val (.ref a1), .val (.int fr), .val (.int en), .val (.int ix), .val (.int ((xs.getD ix.toNatClampNeg 0) &&& (255 : Int32))), .val (.int (4 : Int32)), .val (.int (144 : Int32)), .val (.int (191 : Int32)), .val (.int ((xs.getD (ix + (1 : Int32)).toNatClampNeg 0) &&& (255 : Int32))), .val (.int (ix + (2 : Int32)))]) (by rcases hs9 with rfl | ⟨w, rfl, hw'⟩ <;> first | rfl | (cases w <;> first | rfl | (simp [Value.category] at hw'))) ?_
                            refine own_iload X0 hx (hb hby d4_222) rfl ?_
                            refine own_iloadN X0 hx (hb hby d4_224) rfl ?_
                            refine own_iload X0 hx (hb hby d4_225) rfl ?_
                            refine own_iadd X0 hx (hb hby d4_227) ?_
                            refine own_icmp X0 hx (hb hby d4_228) (pc' := 253) (by decide) (by decide) (fun hc => ?_) (fun hc => ?_)
                            · have hl2 : ¬ (ix + (2 : Int32)) < (ix + (4 : Int32)) := own_ge1 hc
                              exfalso; obtain ⟨d1, d2⟩ := pl_d ix en h0' hlt h8; obtain ⟨a1, a2, a3, a4, a5, a6⟩ := pl_off ix h0' d2; rw [Int32.lt_iff_toInt_lt] at hl2; omega
                            · have hl2 : (ix + (2 : Int32)) < (ix + (4 : Int32)) := own_ge0 hc
                              clear hc
                              show own_R p e below s _ _ _ s₁ (mkF m 231 #[.val (.ref a1), .val (.int fr), .val (.int en), .val (.int ix), .val (.int ((xs.getD ix.toNatClampNeg 0) &&& (255 : Int32))), .val (.int (4 : Int32)), .val (.int (144 : Int32)), .val (.int (191 : Int32)), .val (.int ((xs.getD (ix + (1 : Int32)).toNatClampNeg 0) &&& (255 : Int32))), .val (.int (ix + (2 : Int32)))] [])
                              refine own_aloadN X0 hx (hb hby d4_231) rfl rfl ?_
                              refine own_iload X0 hx (hb hby d4_232) rfl ?_
                              refine own_baload X0 hx hZ e0 hV (v := .int (xs.getD (ix + (2 : Int32)).toNatClampNeg 0)) (pl_at2 ix en (4 : Int32) h0' hlt h8 (by decide) hc185) (pl_gd _ _) (hb hby d4_234) ?_
                              show own_R p e below s _ _ _ s₁ (mkF m 235 #[.val (.ref a1), .val (.int fr), .val (.int en), .val (.int ix), .val (.int ((xs.getD ix.toNatClampNeg 0) &&& (255 : Int32))), .val (.int (4 : Int32)), .val (.int (144 : Int32)), .val (.int (191 : Int32)), .val (.int ((xs.getD (ix + (1 : Int32)).toNatClampNeg 0) &&& (255 : Int32))), .val (.int (ix + (2 : Int32)))] [(.int (xs.getD (ix + (2 : Int32)).toNatClampNeg 0))])
                              refine own_sipush X0 hx (192 : Int32) (hb hby d4_235) rfl ?_
                              refine own_iand X0 hx (hb hby d4_238) ?_
                              refine own_sipush X0 hx (128 : Int32) (hb hby d4_239) rfl ?_
                              refine own_icmp X0 hx (hb hby d4_242) (pc' := 247) (by decide) (by decide) (fun hc => ?_) (fun hc => ?_)
                              · have hc242_2 : ((xs.getD (ix + (2 : Int32)).toNatClampNeg 0) &&& (192 : Int32)) = (128 : Int32) := own_eq1 hc
                                clear hc
                                show own_R p e below s _ _ _ s₁ (mkF m 247 #[.val (.ref a1), .val (.int fr), .val (.int en), .val (.int ix), .val (.int ((xs.getD ix.toNatClampNeg 0) &&& (255 : Int32))), .val (.int (4 : Int32)), .val (.int (144 : Int32)), .val (.int (191 : Int32)), .val (.int ((xs.getD (ix + (1 : Int32)).toNatClampNeg 0) &&& (255 : Int32))), .val (.int (ix + (2 : Int32)))] [])
                                refine own_iinc X0 hx (1 : Int32) (hb hby d4_247) rfl rfl (l' := #[.val (.ref a1), .val (.int fr), .val (.int en), .val (.int ix), .val (.int ((xs.getD ix.toNatClampNeg 0) &&& (255 : Int32))), .val (.int (4 : Int32)), .val (.int (144 : Int32)), .val (.int (191 : Int32)), .val (.int ((xs.getD (ix + (1 : Int32)).toNatClampNeg 0) &&& (255 : Int32))), .val (.int ((ix + (2 : Int32)) + (1 : Int32)))]) rfl ?_
                                refine own_goto X0 hx (hb hby d4_250) (pc' := 222) (by decide) (by decide) ?_
                                show own_R p e below s _ _ _ s₁ (mkF m 222 #[.val (.ref a1), .val (.int fr), .val (.int en), .val (.int ix), .val (.int ((xs.getD ix.toNatClampNeg 0) &&& (255 : Int32))), .val (.int (4 : Int32)), .val (.int (144 : Int32)), .val (.int (191 : Int32)), .val (.int ((xs.getD (ix + (1 : Int32)).toNatClampNeg 0) &&& (255 : Int32))), .val (.int ((ix + (2 : Int32)) + (1 : Int32)))] [])
                                refine own_iload X0 hx (hb hby d4_222) rfl ?_
                                refine own_iloadN X0 hx (hb hby d4_224) rfl ?_
                                refine own_iload X0 hx (hb hby d4_225) rfl ?_
                                refine own_iadd X0 hx (hb hby d4_227) ?_
                                refine own_icmp X0 hx (hb hby d4_228) (pc' := 253) (by decide) (by decide) (fun hc => ?_) (fun hc => ?_)
                                · have hl3 : ¬ ((ix + (2 : Int32)) + (1 : Int32)) < (ix + (4 : Int32)) := own_ge1 hc
                                  exfalso; obtain ⟨d1, d2⟩ := pl_d ix en h0' hlt h8; obtain ⟨a1, a2, a3, a4, a5, a6⟩ := pl_off ix h0' d2; rw [Int32.lt_iff_toInt_lt] at hl3; omega
                                · have hl3 : ((ix + (2 : Int32)) + (1 : Int32)) < (ix + (4 : Int32)) := own_ge0 hc
                                  clear hc
                                  show own_R p e below s _ _ _ s₁ (mkF m 231 #[.val (.ref a1), .val (.int fr), .val (.int en), .val (.int ix), .val (.int ((xs.getD ix.toNatClampNeg 0) &&& (255 : Int32))), .val (.int (4 : Int32)), .val (.int (144 : Int32)), .val (.int (191 : Int32)), .val (.int ((xs.getD (ix + (1 : Int32)).toNatClampNeg 0) &&& (255 : Int32))), .val (.int ((ix + (2 : Int32)) + (1 : Int32)))] [])
                                  refine own_aloadN X0 hx (hb hby d4_231) rfl rfl ?_
                                  refine own_iload X0 hx (hb hby d4_232) rfl ?_
                                  rw [pl_21]
                                  show own_R p e below s _ _ _ s₁ (mkF m 234 #[.val (.ref a1), .val (.int fr), .val (.int en), .val (.int ix), .val (.int ((xs.getD ix.toNatClampNeg 0) &&& (255 : Int32))), .val (.int (4 : Int32)), .val (.int (144 : Int32)), .val (.int (191 : Int32)), .val (.int ((xs.getD (ix + (1 : Int32)).toNatClampNeg 0) &&& (255 : Int32))), .val (.int (ix + (3 : Int32)))] [(.int (ix + (3 : Int32))), (.ref a1)])
                                  refine own_baload X0 hx hZ e0 hV (v := .int (xs.getD (ix + (3 : Int32)).toNatClampNeg 0)) (pl_at3 ix en (4 : Int32) h0' hlt h8 (by decide) hc185) (pl_gd _ _) (hb hby d4_234) ?_
                                  show own_R p e below s _ _ _ s₁ (mkF m 235 #[.val (.ref a1), .val (.int fr), .val (.int en), .val (.int ix), .val (.int ((xs.getD ix.toNatClampNeg 0) &&& (255 : Int32))), .val (.int (4 : Int32)), .val (.int (144 : Int32)), .val (.int (191 : Int32)), .val (.int ((xs.getD (ix + (1 : Int32)).toNatClampNeg 0) &&& (255 : Int32))), .val (.int (ix + (3 : Int32)))] [(.int (xs.getD (ix + (3 : Int32)).toNatClampNeg 0))])
                                  refine own_sipush X0 hx (192 : Int32) (hb hby d4_235) rfl ?_
                                  refine own_iand X0 hx (hb hby d4_238) ?_
                                  refine own_sipush X0 hx (128 : Int32) (hb hby d4_239) rfl ?_
                                  refine own_icmp X0 hx (hb hby d4_242) (pc' := 247) (by decide) (by decide) (fun hc => ?_) (fun hc => ?_)
                                  · have hc242_3 : ((xs.getD (ix + (3 : Int32)).toNatClampNeg 0) &&& (192 : Int32)) = (128 : Int32) := own_eq1 hc
                                    clear hc
                                    show own_R p e below s _ _ _ s₁ (mkF m 247 #[.val (.ref a1), .val (.int fr), .val (.int en), .val (.int ix), .val (.int ((xs.getD ix.toNatClampNeg 0) &&& (255 : Int32))), .val (.int (4 : Int32)), .val (.int (144 : Int32)), .val (.int (191 : Int32)), .val (.int ((xs.getD (ix + (1 : Int32)).toNatClampNeg 0) &&& (255 : Int32))), .val (.int (ix + (3 : Int32)))] [])
                                    refine own_iinc X0 hx (1 : Int32) (hb hby d4_247) rfl rfl (l' := #[.val (.ref a1), .val (.int fr), .val (.int en), .val (.int ix), .val (.int ((xs.getD ix.toNatClampNeg 0) &&& (255 : Int32))), .val (.int (4 : Int32)), .val (.int (144 : Int32)), .val (.int (191 : Int32)), .val (.int ((xs.getD (ix + (1 : Int32)).toNatClampNeg 0) &&& (255 : Int32))), .val (.int ((ix + (3 : Int32)) + (1 : Int32)))]) rfl ?_
                                    refine own_goto X0 hx (hb hby d4_250) (pc' := 222) (by decide) (by decide) ?_
                                    show own_R p e below s _ _ _ s₁ (mkF m 222 #[.val (.ref a1), .val (.int fr), .val (.int en), .val (.int ix), .val (.int ((xs.getD ix.toNatClampNeg 0) &&& (255 : Int32))), .val (.int (4 : Int32)), .val (.int (144 : Int32)), .val (.int (191 : Int32)), .val (.int ((xs.getD (ix + (1 : Int32)).toNatClampNeg 0) &&& (255 : Int32))), .val (.int ((ix + (3 : Int32)) + (1 : Int32)))] [])
                                    refine own_iload X0 hx (hb hby d4_222) rfl ?_
                                    refine own_iloadN X0 hx (hb hby d4_224) rfl ?_
                                    refine own_iload X0 hx (hb hby d4_225) rfl ?_
                                    refine own_iadd X0 hx (hb hby d4_227) ?_
                                    refine own_icmp X0 hx (hb hby d4_228) (pc' := 253) (by decide) (by decide) (fun hc => ?_) (fun hc => ?_)
                                    · have hl4 : ¬ ((ix + (3 : Int32)) + (1 : Int32)) < (ix + (4 : Int32)) := own_ge1 hc
                                      clear hc
                                      show own_R p e below s _ _ _ s₁ (mkF m 253 #[.val (.ref a1), .val (.int fr), .val (.int en), .val (.int ix), .val (.int ((xs.getD ix.toNatClampNeg 0) &&& (255 : Int32))), .val (.int (4 : Int32)), .val (.int (144 : Int32)), .val (.int (191 : Int32)), .val (.int ((xs.getD (ix + (1 : Int32)).toNatClampNeg 0) &&& (255 : Int32))), .val (.int ((ix + (3 : Int32)) + (1 : Int32)))] [])
                                      refine own_iloadN X0 hx (hb hby d4_253) rfl ?_
                                      refine own_iload X0 hx (hb hby d4_254) rfl ?_
                                      refine own_iadd X0 hx (hb hby d4_256) ?_
                                      refine own_istoreN X0 hx (hb hby d4_257) (l' := #[.val (.ref a1), .val (.int fr), .val (.int en), .val (.int (ix + (4 : Int32))), .val (.int ((xs.getD ix.toNatClampNeg 0) &&& (255 : Int32))), .val (.int (4 : Int32)), .val (.int (144 : Int32)), .val (.int (191 : Int32)), .val (.int ((xs.getD (ix + (1 : Int32)).toNatClampNeg 0) &&& (255 : Int32))), .val (.int ((ix + (3 : Int32)) + (1 : Int32)))]) rfl ?_
                                      refine own_goto X0 hx (hb hby d4_258) (pc' := 2) (by decide) (by decide) ?_
                                      show own_R p e below s _ _ _ s₁ (mkF m 2 #[.val (.ref a1), .val (.int fr), .val (.int en), .val (.int (ix + (4 : Int32))), .val (.int ((xs.getD ix.toNatClampNeg 0) &&& (255 : Int32))), .val (.int (4 : Int32)), .val (.int (144 : Int32)), .val (.int (191 : Int32)), .val (.int ((xs.getD (ix + (1 : Int32)).toNatClampNeg 0) &&& (255 : Int32))), .val (.int ((ix + (3 : Int32)) + (1 : Int32)))] [])
                                      have hnl : pl_nl ((xs.getD ix.toNatClampNeg 0) &&& (255 : Int32)) ((xs.getD (ix + (1 : Int32)).toNatClampNeg 0) &&& (255 : Int32)) (xs.getD (ix + (2 : Int32)).toNatClampNeg 0) (xs.getD (ix + (3 : Int32)).toNatClampNeg 0) (en - ix) = (4 : Int32) := by rw [pl_nl, if_neg hc21, if_pos hc45, if_pos hc67, if_neg hc125, if_neg hc133, if_pos hc144, if_neg hc162, if_neg hc185, if_neg hc205, if_neg hc212, if_pos hc242_2, if_pos hc242_3]
                                      obtain ⟨u0, uk⟩ := pl_adv ix en (4 : Int32) k h0' hlt h8 hk' (by decide)
                                      exact ih _ _ _ _ _ _ _ (One.val rfl) (One.val rfl) (One.val rfl) (One.val rfl) (One.val rfl) (One.val rfl) u0 uk (by rw [← hr]; conv => rhs; rw [pl_nu, if_pos hlt, hnl, if_neg (by decide)])
                                    · have hl4 : ((ix + (3 : Int32)) + (1 : Int32)) < (ix + (4 : Int32)) := own_ge0 hc
                                      exfalso; obtain ⟨d1, d2⟩ := pl_d ix en h0' hlt h8; obtain ⟨a1, a2, a3, a4, a5, a6⟩ := pl_off ix h0' d2; rw [Int32.lt_iff_toInt_lt] at hl4; omega
                                  · have hc242_3 : ¬ ((xs.getD (ix + (3 : Int32)).toNatClampNeg 0) &&& (192 : Int32)) = (128 : Int32) := own_eq0 hc
                                    clear hc
                                    show own_R p e below s _ _ _ s₁ (mkF m 245 #[.val (.ref a1), .val (.int fr), .val (.int en), .val (.int ix), .val (.int ((xs.getD ix.toNatClampNeg 0) &&& (255 : Int32))), .val (.int (4 : Int32)), .val (.int (144 : Int32)), .val (.int (191 : Int32)), .val (.int ((xs.getD (ix + (1 : Int32)).toNatClampNeg 0) &&& (255 : Int32))), .val (.int (ix + (3 : Int32)))] [])
                                    refine own_iloadN X0 hx (hb hby d4_245) rfl ?_
                                    have hnl : pl_nl ((xs.getD ix.toNatClampNeg 0) &&& (255 : Int32)) ((xs.getD (ix + (1 : Int32)).toNatClampNeg 0) &&& (255 : Int32)) (xs.getD (ix + (2 : Int32)).toNatClampNeg 0) (xs.getD (ix + (3 : Int32)).toNatClampNeg 0) (en - ix) = 0 := by rw [pl_nl, if_neg hc21, if_pos hc45, if_pos hc67, if_neg hc125, if_neg hc133, if_pos hc144, if_neg hc162, if_neg hc185, if_neg hc205, if_neg hc212, if_pos hc242_2, if_neg hc242_3]
                                    refine own_retI X0 hx Bd.returns hlk (hb hby d4_246) ?_ (by decide) (by decide)
                                    refine ⟨?_, N0, e0⟩
                                    show some (Value.int _) = some (Value.int (pl_nu xs en 8 fr))
                                    rw [← hr, pl_nu, if_pos hlt, if_pos hnl]
                              · have hc242_2 : ¬ ((xs.getD (ix + (2 : Int32)).toNatClampNeg 0) &&& (192 : Int32)) = (128 : Int32) := own_eq0 hc
                                clear hc
                                show own_R p e below s _ _ _ s₁ (mkF m 245 #[.val (.ref a1), .val (.int fr), .val (.int en), .val (.int ix), .val (.int ((xs.getD ix.toNatClampNeg 0) &&& (255 : Int32))), .val (.int (4 : Int32)), .val (.int (144 : Int32)), .val (.int (191 : Int32)), .val (.int ((xs.getD (ix + (1 : Int32)).toNatClampNeg 0) &&& (255 : Int32))), .val (.int (ix + (2 : Int32)))] [])
                                refine own_iloadN X0 hx (hb hby d4_245) rfl ?_
                                have hnl : pl_nl ((xs.getD ix.toNatClampNeg 0) &&& (255 : Int32)) ((xs.getD (ix + (1 : Int32)).toNatClampNeg 0) &&& (255 : Int32)) (xs.getD (ix + (2 : Int32)).toNatClampNeg 0) (xs.getD (ix + (3 : Int32)).toNatClampNeg 0) (en - ix) = 0 := by rw [pl_nl, if_neg hc21, if_pos hc45, if_pos hc67, if_neg hc125, if_neg hc133, if_pos hc144, if_neg hc162, if_neg hc185, if_neg hc205, if_neg hc212, if_neg hc242_2]
                                refine own_retI X0 hx Bd.returns hlk (hb hby d4_246) ?_ (by decide) (by decide)
                                refine ⟨?_, N0, e0⟩
                                show some (Value.int _) = some (Value.int (pl_nu xs en 8 fr))
                                rw [← hr, pl_nu, if_pos hlt, if_pos hnl]
                          · have hc212 : (191 : Int32) < ((xs.getD (ix + (1 : Int32)).toNatClampNeg 0) &&& (255 : Int32)) := own_le0 hc
                            clear hc
                            show own_R p e below s _ _ _ s₁ (mkF m 215 #[.val (.ref a1), .val (.int fr), .val (.int en), .val (.int ix), .val (.int ((xs.getD ix.toNatClampNeg 0) &&& (255 : Int32))), .val (.int (4 : Int32)), .val (.int (144 : Int32)), .val (.int (191 : Int32)), .val (.int ((xs.getD (ix + (1 : Int32)).toNatClampNeg 0) &&& (255 : Int32))), s9] [])
                            refine own_iloadN X0 hx (hb hby d4_215) rfl ?_
                            have hnl : pl_nl ((xs.getD ix.toNatClampNeg 0) &&& (255 : Int32)) ((xs.getD (ix + (1 : Int32)).toNatClampNeg 0) &&& (255 : Int32)) (xs.getD (ix + (2 : Int32)).toNatClampNeg 0) (xs.getD (ix + (3 : Int32)).toNatClampNeg 0) (en - ix) = 0 := by rw [pl_nl, if_neg hc21, if_pos hc45, if_pos hc67, if_neg hc125, if_neg hc133, if_pos hc144, if_neg hc162, if_neg hc185, if_neg hc205, if_pos hc212]
                            refine own_retI X0 hx Bd.returns hlk (hb hby d4_216) ?_ (by decide) (by decide)
                            refine ⟨?_, N0, e0⟩
                            show some (Value.int _) = some (Value.int (pl_nu xs en 8 fr))
                            rw [← hr, pl_nu, if_pos hlt, if_pos hnl]
                      · have hc185 : (en - ix) < (4 : Int32) := own_ge0 hc
                        clear hc
                        show own_R p e below s _ _ _ s₁ (mkF m 188 #[.val (.ref a1), .val (.int fr), .val (.int en), .val (.int ix), .val (.int ((xs.getD ix.toNatClampNeg 0) &&& (255 : Int32))), .val (.int (4 : Int32)), .val (.int (144 : Int32)), .val (.int (191 : Int32)), s8, s9] [])
                        refine own_iloadN X0 hx (hb hby d4_188) rfl ?_
                        have hnl : pl_nl ((xs.getD ix.toNatClampNeg 0) &&& (255 : Int32)) ((xs.getD (ix + (1 : Int32)).toNatClampNeg 0) &&& (255 : Int32)) (xs.getD (ix + (2 : Int32)).toNatClampNeg 0) (xs.getD (ix + (3 : Int32)).toNatClampNeg 0) (en - ix) = 0 := by rw [pl_nl, if_neg hc21, if_pos hc45, if_pos hc67, if_neg hc125, if_neg hc133, if_pos hc144, if_neg hc162, if_pos hc185]
                        refine own_retI X0 hx Bd.returns hlk (hb hby d4_189) ?_ (by decide) (by decide)
                        refine ⟨?_, N0, e0⟩
                        show some (Value.int _) = some (Value.int (pl_nu xs en 8 fr))
                        rw [← hr, pl_nu, if_pos hlt, if_pos hnl]
                    · have hc162 : ((xs.getD ix.toNatClampNeg 0) &&& (255 : Int32)) = (244 : Int32) := own_ne0 hc
                      clear hc
                      show own_R p e below s _ _ _ s₁ (mkF m 165 #[.val (.ref a1), .val (.int fr), .val (.int en), .val (.int ix), .val (.int ((xs.getD ix.toNatClampNeg 0) &&& (255 : Int32))), .val (.int (4 : Int32)), .val (.int (144 : Int32)), .val (.int (191 : Int32)), s8, s9] [])
                      refine own_sipush X0 hx (143 : Int32) (hb hby d4_165) rfl ?_
                      refine own_goto X0 hx (hb hby d4_168) (pc' := 173) (by decide) (by decide) ?_
                      show own_R p e below s _ _ _ s₁ (mkF m 173 #[.val (.ref a1), .val (.int fr), .val (.int en), .val (.int ix), .val (.int ((xs.getD ix.toNatClampNeg 0) &&& (255 : Int32))), .val (.int (4 : Int32)), .val (.int (144 : Int32)), .val (.int (191 : Int32)), s8, s9] [(.int (143 : Int32))])
                      refine own_istore X0 hx (hb hby d4_173) (l' := #[.val (.ref a1), .val (.int fr), .val (.int en), .val (.int ix), .val (.int ((xs.getD ix.toNatClampNeg 0) &&& (255 : Int32))), .val (.int (4 : Int32)), .val (.int (144 : Int32)), .val (.int (143 : Int32)), s8, s9]) rfl ?_
                      refine own_goto X0 hx (hb hby d4_175) (pc' := 180) (by decide) (by decide) ?_
                      show own_R p e below s _ _ _ s₁ (mkF m 180 #[.val (.ref a1), .val (.int fr), .val (.int en), .val (.int ix), .val (.int ((xs.getD ix.toNatClampNeg 0) &&& (255 : Int32))), .val (.int (4 : Int32)), .val (.int (144 : Int32)), .val (.int (143 : Int32)), s8, s9] [])
                      refine own_iloadN X0 hx (hb hby d4_180) rfl ?_
                      refine own_iloadN X0 hx (hb hby d4_181) rfl ?_
                      refine own_isub X0 hx (hb hby d4_182) ?_
                      refine own_iload X0 hx (hb hby d4_183) rfl ?_
                      refine own_icmp X0 hx (hb hby d4_185) (pc' := 190) (by decide) (by decide) (fun hc => ?_) (fun hc => ?_)
                      · have hc185 : ¬ (en - ix) < (4 : Int32) := own_ge1 hc
                        clear hc
                        show own_R p e below s _ _ _ s₁ (mkF m 190 #[.val (.ref a1), .val (.int fr), .val (.int en), .val (.int ix), .val (.int ((xs.getD ix.toNatClampNeg 0) &&& (255 : Int32))), .val (.int (4 : Int32)), .val (.int (144 : Int32)), .val (.int (143 : Int32)), s8, s9] [])
                        refine own_aloadN X0 hx (hb hby d4_190) rfl rfl ?_
                        refine own_iloadN X0 hx (hb hby d4_191) rfl ?_
                        refine own_iconst X0 hx (1 : Int32) (hb hby d4_192) rfl ?_
                        refine own_iadd X0 hx (hb hby d4_193) ?_
                        refine own_baload X0 hx hZ e0 hV (v := .int (xs.getD (ix + (1 : Int32)).toNatClampNeg 0)) (pl_at1 ix en (4 : Int32) h0' hlt h8 (by decide) hc185) (pl_gd _ _) (hb hby d4_194) ?_
                        show own_R p e below s _ _ _ s₁ (mkF m 195 #[.val (.ref a1), .val (.int fr), .val (.int en), .val (.int ix), .val (.int ((xs.getD ix.toNatClampNeg 0) &&& (255 : Int32))), .val (.int (4 : Int32)), .val (.int (144 : Int32)), .val (.int (143 : Int32)), s8, s9] [(.int (xs.getD (ix + (1 : Int32)).toNatClampNeg 0))])
                        refine own_sipush X0 hx (255 : Int32) (hb hby d4_195) rfl ?_
                        refine own_iand X0 hx (hb hby d4_198) ?_
                        refine own_istore X0 hx (hb hby d4_199) (l' := #[.val (.ref a1), .val (.int fr), .val (.int en), .val (.int ix), .val (.int ((xs.getD ix.toNatClampNeg 0) &&& (255 : Int32))), .val (.int (4 : Int32)), .val (.int (144 : Int32)), .val (.int (143 : Int32)), .val (.int ((xs.getD (ix + (1 : Int32)).toNatClampNeg 0) &&& (255 : Int32))), s9]) (by rcases hs8 with rfl | ⟨w, rfl, hw'⟩ <;> first | rfl | (cases w <;> first | rfl | (simp [Value.category] at hw'))) ?_
                        refine own_iload X0 hx (hb hby d4_201) rfl ?_
                        refine own_iload X0 hx (hb hby d4_203) rfl ?_
                        refine own_icmp X0 hx (hb hby d4_205) (pc' := 215) (by decide) (by decide) (fun hc => ?_) (fun hc => ?_)
                        · have hc205 : ((xs.getD (ix + (1 : Int32)).toNatClampNeg 0) &&& (255 : Int32)) < (144 : Int32) := own_lt1 hc
                          clear hc
                          show own_R p e below s _ _ _ s₁ (mkF m 215 #[.val (.ref a1), .val (.int fr), .val (.int en), .val (.int ix), .val (.int ((xs.getD ix.toNatClampNeg 0) &&& (255 : Int32))), .val (.int (4 : Int32)), .val (.int (144 : Int32)), .val (.int (143 : Int32)), .val (.int ((xs.getD (ix + (1 : Int32)).toNatClampNeg 0) &&& (255 : Int32))), s9] [])
                          refine own_iloadN X0 hx (hb hby d4_215) rfl ?_
                          have hnl : pl_nl ((xs.getD ix.toNatClampNeg 0) &&& (255 : Int32)) ((xs.getD (ix + (1 : Int32)).toNatClampNeg 0) &&& (255 : Int32)) (xs.getD (ix + (2 : Int32)).toNatClampNeg 0) (xs.getD (ix + (3 : Int32)).toNatClampNeg 0) (en - ix) = 0 := by rw [pl_nl, if_neg hc21, if_pos hc45, if_pos hc67, if_neg hc125, if_neg hc133, if_pos hc144, if_pos hc162, if_neg hc185, if_pos hc205]
                          refine own_retI X0 hx Bd.returns hlk (hb hby d4_216) ?_ (by decide) (by decide)
                          refine ⟨?_, N0, e0⟩
                          show some (Value.int _) = some (Value.int (pl_nu xs en 8 fr))
                          rw [← hr, pl_nu, if_pos hlt, if_pos hnl]
                        · have hc205 : ¬ ((xs.getD (ix + (1 : Int32)).toNatClampNeg 0) &&& (255 : Int32)) < (144 : Int32) := own_lt0 hc
                          clear hc
                          show own_R p e below s _ _ _ s₁ (mkF m 208 #[.val (.ref a1), .val (.int fr), .val (.int en), .val (.int ix), .val (.int ((xs.getD ix.toNatClampNeg 0) &&& (255 : Int32))), .val (.int (4 : Int32)), .val (.int (144 : Int32)), .val (.int (143 : Int32)), .val (.int ((xs.getD (ix + (1 : Int32)).toNatClampNeg 0) &&& (255 : Int32))), s9] [])
                          refine own_iload X0 hx (hb hby d4_208) rfl ?_
                          refine own_iload X0 hx (hb hby d4_210) rfl ?_
                          refine own_icmp X0 hx (hb hby d4_212) (pc' := 217) (by decide) (by decide) (fun hc => ?_) (fun hc => ?_)
                          · have hc212 : ¬ (143 : Int32) < ((xs.getD (ix + (1 : Int32)).toNatClampNeg 0) &&& (255 : Int32)) := own_le1 hc
                            clear hc
                            show own_R p e below s _ _ _ s₁ (mkF m 217 #[.val (.ref a1), .val (.int fr), .val (.int en), .val (.int ix), .val (.int ((xs.getD ix.toNatClampNeg 0) &&& (255 : Int32))), .val (.int (4 : Int32)), .val (.int (144 : Int32)), .val (.int (143 : Int32)), .val (.int ((xs.getD (ix + (1 : Int32)).toNatClampNeg 0) &&& (255 : Int32))), s9] [])
                            refine own_iloadN X0 hx (hb hby d4_217) rfl ?_
                            refine own_iconst X0 hx (2 : Int32) (hb hby d4_218) rfl ?_
                            refine own_iadd X0 hx (hb hby d4_219) ?_
                            refine own_istore X0 hx (hb hby d4_220) (l' := #[.val (.ref a1), .val (.int fr), .val (.int en), .val (.int ix), .val (.int ((xs.getD ix.toNatClampNeg 0) &&& (255 : Int32))), .val (.int (4 : Int32)), .val (.int (144 : Int32)), .val (.int (143 : Int32)), .val (.int ((xs.getD (ix + (1 : Int32)).toNatClampNeg 0) &&& (255 : Int32))), .val (.int (ix + (2 : Int32)))]) (by rcases hs9 with rfl | ⟨w, rfl, hw'⟩ <;> first | rfl | (cases w <;> first | rfl | (simp [Value.category] at hw'))) ?_
                            refine own_iload X0 hx (hb hby d4_222) rfl ?_
                            refine own_iloadN X0 hx (hb hby d4_224) rfl ?_
                            refine own_iload X0 hx (hb hby d4_225) rfl ?_
                            refine own_iadd X0 hx (hb hby d4_227) ?_
                            refine own_icmp X0 hx (hb hby d4_228) (pc' := 253) (by decide) (by decide) (fun hc => ?_) (fun hc => ?_)
                            · have hl2 : ¬ (ix + (2 : Int32)) < (ix + (4 : Int32)) := own_ge1 hc
                              exfalso; obtain ⟨d1, d2⟩ := pl_d ix en h0' hlt h8; obtain ⟨a1, a2, a3, a4, a5, a6⟩ := pl_off ix h0' d2; rw [Int32.lt_iff_toInt_lt] at hl2; omega
                            · have hl2 : (ix + (2 : Int32)) < (ix + (4 : Int32)) := own_ge0 hc
                              clear hc
                              show own_R p e below s _ _ _ s₁ (mkF m 231 #[.val (.ref a1), .val (.int fr), .val (.int en), .val (.int ix), .val (.int ((xs.getD ix.toNatClampNeg 0) &&& (255 : Int32))), .val (.int (4 : Int32)), .val (.int (144 : Int32)), .val (.int (143 : Int32)), .val (.int ((xs.getD (ix + (1 : Int32)).toNatClampNeg 0) &&& (255 : Int32))), .val (.int (ix + (2 : Int32)))] [])
                              refine own_aloadN X0 hx (hb hby d4_231) rfl rfl ?_
                              refine own_iload X0 hx (hb hby d4_232) rfl ?_
                              refine own_baload X0 hx hZ e0 hV (v := .int (xs.getD (ix + (2 : Int32)).toNatClampNeg 0)) (pl_at2 ix en (4 : Int32) h0' hlt h8 (by decide) hc185) (pl_gd _ _) (hb hby d4_234) ?_
                              show own_R p e below s _ _ _ s₁ (mkF m 235 #[.val (.ref a1), .val (.int fr), .val (.int en), .val (.int ix), .val (.int ((xs.getD ix.toNatClampNeg 0) &&& (255 : Int32))), .val (.int (4 : Int32)), .val (.int (144 : Int32)), .val (.int (143 : Int32)), .val (.int ((xs.getD (ix + (1 : Int32)).toNatClampNeg 0) &&& (255 : Int32))), .val (.int (ix + (2 : Int32)))] [(.int (xs.getD (ix + (2 : Int32)).toNatClampNeg 0))])
                              refine own_sipush X0 hx (192 : Int32) (hb hby d4_235) rfl ?_
                              refine own_iand X0 hx (hb hby d4_238) ?_
                              refine own_sipush X0 hx (128 : Int32) (hb hby d4_239) rfl ?_
                              refine own_icmp X0 hx (hb hby d4_242) (pc' := 247) (by decide) (by decide) (fun hc => ?_) (fun hc => ?_)
                              · have hc242_2 : ((xs.getD (ix + (2 : Int32)).toNatClampNeg 0) &&& (192 : Int32)) = (128 : Int32) := own_eq1 hc
                                clear hc
                                show own_R p e below s _ _ _ s₁ (mkF m 247 #[.val (.ref a1), .val (.int fr), .val (.int en), .val (.int ix), .val (.int ((xs.getD ix.toNatClampNeg 0) &&& (255 : Int32))), .val (.int (4 : Int32)), .val (.int (144 : Int32)), .val (.int (143 : Int32)), .val (.int ((xs.getD (ix + (1 : Int32)).toNatClampNeg 0) &&& (255 : Int32))), .val (.int (ix + (2 : Int32)))] [])
                                refine own_iinc X0 hx (1 : Int32) (hb hby d4_247) rfl rfl (l' := #[.val (.ref a1), .val (.int fr), .val (.int en), .val (.int ix), .val (.int ((xs.getD ix.toNatClampNeg 0) &&& (255 : Int32))), .val (.int (4 : Int32)), .val (.int (144 : Int32)), .val (.int (143 : Int32)), .val (.int ((xs.getD (ix + (1 : Int32)).toNatClampNeg 0) &&& (255 : Int32))), .val (.int ((ix + (2 : Int32)) + (1 : Int32)))]) rfl ?_
                                refine own_goto X0 hx (hb hby d4_250) (pc' := 222) (by decide) (by decide) ?_
                                show own_R p e below s _ _ _ s₁ (mkF m 222 #[.val (.ref a1), .val (.int fr), .val (.int en), .val (.int ix), .val (.int ((xs.getD ix.toNatClampNeg 0) &&& (255 : Int32))), .val (.int (4 : Int32)), .val (.int (144 : Int32)), .val (.int (143 : Int32)), .val (.int ((xs.getD (ix + (1 : Int32)).toNatClampNeg 0) &&& (255 : Int32))), .val (.int ((ix + (2 : Int32)) + (1 : Int32)))] [])
                                refine own_iload X0 hx (hb hby d4_222) rfl ?_
                                refine own_iloadN X0 hx (hb hby d4_224) rfl ?_
                                refine own_iload X0 hx (hb hby d4_225) rfl ?_
                                refine own_iadd X0 hx (hb hby d4_227) ?_
                                refine own_icmp X0 hx (hb hby d4_228) (pc' := 253) (by decide) (by decide) (fun hc => ?_) (fun hc => ?_)
                                · have hl3 : ¬ ((ix + (2 : Int32)) + (1 : Int32)) < (ix + (4 : Int32)) := own_ge1 hc
                                  exfalso; obtain ⟨d1, d2⟩ := pl_d ix en h0' hlt h8; obtain ⟨a1, a2, a3, a4, a5, a6⟩ := pl_off ix h0' d2; rw [Int32.lt_iff_toInt_lt] at hl3; omega
                                · have hl3 : ((ix + (2 : Int32)) + (1 : Int32)) < (ix + (4 : Int32)) := own_ge0 hc
                                  clear hc
                                  show own_R p e below s _ _ _ s₁ (mkF m 231 #[.val (.ref a1), .val (.int fr), .val (.int en), .val (.int ix), .val (.int ((xs.getD ix.toNatClampNeg 0) &&& (255 : Int32))), .val (.int (4 : Int32)), .val (.int (144 : Int32)), .val (.int (143 : Int32)), .val (.int ((xs.getD (ix + (1 : Int32)).toNatClampNeg 0) &&& (255 : Int32))), .val (.int ((ix + (2 : Int32)) + (1 : Int32)))] [])
                                  refine own_aloadN X0 hx (hb hby d4_231) rfl rfl ?_
                                  refine own_iload X0 hx (hb hby d4_232) rfl ?_
                                  rw [pl_21]
                                  show own_R p e below s _ _ _ s₁ (mkF m 234 #[.val (.ref a1), .val (.int fr), .val (.int en), .val (.int ix), .val (.int ((xs.getD ix.toNatClampNeg 0) &&& (255 : Int32))), .val (.int (4 : Int32)), .val (.int (144 : Int32)), .val (.int (143 : Int32)), .val (.int ((xs.getD (ix + (1 : Int32)).toNatClampNeg 0) &&& (255 : Int32))), .val (.int (ix + (3 : Int32)))] [(.int (ix + (3 : Int32))), (.ref a1)])
                                  refine own_baload X0 hx hZ e0 hV (v := .int (xs.getD (ix + (3 : Int32)).toNatClampNeg 0)) (pl_at3 ix en (4 : Int32) h0' hlt h8 (by decide) hc185) (pl_gd _ _) (hb hby d4_234) ?_
                                  show own_R p e below s _ _ _ s₁ (mkF m 235 #[.val (.ref a1), .val (.int fr), .val (.int en), .val (.int ix), .val (.int ((xs.getD ix.toNatClampNeg 0) &&& (255 : Int32))), .val (.int (4 : Int32)), .val (.int (144 : Int32)), .val (.int (143 : Int32)), .val (.int ((xs.getD (ix + (1 : Int32)).toNatClampNeg 0) &&& (255 : Int32))), .val (.int (ix + (3 : Int32)))] [(.int (xs.getD (ix + (3 : Int32)).toNatClampNeg 0))])
                                  refine own_sipush X0 hx (192 : Int32) (hb hby d4_235) rfl ?_
                                  refine own_iand X0 hx (hb hby d4_238) ?_
                                  refine own_sipush X0 hx (128 : Int32) (hb hby d4_239) rfl ?_
                                  refine own_icmp X0 hx (hb hby d4_242) (pc' := 247) (by decide) (by decide) (fun hc => ?_) (fun hc => ?_)
                                  · have hc242_3 : ((xs.getD (ix + (3 : Int32)).toNatClampNeg 0) &&& (192 : Int32)) = (128 : Int32) := own_eq1 hc
                                    clear hc
                                    show own_R p e below s _ _ _ s₁ (mkF m 247 #[.val (.ref a1), .val (.int fr), .val (.int en), .val (.int ix), .val (.int ((xs.getD ix.toNatClampNeg 0) &&& (255 : Int32))), .val (.int (4 : Int32)), .val (.int (144 : Int32)), .val (.int (143 : Int32)), .val (.int ((xs.getD (ix + (1 : Int32)).toNatClampNeg 0) &&& (255 : Int32))), .val (.int (ix + (3 : Int32)))] [])
                                    refine own_iinc X0 hx (1 : Int32) (hb hby d4_247) rfl rfl (l' := #[.val (.ref a1), .val (.int fr), .val (.int en), .val (.int ix), .val (.int ((xs.getD ix.toNatClampNeg 0) &&& (255 : Int32))), .val (.int (4 : Int32)), .val (.int (144 : Int32)), .val (.int (143 : Int32)), .val (.int ((xs.getD (ix + (1 : Int32)).toNatClampNeg 0) &&& (255 : Int32))), .val (.int ((ix + (3 : Int32)) + (1 : Int32)))]) rfl ?_
                                    refine own_goto X0 hx (hb hby d4_250) (pc' := 222) (by decide) (by decide) ?_
                                    show own_R p e below s _ _ _ s₁ (mkF m 222 #[.val (.ref a1), .val (.int fr), .val (.int en), .val (.int ix), .val (.int ((xs.getD ix.toNatClampNeg 0) &&& (255 : Int32))), .val (.int (4 : Int32)), .val (.int (144 : Int32)), .val (.int (143 : Int32)), .val (.int ((xs.getD (ix + (1 : Int32)).toNatClampNeg 0) &&& (255 : Int32))), .val (.int ((ix + (3 : Int32)) + (1 : Int32)))] [])
                                    refine own_iload X0 hx (hb hby d4_222) rfl ?_
                                    refine own_iloadN X0 hx (hb hby d4_224) rfl ?_
                                    refine own_iload X0 hx (hb hby d4_225) rfl ?_
                                    refine own_iadd X0 hx (hb hby d4_227) ?_
                                    refine own_icmp X0 hx (hb hby d4_228) (pc' := 253) (by decide) (by decide) (fun hc => ?_) (fun hc => ?_)
                                    · have hl4 : ¬ ((ix + (3 : Int32)) + (1 : Int32)) < (ix + (4 : Int32)) := own_ge1 hc
                                      clear hc
                                      show own_R p e below s _ _ _ s₁ (mkF m 253 #[.val (.ref a1), .val (.int fr), .val (.int en), .val (.int ix), .val (.int ((xs.getD ix.toNatClampNeg 0) &&& (255 : Int32))), .val (.int (4 : Int32)), .val (.int (144 : Int32)), .val (.int (143 : Int32)), .val (.int ((xs.getD (ix + (1 : Int32)).toNatClampNeg 0) &&& (255 : Int32))), .val (.int ((ix + (3 : Int32)) + (1 : Int32)))] [])
                                      refine own_iloadN X0 hx (hb hby d4_253) rfl ?_
                                      refine own_iload X0 hx (hb hby d4_254) rfl ?_
                                      refine own_iadd X0 hx (hb hby d4_256) ?_
                                      refine own_istoreN X0 hx (hb hby d4_257) (l' := #[.val (.ref a1), .val (.int fr), .val (.int en), .val (.int (ix + (4 : Int32))), .val (.int ((xs.getD ix.toNatClampNeg 0) &&& (255 : Int32))), .val (.int (4 : Int32)), .val (.int (144 : Int32)), .val (.int (143 : Int32)), .val (.int ((xs.getD (ix + (1 : Int32)).toNatClampNeg 0) &&& (255 : Int32))), .val (.int ((ix + (3 : Int32)) + (1 : Int32)))]) rfl ?_
                                      refine own_goto X0 hx (hb hby d4_258) (pc' := 2) (by decide) (by decide) ?_
                                      show own_R p e below s _ _ _ s₁ (mkF m 2 #[.val (.ref a1), .val (.int fr), .val (.int en), .val (.int (ix + (4 : Int32))), .val (.int ((xs.getD ix.toNatClampNeg 0) &&& (255 : Int32))), .val (.int (4 : Int32)), .val (.int (144 : Int32)), .val (.int (143 : Int32)), .val (.int ((xs.getD (ix + (1 : Int32)).toNatClampNeg 0) &&& (255 : Int32))), .val (.int ((ix + (3 : Int32)) + (1 : Int32)))] [])
                                      have hnl : pl_nl ((xs.getD ix.toNatClampNeg 0) &&& (255 : Int32)) ((xs.getD (ix + (1 : Int32)).toNatClampNeg 0) &&& (255 : Int32)) (xs.getD (ix + (2 : Int32)).toNatClampNeg 0) (xs.getD (ix + (3 : Int32)).toNatClampNeg 0) (en - ix) = (4 : Int32) := by rw [pl_nl, if_neg hc21, if_pos hc45, if_pos hc67, if_neg hc125, if_neg hc133, if_pos hc144, if_pos hc162, if_neg hc185, if_neg hc205, if_neg hc212, if_pos hc242_2, if_pos hc242_3]
                                      obtain ⟨u0, uk⟩ := pl_adv ix en (4 : Int32) k h0' hlt h8 hk' (by decide)
                                      exact ih _ _ _ _ _ _ _ (One.val rfl) (One.val rfl) (One.val rfl) (One.val rfl) (One.val rfl) (One.val rfl) u0 uk (by rw [← hr]; conv => rhs; rw [pl_nu, if_pos hlt, hnl, if_neg (by decide)])
                                    · have hl4 : ((ix + (3 : Int32)) + (1 : Int32)) < (ix + (4 : Int32)) := own_ge0 hc
                                      exfalso; obtain ⟨d1, d2⟩ := pl_d ix en h0' hlt h8; obtain ⟨a1, a2, a3, a4, a5, a6⟩ := pl_off ix h0' d2; rw [Int32.lt_iff_toInt_lt] at hl4; omega
                                  · have hc242_3 : ¬ ((xs.getD (ix + (3 : Int32)).toNatClampNeg 0) &&& (192 : Int32)) = (128 : Int32) := own_eq0 hc
                                    clear hc
                                    show own_R p e below s _ _ _ s₁ (mkF m 245 #[.val (.ref a1), .val (.int fr), .val (.int en), .val (.int ix), .val (.int ((xs.getD ix.toNatClampNeg 0) &&& (255 : Int32))), .val (.int (4 : Int32)), .val (.int (144 : Int32)), .val (.int (143 : Int32)), .val (.int ((xs.getD (ix + (1 : Int32)).toNatClampNeg 0) &&& (255 : Int32))), .val (.int (ix + (3 : Int32)))] [])
                                    refine own_iloadN X0 hx (hb hby d4_245) rfl ?_
                                    have hnl : pl_nl ((xs.getD ix.toNatClampNeg 0) &&& (255 : Int32)) ((xs.getD (ix + (1 : Int32)).toNatClampNeg 0) &&& (255 : Int32)) (xs.getD (ix + (2 : Int32)).toNatClampNeg 0) (xs.getD (ix + (3 : Int32)).toNatClampNeg 0) (en - ix) = 0 := by rw [pl_nl, if_neg hc21, if_pos hc45, if_pos hc67, if_neg hc125, if_neg hc133, if_pos hc144, if_pos hc162, if_neg hc185, if_neg hc205, if_neg hc212, if_pos hc242_2, if_neg hc242_3]
                                    refine own_retI X0 hx Bd.returns hlk (hb hby d4_246) ?_ (by decide) (by decide)
                                    refine ⟨?_, N0, e0⟩
                                    show some (Value.int _) = some (Value.int (pl_nu xs en 8 fr))
                                    rw [← hr, pl_nu, if_pos hlt, if_pos hnl]
                              · have hc242_2 : ¬ ((xs.getD (ix + (2 : Int32)).toNatClampNeg 0) &&& (192 : Int32)) = (128 : Int32) := own_eq0 hc
                                clear hc
                                show own_R p e below s _ _ _ s₁ (mkF m 245 #[.val (.ref a1), .val (.int fr), .val (.int en), .val (.int ix), .val (.int ((xs.getD ix.toNatClampNeg 0) &&& (255 : Int32))), .val (.int (4 : Int32)), .val (.int (144 : Int32)), .val (.int (143 : Int32)), .val (.int ((xs.getD (ix + (1 : Int32)).toNatClampNeg 0) &&& (255 : Int32))), .val (.int (ix + (2 : Int32)))] [])
                                refine own_iloadN X0 hx (hb hby d4_245) rfl ?_
                                have hnl : pl_nl ((xs.getD ix.toNatClampNeg 0) &&& (255 : Int32)) ((xs.getD (ix + (1 : Int32)).toNatClampNeg 0) &&& (255 : Int32)) (xs.getD (ix + (2 : Int32)).toNatClampNeg 0) (xs.getD (ix + (3 : Int32)).toNatClampNeg 0) (en - ix) = 0 := by rw [pl_nl, if_neg hc21, if_pos hc45, if_pos hc67, if_neg hc125, if_neg hc133, if_pos hc144, if_pos hc162, if_neg hc185, if_neg hc205, if_neg hc212, if_neg hc242_2]
                                refine own_retI X0 hx Bd.returns hlk (hb hby d4_246) ?_ (by decide) (by decide)
                                refine ⟨?_, N0, e0⟩
                                show some (Value.int _) = some (Value.int (pl_nu xs en 8 fr))
                                rw [← hr, pl_nu, if_pos hlt, if_pos hnl]
                          · have hc212 : (143 : Int32) < ((xs.getD (ix + (1 : Int32)).toNatClampNeg 0) &&& (255 : Int32)) := own_le0 hc
                            clear hc
                            show own_R p e below s _ _ _ s₁ (mkF m 215 #[.val (.ref a1), .val (.int fr), .val (.int en), .val (.int ix), .val (.int ((xs.getD ix.toNatClampNeg 0) &&& (255 : Int32))), .val (.int (4 : Int32)), .val (.int (144 : Int32)), .val (.int (143 : Int32)), .val (.int ((xs.getD (ix + (1 : Int32)).toNatClampNeg 0) &&& (255 : Int32))), s9] [])
                            refine own_iloadN X0 hx (hb hby d4_215) rfl ?_
                            have hnl : pl_nl ((xs.getD ix.toNatClampNeg 0) &&& (255 : Int32)) ((xs.getD (ix + (1 : Int32)).toNatClampNeg 0) &&& (255 : Int32)) (xs.getD (ix + (2 : Int32)).toNatClampNeg 0) (xs.getD (ix + (3 : Int32)).toNatClampNeg 0) (en - ix) = 0 := by rw [pl_nl, if_neg hc21, if_pos hc45, if_pos hc67, if_neg hc125, if_neg hc133, if_pos hc144, if_pos hc162, if_neg hc185, if_neg hc205, if_pos hc212]
                            refine own_retI X0 hx Bd.returns hlk (hb hby d4_216) ?_ (by decide) (by decide)
                            refine ⟨?_, N0, e0⟩
                            show some (Value.int _) = some (Value.int (pl_nu xs en 8 fr))
                            rw [← hr, pl_nu, if_pos hlt, if_pos hnl]
                      · have hc185 : (en - ix) < (4 : Int32) := own_ge0 hc
                        clear hc
                        show own_R p e below s _ _ _ s₁ (mkF m 188 #[.val (.ref a1), .val (.int fr), .val (.int en), .val (.int ix), .val (.int ((xs.getD ix.toNatClampNeg 0) &&& (255 : Int32))), .val (.int (4 : Int32)), .val (.int (144 : Int32)), .val (.int (143 : Int32)), s8, s9] [])
                        refine own_iloadN X0 hx (hb hby d4_188) rfl ?_
                        have hnl : pl_nl ((xs.getD ix.toNatClampNeg 0) &&& (255 : Int32)) ((xs.getD (ix + (1 : Int32)).toNatClampNeg 0) &&& (255 : Int32)) (xs.getD (ix + (2 : Int32)).toNatClampNeg 0) (xs.getD (ix + (3 : Int32)).toNatClampNeg 0) (en - ix) = 0 := by rw [pl_nl, if_neg hc21, if_pos hc45, if_pos hc67, if_neg hc125, if_neg hc133, if_pos hc144, if_pos hc162, if_pos hc185]
                        refine own_retI X0 hx Bd.returns hlk (hb hby d4_189) ?_ (by decide) (by decide)
                        refine ⟨?_, N0, e0⟩
                        show some (Value.int _) = some (Value.int (pl_nu xs en 8 fr))
                        rw [← hr, pl_nu, if_pos hlt, if_pos hnl]
            · have hc67 : ¬ ((xs.getD ix.toNatClampNeg 0) &&& (255 : Int32)) < (224 : Int32) := own_lt0 hc
              clear hc
              show own_R p e below s _ _ _ s₁ (mkF m 70 #[.val (.ref a1), .val (.int fr), .val (.int en), .val (.int ix), .val (.int ((xs.getD ix.toNatClampNeg 0) &&& (255 : Int32))), s5, .val (.int (128 : Int32)), .val (.int (191 : Int32)), s8, s9] [])
              refine own_iload X0 hx (hb hby d4_70) rfl ?_
              refine own_sipush X0 hx (239 : Int32) (hb hby d4_72) rfl ?_
              refine own_icmp X0 hx (hb hby d4_75) (pc' := 120) (by decide) (by decide) (fun hc => ?_) (fun hc => ?_)
              · have hc75 : (239 : Int32) < ((xs.getD ix.toNatClampNeg 0) &&& (255 : Int32)) := own_gt1 hc
                clear hc
                show own_R p e below s _ _ _ s₁ (mkF m 120 #[.val (.ref a1), .val (.int fr), .val (.int en), .val (.int ix), .val (.int ((xs.getD ix.toNatClampNeg 0) &&& (255 : Int32))), s5, .val (.int (128 : Int32)), .val (.int (191 : Int32)), s8, s9] [])
                refine own_iload X0 hx (hb hby d4_120) rfl ?_
                refine own_sipush X0 hx (240 : Int32) (hb hby d4_122) rfl ?_
                refine own_icmp X0 hx (hb hby d4_125) (pc' := 178) (by decide) (by decide) (fun hc => ?_) (fun hc => ?_)
                · have hc125 : ((xs.getD ix.toNatClampNeg 0) &&& (255 : Int32)) < (240 : Int32) := own_lt1 hc
                  clear hc
                  show own_R p e below s _ _ _ s₁ (mkF m 178 #[.val (.ref a1), .val (.int fr), .val (.int en), .val (.int ix), .val (.int ((xs.getD ix.toNatClampNeg 0) &&& (255 : Int32))), s5, .val (.int (128 : Int32)), .val (.int (191 : Int32)), s8, s9] [])
                  refine own_iloadN X0 hx (hb hby d4_178) rfl ?_
                  have hnl : pl_nl ((xs.getD ix.toNatClampNeg 0) &&& (255 : Int32)) ((xs.getD (ix + (1 : Int32)).toNatClampNeg 0) &&& (255 : Int32)) (xs.getD (ix + (2 : Int32)).toNatClampNeg 0) (xs.getD (ix + (3 : Int32)).toNatClampNeg 0) (en - ix) = 0 := by rw [pl_nl, if_neg hc21, if_pos hc45, if_neg hc67, if_pos hc75, if_pos hc125]
                  refine own_retI X0 hx Bd.returns hlk (hb hby d4_179) ?_ (by decide) (by decide)
                  refine ⟨?_, N0, e0⟩
                  show some (Value.int _) = some (Value.int (pl_nu xs en 8 fr))
                  rw [← hr, pl_nu, if_pos hlt, if_pos hnl]
                · have hc125 : ¬ ((xs.getD ix.toNatClampNeg 0) &&& (255 : Int32)) < (240 : Int32) := own_lt0 hc
                  clear hc
                  show own_R p e below s _ _ _ s₁ (mkF m 128 #[.val (.ref a1), .val (.int fr), .val (.int en), .val (.int ix), .val (.int ((xs.getD ix.toNatClampNeg 0) &&& (255 : Int32))), s5, .val (.int (128 : Int32)), .val (.int (191 : Int32)), s8, s9] [])
                  refine own_iload X0 hx (hb hby d4_128) rfl ?_
                  refine own_sipush X0 hx (244 : Int32) (hb hby d4_130) rfl ?_
                  refine own_icmp X0 hx (hb hby d4_133) (pc' := 178) (by decide) (by decide) (fun hc => ?_) (fun hc => ?_)
                  · have hc133 : (244 : Int32) < ((xs.getD ix.toNatClampNeg 0) &&& (255 : Int32)) := own_gt1 hc
                    clear hc
                    show own_R p e below s _ _ _ s₁ (mkF m 178 #[.val (.ref a1), .val (.int fr), .val (.int en), .val (.int ix), .val (.int ((xs.getD ix.toNatClampNeg 0) &&& (255 : Int32))), s5, .val (.int (128 : Int32)), .val (.int (191 : Int32)), s8, s9] [])
                    refine own_iloadN X0 hx (hb hby d4_178) rfl ?_
                    have hnl : pl_nl ((xs.getD ix.toNatClampNeg 0) &&& (255 : Int32)) ((xs.getD (ix + (1 : Int32)).toNatClampNeg 0) &&& (255 : Int32)) (xs.getD (ix + (2 : Int32)).toNatClampNeg 0) (xs.getD (ix + (3 : Int32)).toNatClampNeg 0) (en - ix) = 0 := by rw [pl_nl, if_neg hc21, if_pos hc45, if_neg hc67, if_pos hc75, if_neg hc125, if_pos hc133]
                    refine own_retI X0 hx Bd.returns hlk (hb hby d4_179) ?_ (by decide) (by decide)
                    refine ⟨?_, N0, e0⟩
                    show some (Value.int _) = some (Value.int (pl_nu xs en 8 fr))
                    rw [← hr, pl_nu, if_pos hlt, if_pos hnl]
                  · have hc133 : ¬ (244 : Int32) < ((xs.getD ix.toNatClampNeg 0) &&& (255 : Int32)) := own_gt0 hc
                    clear hc
                    show own_R p e below s _ _ _ s₁ (mkF m 136 #[.val (.ref a1), .val (.int fr), .val (.int en), .val (.int ix), .val (.int ((xs.getD ix.toNatClampNeg 0) &&& (255 : Int32))), s5, .val (.int (128 : Int32)), .val (.int (191 : Int32)), s8, s9] [])
                    refine own_iconst X0 hx (4 : Int32) (hb hby d4_136) rfl ?_
                    refine own_istore X0 hx (hb hby d4_137) (l' := #[.val (.ref a1), .val (.int fr), .val (.int en), .val (.int ix), .val (.int ((xs.getD ix.toNatClampNeg 0) &&& (255 : Int32))), .val (.int (4 : Int32)), .val (.int (128 : Int32)), .val (.int (191 : Int32)), s8, s9]) (by rcases hs5 with rfl | ⟨w, rfl, hw'⟩ <;> first | rfl | (cases w <;> first | rfl | (simp [Value.category] at hw'))) ?_
                    refine own_iload X0 hx (hb hby d4_139) rfl ?_
                    refine own_sipush X0 hx (240 : Int32) (hb hby d4_141) rfl ?_
                    refine own_icmp X0 hx (hb hby d4_144) (pc' := 153) (by decide) (by decide) (fun hc => ?_) (fun hc => ?_)
                    · have hc144 : ¬ ((xs.getD ix.toNatClampNeg 0) &&& (255 : Int32)) = (240 : Int32) := own_ne1 hc
                      clear hc
                      show own_R p e below s _ _ _ s₁ (mkF m 153 #[.val (.ref a1), .val (.int fr), .val (.int en), .val (.int ix), .val (.int ((xs.getD ix.toNatClampNeg 0) &&& (255 : Int32))), .val (.int (4 : Int32)), .val (.int (128 : Int32)), .val (.int (191 : Int32)), s8, s9] [])
                      refine own_iload X0 hx (hb hby d4_153) rfl ?_
                      refine own_istore X0 hx (hb hby d4_155) (l' := #[.val (.ref a1), .val (.int fr), .val (.int en), .val (.int ix), .val (.int ((xs.getD ix.toNatClampNeg 0) &&& (255 : Int32))), .val (.int (4 : Int32)), .val (.int (128 : Int32)), .val (.int (191 : Int32)), s8, s9]) rfl ?_
                      refine own_iload X0 hx (hb hby d4_157) rfl ?_
                      refine own_sipush X0 hx (244 : Int32) (hb hby d4_159) rfl ?_
                      refine own_icmp X0 hx (hb hby d4_162) (pc' := 171) (by decide) (by decide) (fun hc => ?_) (fun hc => ?_)
                      · have hc162 : ¬ ((xs.getD ix.toNatClampNeg 0) &&& (255 : Int32)) = (244 : Int32) := own_ne1 hc
                        clear hc
                        show own_R p e below s _ _ _ s₁ (mkF m 171 #[.val (.ref a1), .val (.int fr), .val (.int en), .val (.int ix), .val (.int ((xs.getD ix.toNatClampNeg 0) &&& (255 : Int32))), .val (.int (4 : Int32)), .val (.int (128 : Int32)), .val (.int (191 : Int32)), s8, s9] [])
                        refine own_iload X0 hx (hb hby d4_171) rfl ?_
                        refine own_istore X0 hx (hb hby d4_173) (l' := #[.val (.ref a1), .val (.int fr), .val (.int en), .val (.int ix), .val (.int ((xs.getD ix.toNatClampNeg 0) &&& (255 : Int32))), .val (.int (4 : Int32)), .val (.int (128 : Int32)), .val (.int (191 : Int32)), s8, s9]) rfl ?_
                        refine own_goto X0 hx (hb hby d4_175) (pc' := 180) (by decide) (by decide) ?_
                        show own_R p e below s _ _ _ s₁ (mkF m 180 #[.val (.ref a1), .val (.int fr), .val (.int en), .val (.int ix), .val (.int ((xs.getD ix.toNatClampNeg 0) &&& (255 : Int32))), .val (.int (4 : Int32)), .val (.int (128 : Int32)), .val (.int (191 : Int32)), s8, s9] [])
                        refine own_iloadN X0 hx (hb hby d4_180) rfl ?_
                        refine own_iloadN X0 hx (hb hby d4_181) rfl ?_
                        refine own_isub X0 hx (hb hby d4_182) ?_
                        refine own_iload X0 hx (hb hby d4_183) rfl ?_
                        refine own_icmp X0 hx (hb hby d4_185) (pc' := 190) (by decide) (by decide) (fun hc => ?_) (fun hc => ?_)
                        · have hc185 : ¬ (en - ix) < (4 : Int32) := own_ge1 hc
                          clear hc
                          show own_R p e below s _ _ _ s₁ (mkF m 190 #[.val (.ref a1), .val (.int fr), .val (.int en), .val (.int ix), .val (.int ((xs.getD ix.toNatClampNeg 0) &&& (255 : Int32))), .val (.int (4 : Int32)), .val (.int (128 : Int32)), .val (.int (191 : Int32)), s8, s9] [])
                          refine own_aloadN X0 hx (hb hby d4_190) rfl rfl ?_
                          refine own_iloadN X0 hx (hb hby d4_191) rfl ?_
                          refine own_iconst X0 hx (1 : Int32) (hb hby d4_192) rfl ?_
                          refine own_iadd X0 hx (hb hby d4_193) ?_
                          refine own_baload X0 hx hZ e0 hV (v := .int (xs.getD (ix + (1 : Int32)).toNatClampNeg 0)) (pl_at1 ix en (4 : Int32) h0' hlt h8 (by decide) hc185) (pl_gd _ _) (hb hby d4_194) ?_
                          show own_R p e below s _ _ _ s₁ (mkF m 195 #[.val (.ref a1), .val (.int fr), .val (.int en), .val (.int ix), .val (.int ((xs.getD ix.toNatClampNeg 0) &&& (255 : Int32))), .val (.int (4 : Int32)), .val (.int (128 : Int32)), .val (.int (191 : Int32)), s8, s9] [(.int (xs.getD (ix + (1 : Int32)).toNatClampNeg 0))])
                          refine own_sipush X0 hx (255 : Int32) (hb hby d4_195) rfl ?_
                          refine own_iand X0 hx (hb hby d4_198) ?_
                          refine own_istore X0 hx (hb hby d4_199) (l' := #[.val (.ref a1), .val (.int fr), .val (.int en), .val (.int ix), .val (.int ((xs.getD ix.toNatClampNeg 0) &&& (255 : Int32))), .val (.int (4 : Int32)), .val (.int (128 : Int32)), .val (.int (191 : Int32)), .val (.int ((xs.getD (ix + (1 : Int32)).toNatClampNeg 0) &&& (255 : Int32))), s9]) (by rcases hs8 with rfl | ⟨w, rfl, hw'⟩ <;> first | rfl | (cases w <;> first | rfl | (simp [Value.category] at hw'))) ?_
                          refine own_iload X0 hx (hb hby d4_201) rfl ?_
                          refine own_iload X0 hx (hb hby d4_203) rfl ?_
                          refine own_icmp X0 hx (hb hby d4_205) (pc' := 215) (by decide) (by decide) (fun hc => ?_) (fun hc => ?_)
                          · have hc205 : ((xs.getD (ix + (1 : Int32)).toNatClampNeg 0) &&& (255 : Int32)) < (128 : Int32) := own_lt1 hc
                            clear hc
                            show own_R p e below s _ _ _ s₁ (mkF m 215 #[.val (.ref a1), .val (.int fr), .val (.int en), .val (.int ix), .val (.int ((xs.getD ix.toNatClampNeg 0) &&& (255 : Int32))), .val (.int (4 : Int32)), .val (.int (128 : Int32)), .val (.int (191 : Int32)), .val (.int ((xs.getD (ix + (1 : Int32)).toNatClampNeg 0) &&& (255 : Int32))), s9] [])
                            refine own_iloadN X0 hx (hb hby d4_215) rfl ?_
                            have hnl : pl_nl ((xs.getD ix.toNatClampNeg 0) &&& (255 : Int32)) ((xs.getD (ix + (1 : Int32)).toNatClampNeg 0) &&& (255 : Int32)) (xs.getD (ix + (2 : Int32)).toNatClampNeg 0) (xs.getD (ix + (3 : Int32)).toNatClampNeg 0) (en - ix) = 0 := by rw [pl_nl, if_neg hc21, if_pos hc45, if_neg hc67, if_pos hc75, if_neg hc125, if_neg hc133, if_neg hc144, if_neg hc162, if_neg hc185, if_pos hc205]
                            refine own_retI X0 hx Bd.returns hlk (hb hby d4_216) ?_ (by decide) (by decide)
                            refine ⟨?_, N0, e0⟩
                            show some (Value.int _) = some (Value.int (pl_nu xs en 8 fr))
                            rw [← hr, pl_nu, if_pos hlt, if_pos hnl]
                          · have hc205 : ¬ ((xs.getD (ix + (1 : Int32)).toNatClampNeg 0) &&& (255 : Int32)) < (128 : Int32) := own_lt0 hc
                            clear hc
                            show own_R p e below s _ _ _ s₁ (mkF m 208 #[.val (.ref a1), .val (.int fr), .val (.int en), .val (.int ix), .val (.int ((xs.getD ix.toNatClampNeg 0) &&& (255 : Int32))), .val (.int (4 : Int32)), .val (.int (128 : Int32)), .val (.int (191 : Int32)), .val (.int ((xs.getD (ix + (1 : Int32)).toNatClampNeg 0) &&& (255 : Int32))), s9] [])
                            refine own_iload X0 hx (hb hby d4_208) rfl ?_
                            refine own_iload X0 hx (hb hby d4_210) rfl ?_
                            refine own_icmp X0 hx (hb hby d4_212) (pc' := 217) (by decide) (by decide) (fun hc => ?_) (fun hc => ?_)
                            · have hc212 : ¬ (191 : Int32) < ((xs.getD (ix + (1 : Int32)).toNatClampNeg 0) &&& (255 : Int32)) := own_le1 hc
                              clear hc
                              show own_R p e below s _ _ _ s₁ (mkF m 217 #[.val (.ref a1), .val (.int fr), .val (.int en), .val (.int ix), .val (.int ((xs.getD ix.toNatClampNeg 0) &&& (255 : Int32))), .val (.int (4 : Int32)), .val (.int (128 : Int32)), .val (.int (191 : Int32)), .val (.int ((xs.getD (ix + (1 : Int32)).toNatClampNeg 0) &&& (255 : Int32))), s9] [])
                              refine own_iloadN X0 hx (hb hby d4_217) rfl ?_
                              refine own_iconst X0 hx (2 : Int32) (hb hby d4_218) rfl ?_
                              refine own_iadd X0 hx (hb hby d4_219) ?_
                              refine own_istore X0 hx (hb hby d4_220) (l' := #[.val (.ref a1), .val (.int fr), .val (.int en), .val (.int ix), .val (.int ((xs.getD ix.toNatClampNeg 0) &&& (255 : Int32))), .val (.int (4 : Int32)), .val (.int (128 : Int32)), .val (.int (191 : Int32)), .val (.int ((xs.getD (ix + (1 : Int32)).toNatClampNeg 0) &&& (255 : Int32))), .val (.int (ix + (2 : Int32)))]) (by rcases hs9 with rfl | ⟨w, rfl, hw'⟩ <;> first | rfl | (cases w <;> first | rfl | (simp [Value.category] at hw'))) ?_
                              refine own_iload X0 hx (hb hby d4_222) rfl ?_
                              refine own_iloadN X0 hx (hb hby d4_224) rfl ?_
                              refine own_iload X0 hx (hb hby d4_225) rfl ?_
                              refine own_iadd X0 hx (hb hby d4_227) ?_
                              refine own_icmp X0 hx (hb hby d4_228) (pc' := 253) (by decide) (by decide) (fun hc => ?_) (fun hc => ?_)
                              · have hl2 : ¬ (ix + (2 : Int32)) < (ix + (4 : Int32)) := own_ge1 hc
                                exfalso; obtain ⟨d1, d2⟩ := pl_d ix en h0' hlt h8; obtain ⟨a1, a2, a3, a4, a5, a6⟩ := pl_off ix h0' d2; rw [Int32.lt_iff_toInt_lt] at hl2; omega
                              · have hl2 : (ix + (2 : Int32)) < (ix + (4 : Int32)) := own_ge0 hc
                                clear hc
                                show own_R p e below s _ _ _ s₁ (mkF m 231 #[.val (.ref a1), .val (.int fr), .val (.int en), .val (.int ix), .val (.int ((xs.getD ix.toNatClampNeg 0) &&& (255 : Int32))), .val (.int (4 : Int32)), .val (.int (128 : Int32)), .val (.int (191 : Int32)), .val (.int ((xs.getD (ix + (1 : Int32)).toNatClampNeg 0) &&& (255 : Int32))), .val (.int (ix + (2 : Int32)))] [])
                                refine own_aloadN X0 hx (hb hby d4_231) rfl rfl ?_
                                refine own_iload X0 hx (hb hby d4_232) rfl ?_
                                refine own_baload X0 hx hZ e0 hV (v := .int (xs.getD (ix + (2 : Int32)).toNatClampNeg 0)) (pl_at2 ix en (4 : Int32) h0' hlt h8 (by decide) hc185) (pl_gd _ _) (hb hby d4_234) ?_
                                show own_R p e below s _ _ _ s₁ (mkF m 235 #[.val (.ref a1), .val (.int fr), .val (.int en), .val (.int ix), .val (.int ((xs.getD ix.toNatClampNeg 0) &&& (255 : Int32))), .val (.int (4 : Int32)), .val (.int (128 : Int32)), .val (.int (191 : Int32)), .val (.int ((xs.getD (ix + (1 : Int32)).toNatClampNeg 0) &&& (255 : Int32))), .val (.int (ix + (2 : Int32)))] [(.int (xs.getD (ix + (2 : Int32)).toNatClampNeg 0))])
                                refine own_sipush X0 hx (192 : Int32) (hb hby d4_235) rfl ?_
                                refine own_iand X0 hx (hb hby d4_238) ?_
                                refine own_sipush X0 hx (128 : Int32) (hb hby d4_239) rfl ?_
                                refine own_icmp X0 hx (hb hby d4_242) (pc' := 247) (by decide) (by decide) (fun hc => ?_) (fun hc => ?_)
                                · have hc242_2 : ((xs.getD (ix + (2 : Int32)).toNatClampNeg 0) &&& (192 : Int32)) = (128 : Int32) := own_eq1 hc
                                  clear hc
                                  show own_R p e below s _ _ _ s₁ (mkF m 247 #[.val (.ref a1), .val (.int fr), .val (.int en), .val (.int ix), .val (.int ((xs.getD ix.toNatClampNeg 0) &&& (255 : Int32))), .val (.int (4 : Int32)), .val (.int (128 : Int32)), .val (.int (191 : Int32)), .val (.int ((xs.getD (ix + (1 : Int32)).toNatClampNeg 0) &&& (255 : Int32))), .val (.int (ix + (2 : Int32)))] [])
                                  refine own_iinc X0 hx (1 : Int32) (hb hby d4_247) rfl rfl (l' := #[.val (.ref a1), .val (.int fr), .val (.int en), .val (.int ix), .val (.int ((xs.getD ix.toNatClampNeg 0) &&& (255 : Int32))), .val (.int (4 : Int32)), .val (.int (128 : Int32)), .val (.int (191 : Int32)), .val (.int ((xs.getD (ix + (1 : Int32)).toNatClampNeg 0) &&& (255 : Int32))), .val (.int ((ix + (2 : Int32)) + (1 : Int32)))]) rfl ?_
                                  refine own_goto X0 hx (hb hby d4_250) (pc' := 222) (by decide) (by decide) ?_
                                  show own_R p e below s _ _ _ s₁ (mkF m 222 #[.val (.ref a1), .val (.int fr), .val (.int en), .val (.int ix), .val (.int ((xs.getD ix.toNatClampNeg 0) &&& (255 : Int32))), .val (.int (4 : Int32)), .val (.int (128 : Int32)), .val (.int (191 : Int32)), .val (.int ((xs.getD (ix + (1 : Int32)).toNatClampNeg 0) &&& (255 : Int32))), .val (.int ((ix + (2 : Int32)) + (1 : Int32)))] [])
                                  refine own_iload X0 hx (hb hby d4_222) rfl ?_
                                  refine own_iloadN X0 hx (hb hby d4_224) rfl ?_
                                  refine own_iload X0 hx (hb hby d4_225) rfl ?_
                                  refine own_iadd X0 hx (hb hby d4_227) ?_
                                  refine own_icmp X0 hx (hb hby d4_228) (pc' := 253) (by decide) (by decide) (fun hc => ?_) (fun hc => ?_)
                                  · have hl3 : ¬ ((ix + (2 : Int32)) + (1 : Int32)) < (ix + (4 : Int32)) := own_ge1 hc
                                    exfalso; obtain ⟨d1, d2⟩ := pl_d ix en h0' hlt h8; obtain ⟨a1, a2, a3, a4, a5, a6⟩ := pl_off ix h0' d2; rw [Int32.lt_iff_toInt_lt] at hl3; omega
                                  · have hl3 : ((ix + (2 : Int32)) + (1 : Int32)) < (ix + (4 : Int32)) := own_ge0 hc
                                    clear hc
                                    show own_R p e below s _ _ _ s₁ (mkF m 231 #[.val (.ref a1), .val (.int fr), .val (.int en), .val (.int ix), .val (.int ((xs.getD ix.toNatClampNeg 0) &&& (255 : Int32))), .val (.int (4 : Int32)), .val (.int (128 : Int32)), .val (.int (191 : Int32)), .val (.int ((xs.getD (ix + (1 : Int32)).toNatClampNeg 0) &&& (255 : Int32))), .val (.int ((ix + (2 : Int32)) + (1 : Int32)))] [])
                                    refine own_aloadN X0 hx (hb hby d4_231) rfl rfl ?_
                                    refine own_iload X0 hx (hb hby d4_232) rfl ?_
                                    rw [pl_21]
                                    show own_R p e below s _ _ _ s₁ (mkF m 234 #[.val (.ref a1), .val (.int fr), .val (.int en), .val (.int ix), .val (.int ((xs.getD ix.toNatClampNeg 0) &&& (255 : Int32))), .val (.int (4 : Int32)), .val (.int (128 : Int32)), .val (.int (191 : Int32)), .val (.int ((xs.getD (ix + (1 : Int32)).toNatClampNeg 0) &&& (255 : Int32))), .val (.int (ix + (3 : Int32)))] [(.int (ix + (3 : Int32))), (.ref a1)])
                                    refine own_baload X0 hx hZ e0 hV (v := .int (xs.getD (ix + (3 : Int32)).toNatClampNeg 0)) (pl_at3 ix en (4 : Int32) h0' hlt h8 (by decide) hc185) (pl_gd _ _) (hb hby d4_234) ?_
                                    show own_R p e below s _ _ _ s₁ (mkF m 235 #[.val (.ref a1), .val (.int fr), .val (.int en), .val (.int ix), .val (.int ((xs.getD ix.toNatClampNeg 0) &&& (255 : Int32))), .val (.int (4 : Int32)), .val (.int (128 : Int32)), .val (.int (191 : Int32)), .val (.int ((xs.getD (ix + (1 : Int32)).toNatClampNeg 0) &&& (255 : Int32))), .val (.int (ix + (3 : Int32)))] [(.int (xs.getD (ix + (3 : Int32)).toNatClampNeg 0))])
                                    refine own_sipush X0 hx (192 : Int32) (hb hby d4_235) rfl ?_
                                    refine own_iand X0 hx (hb hby d4_238) ?_
                                    refine own_sipush X0 hx (128 : Int32) (hb hby d4_239) rfl ?_
                                    refine own_icmp X0 hx (hb hby d4_242) (pc' := 247) (by decide) (by decide) (fun hc => ?_) (fun hc => ?_)
                                    · have hc242_3 : ((xs.getD (ix + (3 : Int32)).toNatClampNeg 0) &&& (192 : Int32)) = (128 : Int32) := own_eq1 hc
                                      clear hc
                                      show own_R p e below s _ _ _ s₁ (mkF m 247 #[.val (.ref a1), .val (.int fr), .val (.int en), .val (.int ix), .val (.int ((xs.getD ix.toNatClampNeg 0) &&& (255 : Int32))), .val (.int (4 : Int32)), .val (.int (128 : Int32)), .val (.int (191 : Int32)), .val (.int ((xs.getD (ix + (1 : Int32)).toNatClampNeg 0) &&& (255 : Int32))), .val (.int (ix + (3 : Int32)))] [])
                                      refine own_iinc X0 hx (1 : Int32) (hb hby d4_247) rfl rfl (l' := #[.val (.ref a1), .val (.int fr), .val (.int en), .val (.int ix), .val (.int ((xs.getD ix.toNatClampNeg 0) &&& (255 : Int32))), .val (.int (4 : Int32)), .val (.int (128 : Int32)), .val (.int (191 : Int32)), .val (.int ((xs.getD (ix + (1 : Int32)).toNatClampNeg 0) &&& (255 : Int32))), .val (.int ((ix + (3 : Int32)) + (1 : Int32)))]) rfl ?_
                                      refine own_goto X0 hx (hb hby d4_250) (pc' := 222) (by decide) (by decide) ?_
                                      show own_R p e below s _ _ _ s₁ (mkF m 222 #[.val (.ref a1), .val (.int fr), .val (.int en), .val (.int ix), .val (.int ((xs.getD ix.toNatClampNeg 0) &&& (255 : Int32))), .val (.int (4 : Int32)), .val (.int (128 : Int32)), .val (.int (191 : Int32)), .val (.int ((xs.getD (ix + (1 : Int32)).toNatClampNeg 0) &&& (255 : Int32))), .val (.int ((ix + (3 : Int32)) + (1 : Int32)))] [])
                                      refine own_iload X0 hx (hb hby d4_222) rfl ?_
                                      refine own_iloadN X0 hx (hb hby d4_224) rfl ?_
                                      refine own_iload X0 hx (hb hby d4_225) rfl ?_
                                      refine own_iadd X0 hx (hb hby d4_227) ?_
                                      refine own_icmp X0 hx (hb hby d4_228) (pc' := 253) (by decide) (by decide) (fun hc => ?_) (fun hc => ?_)
                                      · have hl4 : ¬ ((ix + (3 : Int32)) + (1 : Int32)) < (ix + (4 : Int32)) := own_ge1 hc
                                        clear hc
                                        show own_R p e below s _ _ _ s₁ (mkF m 253 #[.val (.ref a1), .val (.int fr), .val (.int en), .val (.int ix), .val (.int ((xs.getD ix.toNatClampNeg 0) &&& (255 : Int32))), .val (.int (4 : Int32)), .val (.int (128 : Int32)), .val (.int (191 : Int32)), .val (.int ((xs.getD (ix + (1 : Int32)).toNatClampNeg 0) &&& (255 : Int32))), .val (.int ((ix + (3 : Int32)) + (1 : Int32)))] [])
                                        refine own_iloadN X0 hx (hb hby d4_253) rfl ?_
                                        refine own_iload X0 hx (hb hby d4_254) rfl ?_
                                        refine own_iadd X0 hx (hb hby d4_256) ?_
                                        refine own_istoreN X0 hx (hb hby d4_257) (l' := #[.val (.ref a1), .val (.int fr), .val (.int en), .val (.int (ix + (4 : Int32))), .val (.int ((xs.getD ix.toNatClampNeg 0) &&& (255 : Int32))), .val (.int (4 : Int32)), .val (.int (128 : Int32)), .val (.int (191 : Int32)), .val (.int ((xs.getD (ix + (1 : Int32)).toNatClampNeg 0) &&& (255 : Int32))), .val (.int ((ix + (3 : Int32)) + (1 : Int32)))]) rfl ?_
                                        refine own_goto X0 hx (hb hby d4_258) (pc' := 2) (by decide) (by decide) ?_
                                        show own_R p e below s _ _ _ s₁ (mkF m 2 #[.val (.ref a1), .val (.int fr), .val (.int en), .val (.int (ix + (4 : Int32))), .val (.int ((xs.getD ix.toNatClampNeg 0) &&& (255 : Int32))), .val (.int (4 : Int32)), .val (.int (128 : Int32)), .val (.int (191 : Int32)), .val (.int ((xs.getD (ix + (1 : Int32)).toNatClampNeg 0) &&& (255 : Int32))), .val (.int ((ix + (3 : Int32)) + (1 : Int32)))] [])
                                        have hnl : pl_nl ((xs.getD ix.toNatClampNeg 0) &&& (255 : Int32)) ((xs.getD (ix + (1 : Int32)).toNatClampNeg 0) &&& (255 : Int32)) (xs.getD (ix + (2 : Int32)).toNatClampNeg 0) (xs.getD (ix + (3 : Int32)).toNatClampNeg 0) (en - ix) = (4 : Int32) := by rw [pl_nl, if_neg hc21, if_pos hc45, if_neg hc67, if_pos hc75, if_neg hc125, if_neg hc133, if_neg hc144, if_neg hc162, if_neg hc185, if_neg hc205, if_neg hc212, if_pos hc242_2, if_pos hc242_3]
                                        obtain ⟨u0, uk⟩ := pl_adv ix en (4 : Int32) k h0' hlt h8 hk' (by decide)
                                        exact ih _ _ _ _ _ _ _ (One.val rfl) (One.val rfl) (One.val rfl) (One.val rfl) (One.val rfl) (One.val rfl) u0 uk (by rw [← hr]; conv => rhs; rw [pl_nu, if_pos hlt, hnl, if_neg (by decide)])
                                      · have hl4 : ((ix + (3 : Int32)) + (1 : Int32)) < (ix + (4 : Int32)) := own_ge0 hc
                                        exfalso; obtain ⟨d1, d2⟩ := pl_d ix en h0' hlt h8; obtain ⟨a1, a2, a3, a4, a5, a6⟩ := pl_off ix h0' d2; rw [Int32.lt_iff_toInt_lt] at hl4; omega
                                    · have hc242_3 : ¬ ((xs.getD (ix + (3 : Int32)).toNatClampNeg 0) &&& (192 : Int32)) = (128 : Int32) := own_eq0 hc
                                      clear hc
                                      show own_R p e below s _ _ _ s₁ (mkF m 245 #[.val (.ref a1), .val (.int fr), .val (.int en), .val (.int ix), .val (.int ((xs.getD ix.toNatClampNeg 0) &&& (255 : Int32))), .val (.int (4 : Int32)), .val (.int (128 : Int32)), .val (.int (191 : Int32)), .val (.int ((xs.getD (ix + (1 : Int32)).toNatClampNeg 0) &&& (255 : Int32))), .val (.int (ix + (3 : Int32)))] [])
                                      refine own_iloadN X0 hx (hb hby d4_245) rfl ?_
                                      have hnl : pl_nl ((xs.getD ix.toNatClampNeg 0) &&& (255 : Int32)) ((xs.getD (ix + (1 : Int32)).toNatClampNeg 0) &&& (255 : Int32)) (xs.getD (ix + (2 : Int32)).toNatClampNeg 0) (xs.getD (ix + (3 : Int32)).toNatClampNeg 0) (en - ix) = 0 := by rw [pl_nl, if_neg hc21, if_pos hc45, if_neg hc67, if_pos hc75, if_neg hc125, if_neg hc133, if_neg hc144, if_neg hc162, if_neg hc185, if_neg hc205, if_neg hc212, if_pos hc242_2, if_neg hc242_3]
                                      refine own_retI X0 hx Bd.returns hlk (hb hby d4_246) ?_ (by decide) (by decide)
                                      refine ⟨?_, N0, e0⟩
                                      show some (Value.int _) = some (Value.int (pl_nu xs en 8 fr))
                                      rw [← hr, pl_nu, if_pos hlt, if_pos hnl]
                                · have hc242_2 : ¬ ((xs.getD (ix + (2 : Int32)).toNatClampNeg 0) &&& (192 : Int32)) = (128 : Int32) := own_eq0 hc
                                  clear hc
                                  show own_R p e below s _ _ _ s₁ (mkF m 245 #[.val (.ref a1), .val (.int fr), .val (.int en), .val (.int ix), .val (.int ((xs.getD ix.toNatClampNeg 0) &&& (255 : Int32))), .val (.int (4 : Int32)), .val (.int (128 : Int32)), .val (.int (191 : Int32)), .val (.int ((xs.getD (ix + (1 : Int32)).toNatClampNeg 0) &&& (255 : Int32))), .val (.int (ix + (2 : Int32)))] [])
                                  refine own_iloadN X0 hx (hb hby d4_245) rfl ?_
                                  have hnl : pl_nl ((xs.getD ix.toNatClampNeg 0) &&& (255 : Int32)) ((xs.getD (ix + (1 : Int32)).toNatClampNeg 0) &&& (255 : Int32)) (xs.getD (ix + (2 : Int32)).toNatClampNeg 0) (xs.getD (ix + (3 : Int32)).toNatClampNeg 0) (en - ix) = 0 := by rw [pl_nl, if_neg hc21, if_pos hc45, if_neg hc67, if_pos hc75, if_neg hc125, if_neg hc133, if_neg hc144, if_neg hc162, if_neg hc185, if_neg hc205, if_neg hc212, if_neg hc242_2]
                                  refine own_retI X0 hx Bd.returns hlk (hb hby d4_246) ?_ (by decide) (by decide)
                                  refine ⟨?_, N0, e0⟩
                                  show some (Value.int _) = some (Value.int (pl_nu xs en 8 fr))
                                  rw [← hr, pl_nu, if_pos hlt, if_pos hnl]
                            · have hc212 : (191 : Int32) < ((xs.getD (ix + (1 : Int32)).toNatClampNeg 0) &&& (255 : Int32)) := own_le0 hc
                              clear hc
                              show own_R p e below s _ _ _ s₁ (mkF m 215 #[.val (.ref a1), .val (.int fr), .val (.int en), .val (.int ix), .val (.int ((xs.getD ix.toNatClampNeg 0) &&& (255 : Int32))), .val (.int (4 : Int32)), .val (.int (128 : Int32)), .val (.int (191 : Int32)), .val (.int ((xs.getD (ix + (1 : Int32)).toNatClampNeg 0) &&& (255 : Int32))), s9] [])
                              refine own_iloadN X0 hx (hb hby d4_215) rfl ?_
                              have hnl : pl_nl ((xs.getD ix.toNatClampNeg 0) &&& (255 : Int32)) ((xs.getD (ix + (1 : Int32)).toNatClampNeg 0) &&& (255 : Int32)) (xs.getD (ix + (2 : Int32)).toNatClampNeg 0) (xs.getD (ix + (3 : Int32)).toNatClampNeg 0) (en - ix) = 0 := by rw [pl_nl, if_neg hc21, if_pos hc45, if_neg hc67, if_pos hc75, if_neg hc125, if_neg hc133, if_neg hc144, if_neg hc162, if_neg hc185, if_neg hc205, if_pos hc212]
                              refine own_retI X0 hx Bd.returns hlk (hb hby d4_216) ?_ (by decide) (by decide)
                              refine ⟨?_, N0, e0⟩
                              show some (Value.int _) = some (Value.int (pl_nu xs en 8 fr))
                              rw [← hr, pl_nu, if_pos hlt, if_pos hnl]
                        · have hc185 : (en - ix) < (4 : Int32) := own_ge0 hc
                          clear hc
                          show own_R p e below s _ _ _ s₁ (mkF m 188 #[.val (.ref a1), .val (.int fr), .val (.int en), .val (.int ix), .val (.int ((xs.getD ix.toNatClampNeg 0) &&& (255 : Int32))), .val (.int (4 : Int32)), .val (.int (128 : Int32)), .val (.int (191 : Int32)), s8, s9] [])
                          refine own_iloadN X0 hx (hb hby d4_188) rfl ?_
                          have hnl : pl_nl ((xs.getD ix.toNatClampNeg 0) &&& (255 : Int32)) ((xs.getD (ix + (1 : Int32)).toNatClampNeg 0) &&& (255 : Int32)) (xs.getD (ix + (2 : Int32)).toNatClampNeg 0) (xs.getD (ix + (3 : Int32)).toNatClampNeg 0) (en - ix) = 0 := by rw [pl_nl, if_neg hc21, if_pos hc45, if_neg hc67, if_pos hc75, if_neg hc125, if_neg hc133, if_neg hc144, if_neg hc162, if_pos hc185]
                          refine own_retI X0 hx Bd.returns hlk (hb hby d4_189) ?_ (by decide) (by decide)
                          refine ⟨?_, N0, e0⟩
                          show some (Value.int _) = some (Value.int (pl_nu xs en 8 fr))
                          rw [← hr, pl_nu, if_pos hlt, if_pos hnl]
                      · have hc162 : ((xs.getD ix.toNatClampNeg 0) &&& (255 : Int32)) = (244 : Int32) := own_ne0 hc
                        clear hc
                        show own_R p e below s _ _ _ s₁ (mkF m 165 #[.val (.ref a1), .val (.int fr), .val (.int en), .val (.int ix), .val (.int ((xs.getD ix.toNatClampNeg 0) &&& (255 : Int32))), .val (.int (4 : Int32)), .val (.int (128 : Int32)), .val (.int (191 : Int32)), s8, s9] [])
                        refine own_sipush X0 hx (143 : Int32) (hb hby d4_165) rfl ?_
                        refine own_goto X0 hx (hb hby d4_168) (pc' := 173) (by decide) (by decide) ?_
                        show own_R p e below s _ _ _ s₁ (mkF m 173 #[.val (.ref a1), .val (.int fr), .val (.int en), .val (.int ix), .val (.int ((xs.getD ix.toNatClampNeg 0) &&& (255 : Int32))), .val (.int (4 : Int32)), .val (.int (128 : Int32)), .val (.int (191 : Int32)), s8, s9] [(.int (143 : Int32))])
                        refine own_istore X0 hx (hb hby d4_173) (l' := #[.val (.ref a1), .val (.int fr), .val (.int en), .val (.int ix), .val (.int ((xs.getD ix.toNatClampNeg 0) &&& (255 : Int32))), .val (.int (4 : Int32)), .val (.int (128 : Int32)), .val (.int (143 : Int32)), s8, s9]) rfl ?_
                        refine own_goto X0 hx (hb hby d4_175) (pc' := 180) (by decide) (by decide) ?_
                        show own_R p e below s _ _ _ s₁ (mkF m 180 #[.val (.ref a1), .val (.int fr), .val (.int en), .val (.int ix), .val (.int ((xs.getD ix.toNatClampNeg 0) &&& (255 : Int32))), .val (.int (4 : Int32)), .val (.int (128 : Int32)), .val (.int (143 : Int32)), s8, s9] [])
                        refine own_iloadN X0 hx (hb hby d4_180) rfl ?_
                        refine own_iloadN X0 hx (hb hby d4_181) rfl ?_
                        refine own_isub X0 hx (hb hby d4_182) ?_
                        refine own_iload X0 hx (hb hby d4_183) rfl ?_
                        refine own_icmp X0 hx (hb hby d4_185) (pc' := 190) (by decide) (by decide) (fun hc => ?_) (fun hc => ?_)
                        · have hc185 : ¬ (en - ix) < (4 : Int32) := own_ge1 hc
                          clear hc
                          show own_R p e below s _ _ _ s₁ (mkF m 190 #[.val (.ref a1), .val (.int fr), .val (.int en), .val (.int ix), .val (.int ((xs.getD ix.toNatClampNeg 0) &&& (255 : Int32))), .val (.int (4 : Int32)), .val (.int (128 : Int32)), .val (.int (143 : Int32)), s8, s9] [])
                          refine own_aloadN X0 hx (hb hby d4_190) rfl rfl ?_
                          refine own_iloadN X0 hx (hb hby d4_191) rfl ?_
                          refine own_iconst X0 hx (1 : Int32) (hb hby d4_192) rfl ?_
                          refine own_iadd X0 hx (hb hby d4_193) ?_
                          refine own_baload X0 hx hZ e0 hV (v := .int (xs.getD (ix + (1 : Int32)).toNatClampNeg 0)) (pl_at1 ix en (4 : Int32) h0' hlt h8 (by decide) hc185) (pl_gd _ _) (hb hby d4_194) ?_
                          show own_R p e below s _ _ _ s₁ (mkF m 195 #[.val (.ref a1), .val (.int fr), .val (.int en), .val (.int ix), .val (.int ((xs.getD ix.toNatClampNeg 0) &&& (255 : Int32))), .val (.int (4 : Int32)), .val (.int (128 : Int32)), .val (.int (143 : Int32)), s8, s9] [(.int (xs.getD (ix + (1 : Int32)).toNatClampNeg 0))])
                          refine own_sipush X0 hx (255 : Int32) (hb hby d4_195) rfl ?_
                          refine own_iand X0 hx (hb hby d4_198) ?_
                          refine own_istore X0 hx (hb hby d4_199) (l' := #[.val (.ref a1), .val (.int fr), .val (.int en), .val (.int ix), .val (.int ((xs.getD ix.toNatClampNeg 0) &&& (255 : Int32))), .val (.int (4 : Int32)), .val (.int (128 : Int32)), .val (.int (143 : Int32)), .val (.int ((xs.getD (ix + (1 : Int32)).toNatClampNeg 0) &&& (255 : Int32))), s9]) (by rcases hs8 with rfl | ⟨w, rfl, hw'⟩ <;> first | rfl | (cases w <;> first | rfl | (simp [Value.category] at hw'))) ?_
                          refine own_iload X0 hx (hb hby d4_201) rfl ?_
                          refine own_iload X0 hx (hb hby d4_203) rfl ?_
                          refine own_icmp X0 hx (hb hby d4_205) (pc' := 215) (by decide) (by decide) (fun hc => ?_) (fun hc => ?_)
                          · have hc205 : ((xs.getD (ix + (1 : Int32)).toNatClampNeg 0) &&& (255 : Int32)) < (128 : Int32) := own_lt1 hc
                            clear hc
                            show own_R p e below s _ _ _ s₁ (mkF m 215 #[.val (.ref a1), .val (.int fr), .val (.int en), .val (.int ix), .val (.int ((xs.getD ix.toNatClampNeg 0) &&& (255 : Int32))), .val (.int (4 : Int32)), .val (.int (128 : Int32)), .val (.int (143 : Int32)), .val (.int ((xs.getD (ix + (1 : Int32)).toNatClampNeg 0) &&& (255 : Int32))), s9] [])
                            refine own_iloadN X0 hx (hb hby d4_215) rfl ?_
                            have hnl : pl_nl ((xs.getD ix.toNatClampNeg 0) &&& (255 : Int32)) ((xs.getD (ix + (1 : Int32)).toNatClampNeg 0) &&& (255 : Int32)) (xs.getD (ix + (2 : Int32)).toNatClampNeg 0) (xs.getD (ix + (3 : Int32)).toNatClampNeg 0) (en - ix) = 0 := by rw [pl_nl, if_neg hc21, if_pos hc45, if_neg hc67, if_pos hc75, if_neg hc125, if_neg hc133, if_neg hc144, if_pos hc162, if_neg hc185, if_pos hc205]
                            refine own_retI X0 hx Bd.returns hlk (hb hby d4_216) ?_ (by decide) (by decide)
                            refine ⟨?_, N0, e0⟩
                            show some (Value.int _) = some (Value.int (pl_nu xs en 8 fr))
                            rw [← hr, pl_nu, if_pos hlt, if_pos hnl]
                          · have hc205 : ¬ ((xs.getD (ix + (1 : Int32)).toNatClampNeg 0) &&& (255 : Int32)) < (128 : Int32) := own_lt0 hc
                            clear hc
                            show own_R p e below s _ _ _ s₁ (mkF m 208 #[.val (.ref a1), .val (.int fr), .val (.int en), .val (.int ix), .val (.int ((xs.getD ix.toNatClampNeg 0) &&& (255 : Int32))), .val (.int (4 : Int32)), .val (.int (128 : Int32)), .val (.int (143 : Int32)), .val (.int ((xs.getD (ix + (1 : Int32)).toNatClampNeg 0) &&& (255 : Int32))), s9] [])
                            refine own_iload X0 hx (hb hby d4_208) rfl ?_
                            refine own_iload X0 hx (hb hby d4_210) rfl ?_
                            refine own_icmp X0 hx (hb hby d4_212) (pc' := 217) (by decide) (by decide) (fun hc => ?_) (fun hc => ?_)
                            · have hc212 : ¬ (143 : Int32) < ((xs.getD (ix + (1 : Int32)).toNatClampNeg 0) &&& (255 : Int32)) := own_le1 hc
                              clear hc
                              show own_R p e below s _ _ _ s₁ (mkF m 217 #[.val (.ref a1), .val (.int fr), .val (.int en), .val (.int ix), .val (.int ((xs.getD ix.toNatClampNeg 0) &&& (255 : Int32))), .val (.int (4 : Int32)), .val (.int (128 : Int32)), .val (.int (143 : Int32)), .val (.int ((xs.getD (ix + (1 : Int32)).toNatClampNeg 0) &&& (255 : Int32))), s9] [])
                              refine own_iloadN X0 hx (hb hby d4_217) rfl ?_
                              refine own_iconst X0 hx (2 : Int32) (hb hby d4_218) rfl ?_
                              refine own_iadd X0 hx (hb hby d4_219) ?_
                              refine own_istore X0 hx (hb hby d4_220) (l' := #[.val (.ref a1), .val (.int fr), .val (.int en), .val (.int ix), .val (.int ((xs.getD ix.toNatClampNeg 0) &&& (255 : Int32))), .val (.int (4 : Int32)), .val (.int (128 : Int32)), .val (.int (143 : Int32)), .val (.int ((xs.getD (ix + (1 : Int32)).toNatClampNeg 0) &&& (255 : Int32))), .val (.int (ix + (2 : Int32)))]) (by rcases hs9 with rfl | ⟨w, rfl, hw'⟩ <;> first | rfl | (cases w <;> first | rfl | (simp [Value.category] at hw'))) ?_
                              refine own_iload X0 hx (hb hby d4_222) rfl ?_
                              refine own_iloadN X0 hx (hb hby d4_224) rfl ?_
                              refine own_iload X0 hx (hb hby d4_225) rfl ?_
                              refine own_iadd X0 hx (hb hby d4_227) ?_
                              refine own_icmp X0 hx (hb hby d4_228) (pc' := 253) (by decide) (by decide) (fun hc => ?_) (fun hc => ?_)
                              · have hl2 : ¬ (ix + (2 : Int32)) < (ix + (4 : Int32)) := own_ge1 hc
                                exfalso; obtain ⟨d1, d2⟩ := pl_d ix en h0' hlt h8; obtain ⟨a1, a2, a3, a4, a5, a6⟩ := pl_off ix h0' d2; rw [Int32.lt_iff_toInt_lt] at hl2; omega
                              · have hl2 : (ix + (2 : Int32)) < (ix + (4 : Int32)) := own_ge0 hc
                                clear hc
                                show own_R p e below s _ _ _ s₁ (mkF m 231 #[.val (.ref a1), .val (.int fr), .val (.int en), .val (.int ix), .val (.int ((xs.getD ix.toNatClampNeg 0) &&& (255 : Int32))), .val (.int (4 : Int32)), .val (.int (128 : Int32)), .val (.int (143 : Int32)), .val (.int ((xs.getD (ix + (1 : Int32)).toNatClampNeg 0) &&& (255 : Int32))), .val (.int (ix + (2 : Int32)))] [])
                                refine own_aloadN X0 hx (hb hby d4_231) rfl rfl ?_
                                refine own_iload X0 hx (hb hby d4_232) rfl ?_
                                refine own_baload X0 hx hZ e0 hV (v := .int (xs.getD (ix + (2 : Int32)).toNatClampNeg 0)) (pl_at2 ix en (4 : Int32) h0' hlt h8 (by decide) hc185) (pl_gd _ _) (hb hby d4_234) ?_
                                show own_R p e below s _ _ _ s₁ (mkF m 235 #[.val (.ref a1), .val (.int fr), .val (.int en), .val (.int ix), .val (.int ((xs.getD ix.toNatClampNeg 0) &&& (255 : Int32))), .val (.int (4 : Int32)), .val (.int (128 : Int32)), .val (.int (143 : Int32)), .val (.int ((xs.getD (ix + (1 : Int32)).toNatClampNeg 0) &&& (255 : Int32))), .val (.int (ix + (2 : Int32)))] [(.int (xs.getD (ix + (2 : Int32)).toNatClampNeg 0))])
                                refine own_sipush X0 hx (192 : Int32) (hb hby d4_235) rfl ?_
                                refine own_iand X0 hx (hb hby d4_238) ?_
                                refine own_sipush X0 hx (128 : Int32) (hb hby d4_239) rfl ?_
                                refine own_icmp X0 hx (hb hby d4_242) (pc' := 247) (by decide) (by decide) (fun hc => ?_) (fun hc => ?_)
                                · have hc242_2 : ((xs.getD (ix + (2 : Int32)).toNatClampNeg 0) &&& (192 : Int32)) = (128 : Int32) := own_eq1 hc
                                  clear hc
                                  show own_R p e below s _ _ _ s₁ (mkF m 247 #[.val (.ref a1), .val (.int fr), .val (.int en), .val (.int ix), .val (.int ((xs.getD ix.toNatClampNeg 0) &&& (255 : Int32))), .val (.int (4 : Int32)), .val (.int (128 : Int32)), .val (.int (143 : Int32)), .val (.int ((xs.getD (ix + (1 : Int32)).toNatClampNeg 0) &&& (255 : Int32))), .val (.int (ix + (2 : Int32)))] [])
                                  refine own_iinc X0 hx (1 : Int32) (hb hby d4_247) rfl rfl (l' := #[.val (.ref a1), .val (.int fr), .val (.int en), .val (.int ix), .val (.int ((xs.getD ix.toNatClampNeg 0) &&& (255 : Int32))), .val (.int (4 : Int32)), .val (.int (128 : Int32)), .val (.int (143 : Int32)), .val (.int ((xs.getD (ix + (1 : Int32)).toNatClampNeg 0) &&& (255 : Int32))), .val (.int ((ix + (2 : Int32)) + (1 : Int32)))]) rfl ?_
                                  refine own_goto X0 hx (hb hby d4_250) (pc' := 222) (by decide) (by decide) ?_
                                  show own_R p e below s _ _ _ s₁ (mkF m 222 #[.val (.ref a1), .val (.int fr), .val (.int en), .val (.int ix), .val (.int ((xs.getD ix.toNatClampNeg 0) &&& (255 : Int32))), .val (.int (4 : Int32)), .val (.int (128 : Int32)), .val (.int (143 : Int32)), .val (.int ((xs.getD (ix + (1 : Int32)).toNatClampNeg 0) &&& (255 : Int32))), .val (.int ((ix + (2 : Int32)) + (1 : Int32)))] [])
                                  refine own_iload X0 hx (hb hby d4_222) rfl ?_
                                  refine own_iloadN X0 hx (hb hby d4_224) rfl ?_
                                  refine own_iload X0 hx (hb hby d4_225) rfl ?_
                                  refine own_iadd X0 hx (hb hby d4_227) ?_
                                  refine own_icmp X0 hx (hb hby d4_228) (pc' := 253) (by decide) (by decide) (fun hc => ?_) (fun hc => ?_)
                                  · have hl3 : ¬ ((ix + (2 : Int32)) + (1 : Int32)) < (ix + (4 : Int32)) := own_ge1 hc
                                    exfalso; obtain ⟨d1, d2⟩ := pl_d ix en h0' hlt h8; obtain ⟨a1, a2, a3, a4, a5, a6⟩ := pl_off ix h0' d2; rw [Int32.lt_iff_toInt_lt] at hl3; omega
                                  · have hl3 : ((ix + (2 : Int32)) + (1 : Int32)) < (ix + (4 : Int32)) := own_ge0 hc
                                    clear hc
                                    show own_R p e below s _ _ _ s₁ (mkF m 231 #[.val (.ref a1), .val (.int fr), .val (.int en), .val (.int ix), .val (.int ((xs.getD ix.toNatClampNeg 0) &&& (255 : Int32))), .val (.int (4 : Int32)), .val (.int (128 : Int32)), .val (.int (143 : Int32)), .val (.int ((xs.getD (ix + (1 : Int32)).toNatClampNeg 0) &&& (255 : Int32))), .val (.int ((ix + (2 : Int32)) + (1 : Int32)))] [])
                                    refine own_aloadN X0 hx (hb hby d4_231) rfl rfl ?_
                                    refine own_iload X0 hx (hb hby d4_232) rfl ?_
                                    rw [pl_21]
                                    show own_R p e below s _ _ _ s₁ (mkF m 234 #[.val (.ref a1), .val (.int fr), .val (.int en), .val (.int ix), .val (.int ((xs.getD ix.toNatClampNeg 0) &&& (255 : Int32))), .val (.int (4 : Int32)), .val (.int (128 : Int32)), .val (.int (143 : Int32)), .val (.int ((xs.getD (ix + (1 : Int32)).toNatClampNeg 0) &&& (255 : Int32))), .val (.int (ix + (3 : Int32)))] [(.int (ix + (3 : Int32))), (.ref a1)])
                                    refine own_baload X0 hx hZ e0 hV (v := .int (xs.getD (ix + (3 : Int32)).toNatClampNeg 0)) (pl_at3 ix en (4 : Int32) h0' hlt h8 (by decide) hc185) (pl_gd _ _) (hb hby d4_234) ?_
                                    show own_R p e below s _ _ _ s₁ (mkF m 235 #[.val (.ref a1), .val (.int fr), .val (.int en), .val (.int ix), .val (.int ((xs.getD ix.toNatClampNeg 0) &&& (255 : Int32))), .val (.int (4 : Int32)), .val (.int (128 : Int32)), .val (.int (143 : Int32)), .val (.int ((xs.getD (ix + (1 : Int32)).toNatClampNeg 0) &&& (255 : Int32))), .val (.int (ix + (3 : Int32)))] [(.int (xs.getD (ix + (3 : Int32)).toNatClampNeg 0))])
                                    refine own_sipush X0 hx (192 : Int32) (hb hby d4_235) rfl ?_
                                    refine own_iand X0 hx (hb hby d4_238) ?_
                                    refine own_sipush X0 hx (128 : Int32) (hb hby d4_239) rfl ?_
                                    refine own_icmp X0 hx (hb hby d4_242) (pc' := 247) (by decide) (by decide) (fun hc => ?_) (fun hc => ?_)
                                    · have hc242_3 : ((xs.getD (ix + (3 : Int32)).toNatClampNeg 0) &&& (192 : Int32)) = (128 : Int32) := own_eq1 hc
                                      clear hc
                                      show own_R p e below s _ _ _ s₁ (mkF m 247 #[.val (.ref a1), .val (.int fr), .val (.int en), .val (.int ix), .val (.int ((xs.getD ix.toNatClampNeg 0) &&& (255 : Int32))), .val (.int (4 : Int32)), .val (.int (128 : Int32)), .val (.int (143 : Int32)), .val (.int ((xs.getD (ix + (1 : Int32)).toNatClampNeg 0) &&& (255 : Int32))), .val (.int (ix + (3 : Int32)))] [])
                                      refine own_iinc X0 hx (1 : Int32) (hb hby d4_247) rfl rfl (l' := #[.val (.ref a1), .val (.int fr), .val (.int en), .val (.int ix), .val (.int ((xs.getD ix.toNatClampNeg 0) &&& (255 : Int32))), .val (.int (4 : Int32)), .val (.int (128 : Int32)), .val (.int (143 : Int32)), .val (.int ((xs.getD (ix + (1 : Int32)).toNatClampNeg 0) &&& (255 : Int32))), .val (.int ((ix + (3 : Int32)) + (1 : Int32)))]) rfl ?_
                                      refine own_goto X0 hx (hb hby d4_250) (pc' := 222) (by decide) (by decide) ?_
                                      show own_R p e below s _ _ _ s₁ (mkF m 222 #[.val (.ref a1), .val (.int fr), .val (.int en), .val (.int ix), .val (.int ((xs.getD ix.toNatClampNeg 0) &&& (255 : Int32))), .val (.int (4 : Int32)), .val (.int (128 : Int32)), .val (.int (143 : Int32)), .val (.int ((xs.getD (ix + (1 : Int32)).toNatClampNeg 0) &&& (255 : Int32))), .val (.int ((ix + (3 : Int32)) + (1 : Int32)))] [])
                                      refine own_iload X0 hx (hb hby d4_222) rfl ?_
                                      refine own_iloadN X0 hx (hb hby d4_224) rfl ?_
                                      refine own_iload X0 hx (hb hby d4_225) rfl ?_
                                      refine own_iadd X0 hx (hb hby d4_227) ?_
                                      refine own_icmp X0 hx (hb hby d4_228) (pc' := 253) (by decide) (by decide) (fun hc => ?_) (fun hc => ?_)
                                      · have hl4 : ¬ ((ix + (3 : Int32)) + (1 : Int32)) < (ix + (4 : Int32)) := own_ge1 hc
                                        clear hc
                                        show own_R p e below s _ _ _ s₁ (mkF m 253 #[.val (.ref a1), .val (.int fr), .val (.int en), .val (.int ix), .val (.int ((xs.getD ix.toNatClampNeg 0) &&& (255 : Int32))), .val (.int (4 : Int32)), .val (.int (128 : Int32)), .val (.int (143 : Int32)), .val (.int ((xs.getD (ix + (1 : Int32)).toNatClampNeg 0) &&& (255 : Int32))), .val (.int ((ix + (3 : Int32)) + (1 : Int32)))] [])
                                        refine own_iloadN X0 hx (hb hby d4_253) rfl ?_
                                        refine own_iload X0 hx (hb hby d4_254) rfl ?_
                                        refine own_iadd X0 hx (hb hby d4_256) ?_
                                        refine own_istoreN X0 hx (hb hby d4_257) (l' := #[.val (.ref a1), .val (.int fr), .val (.int en), .val (.int (ix + (4 : Int32))), .val (.int ((xs.getD ix.toNatClampNeg 0) &&& (255 : Int32))), .val (.int (4 : Int32)), .val (.int (128 : Int32)), .val (.int (143 : Int32)), .val (.int ((xs.getD (ix + (1 : Int32)).toNatClampNeg 0) &&& (255 : Int32))), .val (.int ((ix + (3 : Int32)) + (1 : Int32)))]) rfl ?_
                                        refine own_goto X0 hx (hb hby d4_258) (pc' := 2) (by decide) (by decide) ?_
                                        show own_R p e below s _ _ _ s₁ (mkF m 2 #[.val (.ref a1), .val (.int fr), .val (.int en), .val (.int (ix + (4 : Int32))), .val (.int ((xs.getD ix.toNatClampNeg 0) &&& (255 : Int32))), .val (.int (4 : Int32)), .val (.int (128 : Int32)), .val (.int (143 : Int32)), .val (.int ((xs.getD (ix + (1 : Int32)).toNatClampNeg 0) &&& (255 : Int32))), .val (.int ((ix + (3 : Int32)) + (1 : Int32)))] [])
                                        have hnl : pl_nl ((xs.getD ix.toNatClampNeg 0) &&& (255 : Int32)) ((xs.getD (ix + (1 : Int32)).toNatClampNeg 0) &&& (255 : Int32)) (xs.getD (ix + (2 : Int32)).toNatClampNeg 0) (xs.getD (ix + (3 : Int32)).toNatClampNeg 0) (en - ix) = (4 : Int32) := by rw [pl_nl, if_neg hc21, if_pos hc45, if_neg hc67, if_pos hc75, if_neg hc125, if_neg hc133, if_neg hc144, if_pos hc162, if_neg hc185, if_neg hc205, if_neg hc212, if_pos hc242_2, if_pos hc242_3]
                                        obtain ⟨u0, uk⟩ := pl_adv ix en (4 : Int32) k h0' hlt h8 hk' (by decide)
                                        exact ih _ _ _ _ _ _ _ (One.val rfl) (One.val rfl) (One.val rfl) (One.val rfl) (One.val rfl) (One.val rfl) u0 uk (by rw [← hr]; conv => rhs; rw [pl_nu, if_pos hlt, hnl, if_neg (by decide)])
                                      · have hl4 : ((ix + (3 : Int32)) + (1 : Int32)) < (ix + (4 : Int32)) := own_ge0 hc
                                        exfalso; obtain ⟨d1, d2⟩ := pl_d ix en h0' hlt h8; obtain ⟨a1, a2, a3, a4, a5, a6⟩ := pl_off ix h0' d2; rw [Int32.lt_iff_toInt_lt] at hl4; omega
                                    · have hc242_3 : ¬ ((xs.getD (ix + (3 : Int32)).toNatClampNeg 0) &&& (192 : Int32)) = (128 : Int32) := own_eq0 hc
                                      clear hc
                                      show own_R p e below s _ _ _ s₁ (mkF m 245 #[.val (.ref a1), .val (.int fr), .val (.int en), .val (.int ix), .val (.int ((xs.getD ix.toNatClampNeg 0) &&& (255 : Int32))), .val (.int (4 : Int32)), .val (.int (128 : Int32)), .val (.int (143 : Int32)), .val (.int ((xs.getD (ix + (1 : Int32)).toNatClampNeg 0) &&& (255 : Int32))), .val (.int (ix + (3 : Int32)))] [])
                                      refine own_iloadN X0 hx (hb hby d4_245) rfl ?_
                                      have hnl : pl_nl ((xs.getD ix.toNatClampNeg 0) &&& (255 : Int32)) ((xs.getD (ix + (1 : Int32)).toNatClampNeg 0) &&& (255 : Int32)) (xs.getD (ix + (2 : Int32)).toNatClampNeg 0) (xs.getD (ix + (3 : Int32)).toNatClampNeg 0) (en - ix) = 0 := by rw [pl_nl, if_neg hc21, if_pos hc45, if_neg hc67, if_pos hc75, if_neg hc125, if_neg hc133, if_neg hc144, if_pos hc162, if_neg hc185, if_neg hc205, if_neg hc212, if_pos hc242_2, if_neg hc242_3]
                                      refine own_retI X0 hx Bd.returns hlk (hb hby d4_246) ?_ (by decide) (by decide)
                                      refine ⟨?_, N0, e0⟩
                                      show some (Value.int _) = some (Value.int (pl_nu xs en 8 fr))
                                      rw [← hr, pl_nu, if_pos hlt, if_pos hnl]
                                · have hc242_2 : ¬ ((xs.getD (ix + (2 : Int32)).toNatClampNeg 0) &&& (192 : Int32)) = (128 : Int32) := own_eq0 hc
                                  clear hc
                                  show own_R p e below s _ _ _ s₁ (mkF m 245 #[.val (.ref a1), .val (.int fr), .val (.int en), .val (.int ix), .val (.int ((xs.getD ix.toNatClampNeg 0) &&& (255 : Int32))), .val (.int (4 : Int32)), .val (.int (128 : Int32)), .val (.int (143 : Int32)), .val (.int ((xs.getD (ix + (1 : Int32)).toNatClampNeg 0) &&& (255 : Int32))), .val (.int (ix + (2 : Int32)))] [])
                                  refine own_iloadN X0 hx (hb hby d4_245) rfl ?_
                                  have hnl : pl_nl ((xs.getD ix.toNatClampNeg 0) &&& (255 : Int32)) ((xs.getD (ix + (1 : Int32)).toNatClampNeg 0) &&& (255 : Int32)) (xs.getD (ix + (2 : Int32)).toNatClampNeg 0) (xs.getD (ix + (3 : Int32)).toNatClampNeg 0) (en - ix) = 0 := by rw [pl_nl, if_neg hc21, if_pos hc45, if_neg hc67, if_pos hc75, if_neg hc125, if_neg hc133, if_neg hc144, if_pos hc162, if_neg hc185, if_neg hc205, if_neg hc212, if_neg hc242_2]
                                  refine own_retI X0 hx Bd.returns hlk (hb hby d4_246) ?_ (by decide) (by decide)
                                  refine ⟨?_, N0, e0⟩
                                  show some (Value.int _) = some (Value.int (pl_nu xs en 8 fr))
                                  rw [← hr, pl_nu, if_pos hlt, if_pos hnl]
                            · have hc212 : (143 : Int32) < ((xs.getD (ix + (1 : Int32)).toNatClampNeg 0) &&& (255 : Int32)) := own_le0 hc
                              clear hc
                              show own_R p e below s _ _ _ s₁ (mkF m 215 #[.val (.ref a1), .val (.int fr), .val (.int en), .val (.int ix), .val (.int ((xs.getD ix.toNatClampNeg 0) &&& (255 : Int32))), .val (.int (4 : Int32)), .val (.int (128 : Int32)), .val (.int (143 : Int32)), .val (.int ((xs.getD (ix + (1 : Int32)).toNatClampNeg 0) &&& (255 : Int32))), s9] [])
                              refine own_iloadN X0 hx (hb hby d4_215) rfl ?_
                              have hnl : pl_nl ((xs.getD ix.toNatClampNeg 0) &&& (255 : Int32)) ((xs.getD (ix + (1 : Int32)).toNatClampNeg 0) &&& (255 : Int32)) (xs.getD (ix + (2 : Int32)).toNatClampNeg 0) (xs.getD (ix + (3 : Int32)).toNatClampNeg 0) (en - ix) = 0 := by rw [pl_nl, if_neg hc21, if_pos hc45, if_neg hc67, if_pos hc75, if_neg hc125, if_neg hc133, if_neg hc144, if_pos hc162, if_neg hc185, if_neg hc205, if_pos hc212]
                              refine own_retI X0 hx Bd.returns hlk (hb hby d4_216) ?_ (by decide) (by decide)
                              refine ⟨?_, N0, e0⟩
                              show some (Value.int _) = some (Value.int (pl_nu xs en 8 fr))
                              rw [← hr, pl_nu, if_pos hlt, if_pos hnl]
                        · have hc185 : (en - ix) < (4 : Int32) := own_ge0 hc
                          clear hc
                          show own_R p e below s _ _ _ s₁ (mkF m 188 #[.val (.ref a1), .val (.int fr), .val (.int en), .val (.int ix), .val (.int ((xs.getD ix.toNatClampNeg 0) &&& (255 : Int32))), .val (.int (4 : Int32)), .val (.int (128 : Int32)), .val (.int (143 : Int32)), s8, s9] [])
                          refine own_iloadN X0 hx (hb hby d4_188) rfl ?_
                          have hnl : pl_nl ((xs.getD ix.toNatClampNeg 0) &&& (255 : Int32)) ((xs.getD (ix + (1 : Int32)).toNatClampNeg 0) &&& (255 : Int32)) (xs.getD (ix + (2 : Int32)).toNatClampNeg 0) (xs.getD (ix + (3 : Int32)).toNatClampNeg 0) (en - ix) = 0 := by rw [pl_nl, if_neg hc21, if_pos hc45, if_neg hc67, if_pos hc75, if_neg hc125, if_neg hc133, if_neg hc144, if_pos hc162, if_pos hc185]
                          refine own_retI X0 hx Bd.returns hlk (hb hby d4_189) ?_ (by decide) (by decide)
                          refine ⟨?_, N0, e0⟩
                          show some (Value.int _) = some (Value.int (pl_nu xs en 8 fr))
                          rw [← hr, pl_nu, if_pos hlt, if_pos hnl]
                    · have hc144 : ((xs.getD ix.toNatClampNeg 0) &&& (255 : Int32)) = (240 : Int32) := own_ne0 hc
                      clear hc
                      show own_R p e below s _ _ _ s₁ (mkF m 147 #[.val (.ref a1), .val (.int fr), .val (.int en), .val (.int ix), .val (.int ((xs.getD ix.toNatClampNeg 0) &&& (255 : Int32))), .val (.int (4 : Int32)), .val (.int (128 : Int32)), .val (.int (191 : Int32)), s8, s9] [])
                      refine own_sipush X0 hx (144 : Int32) (hb hby d4_147) rfl ?_
                      refine own_goto X0 hx (hb hby d4_150) (pc' := 155) (by decide) (by decide) ?_
                      show own_R p e below s _ _ _ s₁ (mkF m 155 #[.val (.ref a1), .val (.int fr), .val (.int en), .val (.int ix), .val (.int ((xs.getD ix.toNatClampNeg 0) &&& (255 : Int32))), .val (.int (4 : Int32)), .val (.int (128 : Int32)), .val (.int (191 : Int32)), s8, s9] [(.int (144 : Int32))])
                      refine own_istore X0 hx (hb hby d4_155) (l' := #[.val (.ref a1), .val (.int fr), .val (.int en), .val (.int ix), .val (.int ((xs.getD ix.toNatClampNeg 0) &&& (255 : Int32))), .val (.int (4 : Int32)), .val (.int (144 : Int32)), .val (.int (191 : Int32)), s8, s9]) rfl ?_
                      refine own_iload X0 hx (hb hby d4_157) rfl ?_
                      refine own_sipush X0 hx (244 : Int32) (hb hby d4_159) rfl ?_
                      refine own_icmp X0 hx (hb hby d4_162) (pc' := 171) (by decide) (by decide) (fun hc => ?_) (fun hc => ?_)
                      · have hc162 : ¬ ((xs.getD ix.toNatClampNeg 0) &&& (255 : Int32)) = (244 : Int32) := own_ne1 hc
                        clear hc
                        show own_R p e below s _ _ _ s₁ (mkF m 171 #[.val (.ref a1), .val (.int fr), .val (.int en), .val (.int ix), .val (.int ((xs.getD ix.toNatClampNeg 0) &&& (255 : Int32))), .val (.int (4 : Int32)), .val (.int (144 : Int32)), .val (.int (191 : Int32)), s8, s9] [])
                        refine own_iload X0 hx (hb hby d4_171) rfl ?_
                        refine own_istore X0 hx (hb hby d4_173) (l' := #[.val (.ref a1), .val (.int fr), .val (.int en), .val (.int ix), .val (.int ((xs.getD ix.toNatClampNeg 0) &&& (255 : Int32))), .val (.int (4 : Int32)), .val (.int (144 : Int32)), .val (.int (191 : Int32)), s8, s9]) rfl ?_
                        refine own_goto X0 hx (hb hby d4_175) (pc' := 180) (by decide) (by decide) ?_
                        show own_R p e below s _ _ _ s₁ (mkF m 180 #[.val (.ref a1), .val (.int fr), .val (.int en), .val (.int ix), .val (.int ((xs.getD ix.toNatClampNeg 0) &&& (255 : Int32))), .val (.int (4 : Int32)), .val (.int (144 : Int32)), .val (.int (191 : Int32)), s8, s9] [])
                        refine own_iloadN X0 hx (hb hby d4_180) rfl ?_
                        refine own_iloadN X0 hx (hb hby d4_181) rfl ?_
                        refine own_isub X0 hx (hb hby d4_182) ?_
                        refine own_iload X0 hx (hb hby d4_183) rfl ?_
                        refine own_icmp X0 hx (hb hby d4_185) (pc' := 190) (by decide) (by decide) (fun hc => ?_) (fun hc => ?_)
                        · have hc185 : ¬ (en - ix) < (4 : Int32) := own_ge1 hc
                          clear hc
                          show own_R p e below s _ _ _ s₁ (mkF m 190 #[.val (.ref a1), .val (.int fr), .val (.int en), .val (.int ix), .val (.int ((xs.getD ix.toNatClampNeg 0) &&& (255 : Int32))), .val (.int (4 : Int32)), .val (.int (144 : Int32)), .val (.int (191 : Int32)), s8, s9] [])
                          refine own_aloadN X0 hx (hb hby d4_190) rfl rfl ?_
                          refine own_iloadN X0 hx (hb hby d4_191) rfl ?_
                          refine own_iconst X0 hx (1 : Int32) (hb hby d4_192) rfl ?_
                          refine own_iadd X0 hx (hb hby d4_193) ?_
                          refine own_baload X0 hx hZ e0 hV (v := .int (xs.getD (ix + (1 : Int32)).toNatClampNeg 0)) (pl_at1 ix en (4 : Int32) h0' hlt h8 (by decide) hc185) (pl_gd _ _) (hb hby d4_194) ?_
                          show own_R p e below s _ _ _ s₁ (mkF m 195 #[.val (.ref a1), .val (.int fr), .val (.int en), .val (.int ix), .val (.int ((xs.getD ix.toNatClampNeg 0) &&& (255 : Int32))), .val (.int (4 : Int32)), .val (.int (144 : Int32)), .val (.int (191 : Int32)), s8, s9] [(.int (xs.getD (ix + (1 : Int32)).toNatClampNeg 0))])
                          refine own_sipush X0 hx (255 : Int32) (hb hby d4_195) rfl ?_
                          refine own_iand X0 hx (hb hby d4_198) ?_
                          refine own_istore X0 hx (hb hby d4_199) (l' := #[.val (.ref a1), .val (.int fr), .val (.int en), .val (.int ix), .val (.int ((xs.getD ix.toNatClampNeg 0) &&& (255 : Int32))), .val (.int (4 : Int32)), .val (.int (144 : Int32)), .val (.int (191 : Int32)), .val (.int ((xs.getD (ix + (1 : Int32)).toNatClampNeg 0) &&& (255 : Int32))), s9]) (by rcases hs8 with rfl | ⟨w, rfl, hw'⟩ <;> first | rfl | (cases w <;> first | rfl | (simp [Value.category] at hw'))) ?_
                          refine own_iload X0 hx (hb hby d4_201) rfl ?_
                          refine own_iload X0 hx (hb hby d4_203) rfl ?_
                          refine own_icmp X0 hx (hb hby d4_205) (pc' := 215) (by decide) (by decide) (fun hc => ?_) (fun hc => ?_)
                          · have hc205 : ((xs.getD (ix + (1 : Int32)).toNatClampNeg 0) &&& (255 : Int32)) < (144 : Int32) := own_lt1 hc
                            clear hc
                            show own_R p e below s _ _ _ s₁ (mkF m 215 #[.val (.ref a1), .val (.int fr), .val (.int en), .val (.int ix), .val (.int ((xs.getD ix.toNatClampNeg 0) &&& (255 : Int32))), .val (.int (4 : Int32)), .val (.int (144 : Int32)), .val (.int (191 : Int32)), .val (.int ((xs.getD (ix + (1 : Int32)).toNatClampNeg 0) &&& (255 : Int32))), s9] [])
                            refine own_iloadN X0 hx (hb hby d4_215) rfl ?_
                            have hnl : pl_nl ((xs.getD ix.toNatClampNeg 0) &&& (255 : Int32)) ((xs.getD (ix + (1 : Int32)).toNatClampNeg 0) &&& (255 : Int32)) (xs.getD (ix + (2 : Int32)).toNatClampNeg 0) (xs.getD (ix + (3 : Int32)).toNatClampNeg 0) (en - ix) = 0 := by rw [pl_nl, if_neg hc21, if_pos hc45, if_neg hc67, if_pos hc75, if_neg hc125, if_neg hc133, if_pos hc144, if_neg hc162, if_neg hc185, if_pos hc205]
                            refine own_retI X0 hx Bd.returns hlk (hb hby d4_216) ?_ (by decide) (by decide)
                            refine ⟨?_, N0, e0⟩
                            show some (Value.int _) = some (Value.int (pl_nu xs en 8 fr))
                            rw [← hr, pl_nu, if_pos hlt, if_pos hnl]
                          · have hc205 : ¬ ((xs.getD (ix + (1 : Int32)).toNatClampNeg 0) &&& (255 : Int32)) < (144 : Int32) := own_lt0 hc
                            clear hc
                            show own_R p e below s _ _ _ s₁ (mkF m 208 #[.val (.ref a1), .val (.int fr), .val (.int en), .val (.int ix), .val (.int ((xs.getD ix.toNatClampNeg 0) &&& (255 : Int32))), .val (.int (4 : Int32)), .val (.int (144 : Int32)), .val (.int (191 : Int32)), .val (.int ((xs.getD (ix + (1 : Int32)).toNatClampNeg 0) &&& (255 : Int32))), s9] [])
                            refine own_iload X0 hx (hb hby d4_208) rfl ?_
                            refine own_iload X0 hx (hb hby d4_210) rfl ?_
                            refine own_icmp X0 hx (hb hby d4_212) (pc' := 217) (by decide) (by decide) (fun hc => ?_) (fun hc => ?_)
                            · have hc212 : ¬ (191 : Int32) < ((xs.getD (ix + (1 : Int32)).toNatClampNeg 0) &&& (255 : Int32)) := own_le1 hc
                              clear hc
                              show own_R p e below s _ _ _ s₁ (mkF m 217 #[.val (.ref a1), .val (.int fr), .val (.int en), .val (.int ix), .val (.int ((xs.getD ix.toNatClampNeg 0) &&& (255 : Int32))), .val (.int (4 : Int32)), .val (.int (144 : Int32)), .val (.int (191 : Int32)), .val (.int ((xs.getD (ix + (1 : Int32)).toNatClampNeg 0) &&& (255 : Int32))), s9] [])
                              refine own_iloadN X0 hx (hb hby d4_217) rfl ?_
                              refine own_iconst X0 hx (2 : Int32) (hb hby d4_218) rfl ?_
                              refine own_iadd X0 hx (hb hby d4_219) ?_
                              refine own_istore X0 hx (hb hby d4_220) (l' := #[.val (.ref a1), .val (.int fr), .val (.int en), .val (.int ix), .val (.int ((xs.getD ix.toNatClampNeg 0) &&& (255 : Int32))), .val (.int (4 : Int32)), .val (.int (144 : Int32)), .val (.int (191 : Int32)), .val (.int ((xs.getD (ix + (1 : Int32)).toNatClampNeg 0) &&& (255 : Int32))), .val (.int (ix + (2 : Int32)))]) (by rcases hs9 with rfl | ⟨w, rfl, hw'⟩ <;> first | rfl | (cases w <;> first | rfl | (simp [Value.category] at hw'))) ?_
                              refine own_iload X0 hx (hb hby d4_222) rfl ?_
                              refine own_iloadN X0 hx (hb hby d4_224) rfl ?_
                              refine own_iload X0 hx (hb hby d4_225) rfl ?_
                              refine own_iadd X0 hx (hb hby d4_227) ?_
                              refine own_icmp X0 hx (hb hby d4_228) (pc' := 253) (by decide) (by decide) (fun hc => ?_) (fun hc => ?_)
                              · have hl2 : ¬ (ix + (2 : Int32)) < (ix + (4 : Int32)) := own_ge1 hc
                                exfalso; obtain ⟨d1, d2⟩ := pl_d ix en h0' hlt h8; obtain ⟨a1, a2, a3, a4, a5, a6⟩ := pl_off ix h0' d2; rw [Int32.lt_iff_toInt_lt] at hl2; omega
                              · have hl2 : (ix + (2 : Int32)) < (ix + (4 : Int32)) := own_ge0 hc
                                clear hc
                                show own_R p e below s _ _ _ s₁ (mkF m 231 #[.val (.ref a1), .val (.int fr), .val (.int en), .val (.int ix), .val (.int ((xs.getD ix.toNatClampNeg 0) &&& (255 : Int32))), .val (.int (4 : Int32)), .val (.int (144 : Int32)), .val (.int (191 : Int32)), .val (.int ((xs.getD (ix + (1 : Int32)).toNatClampNeg 0) &&& (255 : Int32))), .val (.int (ix + (2 : Int32)))] [])
                                refine own_aloadN X0 hx (hb hby d4_231) rfl rfl ?_
                                refine own_iload X0 hx (hb hby d4_232) rfl ?_
                                refine own_baload X0 hx hZ e0 hV (v := .int (xs.getD (ix + (2 : Int32)).toNatClampNeg 0)) (pl_at2 ix en (4 : Int32) h0' hlt h8 (by decide) hc185) (pl_gd _ _) (hb hby d4_234) ?_
                                show own_R p e below s _ _ _ s₁ (mkF m 235 #[.val (.ref a1), .val (.int fr), .val (.int en), .val (.int ix), .val (.int ((xs.getD ix.toNatClampNeg 0) &&& (255 : Int32))), .val (.int (4 : Int32)), .val (.int (144 : Int32)), .val (.int (191 : Int32)), .val (.int ((xs.getD (ix + (1 : Int32)).toNatClampNeg 0) &&& (255 : Int32))), .val (.int (ix + (2 : Int32)))] [(.int (xs.getD (ix + (2 : Int32)).toNatClampNeg 0))])
                                refine own_sipush X0 hx (192 : Int32) (hb hby d4_235) rfl ?_
                                refine own_iand X0 hx (hb hby d4_238) ?_
                                refine own_sipush X0 hx (128 : Int32) (hb hby d4_239) rfl ?_
                                refine own_icmp X0 hx (hb hby d4_242) (pc' := 247) (by decide) (by decide) (fun hc => ?_) (fun hc => ?_)
                                · have hc242_2 : ((xs.getD (ix + (2 : Int32)).toNatClampNeg 0) &&& (192 : Int32)) = (128 : Int32) := own_eq1 hc
                                  clear hc
                                  show own_R p e below s _ _ _ s₁ (mkF m 247 #[.val (.ref a1), .val (.int fr), .val (.int en), .val (.int ix), .val (.int ((xs.getD ix.toNatClampNeg 0) &&& (255 : Int32))), .val (.int (4 : Int32)), .val (.int (144 : Int32)), .val (.int (191 : Int32)), .val (.int ((xs.getD (ix + (1 : Int32)).toNatClampNeg 0) &&& (255 : Int32))), .val (.int (ix + (2 : Int32)))] [])
                                  refine own_iinc X0 hx (1 : Int32) (hb hby d4_247) rfl rfl (l' := #[.val (.ref a1), .val (.int fr), .val (.int en), .val (.int ix), .val (.int ((xs.getD ix.toNatClampNeg 0) &&& (255 : Int32))), .val (.int (4 : Int32)), .val (.int (144 : Int32)), .val (.int (191 : Int32)), .val (.int ((xs.getD (ix + (1 : Int32)).toNatClampNeg 0) &&& (255 : Int32))), .val (.int ((ix + (2 : Int32)) + (1 : Int32)))]) rfl ?_
                                  refine own_goto X0 hx (hb hby d4_250) (pc' := 222) (by decide) (by decide) ?_
                                  show own_R p e below s _ _ _ s₁ (mkF m 222 #[.val (.ref a1), .val (.int fr), .val (.int en), .val (.int ix), .val (.int ((xs.getD ix.toNatClampNeg 0) &&& (255 : Int32))), .val (.int (4 : Int32)), .val (.int (144 : Int32)), .val (.int (191 : Int32)), .val (.int ((xs.getD (ix + (1 : Int32)).toNatClampNeg 0) &&& (255 : Int32))), .val (.int ((ix + (2 : Int32)) + (1 : Int32)))] [])
                                  refine own_iload X0 hx (hb hby d4_222) rfl ?_
                                  refine own_iloadN X0 hx (hb hby d4_224) rfl ?_
                                  refine own_iload X0 hx (hb hby d4_225) rfl ?_
                                  refine own_iadd X0 hx (hb hby d4_227) ?_
                                  refine own_icmp X0 hx (hb hby d4_228) (pc' := 253) (by decide) (by decide) (fun hc => ?_) (fun hc => ?_)
                                  · have hl3 : ¬ ((ix + (2 : Int32)) + (1 : Int32)) < (ix + (4 : Int32)) := own_ge1 hc
                                    exfalso; obtain ⟨d1, d2⟩ := pl_d ix en h0' hlt h8; obtain ⟨a1, a2, a3, a4, a5, a6⟩ := pl_off ix h0' d2; rw [Int32.lt_iff_toInt_lt] at hl3; omega
                                  · have hl3 : ((ix + (2 : Int32)) + (1 : Int32)) < (ix + (4 : Int32)) := own_ge0 hc
                                    clear hc
                                    show own_R p e below s _ _ _ s₁ (mkF m 231 #[.val (.ref a1), .val (.int fr), .val (.int en), .val (.int ix), .val (.int ((xs.getD ix.toNatClampNeg 0) &&& (255 : Int32))), .val (.int (4 : Int32)), .val (.int (144 : Int32)), .val (.int (191 : Int32)), .val (.int ((xs.getD (ix + (1 : Int32)).toNatClampNeg 0) &&& (255 : Int32))), .val (.int ((ix + (2 : Int32)) + (1 : Int32)))] [])
                                    refine own_aloadN X0 hx (hb hby d4_231) rfl rfl ?_
                                    refine own_iload X0 hx (hb hby d4_232) rfl ?_
                                    rw [pl_21]
                                    show own_R p e below s _ _ _ s₁ (mkF m 234 #[.val (.ref a1), .val (.int fr), .val (.int en), .val (.int ix), .val (.int ((xs.getD ix.toNatClampNeg 0) &&& (255 : Int32))), .val (.int (4 : Int32)), .val (.int (144 : Int32)), .val (.int (191 : Int32)), .val (.int ((xs.getD (ix + (1 : Int32)).toNatClampNeg 0) &&& (255 : Int32))), .val (.int (ix + (3 : Int32)))] [(.int (ix + (3 : Int32))), (.ref a1)])
                                    refine own_baload X0 hx hZ e0 hV (v := .int (xs.getD (ix + (3 : Int32)).toNatClampNeg 0)) (pl_at3 ix en (4 : Int32) h0' hlt h8 (by decide) hc185) (pl_gd _ _) (hb hby d4_234) ?_
                                    show own_R p e below s _ _ _ s₁ (mkF m 235 #[.val (.ref a1), .val (.int fr), .val (.int en), .val (.int ix), .val (.int ((xs.getD ix.toNatClampNeg 0) &&& (255 : Int32))), .val (.int (4 : Int32)), .val (.int (144 : Int32)), .val (.int (191 : Int32)), .val (.int ((xs.getD (ix + (1 : Int32)).toNatClampNeg 0) &&& (255 : Int32))), .val (.int (ix + (3 : Int32)))] [(.int (xs.getD (ix + (3 : Int32)).toNatClampNeg 0))])
                                    refine own_sipush X0 hx (192 : Int32) (hb hby d4_235) rfl ?_
                                    refine own_iand X0 hx (hb hby d4_238) ?_
                                    refine own_sipush X0 hx (128 : Int32) (hb hby d4_239) rfl ?_
                                    refine own_icmp X0 hx (hb hby d4_242) (pc' := 247) (by decide) (by decide) (fun hc => ?_) (fun hc => ?_)
                                    · have hc242_3 : ((xs.getD (ix + (3 : Int32)).toNatClampNeg 0) &&& (192 : Int32)) = (128 : Int32) := own_eq1 hc
                                      clear hc
                                      show own_R p e below s _ _ _ s₁ (mkF m 247 #[.val (.ref a1), .val (.int fr), .val (.int en), .val (.int ix), .val (.int ((xs.getD ix.toNatClampNeg 0) &&& (255 : Int32))), .val (.int (4 : Int32)), .val (.int (144 : Int32)), .val (.int (191 : Int32)), .val (.int ((xs.getD (ix + (1 : Int32)).toNatClampNeg 0) &&& (255 : Int32))), .val (.int (ix + (3 : Int32)))] [])
                                      refine own_iinc X0 hx (1 : Int32) (hb hby d4_247) rfl rfl (l' := #[.val (.ref a1), .val (.int fr), .val (.int en), .val (.int ix), .val (.int ((xs.getD ix.toNatClampNeg 0) &&& (255 : Int32))), .val (.int (4 : Int32)), .val (.int (144 : Int32)), .val (.int (191 : Int32)), .val (.int ((xs.getD (ix + (1 : Int32)).toNatClampNeg 0) &&& (255 : Int32))), .val (.int ((ix + (3 : Int32)) + (1 : Int32)))]) rfl ?_
                                      refine own_goto X0 hx (hb hby d4_250) (pc' := 222) (by decide) (by decide) ?_
                                      show own_R p e below s _ _ _ s₁ (mkF m 222 #[.val (.ref a1), .val (.int fr), .val (.int en), .val (.int ix), .val (.int ((xs.getD ix.toNatClampNeg 0) &&& (255 : Int32))), .val (.int (4 : Int32)), .val (.int (144 : Int32)), .val (.int (191 : Int32)), .val (.int ((xs.getD (ix + (1 : Int32)).toNatClampNeg 0) &&& (255 : Int32))), .val (.int ((ix + (3 : Int32)) + (1 : Int32)))] [])
                                      refine own_iload X0 hx (hb hby d4_222) rfl ?_
                                      refine own_iloadN X0 hx (hb hby d4_224) rfl ?_
                                      refine own_iload X0 hx (hb hby d4_225) rfl ?_
                                      refine own_iadd X0 hx (hb hby d4_227) ?_
                                      refine own_icmp X0 hx (hb hby d4_228) (pc' := 253) (by decide) (by decide) (fun hc => ?_) (fun hc => ?_)
                                      · have hl4 : ¬ ((ix + (3 : Int32)) + (1 : Int32)) < (ix + (4 : Int32)) := own_ge1 hc
                                        clear hc
                                        show own_R p e below s _ _ _ s₁ (mkF m 253 #[.val (.ref a1), .val (.int fr), .val (.int en), .val (.int ix), .val (.int ((xs.getD ix.toNatClampNeg 0) &&& (255 : Int32))), .val (.int (4 : Int32)), .val (.int (144 : Int32)), .val (.int (191 : Int32)), .val (.int ((xs.getD (ix + (1 : Int32)).toNatClampNeg 0) &&& (255 : Int32))), .val (.int ((ix + (3 : Int32)) + (1 : Int32)))] [])
                                        refine own_iloadN X0 hx (hb hby d4_253) rfl ?_
                                        refine own_iload X0 hx (hb hby d4_254) rfl ?_
                                        refine own_iadd X0 hx (hb hby d4_256) ?_
                                        refine own_istoreN X0 hx (hb hby d4_257) (l' := #[.val (.ref a1), .val (.int fr), .val (.int en), .val (.int (ix + (4 : Int32))), .val (.int ((xs.getD ix.toNatClampNeg 0) &&& (255 : Int32))), .val (.int (4 : Int32)), .val (.int (144 : Int32)), .val (.int (191 : Int32)), .val (.int ((xs.getD (ix + (1 : Int32)).toNatClampNeg 0) &&& (255 : Int32))), .val (.int ((ix + (3 : Int32)) + (1 : Int32)))]) rfl ?_
                                        refine own_goto X0 hx (hb hby d4_258) (pc' := 2) (by decide) (by decide) ?_
                                        show own_R p e below s _ _ _ s₁ (mkF m 2 #[.val (.ref a1), .val (.int fr), .val (.int en), .val (.int (ix + (4 : Int32))), .val (.int ((xs.getD ix.toNatClampNeg 0) &&& (255 : Int32))), .val (.int (4 : Int32)), .val (.int (144 : Int32)), .val (.int (191 : Int32)), .val (.int ((xs.getD (ix + (1 : Int32)).toNatClampNeg 0) &&& (255 : Int32))), .val (.int ((ix + (3 : Int32)) + (1 : Int32)))] [])
                                        have hnl : pl_nl ((xs.getD ix.toNatClampNeg 0) &&& (255 : Int32)) ((xs.getD (ix + (1 : Int32)).toNatClampNeg 0) &&& (255 : Int32)) (xs.getD (ix + (2 : Int32)).toNatClampNeg 0) (xs.getD (ix + (3 : Int32)).toNatClampNeg 0) (en - ix) = (4 : Int32) := by rw [pl_nl, if_neg hc21, if_pos hc45, if_neg hc67, if_pos hc75, if_neg hc125, if_neg hc133, if_pos hc144, if_neg hc162, if_neg hc185, if_neg hc205, if_neg hc212, if_pos hc242_2, if_pos hc242_3]
                                        obtain ⟨u0, uk⟩ := pl_adv ix en (4 : Int32) k h0' hlt h8 hk' (by decide)
                                        exact ih _ _ _ _ _ _ _ (One.val rfl) (One.val rfl) (One.val rfl) (One.val rfl) (One.val rfl) (One.val rfl) u0 uk (by rw [← hr]; conv => rhs; rw [pl_nu, if_pos hlt, hnl, if_neg (by decide)])
                                      · have hl4 : ((ix + (3 : Int32)) + (1 : Int32)) < (ix + (4 : Int32)) := own_ge0 hc
                                        exfalso; obtain ⟨d1, d2⟩ := pl_d ix en h0' hlt h8; obtain ⟨a1, a2, a3, a4, a5, a6⟩ := pl_off ix h0' d2; rw [Int32.lt_iff_toInt_lt] at hl4; omega
                                    · have hc242_3 : ¬ ((xs.getD (ix + (3 : Int32)).toNatClampNeg 0) &&& (192 : Int32)) = (128 : Int32) := own_eq0 hc
                                      clear hc
                                      show own_R p e below s _ _ _ s₁ (mkF m 245 #[.val (.ref a1), .val (.int fr), .val (.int en), .val (.int ix), .val (.int ((xs.getD ix.toNatClampNeg 0) &&& (255 : Int32))), .val (.int (4 : Int32)), .val (.int (144 : Int32)), .val (.int (191 : Int32)), .val (.int ((xs.getD (ix + (1 : Int32)).toNatClampNeg 0) &&& (255 : Int32))), .val (.int (ix + (3 : Int32)))] [])
                                      refine own_iloadN X0 hx (hb hby d4_245) rfl ?_
                                      have hnl : pl_nl ((xs.getD ix.toNatClampNeg 0) &&& (255 : Int32)) ((xs.getD (ix + (1 : Int32)).toNatClampNeg 0) &&& (255 : Int32)) (xs.getD (ix + (2 : Int32)).toNatClampNeg 0) (xs.getD (ix + (3 : Int32)).toNatClampNeg 0) (en - ix) = 0 := by rw [pl_nl, if_neg hc21, if_pos hc45, if_neg hc67, if_pos hc75, if_neg hc125, if_neg hc133, if_pos hc144, if_neg hc162, if_neg hc185, if_neg hc205, if_neg hc212, if_pos hc242_2, if_neg hc242_3]
                                      refine own_retI X0 hx Bd.returns hlk (hb hby d4_246) ?_ (by decide) (by decide)
                                      refine ⟨?_, N0, e0⟩
                                      show some (Value.int _) = some (Value.int (pl_nu xs en 8 fr))
                                      rw [← hr, pl_nu, if_pos hlt, if_pos hnl]
                                · have hc242_2 : ¬ ((xs.getD (ix + (2 : Int32)).toNatClampNeg 0) &&& (192 : Int32)) = (128 : Int32) := own_eq0 hc
                                  clear hc
                                  show own_R p e below s _ _ _ s₁ (mkF m 245 #[.val (.ref a1), .val (.int fr), .val (.int en), .val (.int ix), .val (.int ((xs.getD ix.toNatClampNeg 0) &&& (255 : Int32))), .val (.int (4 : Int32)), .val (.int (144 : Int32)), .val (.int (191 : Int32)), .val (.int ((xs.getD (ix + (1 : Int32)).toNatClampNeg 0) &&& (255 : Int32))), .val (.int (ix + (2 : Int32)))] [])
                                  refine own_iloadN X0 hx (hb hby d4_245) rfl ?_
                                  have hnl : pl_nl ((xs.getD ix.toNatClampNeg 0) &&& (255 : Int32)) ((xs.getD (ix + (1 : Int32)).toNatClampNeg 0) &&& (255 : Int32)) (xs.getD (ix + (2 : Int32)).toNatClampNeg 0) (xs.getD (ix + (3 : Int32)).toNatClampNeg 0) (en - ix) = 0 := by rw [pl_nl, if_neg hc21, if_pos hc45, if_neg hc67, if_pos hc75, if_neg hc125, if_neg hc133, if_pos hc144, if_neg hc162, if_neg hc185, if_neg hc205, if_neg hc212, if_neg hc242_2]
                                  refine own_retI X0 hx Bd.returns hlk (hb hby d4_246) ?_ (by decide) (by decide)
                                  refine ⟨?_, N0, e0⟩
                                  show some (Value.int _) = some (Value.int (pl_nu xs en 8 fr))
                                  rw [← hr, pl_nu, if_pos hlt, if_pos hnl]
                            · have hc212 : (191 : Int32) < ((xs.getD (ix + (1 : Int32)).toNatClampNeg 0) &&& (255 : Int32)) := own_le0 hc
                              clear hc
                              show own_R p e below s _ _ _ s₁ (mkF m 215 #[.val (.ref a1), .val (.int fr), .val (.int en), .val (.int ix), .val (.int ((xs.getD ix.toNatClampNeg 0) &&& (255 : Int32))), .val (.int (4 : Int32)), .val (.int (144 : Int32)), .val (.int (191 : Int32)), .val (.int ((xs.getD (ix + (1 : Int32)).toNatClampNeg 0) &&& (255 : Int32))), s9] [])
                              refine own_iloadN X0 hx (hb hby d4_215) rfl ?_
                              have hnl : pl_nl ((xs.getD ix.toNatClampNeg 0) &&& (255 : Int32)) ((xs.getD (ix + (1 : Int32)).toNatClampNeg 0) &&& (255 : Int32)) (xs.getD (ix + (2 : Int32)).toNatClampNeg 0) (xs.getD (ix + (3 : Int32)).toNatClampNeg 0) (en - ix) = 0 := by rw [pl_nl, if_neg hc21, if_pos hc45, if_neg hc67, if_pos hc75, if_neg hc125, if_neg hc133, if_pos hc144, if_neg hc162, if_neg hc185, if_neg hc205, if_pos hc212]
                              refine own_retI X0 hx Bd.returns hlk (hb hby d4_216) ?_ (by decide) (by decide)
                              refine ⟨?_, N0, e0⟩
                              show some (Value.int _) = some (Value.int (pl_nu xs en 8 fr))
                              rw [← hr, pl_nu, if_pos hlt, if_pos hnl]
                        · have hc185 : (en - ix) < (4 : Int32) := own_ge0 hc
                          clear hc
                          show own_R p e below s _ _ _ s₁ (mkF m 188 #[.val (.ref a1), .val (.int fr), .val (.int en), .val (.int ix), .val (.int ((xs.getD ix.toNatClampNeg 0) &&& (255 : Int32))), .val (.int (4 : Int32)), .val (.int (144 : Int32)), .val (.int (191 : Int32)), s8, s9] [])
                          refine own_iloadN X0 hx (hb hby d4_188) rfl ?_
                          have hnl : pl_nl ((xs.getD ix.toNatClampNeg 0) &&& (255 : Int32)) ((xs.getD (ix + (1 : Int32)).toNatClampNeg 0) &&& (255 : Int32)) (xs.getD (ix + (2 : Int32)).toNatClampNeg 0) (xs.getD (ix + (3 : Int32)).toNatClampNeg 0) (en - ix) = 0 := by rw [pl_nl, if_neg hc21, if_pos hc45, if_neg hc67, if_pos hc75, if_neg hc125, if_neg hc133, if_pos hc144, if_neg hc162, if_pos hc185]
                          refine own_retI X0 hx Bd.returns hlk (hb hby d4_189) ?_ (by decide) (by decide)
                          refine ⟨?_, N0, e0⟩
                          show some (Value.int _) = some (Value.int (pl_nu xs en 8 fr))
                          rw [← hr, pl_nu, if_pos hlt, if_pos hnl]
                      · have hc162 : ((xs.getD ix.toNatClampNeg 0) &&& (255 : Int32)) = (244 : Int32) := own_ne0 hc
                        clear hc
                        show own_R p e below s _ _ _ s₁ (mkF m 165 #[.val (.ref a1), .val (.int fr), .val (.int en), .val (.int ix), .val (.int ((xs.getD ix.toNatClampNeg 0) &&& (255 : Int32))), .val (.int (4 : Int32)), .val (.int (144 : Int32)), .val (.int (191 : Int32)), s8, s9] [])
                        refine own_sipush X0 hx (143 : Int32) (hb hby d4_165) rfl ?_
                        refine own_goto X0 hx (hb hby d4_168) (pc' := 173) (by decide) (by decide) ?_
                        show own_R p e below s _ _ _ s₁ (mkF m 173 #[.val (.ref a1), .val (.int fr), .val (.int en), .val (.int ix), .val (.int ((xs.getD ix.toNatClampNeg 0) &&& (255 : Int32))), .val (.int (4 : Int32)), .val (.int (144 : Int32)), .val (.int (191 : Int32)), s8, s9] [(.int (143 : Int32))])
                        refine own_istore X0 hx (hb hby d4_173) (l' := #[.val (.ref a1), .val (.int fr), .val (.int en), .val (.int ix), .val (.int ((xs.getD ix.toNatClampNeg 0) &&& (255 : Int32))), .val (.int (4 : Int32)), .val (.int (144 : Int32)), .val (.int (143 : Int32)), s8, s9]) rfl ?_
                        refine own_goto X0 hx (hb hby d4_175) (pc' := 180) (by decide) (by decide) ?_
                        show own_R p e below s _ _ _ s₁ (mkF m 180 #[.val (.ref a1), .val (.int fr), .val (.int en), .val (.int ix), .val (.int ((xs.getD ix.toNatClampNeg 0) &&& (255 : Int32))), .val (.int (4 : Int32)), .val (.int (144 : Int32)), .val (.int (143 : Int32)), s8, s9] [])
                        refine own_iloadN X0 hx (hb hby d4_180) rfl ?_
                        refine own_iloadN X0 hx (hb hby d4_181) rfl ?_
                        refine own_isub X0 hx (hb hby d4_182) ?_
                        refine own_iload X0 hx (hb hby d4_183) rfl ?_
                        refine own_icmp X0 hx (hb hby d4_185) (pc' := 190) (by decide) (by decide) (fun hc => ?_) (fun hc => ?_)
                        · have hc185 : ¬ (en - ix) < (4 : Int32) := own_ge1 hc
                          clear hc
                          show own_R p e below s _ _ _ s₁ (mkF m 190 #[.val (.ref a1), .val (.int fr), .val (.int en), .val (.int ix), .val (.int ((xs.getD ix.toNatClampNeg 0) &&& (255 : Int32))), .val (.int (4 : Int32)), .val (.int (144 : Int32)), .val (.int (143 : Int32)), s8, s9] [])
                          refine own_aloadN X0 hx (hb hby d4_190) rfl rfl ?_
                          refine own_iloadN X0 hx (hb hby d4_191) rfl ?_
                          refine own_iconst X0 hx (1 : Int32) (hb hby d4_192) rfl ?_
                          refine own_iadd X0 hx (hb hby d4_193) ?_
                          refine own_baload X0 hx hZ e0 hV (v := .int (xs.getD (ix + (1 : Int32)).toNatClampNeg 0)) (pl_at1 ix en (4 : Int32) h0' hlt h8 (by decide) hc185) (pl_gd _ _) (hb hby d4_194) ?_
                          show own_R p e below s _ _ _ s₁ (mkF m 195 #[.val (.ref a1), .val (.int fr), .val (.int en), .val (.int ix), .val (.int ((xs.getD ix.toNatClampNeg 0) &&& (255 : Int32))), .val (.int (4 : Int32)), .val (.int (144 : Int32)), .val (.int (143 : Int32)), s8, s9] [(.int (xs.getD (ix + (1 : Int32)).toNatClampNeg 0))])
                          refine own_sipush X0 hx (255 : Int32) (hb hby d4_195) rfl ?_
                          refine own_iand X0 hx (hb hby d4_198) ?_
                          refine own_istore X0 hx (hb hby d4_199) (l' := #[.val (.ref a1), .val (.int fr), .val (.int en), .val (.int ix), .val (.int ((xs.getD ix.toNatClampNeg 0) &&& (255 : Int32))), .val (.int (4 : Int32)), .val (.int (144 : Int32)), .val (.int (143 : Int32)), .val (.int ((xs.getD (ix + (1 : Int32)).toNatClampNeg 0) &&& (255 : Int32))), s9]) (by rcases hs8 with rfl | ⟨w, rfl, hw'⟩ <;> first | rfl | (cases w <;> first | rfl | (simp [Value.category] at hw'))) ?_
                          refine own_iload X0 hx (hb hby d4_201) rfl ?_
                          refine own_iload X0 hx (hb hby d4_203) rfl ?_
                          refine own_icmp X0 hx (hb hby d4_205) (pc' := 215) (by decide) (by decide) (fun hc => ?_) (fun hc => ?_)
                          · have hc205 : ((xs.getD (ix + (1 : Int32)).toNatClampNeg 0) &&& (255 : Int32)) < (144 : Int32) := own_lt1 hc
                            clear hc
                            show own_R p e below s _ _ _ s₁ (mkF m 215 #[.val (.ref a1), .val (.int fr), .val (.int en), .val (.int ix), .val (.int ((xs.getD ix.toNatClampNeg 0) &&& (255 : Int32))), .val (.int (4 : Int32)), .val (.int (144 : Int32)), .val (.int (143 : Int32)), .val (.int ((xs.getD (ix + (1 : Int32)).toNatClampNeg 0) &&& (255 : Int32))), s9] [])
                            refine own_iloadN X0 hx (hb hby d4_215) rfl ?_
                            have hnl : pl_nl ((xs.getD ix.toNatClampNeg 0) &&& (255 : Int32)) ((xs.getD (ix + (1 : Int32)).toNatClampNeg 0) &&& (255 : Int32)) (xs.getD (ix + (2 : Int32)).toNatClampNeg 0) (xs.getD (ix + (3 : Int32)).toNatClampNeg 0) (en - ix) = 0 := by rw [pl_nl, if_neg hc21, if_pos hc45, if_neg hc67, if_pos hc75, if_neg hc125, if_neg hc133, if_pos hc144, if_pos hc162, if_neg hc185, if_pos hc205]
                            refine own_retI X0 hx Bd.returns hlk (hb hby d4_216) ?_ (by decide) (by decide)
                            refine ⟨?_, N0, e0⟩
                            show some (Value.int _) = some (Value.int (pl_nu xs en 8 fr))
                            rw [← hr, pl_nu, if_pos hlt, if_pos hnl]
                          · have hc205 : ¬ ((xs.getD (ix + (1 : Int32)).toNatClampNeg 0) &&& (255 : Int32)) < (144 : Int32) := own_lt0 hc
                            clear hc
                            show own_R p e below s _ _ _ s₁ (mkF m 208 #[.val (.ref a1), .val (.int fr), .val (.int en), .val (.int ix), .val (.int ((xs.getD ix.toNatClampNeg 0) &&& (255 : Int32))), .val (.int (4 : Int32)), .val (.int (144 : Int32)), .val (.int (143 : Int32)), .val (.int ((xs.getD (ix + (1 : Int32)).toNatClampNeg 0) &&& (255 : Int32))), s9] [])
                            refine own_iload X0 hx (hb hby d4_208) rfl ?_
                            refine own_iload X0 hx (hb hby d4_210) rfl ?_
                            refine own_icmp X0 hx (hb hby d4_212) (pc' := 217) (by decide) (by decide) (fun hc => ?_) (fun hc => ?_)
                            · have hc212 : ¬ (143 : Int32) < ((xs.getD (ix + (1 : Int32)).toNatClampNeg 0) &&& (255 : Int32)) := own_le1 hc
                              clear hc
                              show own_R p e below s _ _ _ s₁ (mkF m 217 #[.val (.ref a1), .val (.int fr), .val (.int en), .val (.int ix), .val (.int ((xs.getD ix.toNatClampNeg 0) &&& (255 : Int32))), .val (.int (4 : Int32)), .val (.int (144 : Int32)), .val (.int (143 : Int32)), .val (.int ((xs.getD (ix + (1 : Int32)).toNatClampNeg 0) &&& (255 : Int32))), s9] [])
                              refine own_iloadN X0 hx (hb hby d4_217) rfl ?_
                              refine own_iconst X0 hx (2 : Int32) (hb hby d4_218) rfl ?_
                              refine own_iadd X0 hx (hb hby d4_219) ?_
                              refine own_istore X0 hx (hb hby d4_220) (l' := #[.val (.ref a1), .val (.int fr), .val (.int en), .val (.int ix), .val (.int ((xs.getD ix.toNatClampNeg 0) &&& (255 : Int32))), .val (.int (4 : Int32)), .val (.int (144 : Int32)), .val (.int (143 : Int32)), .val (.int ((xs.getD (ix + (1 : Int32)).toNatClampNeg 0) &&& (255 : Int32))), .val (.int (ix + (2 : Int32)))]) (by rcases hs9 with rfl | ⟨w, rfl, hw'⟩ <;> first | rfl | (cases w <;> first | rfl | (simp [Value.category] at hw'))) ?_
                              refine own_iload X0 hx (hb hby d4_222) rfl ?_
                              refine own_iloadN X0 hx (hb hby d4_224) rfl ?_
                              refine own_iload X0 hx (hb hby d4_225) rfl ?_
                              refine own_iadd X0 hx (hb hby d4_227) ?_
                              refine own_icmp X0 hx (hb hby d4_228) (pc' := 253) (by decide) (by decide) (fun hc => ?_) (fun hc => ?_)
                              · have hl2 : ¬ (ix + (2 : Int32)) < (ix + (4 : Int32)) := own_ge1 hc
                                exfalso; obtain ⟨d1, d2⟩ := pl_d ix en h0' hlt h8; obtain ⟨a1, a2, a3, a4, a5, a6⟩ := pl_off ix h0' d2; rw [Int32.lt_iff_toInt_lt] at hl2; omega
                              · have hl2 : (ix + (2 : Int32)) < (ix + (4 : Int32)) := own_ge0 hc
                                clear hc
                                show own_R p e below s _ _ _ s₁ (mkF m 231 #[.val (.ref a1), .val (.int fr), .val (.int en), .val (.int ix), .val (.int ((xs.getD ix.toNatClampNeg 0) &&& (255 : Int32))), .val (.int (4 : Int32)), .val (.int (144 : Int32)), .val (.int (143 : Int32)), .val (.int ((xs.getD (ix + (1 : Int32)).toNatClampNeg 0) &&& (255 : Int32))), .val (.int (ix + (2 : Int32)))] [])
                                refine own_aloadN X0 hx (hb hby d4_231) rfl rfl ?_
                                refine own_iload X0 hx (hb hby d4_232) rfl ?_
                                refine own_baload X0 hx hZ e0 hV (v := .int (xs.getD (ix + (2 : Int32)).toNatClampNeg 0)) (pl_at2 ix en (4 : Int32) h0' hlt h8 (by decide) hc185) (pl_gd _ _) (hb hby d4_234) ?_
                                show own_R p e below s _ _ _ s₁ (mkF m 235 #[.val (.ref a1), .val (.int fr), .val (.int en), .val (.int ix), .val (.int ((xs.getD ix.toNatClampNeg 0) &&& (255 : Int32))), .val (.int (4 : Int32)), .val (.int (144 : Int32)), .val (.int (143 : Int32)), .val (.int ((xs.getD (ix + (1 : Int32)).toNatClampNeg 0) &&& (255 : Int32))), .val (.int (ix + (2 : Int32)))] [(.int (xs.getD (ix + (2 : Int32)).toNatClampNeg 0))])
                                refine own_sipush X0 hx (192 : Int32) (hb hby d4_235) rfl ?_
                                refine own_iand X0 hx (hb hby d4_238) ?_
                                refine own_sipush X0 hx (128 : Int32) (hb hby d4_239) rfl ?_
                                refine own_icmp X0 hx (hb hby d4_242) (pc' := 247) (by decide) (by decide) (fun hc => ?_) (fun hc => ?_)
                                · have hc242_2 : ((xs.getD (ix + (2 : Int32)).toNatClampNeg 0) &&& (192 : Int32)) = (128 : Int32) := own_eq1 hc
                                  clear hc
                                  show own_R p e below s _ _ _ s₁ (mkF m 247 #[.val (.ref a1), .val (.int fr), .val (.int en), .val (.int ix), .val (.int ((xs.getD ix.toNatClampNeg 0) &&& (255 : Int32))), .val (.int (4 : Int32)), .val (.int (144 : Int32)), .val (.int (143 : Int32)), .val (.int ((xs.getD (ix + (1 : Int32)).toNatClampNeg 0) &&& (255 : Int32))), .val (.int (ix + (2 : Int32)))] [])
                                  refine own_iinc X0 hx (1 : Int32) (hb hby d4_247) rfl rfl (l' := #[.val (.ref a1), .val (.int fr), .val (.int en), .val (.int ix), .val (.int ((xs.getD ix.toNatClampNeg 0) &&& (255 : Int32))), .val (.int (4 : Int32)), .val (.int (144 : Int32)), .val (.int (143 : Int32)), .val (.int ((xs.getD (ix + (1 : Int32)).toNatClampNeg 0) &&& (255 : Int32))), .val (.int ((ix + (2 : Int32)) + (1 : Int32)))]) rfl ?_
                                  refine own_goto X0 hx (hb hby d4_250) (pc' := 222) (by decide) (by decide) ?_
                                  show own_R p e below s _ _ _ s₁ (mkF m 222 #[.val (.ref a1), .val (.int fr), .val (.int en), .val (.int ix), .val (.int ((xs.getD ix.toNatClampNeg 0) &&& (255 : Int32))), .val (.int (4 : Int32)), .val (.int (144 : Int32)), .val (.int (143 : Int32)), .val (.int ((xs.getD (ix + (1 : Int32)).toNatClampNeg 0) &&& (255 : Int32))), .val (.int ((ix + (2 : Int32)) + (1 : Int32)))] [])
                                  refine own_iload X0 hx (hb hby d4_222) rfl ?_
                                  refine own_iloadN X0 hx (hb hby d4_224) rfl ?_
                                  refine own_iload X0 hx (hb hby d4_225) rfl ?_
                                  refine own_iadd X0 hx (hb hby d4_227) ?_
                                  refine own_icmp X0 hx (hb hby d4_228) (pc' := 253) (by decide) (by decide) (fun hc => ?_) (fun hc => ?_)
                                  · have hl3 : ¬ ((ix + (2 : Int32)) + (1 : Int32)) < (ix + (4 : Int32)) := own_ge1 hc
                                    exfalso; obtain ⟨d1, d2⟩ := pl_d ix en h0' hlt h8; obtain ⟨a1, a2, a3, a4, a5, a6⟩ := pl_off ix h0' d2; rw [Int32.lt_iff_toInt_lt] at hl3; omega
                                  · have hl3 : ((ix + (2 : Int32)) + (1 : Int32)) < (ix + (4 : Int32)) := own_ge0 hc
                                    clear hc
                                    show own_R p e below s _ _ _ s₁ (mkF m 231 #[.val (.ref a1), .val (.int fr), .val (.int en), .val (.int ix), .val (.int ((xs.getD ix.toNatClampNeg 0) &&& (255 : Int32))), .val (.int (4 : Int32)), .val (.int (144 : Int32)), .val (.int (143 : Int32)), .val (.int ((xs.getD (ix + (1 : Int32)).toNatClampNeg 0) &&& (255 : Int32))), .val (.int ((ix + (2 : Int32)) + (1 : Int32)))] [])
                                    refine own_aloadN X0 hx (hb hby d4_231) rfl rfl ?_
                                    refine own_iload X0 hx (hb hby d4_232) rfl ?_
                                    rw [pl_21]
                                    show own_R p e below s _ _ _ s₁ (mkF m 234 #[.val (.ref a1), .val (.int fr), .val (.int en), .val (.int ix), .val (.int ((xs.getD ix.toNatClampNeg 0) &&& (255 : Int32))), .val (.int (4 : Int32)), .val (.int (144 : Int32)), .val (.int (143 : Int32)), .val (.int ((xs.getD (ix + (1 : Int32)).toNatClampNeg 0) &&& (255 : Int32))), .val (.int (ix + (3 : Int32)))] [(.int (ix + (3 : Int32))), (.ref a1)])
                                    refine own_baload X0 hx hZ e0 hV (v := .int (xs.getD (ix + (3 : Int32)).toNatClampNeg 0)) (pl_at3 ix en (4 : Int32) h0' hlt h8 (by decide) hc185) (pl_gd _ _) (hb hby d4_234) ?_
                                    show own_R p e below s _ _ _ s₁ (mkF m 235 #[.val (.ref a1), .val (.int fr), .val (.int en), .val (.int ix), .val (.int ((xs.getD ix.toNatClampNeg 0) &&& (255 : Int32))), .val (.int (4 : Int32)), .val (.int (144 : Int32)), .val (.int (143 : Int32)), .val (.int ((xs.getD (ix + (1 : Int32)).toNatClampNeg 0) &&& (255 : Int32))), .val (.int (ix + (3 : Int32)))] [(.int (xs.getD (ix + (3 : Int32)).toNatClampNeg 0))])
                                    refine own_sipush X0 hx (192 : Int32) (hb hby d4_235) rfl ?_
                                    refine own_iand X0 hx (hb hby d4_238) ?_
                                    refine own_sipush X0 hx (128 : Int32) (hb hby d4_239) rfl ?_
                                    refine own_icmp X0 hx (hb hby d4_242) (pc' := 247) (by decide) (by decide) (fun hc => ?_) (fun hc => ?_)
                                    · have hc242_3 : ((xs.getD (ix + (3 : Int32)).toNatClampNeg 0) &&& (192 : Int32)) = (128 : Int32) := own_eq1 hc
                                      clear hc
                                      show own_R p e below s _ _ _ s₁ (mkF m 247 #[.val (.ref a1), .val (.int fr), .val (.int en), .val (.int ix), .val (.int ((xs.getD ix.toNatClampNeg 0) &&& (255 : Int32))), .val (.int (4 : Int32)), .val (.int (144 : Int32)), .val (.int (143 : Int32)), .val (.int ((xs.getD (ix + (1 : Int32)).toNatClampNeg 0) &&& (255 : Int32))), .val (.int (ix + (3 : Int32)))] [])
                                      refine own_iinc X0 hx (1 : Int32) (hb hby d4_247) rfl rfl (l' := #[.val (.ref a1), .val (.int fr), .val (.int en), .val (.int ix), .val (.int ((xs.getD ix.toNatClampNeg 0) &&& (255 : Int32))), .val (.int (4 : Int32)), .val (.int (144 : Int32)), .val (.int (143 : Int32)), .val (.int ((xs.getD (ix + (1 : Int32)).toNatClampNeg 0) &&& (255 : Int32))), .val (.int ((ix + (3 : Int32)) + (1 : Int32)))]) rfl ?_
                                      refine own_goto X0 hx (hb hby d4_250) (pc' := 222) (by decide) (by decide) ?_
                                      show own_R p e below s _ _ _ s₁ (mkF m 222 #[.val (.ref a1), .val (.int fr), .val (.int en), .val (.int ix), .val (.int ((xs.getD ix.toNatClampNeg 0) &&& (255 : Int32))), .val (.int (4 : Int32)), .val (.int (144 : Int32)), .val (.int (143 : Int32)), .val (.int ((xs.getD (ix + (1 : Int32)).toNatClampNeg 0) &&& (255 : Int32))), .val (.int ((ix + (3 : Int32)) + (1 : Int32)))] [])
                                      refine own_iload X0 hx (hb hby d4_222) rfl ?_
                                      refine own_iloadN X0 hx (hb hby d4_224) rfl ?_
                                      refine own_iload X0 hx (hb hby d4_225) rfl ?_
                                      refine own_iadd X0 hx (hb hby d4_227) ?_
                                      refine own_icmp X0 hx (hb hby d4_228) (pc' := 253) (by decide) (by decide) (fun hc => ?_) (fun hc => ?_)
                                      · have hl4 : ¬ ((ix + (3 : Int32)) + (1 : Int32)) < (ix + (4 : Int32)) := own_ge1 hc
                                        clear hc
                                        show own_R p e below s _ _ _ s₁ (mkF m 253 #[.val (.ref a1), .val (.int fr), .val (.int en), .val (.int ix), .val (.int ((xs.getD ix.toNatClampNeg 0) &&& (255 : Int32))), .val (.int (4 : Int32)), .val (.int (144 : Int32)), .val (.int (143 : Int32)), .val (.int ((xs.getD (ix + (1 : Int32)).toNatClampNeg 0) &&& (255 : Int32))), .val (.int ((ix + (3 : Int32)) + (1 : Int32)))] [])
                                        refine own_iloadN X0 hx (hb hby d4_253) rfl ?_
                                        refine own_iload X0 hx (hb hby d4_254) rfl ?_
                                        refine own_iadd X0 hx (hb hby d4_256) ?_
                                        refine own_istoreN X0 hx (hb hby d4_257) (l' := #[.val (.ref a1), .val (.int fr), .val (.int en), .val (.int (ix + (4 : Int32))), .val (.int ((xs.getD ix.toNatClampNeg 0) &&& (255 : Int32))), .val (.int (4 : Int32)), .val (.int (144 : Int32)), .val (.int (143 : Int32)), .val (.int ((xs.getD (ix + (1 : Int32)).toNatClampNeg 0) &&& (255 : Int32))), .val (.int ((ix + (3 : Int32)) + (1 : Int32)))]) rfl ?_
                                        refine own_goto X0 hx (hb hby d4_258) (pc' := 2) (by decide) (by decide) ?_
                                        show own_R p e below s _ _ _ s₁ (mkF m 2 #[.val (.ref a1), .val (.int fr), .val (.int en), .val (.int (ix + (4 : Int32))), .val (.int ((xs.getD ix.toNatClampNeg 0) &&& (255 : Int32))), .val (.int (4 : Int32)), .val (.int (144 : Int32)), .val (.int (143 : Int32)), .val (.int ((xs.getD (ix + (1 : Int32)).toNatClampNeg 0) &&& (255 : Int32))), .val (.int ((ix + (3 : Int32)) + (1 : Int32)))] [])
                                        have hnl : pl_nl ((xs.getD ix.toNatClampNeg 0) &&& (255 : Int32)) ((xs.getD (ix + (1 : Int32)).toNatClampNeg 0) &&& (255 : Int32)) (xs.getD (ix + (2 : Int32)).toNatClampNeg 0) (xs.getD (ix + (3 : Int32)).toNatClampNeg 0) (en - ix) = (4 : Int32) := by rw [pl_nl, if_neg hc21, if_pos hc45, if_neg hc67, if_pos hc75, if_neg hc125, if_neg hc133, if_pos hc144, if_pos hc162, if_neg hc185, if_neg hc205, if_neg hc212, if_pos hc242_2, if_pos hc242_3]
                                        obtain ⟨u0, uk⟩ := pl_adv ix en (4 : Int32) k h0' hlt h8 hk' (by decide)
                                        exact ih _ _ _ _ _ _ _ (One.val rfl) (One.val rfl) (One.val rfl) (One.val rfl) (One.val rfl) (One.val rfl) u0 uk (by rw [← hr]; conv => rhs; rw [pl_nu, if_pos hlt, hnl, if_neg (by decide)])
                                      · have hl4 : ((ix + (3 : Int32)) + (1 : Int32)) < (ix + (4 : Int32)) := own_ge0 hc
                                        exfalso; obtain ⟨d1, d2⟩ := pl_d ix en h0' hlt h8; obtain ⟨a1, a2, a3, a4, a5, a6⟩ := pl_off ix h0' d2; rw [Int32.lt_iff_toInt_lt] at hl4; omega
                                    · have hc242_3 : ¬ ((xs.getD (ix + (3 : Int32)).toNatClampNeg 0) &&& (192 : Int32)) = (128 : Int32) := own_eq0 hc
                                      clear hc
                                      show own_R p e below s _ _ _ s₁ (mkF m 245 #[.val (.ref a1), .val (.int fr), .val (.int en), .val (.int ix), .val (.int ((xs.getD ix.toNatClampNeg 0) &&& (255 : Int32))), .val (.int (4 : Int32)), .val (.int (144 : Int32)), .val (.int (143 : Int32)), .val (.int ((xs.getD (ix + (1 : Int32)).toNatClampNeg 0) &&& (255 : Int32))), .val (.int (ix + (3 : Int32)))] [])
                                      refine own_iloadN X0 hx (hb hby d4_245) rfl ?_
                                      have hnl : pl_nl ((xs.getD ix.toNatClampNeg 0) &&& (255 : Int32)) ((xs.getD (ix + (1 : Int32)).toNatClampNeg 0) &&& (255 : Int32)) (xs.getD (ix + (2 : Int32)).toNatClampNeg 0) (xs.getD (ix + (3 : Int32)).toNatClampNeg 0) (en - ix) = 0 := by rw [pl_nl, if_neg hc21, if_pos hc45, if_neg hc67, if_pos hc75, if_neg hc125, if_neg hc133, if_pos hc144, if_pos hc162, if_neg hc185, if_neg hc205, if_neg hc212, if_pos hc242_2, if_neg hc242_3]
                                      refine own_retI X0 hx Bd.returns hlk (hb hby d4_246) ?_ (by decide) (by decide)
                                      refine ⟨?_, N0, e0⟩
                                      show some (Value.int _) = some (Value.int (pl_nu xs en 8 fr))
                                      rw [← hr, pl_nu, if_pos hlt, if_pos hnl]
                                · have hc242_2 : ¬ ((xs.getD (ix + (2 : Int32)).toNatClampNeg 0) &&& (192 : Int32)) = (128 : Int32) := own_eq0 hc
                                  clear hc
                                  show own_R p e below s _ _ _ s₁ (mkF m 245 #[.val (.ref a1), .val (.int fr), .val (.int en), .val (.int ix), .val (.int ((xs.getD ix.toNatClampNeg 0) &&& (255 : Int32))), .val (.int (4 : Int32)), .val (.int (144 : Int32)), .val (.int (143 : Int32)), .val (.int ((xs.getD (ix + (1 : Int32)).toNatClampNeg 0) &&& (255 : Int32))), .val (.int (ix + (2 : Int32)))] [])
                                  refine own_iloadN X0 hx (hb hby d4_245) rfl ?_
                                  have hnl : pl_nl ((xs.getD ix.toNatClampNeg 0) &&& (255 : Int32)) ((xs.getD (ix + (1 : Int32)).toNatClampNeg 0) &&& (255 : Int32)) (xs.getD (ix + (2 : Int32)).toNatClampNeg 0) (xs.getD (ix + (3 : Int32)).toNatClampNeg 0) (en - ix) = 0 := by rw [pl_nl, if_neg hc21, if_pos hc45, if_neg hc67, if_pos hc75, if_neg hc125, if_neg hc133, if_pos hc144, if_pos hc162, if_neg hc185, if_neg hc205, if_neg hc212, if_neg hc242_2]
                                  refine own_retI X0 hx Bd.returns hlk (hb hby d4_246) ?_ (by decide) (by decide)
                                  refine ⟨?_, N0, e0⟩
                                  show some (Value.int _) = some (Value.int (pl_nu xs en 8 fr))
                                  rw [← hr, pl_nu, if_pos hlt, if_pos hnl]
                            · have hc212 : (143 : Int32) < ((xs.getD (ix + (1 : Int32)).toNatClampNeg 0) &&& (255 : Int32)) := own_le0 hc
                              clear hc
                              show own_R p e below s _ _ _ s₁ (mkF m 215 #[.val (.ref a1), .val (.int fr), .val (.int en), .val (.int ix), .val (.int ((xs.getD ix.toNatClampNeg 0) &&& (255 : Int32))), .val (.int (4 : Int32)), .val (.int (144 : Int32)), .val (.int (143 : Int32)), .val (.int ((xs.getD (ix + (1 : Int32)).toNatClampNeg 0) &&& (255 : Int32))), s9] [])
                              refine own_iloadN X0 hx (hb hby d4_215) rfl ?_
                              have hnl : pl_nl ((xs.getD ix.toNatClampNeg 0) &&& (255 : Int32)) ((xs.getD (ix + (1 : Int32)).toNatClampNeg 0) &&& (255 : Int32)) (xs.getD (ix + (2 : Int32)).toNatClampNeg 0) (xs.getD (ix + (3 : Int32)).toNatClampNeg 0) (en - ix) = 0 := by rw [pl_nl, if_neg hc21, if_pos hc45, if_neg hc67, if_pos hc75, if_neg hc125, if_neg hc133, if_pos hc144, if_pos hc162, if_neg hc185, if_neg hc205, if_pos hc212]
                              refine own_retI X0 hx Bd.returns hlk (hb hby d4_216) ?_ (by decide) (by decide)
                              refine ⟨?_, N0, e0⟩
                              show some (Value.int _) = some (Value.int (pl_nu xs en 8 fr))
                              rw [← hr, pl_nu, if_pos hlt, if_pos hnl]
                        · have hc185 : (en - ix) < (4 : Int32) := own_ge0 hc
                          clear hc
                          show own_R p e below s _ _ _ s₁ (mkF m 188 #[.val (.ref a1), .val (.int fr), .val (.int en), .val (.int ix), .val (.int ((xs.getD ix.toNatClampNeg 0) &&& (255 : Int32))), .val (.int (4 : Int32)), .val (.int (144 : Int32)), .val (.int (143 : Int32)), s8, s9] [])
                          refine own_iloadN X0 hx (hb hby d4_188) rfl ?_
                          have hnl : pl_nl ((xs.getD ix.toNatClampNeg 0) &&& (255 : Int32)) ((xs.getD (ix + (1 : Int32)).toNatClampNeg 0) &&& (255 : Int32)) (xs.getD (ix + (2 : Int32)).toNatClampNeg 0) (xs.getD (ix + (3 : Int32)).toNatClampNeg 0) (en - ix) = 0 := by rw [pl_nl, if_neg hc21, if_pos hc45, if_neg hc67, if_pos hc75, if_neg hc125, if_neg hc133, if_pos hc144, if_pos hc162, if_pos hc185]
                          refine own_retI X0 hx Bd.returns hlk (hb hby d4_189) ?_ (by decide) (by decide)
                          refine ⟨?_, N0, e0⟩
                          show some (Value.int _) = some (Value.int (pl_nu xs en 8 fr))
                          rw [← hr, pl_nu, if_pos hlt, if_pos hnl]
              · have hc75 : ¬ (239 : Int32) < ((xs.getD ix.toNatClampNeg 0) &&& (255 : Int32)) := own_gt0 hc
                clear hc
                show own_R p e below s _ _ _ s₁ (mkF m 78 #[.val (.ref a1), .val (.int fr), .val (.int en), .val (.int ix), .val (.int ((xs.getD ix.toNatClampNeg 0) &&& (255 : Int32))), s5, .val (.int (128 : Int32)), .val (.int (191 : Int32)), s8, s9] [])
                refine own_iconst X0 hx (3 : Int32) (hb hby d4_78) rfl ?_
                refine own_istore X0 hx (hb hby d4_79) (l' := #[.val (.ref a1), .val (.int fr), .val (.int en), .val (.int ix), .val (.int ((xs.getD ix.toNatClampNeg 0) &&& (255 : Int32))), .val (.int (3 : Int32)), .val (.int (128 : Int32)), .val (.int (191 : Int32)), s8, s9]) (by rcases hs5 with rfl | ⟨w, rfl, hw'⟩ <;> first | rfl | (cases w <;> first | rfl | (simp [Value.category] at hw'))) ?_
                refine own_iload X0 hx (hb hby d4_81) rfl ?_
                refine own_sipush X0 hx (224 : Int32) (hb hby d4_83) rfl ?_
                refine own_icmp X0 hx (hb hby d4_86) (pc' := 95) (by decide) (by decide) (fun hc => ?_) (fun hc => ?_)
                · have hc86 : ¬ ((xs.getD ix.toNatClampNeg 0) &&& (255 : Int32)) = (224 : Int32) := own_ne1 hc
                  clear hc
                  show own_R p e below s _ _ _ s₁ (mkF m 95 #[.val (.ref a1), .val (.int fr), .val (.int en), .val (.int ix), .val (.int ((xs.getD ix.toNatClampNeg 0) &&& (255 : Int32))), .val (.int (3 : Int32)), .val (.int (128 : Int32)), .val (.int (191 : Int32)), s8, s9] [])
                  refine own_iload X0 hx (hb hby d4_95) rfl ?_
                  refine own_istore X0 hx (hb hby d4_97) (l' := #[.val (.ref a1), .val (.int fr), .val (.int en), .val (.int ix), .val (.int ((xs.getD ix.toNatClampNeg 0) &&& (255 : Int32))), .val (.int (3 : Int32)), .val (.int (128 : Int32)), .val (.int (191 : Int32)), s8, s9]) rfl ?_
                  refine own_iload X0 hx (hb hby d4_99) rfl ?_
                  refine own_sipush X0 hx (237 : Int32) (hb hby d4_101) rfl ?_
                  refine own_icmp X0 hx (hb hby d4_104) (pc' := 113) (by decide) (by decide) (fun hc => ?_) (fun hc => ?_)
                  · have hc104 : ¬ ((xs.getD ix.toNatClampNeg 0) &&& (255 : Int32)) = (237 : Int32) := own_ne1 hc
                    clear hc
                    show own_R p e below s _ _ _ s₁ (mkF m 113 #[.val (.ref a1), .val (.int fr), .val (.int en), .val (.int ix), .val (.int ((xs.getD ix.toNatClampNeg 0) &&& (255 : Int32))), .val (.int (3 : Int32)), .val (.int (128 : Int32)), .val (.int (191 : Int32)), s8, s9] [])
                    refine own_iload X0 hx (hb hby d4_113) rfl ?_
                    refine own_istore X0 hx (hb hby d4_115) (l' := #[.val (.ref a1), .val (.int fr), .val (.int en), .val (.int ix), .val (.int ((xs.getD ix.toNatClampNeg 0) &&& (255 : Int32))), .val (.int (3 : Int32)), .val (.int (128 : Int32)), .val (.int (191 : Int32)), s8, s9]) rfl ?_
                    refine own_goto X0 hx (hb hby d4_117) (pc' := 180) (by decide) (by decide) ?_
                    show own_R p e below s _ _ _ s₁ (mkF m 180 #[.val (.ref a1), .val (.int fr), .val (.int en), .val (.int ix), .val (.int ((xs.getD ix.toNatClampNeg 0) &&& (255 : Int32))), .val (.int (3 : Int32)), .val (.int (128 : Int32)), .val (.int (191 : Int32)), s8, s9] [])
                    refine own_iloadN X0 hx (hb hby d4_180) rfl ?_
                    refine own_iloadN X0 hx (hb hby d4_181) rfl ?_
                    refine own_isub X0 hx (hb hby d4_182) ?_
                    refine own_iload X0 hx (hb hby d4_183) rfl ?_
                    refine own_icmp X0 hx (hb hby d4_185) (pc' := 190) (by decide) (by decide) (fun hc => ?_) (fun hc => ?_)
                    · have hc185 : ¬ (en - ix) < (3 : Int32) := own_ge1 hc
                      clear hc
                      show own_R p e below s _ _ _ s₁ (mkF m 190 #[.val (.ref a1), .val (.int fr), .val (.int en), .val (.int ix), .val (.int ((xs.getD ix.toNatClampNeg 0) &&& (255 : Int32))), .val (.int (3 : Int32)), .val (.int (128 : Int32)), .val (.int (191 : Int32)), s8, s9] [])
                      refine own_aloadN X0 hx (hb hby d4_190) rfl rfl ?_
                      refine own_iloadN X0 hx (hb hby d4_191) rfl ?_
                      refine own_iconst X0 hx (1 : Int32) (hb hby d4_192) rfl ?_
                      refine own_iadd X0 hx (hb hby d4_193) ?_
                      refine own_baload X0 hx hZ e0 hV (v := .int (xs.getD (ix + (1 : Int32)).toNatClampNeg 0)) (pl_at1 ix en (3 : Int32) h0' hlt h8 (by decide) hc185) (pl_gd _ _) (hb hby d4_194) ?_
                      show own_R p e below s _ _ _ s₁ (mkF m 195 #[.val (.ref a1), .val (.int fr), .val (.int en), .val (.int ix), .val (.int ((xs.getD ix.toNatClampNeg 0) &&& (255 : Int32))), .val (.int (3 : Int32)), .val (.int (128 : Int32)), .val (.int (191 : Int32)), s8, s9] [(.int (xs.getD (ix + (1 : Int32)).toNatClampNeg 0))])
                      refine own_sipush X0 hx (255 : Int32) (hb hby d4_195) rfl ?_
                      refine own_iand X0 hx (hb hby d4_198) ?_
                      refine own_istore X0 hx (hb hby d4_199) (l' := #[.val (.ref a1), .val (.int fr), .val (.int en), .val (.int ix), .val (.int ((xs.getD ix.toNatClampNeg 0) &&& (255 : Int32))), .val (.int (3 : Int32)), .val (.int (128 : Int32)), .val (.int (191 : Int32)), .val (.int ((xs.getD (ix + (1 : Int32)).toNatClampNeg 0) &&& (255 : Int32))), s9]) (by rcases hs8 with rfl | ⟨w, rfl, hw'⟩ <;> first | rfl | (cases w <;> first | rfl | (simp [Value.category] at hw'))) ?_
                      refine own_iload X0 hx (hb hby d4_201) rfl ?_
                      refine own_iload X0 hx (hb hby d4_203) rfl ?_
                      refine own_icmp X0 hx (hb hby d4_205) (pc' := 215) (by decide) (by decide) (fun hc => ?_) (fun hc => ?_)
                      · have hc205 : ((xs.getD (ix + (1 : Int32)).toNatClampNeg 0) &&& (255 : Int32)) < (128 : Int32) := own_lt1 hc
                        clear hc
                        show own_R p e below s _ _ _ s₁ (mkF m 215 #[.val (.ref a1), .val (.int fr), .val (.int en), .val (.int ix), .val (.int ((xs.getD ix.toNatClampNeg 0) &&& (255 : Int32))), .val (.int (3 : Int32)), .val (.int (128 : Int32)), .val (.int (191 : Int32)), .val (.int ((xs.getD (ix + (1 : Int32)).toNatClampNeg 0) &&& (255 : Int32))), s9] [])
                        refine own_iloadN X0 hx (hb hby d4_215) rfl ?_
                        have hnl : pl_nl ((xs.getD ix.toNatClampNeg 0) &&& (255 : Int32)) ((xs.getD (ix + (1 : Int32)).toNatClampNeg 0) &&& (255 : Int32)) (xs.getD (ix + (2 : Int32)).toNatClampNeg 0) (xs.getD (ix + (3 : Int32)).toNatClampNeg 0) (en - ix) = 0 := by rw [pl_nl, if_neg hc21, if_pos hc45, if_neg hc67, if_neg hc75, if_neg hc86, if_neg hc104, if_neg hc185, if_pos hc205]
                        refine own_retI X0 hx Bd.returns hlk (hb hby d4_216) ?_ (by decide) (by decide)
                        refine ⟨?_, N0, e0⟩
                        show some (Value.int _) = some (Value.int (pl_nu xs en 8 fr))
                        rw [← hr, pl_nu, if_pos hlt, if_pos hnl]
                      · have hc205 : ¬ ((xs.getD (ix + (1 : Int32)).toNatClampNeg 0) &&& (255 : Int32)) < (128 : Int32) := own_lt0 hc
                        clear hc
                        show own_R p e below s _ _ _ s₁ (mkF m 208 #[.val (.ref a1), .val (.int fr), .val (.int en), .val (.int ix), .val (.int ((xs.getD ix.toNatClampNeg 0) &&& (255 : Int32))), .val (.int (3 : Int32)), .val (.int (128 : Int32)), .val (.int (191 : Int32)), .val (.int ((xs.getD (ix + (1 : Int32)).toNatClampNeg 0) &&& (255 : Int32))), s9] [])
                        refine own_iload X0 hx (hb hby d4_208) rfl ?_
                        refine own_iload X0 hx (hb hby d4_210) rfl ?_
                        refine own_icmp X0 hx (hb hby d4_212) (pc' := 217) (by decide) (by decide) (fun hc => ?_) (fun hc => ?_)
                        · have hc212 : ¬ (191 : Int32) < ((xs.getD (ix + (1 : Int32)).toNatClampNeg 0) &&& (255 : Int32)) := own_le1 hc
                          clear hc
                          show own_R p e below s _ _ _ s₁ (mkF m 217 #[.val (.ref a1), .val (.int fr), .val (.int en), .val (.int ix), .val (.int ((xs.getD ix.toNatClampNeg 0) &&& (255 : Int32))), .val (.int (3 : Int32)), .val (.int (128 : Int32)), .val (.int (191 : Int32)), .val (.int ((xs.getD (ix + (1 : Int32)).toNatClampNeg 0) &&& (255 : Int32))), s9] [])
                          refine own_iloadN X0 hx (hb hby d4_217) rfl ?_
                          refine own_iconst X0 hx (2 : Int32) (hb hby d4_218) rfl ?_
                          refine own_iadd X0 hx (hb hby d4_219) ?_
                          refine own_istore X0 hx (hb hby d4_220) (l' := #[.val (.ref a1), .val (.int fr), .val (.int en), .val (.int ix), .val (.int ((xs.getD ix.toNatClampNeg 0) &&& (255 : Int32))), .val (.int (3 : Int32)), .val (.int (128 : Int32)), .val (.int (191 : Int32)), .val (.int ((xs.getD (ix + (1 : Int32)).toNatClampNeg 0) &&& (255 : Int32))), .val (.int (ix + (2 : Int32)))]) (by rcases hs9 with rfl | ⟨w, rfl, hw'⟩ <;> first | rfl | (cases w <;> first | rfl | (simp [Value.category] at hw'))) ?_
                          refine own_iload X0 hx (hb hby d4_222) rfl ?_
                          refine own_iloadN X0 hx (hb hby d4_224) rfl ?_
                          refine own_iload X0 hx (hb hby d4_225) rfl ?_
                          refine own_iadd X0 hx (hb hby d4_227) ?_
                          refine own_icmp X0 hx (hb hby d4_228) (pc' := 253) (by decide) (by decide) (fun hc => ?_) (fun hc => ?_)
                          · have hl2 : ¬ (ix + (2 : Int32)) < (ix + (3 : Int32)) := own_ge1 hc
                            exfalso; obtain ⟨d1, d2⟩ := pl_d ix en h0' hlt h8; obtain ⟨a1, a2, a3, a4, a5, a6⟩ := pl_off ix h0' d2; rw [Int32.lt_iff_toInt_lt] at hl2; omega
                          · have hl2 : (ix + (2 : Int32)) < (ix + (3 : Int32)) := own_ge0 hc
                            clear hc
                            show own_R p e below s _ _ _ s₁ (mkF m 231 #[.val (.ref a1), .val (.int fr), .val (.int en), .val (.int ix), .val (.int ((xs.getD ix.toNatClampNeg 0) &&& (255 : Int32))), .val (.int (3 : Int32)), .val (.int (128 : Int32)), .val (.int (191 : Int32)), .val (.int ((xs.getD (ix + (1 : Int32)).toNatClampNeg 0) &&& (255 : Int32))), .val (.int (ix + (2 : Int32)))] [])
                            refine own_aloadN X0 hx (hb hby d4_231) rfl rfl ?_
                            refine own_iload X0 hx (hb hby d4_232) rfl ?_
                            refine own_baload X0 hx hZ e0 hV (v := .int (xs.getD (ix + (2 : Int32)).toNatClampNeg 0)) (pl_at2 ix en (3 : Int32) h0' hlt h8 (by decide) hc185) (pl_gd _ _) (hb hby d4_234) ?_
                            show own_R p e below s _ _ _ s₁ (mkF m 235 #[.val (.ref a1), .val (.int fr), .val (.int en), .val (.int ix), .val (.int ((xs.getD ix.toNatClampNeg 0) &&& (255 : Int32))), .val (.int (3 : Int32)), .val (.int (128 : Int32)), .val (.int (191 : Int32)), .val (.int ((xs.getD (ix + (1 : Int32)).toNatClampNeg 0) &&& (255 : Int32))), .val (.int (ix + (2 : Int32)))] [(.int (xs.getD (ix + (2 : Int32)).toNatClampNeg 0))])
                            refine own_sipush X0 hx (192 : Int32) (hb hby d4_235) rfl ?_
                            refine own_iand X0 hx (hb hby d4_238) ?_
                            refine own_sipush X0 hx (128 : Int32) (hb hby d4_239) rfl ?_
                            refine own_icmp X0 hx (hb hby d4_242) (pc' := 247) (by decide) (by decide) (fun hc => ?_) (fun hc => ?_)
                            · have hc242_2 : ((xs.getD (ix + (2 : Int32)).toNatClampNeg 0) &&& (192 : Int32)) = (128 : Int32) := own_eq1 hc
                              clear hc
                              show own_R p e below s _ _ _ s₁ (mkF m 247 #[.val (.ref a1), .val (.int fr), .val (.int en), .val (.int ix), .val (.int ((xs.getD ix.toNatClampNeg 0) &&& (255 : Int32))), .val (.int (3 : Int32)), .val (.int (128 : Int32)), .val (.int (191 : Int32)), .val (.int ((xs.getD (ix + (1 : Int32)).toNatClampNeg 0) &&& (255 : Int32))), .val (.int (ix + (2 : Int32)))] [])
                              refine own_iinc X0 hx (1 : Int32) (hb hby d4_247) rfl rfl (l' := #[.val (.ref a1), .val (.int fr), .val (.int en), .val (.int ix), .val (.int ((xs.getD ix.toNatClampNeg 0) &&& (255 : Int32))), .val (.int (3 : Int32)), .val (.int (128 : Int32)), .val (.int (191 : Int32)), .val (.int ((xs.getD (ix + (1 : Int32)).toNatClampNeg 0) &&& (255 : Int32))), .val (.int ((ix + (2 : Int32)) + (1 : Int32)))]) rfl ?_
                              refine own_goto X0 hx (hb hby d4_250) (pc' := 222) (by decide) (by decide) ?_
                              show own_R p e below s _ _ _ s₁ (mkF m 222 #[.val (.ref a1), .val (.int fr), .val (.int en), .val (.int ix), .val (.int ((xs.getD ix.toNatClampNeg 0) &&& (255 : Int32))), .val (.int (3 : Int32)), .val (.int (128 : Int32)), .val (.int (191 : Int32)), .val (.int ((xs.getD (ix + (1 : Int32)).toNatClampNeg 0) &&& (255 : Int32))), .val (.int ((ix + (2 : Int32)) + (1 : Int32)))] [])
                              refine own_iload X0 hx (hb hby d4_222) rfl ?_
                              refine own_iloadN X0 hx (hb hby d4_224) rfl ?_
                              refine own_iload X0 hx (hb hby d4_225) rfl ?_
                              refine own_iadd X0 hx (hb hby d4_227) ?_
                              refine own_icmp X0 hx (hb hby d4_228) (pc' := 253) (by decide) (by decide) (fun hc => ?_) (fun hc => ?_)
                              · have hl3 : ¬ ((ix + (2 : Int32)) + (1 : Int32)) < (ix + (3 : Int32)) := own_ge1 hc
                                clear hc
                                show own_R p e below s _ _ _ s₁ (mkF m 253 #[.val (.ref a1), .val (.int fr), .val (.int en), .val (.int ix), .val (.int ((xs.getD ix.toNatClampNeg 0) &&& (255 : Int32))), .val (.int (3 : Int32)), .val (.int (128 : Int32)), .val (.int (191 : Int32)), .val (.int ((xs.getD (ix + (1 : Int32)).toNatClampNeg 0) &&& (255 : Int32))), .val (.int ((ix + (2 : Int32)) + (1 : Int32)))] [])
                                refine own_iloadN X0 hx (hb hby d4_253) rfl ?_
                                refine own_iload X0 hx (hb hby d4_254) rfl ?_
                                refine own_iadd X0 hx (hb hby d4_256) ?_
                                refine own_istoreN X0 hx (hb hby d4_257) (l' := #[.val (.ref a1), .val (.int fr), .val (.int en), .val (.int (ix + (3 : Int32))), .val (.int ((xs.getD ix.toNatClampNeg 0) &&& (255 : Int32))), .val (.int (3 : Int32)), .val (.int (128 : Int32)), .val (.int (191 : Int32)), .val (.int ((xs.getD (ix + (1 : Int32)).toNatClampNeg 0) &&& (255 : Int32))), .val (.int ((ix + (2 : Int32)) + (1 : Int32)))]) rfl ?_
                                refine own_goto X0 hx (hb hby d4_258) (pc' := 2) (by decide) (by decide) ?_
                                show own_R p e below s _ _ _ s₁ (mkF m 2 #[.val (.ref a1), .val (.int fr), .val (.int en), .val (.int (ix + (3 : Int32))), .val (.int ((xs.getD ix.toNatClampNeg 0) &&& (255 : Int32))), .val (.int (3 : Int32)), .val (.int (128 : Int32)), .val (.int (191 : Int32)), .val (.int ((xs.getD (ix + (1 : Int32)).toNatClampNeg 0) &&& (255 : Int32))), .val (.int ((ix + (2 : Int32)) + (1 : Int32)))] [])
                                have hnl : pl_nl ((xs.getD ix.toNatClampNeg 0) &&& (255 : Int32)) ((xs.getD (ix + (1 : Int32)).toNatClampNeg 0) &&& (255 : Int32)) (xs.getD (ix + (2 : Int32)).toNatClampNeg 0) (xs.getD (ix + (3 : Int32)).toNatClampNeg 0) (en - ix) = (3 : Int32) := by rw [pl_nl, if_neg hc21, if_pos hc45, if_neg hc67, if_neg hc75, if_neg hc86, if_neg hc104, if_neg hc185, if_neg hc205, if_neg hc212, if_pos hc242_2]
                                obtain ⟨u0, uk⟩ := pl_adv ix en (3 : Int32) k h0' hlt h8 hk' (by decide)
                                exact ih _ _ _ _ _ _ _ (One.val rfl) (One.val rfl) (One.val rfl) (One.val rfl) (One.val rfl) (One.val rfl) u0 uk (by rw [← hr]; conv => rhs; rw [pl_nu, if_pos hlt, hnl, if_neg (by decide)])
                              · have hl3 : ((ix + (2 : Int32)) + (1 : Int32)) < (ix + (3 : Int32)) := own_ge0 hc
                                exfalso; obtain ⟨d1, d2⟩ := pl_d ix en h0' hlt h8; obtain ⟨a1, a2, a3, a4, a5, a6⟩ := pl_off ix h0' d2; rw [Int32.lt_iff_toInt_lt] at hl3; omega
                            · have hc242_2 : ¬ ((xs.getD (ix + (2 : Int32)).toNatClampNeg 0) &&& (192 : Int32)) = (128 : Int32) := own_eq0 hc
                              clear hc
                              show own_R p e below s _ _ _ s₁ (mkF m 245 #[.val (.ref a1), .val (.int fr), .val (.int en), .val (.int ix), .val (.int ((xs.getD ix.toNatClampNeg 0) &&& (255 : Int32))), .val (.int (3 : Int32)), .val (.int (128 : Int32)), .val (.int (191 : Int32)), .val (.int ((xs.getD (ix + (1 : Int32)).toNatClampNeg 0) &&& (255 : Int32))), .val (.int (ix + (2 : Int32)))] [])
                              refine own_iloadN X0 hx (hb hby d4_245) rfl ?_
                              have hnl : pl_nl ((xs.getD ix.toNatClampNeg 0) &&& (255 : Int32)) ((xs.getD (ix + (1 : Int32)).toNatClampNeg 0) &&& (255 : Int32)) (xs.getD (ix + (2 : Int32)).toNatClampNeg 0) (xs.getD (ix + (3 : Int32)).toNatClampNeg 0) (en - ix) = 0 := by rw [pl_nl, if_neg hc21, if_pos hc45, if_neg hc67, if_neg hc75, if_neg hc86, if_neg hc104, if_neg hc185, if_neg hc205, if_neg hc212, if_neg hc242_2]
                              refine own_retI X0 hx Bd.returns hlk (hb hby d4_246) ?_ (by decide) (by decide)
                              refine ⟨?_, N0, e0⟩
                              show some (Value.int _) = some (Value.int (pl_nu xs en 8 fr))
                              rw [← hr, pl_nu, if_pos hlt, if_pos hnl]
                        · have hc212 : (191 : Int32) < ((xs.getD (ix + (1 : Int32)).toNatClampNeg 0) &&& (255 : Int32)) := own_le0 hc
                          clear hc
                          show own_R p e below s _ _ _ s₁ (mkF m 215 #[.val (.ref a1), .val (.int fr), .val (.int en), .val (.int ix), .val (.int ((xs.getD ix.toNatClampNeg 0) &&& (255 : Int32))), .val (.int (3 : Int32)), .val (.int (128 : Int32)), .val (.int (191 : Int32)), .val (.int ((xs.getD (ix + (1 : Int32)).toNatClampNeg 0) &&& (255 : Int32))), s9] [])
                          refine own_iloadN X0 hx (hb hby d4_215) rfl ?_
                          have hnl : pl_nl ((xs.getD ix.toNatClampNeg 0) &&& (255 : Int32)) ((xs.getD (ix + (1 : Int32)).toNatClampNeg 0) &&& (255 : Int32)) (xs.getD (ix + (2 : Int32)).toNatClampNeg 0) (xs.getD (ix + (3 : Int32)).toNatClampNeg 0) (en - ix) = 0 := by rw [pl_nl, if_neg hc21, if_pos hc45, if_neg hc67, if_neg hc75, if_neg hc86, if_neg hc104, if_neg hc185, if_neg hc205, if_pos hc212]
                          refine own_retI X0 hx Bd.returns hlk (hb hby d4_216) ?_ (by decide) (by decide)
                          refine ⟨?_, N0, e0⟩
                          show some (Value.int _) = some (Value.int (pl_nu xs en 8 fr))
                          rw [← hr, pl_nu, if_pos hlt, if_pos hnl]
                    · have hc185 : (en - ix) < (3 : Int32) := own_ge0 hc
                      clear hc
                      show own_R p e below s _ _ _ s₁ (mkF m 188 #[.val (.ref a1), .val (.int fr), .val (.int en), .val (.int ix), .val (.int ((xs.getD ix.toNatClampNeg 0) &&& (255 : Int32))), .val (.int (3 : Int32)), .val (.int (128 : Int32)), .val (.int (191 : Int32)), s8, s9] [])
                      refine own_iloadN X0 hx (hb hby d4_188) rfl ?_
                      have hnl : pl_nl ((xs.getD ix.toNatClampNeg 0) &&& (255 : Int32)) ((xs.getD (ix + (1 : Int32)).toNatClampNeg 0) &&& (255 : Int32)) (xs.getD (ix + (2 : Int32)).toNatClampNeg 0) (xs.getD (ix + (3 : Int32)).toNatClampNeg 0) (en - ix) = 0 := by rw [pl_nl, if_neg hc21, if_pos hc45, if_neg hc67, if_neg hc75, if_neg hc86, if_neg hc104, if_pos hc185]
                      refine own_retI X0 hx Bd.returns hlk (hb hby d4_189) ?_ (by decide) (by decide)
                      refine ⟨?_, N0, e0⟩
                      show some (Value.int _) = some (Value.int (pl_nu xs en 8 fr))
                      rw [← hr, pl_nu, if_pos hlt, if_pos hnl]
                  · have hc104 : ((xs.getD ix.toNatClampNeg 0) &&& (255 : Int32)) = (237 : Int32) := own_ne0 hc
                    clear hc
                    show own_R p e below s _ _ _ s₁ (mkF m 107 #[.val (.ref a1), .val (.int fr), .val (.int en), .val (.int ix), .val (.int ((xs.getD ix.toNatClampNeg 0) &&& (255 : Int32))), .val (.int (3 : Int32)), .val (.int (128 : Int32)), .val (.int (191 : Int32)), s8, s9] [])
                    refine own_sipush X0 hx (159 : Int32) (hb hby d4_107) rfl ?_
                    refine own_goto X0 hx (hb hby d4_110) (pc' := 115) (by decide) (by decide) ?_
                    show own_R p e below s _ _ _ s₁ (mkF m 115 #[.val (.ref a1), .val (.int fr), .val (.int en), .val (.int ix), .val (.int ((xs.getD ix.toNatClampNeg 0) &&& (255 : Int32))), .val (.int (3 : Int32)), .val (.int (128 : Int32)), .val (.int (191 : Int32)), s8, s9] [(.int (159 : Int32))])
                    refine own_istore X0 hx (hb hby d4_115) (l' := #[.val (.ref a1), .val (.int fr), .val (.int en), .val (.int ix), .val (.int ((xs.getD ix.toNatClampNeg 0) &&& (255 : Int32))), .val (.int (3 : Int32)), .val (.int (128 : Int32)), .val (.int (159 : Int32)), s8, s9]) rfl ?_
                    refine own_goto X0 hx (hb hby d4_117) (pc' := 180) (by decide) (by decide) ?_
                    show own_R p e below s _ _ _ s₁ (mkF m 180 #[.val (.ref a1), .val (.int fr), .val (.int en), .val (.int ix), .val (.int ((xs.getD ix.toNatClampNeg 0) &&& (255 : Int32))), .val (.int (3 : Int32)), .val (.int (128 : Int32)), .val (.int (159 : Int32)), s8, s9] [])
                    refine own_iloadN X0 hx (hb hby d4_180) rfl ?_
                    refine own_iloadN X0 hx (hb hby d4_181) rfl ?_
                    refine own_isub X0 hx (hb hby d4_182) ?_
                    refine own_iload X0 hx (hb hby d4_183) rfl ?_
                    refine own_icmp X0 hx (hb hby d4_185) (pc' := 190) (by decide) (by decide) (fun hc => ?_) (fun hc => ?_)
                    · have hc185 : ¬ (en - ix) < (3 : Int32) := own_ge1 hc
                      clear hc
                      show own_R p e below s _ _ _ s₁ (mkF m 190 #[.val (.ref a1), .val (.int fr), .val (.int en), .val (.int ix), .val (.int ((xs.getD ix.toNatClampNeg 0) &&& (255 : Int32))), .val (.int (3 : Int32)), .val (.int (128 : Int32)), .val (.int (159 : Int32)), s8, s9] [])
                      refine own_aloadN X0 hx (hb hby d4_190) rfl rfl ?_
                      refine own_iloadN X0 hx (hb hby d4_191) rfl ?_
                      refine own_iconst X0 hx (1 : Int32) (hb hby d4_192) rfl ?_
                      refine own_iadd X0 hx (hb hby d4_193) ?_
                      refine own_baload X0 hx hZ e0 hV (v := .int (xs.getD (ix + (1 : Int32)).toNatClampNeg 0)) (pl_at1 ix en (3 : Int32) h0' hlt h8 (by decide) hc185) (pl_gd _ _) (hb hby d4_194) ?_
                      show own_R p e below s _ _ _ s₁ (mkF m 195 #[.val (.ref a1), .val (.int fr), .val (.int en), .val (.int ix), .val (.int ((xs.getD ix.toNatClampNeg 0) &&& (255 : Int32))), .val (.int (3 : Int32)), .val (.int (128 : Int32)), .val (.int (159 : Int32)), s8, s9] [(.int (xs.getD (ix + (1 : Int32)).toNatClampNeg 0))])
                      refine own_sipush X0 hx (255 : Int32) (hb hby d4_195) rfl ?_
                      refine own_iand X0 hx (hb hby d4_198) ?_
                      refine own_istore X0 hx (hb hby d4_199) (l' := #[.val (.ref a1), .val (.int fr), .val (.int en), .val (.int ix), .val (.int ((xs.getD ix.toNatClampNeg 0) &&& (255 : Int32))), .val (.int (3 : Int32)), .val (.int (128 : Int32)), .val (.int (159 : Int32)), .val (.int ((xs.getD (ix + (1 : Int32)).toNatClampNeg 0) &&& (255 : Int32))), s9]) (by rcases hs8 with rfl | ⟨w, rfl, hw'⟩ <;> first | rfl | (cases w <;> first | rfl | (simp [Value.category] at hw'))) ?_
                      refine own_iload X0 hx (hb hby d4_201) rfl ?_
                      refine own_iload X0 hx (hb hby d4_203) rfl ?_
                      refine own_icmp X0 hx (hb hby d4_205) (pc' := 215) (by decide) (by decide) (fun hc => ?_) (fun hc => ?_)
                      · have hc205 : ((xs.getD (ix + (1 : Int32)).toNatClampNeg 0) &&& (255 : Int32)) < (128 : Int32) := own_lt1 hc
                        clear hc
                        show own_R p e below s _ _ _ s₁ (mkF m 215 #[.val (.ref a1), .val (.int fr), .val (.int en), .val (.int ix), .val (.int ((xs.getD ix.toNatClampNeg 0) &&& (255 : Int32))), .val (.int (3 : Int32)), .val (.int (128 : Int32)), .val (.int (159 : Int32)), .val (.int ((xs.getD (ix + (1 : Int32)).toNatClampNeg 0) &&& (255 : Int32))), s9] [])
                        refine own_iloadN X0 hx (hb hby d4_215) rfl ?_
                        have hnl : pl_nl ((xs.getD ix.toNatClampNeg 0) &&& (255 : Int32)) ((xs.getD (ix + (1 : Int32)).toNatClampNeg 0) &&& (255 : Int32)) (xs.getD (ix + (2 : Int32)).toNatClampNeg 0) (xs.getD (ix + (3 : Int32)).toNatClampNeg 0) (en - ix) = 0 := by rw [pl_nl, if_neg hc21, if_pos hc45, if_neg hc67, if_neg hc75, if_neg hc86, if_pos hc104, if_neg hc185, if_pos hc205]
                        refine own_retI X0 hx Bd.returns hlk (hb hby d4_216) ?_ (by decide) (by decide)
                        refine ⟨?_, N0, e0⟩
                        show some (Value.int _) = some (Value.int (pl_nu xs en 8 fr))
                        rw [← hr, pl_nu, if_pos hlt, if_pos hnl]
                      · have hc205 : ¬ ((xs.getD (ix + (1 : Int32)).toNatClampNeg 0) &&& (255 : Int32)) < (128 : Int32) := own_lt0 hc
                        clear hc
                        show own_R p e below s _ _ _ s₁ (mkF m 208 #[.val (.ref a1), .val (.int fr), .val (.int en), .val (.int ix), .val (.int ((xs.getD ix.toNatClampNeg 0) &&& (255 : Int32))), .val (.int (3 : Int32)), .val (.int (128 : Int32)), .val (.int (159 : Int32)), .val (.int ((xs.getD (ix + (1 : Int32)).toNatClampNeg 0) &&& (255 : Int32))), s9] [])
                        refine own_iload X0 hx (hb hby d4_208) rfl ?_
                        refine own_iload X0 hx (hb hby d4_210) rfl ?_
                        refine own_icmp X0 hx (hb hby d4_212) (pc' := 217) (by decide) (by decide) (fun hc => ?_) (fun hc => ?_)
                        · have hc212 : ¬ (159 : Int32) < ((xs.getD (ix + (1 : Int32)).toNatClampNeg 0) &&& (255 : Int32)) := own_le1 hc
                          clear hc
                          show own_R p e below s _ _ _ s₁ (mkF m 217 #[.val (.ref a1), .val (.int fr), .val (.int en), .val (.int ix), .val (.int ((xs.getD ix.toNatClampNeg 0) &&& (255 : Int32))), .val (.int (3 : Int32)), .val (.int (128 : Int32)), .val (.int (159 : Int32)), .val (.int ((xs.getD (ix + (1 : Int32)).toNatClampNeg 0) &&& (255 : Int32))), s9] [])
                          refine own_iloadN X0 hx (hb hby d4_217) rfl ?_
                          refine own_iconst X0 hx (2 : Int32) (hb hby d4_218) rfl ?_
                          refine own_iadd X0 hx (hb hby d4_219) ?_
                          refine own_istore X0 hx (hb hby d4_220) (l' := #[.val (.ref a1), .val (.int fr), .val (.int en), .val (.int ix), .val (.int ((xs.getD ix.toNatClampNeg 0) &&& (255 : Int32))), .val (.int (3 : Int32)), .val (.int (128 : Int32)), .val (.int (159 : Int32)), .val (.int ((xs.getD (ix + (1 : Int32)).toNatClampNeg 0) &&& (255 : Int32))), .val (.int (ix + (2 : Int32)))]) (by rcases hs9 with rfl | ⟨w, rfl, hw'⟩ <;> first | rfl | (cases w <;> first | rfl | (simp [Value.category] at hw'))) ?_
                          refine own_iload X0 hx (hb hby d4_222) rfl ?_
                          refine own_iloadN X0 hx (hb hby d4_224) rfl ?_
                          refine own_iload X0 hx (hb hby d4_225) rfl ?_
                          refine own_iadd X0 hx (hb hby d4_227) ?_
                          refine own_icmp X0 hx (hb hby d4_228) (pc' := 253) (by decide) (by decide) (fun hc => ?_) (fun hc => ?_)
                          · have hl2 : ¬ (ix + (2 : Int32)) < (ix + (3 : Int32)) := own_ge1 hc
                            exfalso; obtain ⟨d1, d2⟩ := pl_d ix en h0' hlt h8; obtain ⟨a1, a2, a3, a4, a5, a6⟩ := pl_off ix h0' d2; rw [Int32.lt_iff_toInt_lt] at hl2; omega
                          · have hl2 : (ix + (2 : Int32)) < (ix + (3 : Int32)) := own_ge0 hc
                            clear hc
                            show own_R p e below s _ _ _ s₁ (mkF m 231 #[.val (.ref a1), .val (.int fr), .val (.int en), .val (.int ix), .val (.int ((xs.getD ix.toNatClampNeg 0) &&& (255 : Int32))), .val (.int (3 : Int32)), .val (.int (128 : Int32)), .val (.int (159 : Int32)), .val (.int ((xs.getD (ix + (1 : Int32)).toNatClampNeg 0) &&& (255 : Int32))), .val (.int (ix + (2 : Int32)))] [])
                            refine own_aloadN X0 hx (hb hby d4_231) rfl rfl ?_
                            refine own_iload X0 hx (hb hby d4_232) rfl ?_
                            refine own_baload X0 hx hZ e0 hV (v := .int (xs.getD (ix + (2 : Int32)).toNatClampNeg 0)) (pl_at2 ix en (3 : Int32) h0' hlt h8 (by decide) hc185) (pl_gd _ _) (hb hby d4_234) ?_
                            show own_R p e below s _ _ _ s₁ (mkF m 235 #[.val (.ref a1), .val (.int fr), .val (.int en), .val (.int ix), .val (.int ((xs.getD ix.toNatClampNeg 0) &&& (255 : Int32))), .val (.int (3 : Int32)), .val (.int (128 : Int32)), .val (.int (159 : Int32)), .val (.int ((xs.getD (ix + (1 : Int32)).toNatClampNeg 0) &&& (255 : Int32))), .val (.int (ix + (2 : Int32)))] [(.int (xs.getD (ix + (2 : Int32)).toNatClampNeg 0))])
                            refine own_sipush X0 hx (192 : Int32) (hb hby d4_235) rfl ?_
                            refine own_iand X0 hx (hb hby d4_238) ?_
                            refine own_sipush X0 hx (128 : Int32) (hb hby d4_239) rfl ?_
                            refine own_icmp X0 hx (hb hby d4_242) (pc' := 247) (by decide) (by decide) (fun hc => ?_) (fun hc => ?_)
                            · have hc242_2 : ((xs.getD (ix + (2 : Int32)).toNatClampNeg 0) &&& (192 : Int32)) = (128 : Int32) := own_eq1 hc
                              clear hc
                              show own_R p e below s _ _ _ s₁ (mkF m 247 #[.val (.ref a1), .val (.int fr), .val (.int en), .val (.int ix), .val (.int ((xs.getD ix.toNatClampNeg 0) &&& (255 : Int32))), .val (.int (3 : Int32)), .val (.int (128 : Int32)), .val (.int (159 : Int32)), .val (.int ((xs.getD (ix + (1 : Int32)).toNatClampNeg 0) &&& (255 : Int32))), .val (.int (ix + (2 : Int32)))] [])
                              refine own_iinc X0 hx (1 : Int32) (hb hby d4_247) rfl rfl (l' := #[.val (.ref a1), .val (.int fr), .val (.int en), .val (.int ix), .val (.int ((xs.getD ix.toNatClampNeg 0) &&& (255 : Int32))), .val (.int (3 : Int32)), .val (.int (128 : Int32)), .val (.int (159 : Int32)), .val (.int ((xs.getD (ix + (1 : Int32)).toNatClampNeg 0) &&& (255 : Int32))), .val (.int ((ix + (2 : Int32)) + (1 : Int32)))]) rfl ?_
                              refine own_goto X0 hx (hb hby d4_250) (pc' := 222) (by decide) (by decide) ?_
                              show own_R p e below s _ _ _ s₁ (mkF m 222 #[.val (.ref a1), .val (.int fr), .val (.int en), .val (.int ix), .val (.int ((xs.getD ix.toNatClampNeg 0) &&& (255 : Int32))), .val (.int (3 : Int32)), .val (.int (128 : Int32)), .val (.int (159 : Int32)), .val (.int ((xs.getD (ix + (1 : Int32)).toNatClampNeg 0) &&& (255 : Int32))), .val (.int ((ix + (2 : Int32)) + (1 : Int32)))] [])
                              refine own_iload X0 hx (hb hby d4_222) rfl ?_
                              refine own_iloadN X0 hx (hb hby d4_224) rfl ?_
                              refine own_iload X0 hx (hb hby d4_225) rfl ?_
                              refine own_iadd X0 hx (hb hby d4_227) ?_
                              refine own_icmp X0 hx (hb hby d4_228) (pc' := 253) (by decide) (by decide) (fun hc => ?_) (fun hc => ?_)
                              · have hl3 : ¬ ((ix + (2 : Int32)) + (1 : Int32)) < (ix + (3 : Int32)) := own_ge1 hc
                                clear hc
                                show own_R p e below s _ _ _ s₁ (mkF m 253 #[.val (.ref a1), .val (.int fr), .val (.int en), .val (.int ix), .val (.int ((xs.getD ix.toNatClampNeg 0) &&& (255 : Int32))), .val (.int (3 : Int32)), .val (.int (128 : Int32)), .val (.int (159 : Int32)), .val (.int ((xs.getD (ix + (1 : Int32)).toNatClampNeg 0) &&& (255 : Int32))), .val (.int ((ix + (2 : Int32)) + (1 : Int32)))] [])
                                refine own_iloadN X0 hx (hb hby d4_253) rfl ?_
                                refine own_iload X0 hx (hb hby d4_254) rfl ?_
                                refine own_iadd X0 hx (hb hby d4_256) ?_
                                refine own_istoreN X0 hx (hb hby d4_257) (l' := #[.val (.ref a1), .val (.int fr), .val (.int en), .val (.int (ix + (3 : Int32))), .val (.int ((xs.getD ix.toNatClampNeg 0) &&& (255 : Int32))), .val (.int (3 : Int32)), .val (.int (128 : Int32)), .val (.int (159 : Int32)), .val (.int ((xs.getD (ix + (1 : Int32)).toNatClampNeg 0) &&& (255 : Int32))), .val (.int ((ix + (2 : Int32)) + (1 : Int32)))]) rfl ?_
                                refine own_goto X0 hx (hb hby d4_258) (pc' := 2) (by decide) (by decide) ?_
                                show own_R p e below s _ _ _ s₁ (mkF m 2 #[.val (.ref a1), .val (.int fr), .val (.int en), .val (.int (ix + (3 : Int32))), .val (.int ((xs.getD ix.toNatClampNeg 0) &&& (255 : Int32))), .val (.int (3 : Int32)), .val (.int (128 : Int32)), .val (.int (159 : Int32)), .val (.int ((xs.getD (ix + (1 : Int32)).toNatClampNeg 0) &&& (255 : Int32))), .val (.int ((ix + (2 : Int32)) + (1 : Int32)))] [])
                                have hnl : pl_nl ((xs.getD ix.toNatClampNeg 0) &&& (255 : Int32)) ((xs.getD (ix + (1 : Int32)).toNatClampNeg 0) &&& (255 : Int32)) (xs.getD (ix + (2 : Int32)).toNatClampNeg 0) (xs.getD (ix + (3 : Int32)).toNatClampNeg 0) (en - ix) = (3 : Int32) := by rw [pl_nl, if_neg hc21, if_pos hc45, if_neg hc67, if_neg hc75, if_neg hc86, if_pos hc104, if_neg hc185, if_neg hc205, if_neg hc212, if_pos hc242_2]
                                obtain ⟨u0, uk⟩ := pl_adv ix en (3 : Int32) k h0' hlt h8 hk' (by decide)
                                exact ih _ _ _ _ _ _ _ (One.val rfl) (One.val rfl) (One.val rfl) (One.val rfl) (One.val rfl) (One.val rfl) u0 uk (by rw [← hr]; conv => rhs; rw [pl_nu, if_pos hlt, hnl, if_neg (by decide)])
                              · have hl3 : ((ix + (2 : Int32)) + (1 : Int32)) < (ix + (3 : Int32)) := own_ge0 hc
                                exfalso; obtain ⟨d1, d2⟩ := pl_d ix en h0' hlt h8; obtain ⟨a1, a2, a3, a4, a5, a6⟩ := pl_off ix h0' d2; rw [Int32.lt_iff_toInt_lt] at hl3; omega
                            · have hc242_2 : ¬ ((xs.getD (ix + (2 : Int32)).toNatClampNeg 0) &&& (192 : Int32)) = (128 : Int32) := own_eq0 hc
                              clear hc
                              show own_R p e below s _ _ _ s₁ (mkF m 245 #[.val (.ref a1), .val (.int fr), .val (.int en), .val (.int ix), .val (.int ((xs.getD ix.toNatClampNeg 0) &&& (255 : Int32))), .val (.int (3 : Int32)), .val (.int (128 : Int32)), .val (.int (159 : Int32)), .val (.int ((xs.getD (ix + (1 : Int32)).toNatClampNeg 0) &&& (255 : Int32))), .val (.int (ix + (2 : Int32)))] [])
                              refine own_iloadN X0 hx (hb hby d4_245) rfl ?_
                              have hnl : pl_nl ((xs.getD ix.toNatClampNeg 0) &&& (255 : Int32)) ((xs.getD (ix + (1 : Int32)).toNatClampNeg 0) &&& (255 : Int32)) (xs.getD (ix + (2 : Int32)).toNatClampNeg 0) (xs.getD (ix + (3 : Int32)).toNatClampNeg 0) (en - ix) = 0 := by rw [pl_nl, if_neg hc21, if_pos hc45, if_neg hc67, if_neg hc75, if_neg hc86, if_pos hc104, if_neg hc185, if_neg hc205, if_neg hc212, if_neg hc242_2]
                              refine own_retI X0 hx Bd.returns hlk (hb hby d4_246) ?_ (by decide) (by decide)
                              refine ⟨?_, N0, e0⟩
                              show some (Value.int _) = some (Value.int (pl_nu xs en 8 fr))
                              rw [← hr, pl_nu, if_pos hlt, if_pos hnl]
                        · have hc212 : (159 : Int32) < ((xs.getD (ix + (1 : Int32)).toNatClampNeg 0) &&& (255 : Int32)) := own_le0 hc
                          clear hc
                          show own_R p e below s _ _ _ s₁ (mkF m 215 #[.val (.ref a1), .val (.int fr), .val (.int en), .val (.int ix), .val (.int ((xs.getD ix.toNatClampNeg 0) &&& (255 : Int32))), .val (.int (3 : Int32)), .val (.int (128 : Int32)), .val (.int (159 : Int32)), .val (.int ((xs.getD (ix + (1 : Int32)).toNatClampNeg 0) &&& (255 : Int32))), s9] [])
                          refine own_iloadN X0 hx (hb hby d4_215) rfl ?_
                          have hnl : pl_nl ((xs.getD ix.toNatClampNeg 0) &&& (255 : Int32)) ((xs.getD (ix + (1 : Int32)).toNatClampNeg 0) &&& (255 : Int32)) (xs.getD (ix + (2 : Int32)).toNatClampNeg 0) (xs.getD (ix + (3 : Int32)).toNatClampNeg 0) (en - ix) = 0 := by rw [pl_nl, if_neg hc21, if_pos hc45, if_neg hc67, if_neg hc75, if_neg hc86, if_pos hc104, if_neg hc185, if_neg hc205, if_pos hc212]
                          refine own_retI X0 hx Bd.returns hlk (hb hby d4_216) ?_ (by decide) (by decide)
                          refine ⟨?_, N0, e0⟩
                          show some (Value.int _) = some (Value.int (pl_nu xs en 8 fr))
                          rw [← hr, pl_nu, if_pos hlt, if_pos hnl]
                    · have hc185 : (en - ix) < (3 : Int32) := own_ge0 hc
                      clear hc
                      show own_R p e below s _ _ _ s₁ (mkF m 188 #[.val (.ref a1), .val (.int fr), .val (.int en), .val (.int ix), .val (.int ((xs.getD ix.toNatClampNeg 0) &&& (255 : Int32))), .val (.int (3 : Int32)), .val (.int (128 : Int32)), .val (.int (159 : Int32)), s8, s9] [])
                      refine own_iloadN X0 hx (hb hby d4_188) rfl ?_
                      have hnl : pl_nl ((xs.getD ix.toNatClampNeg 0) &&& (255 : Int32)) ((xs.getD (ix + (1 : Int32)).toNatClampNeg 0) &&& (255 : Int32)) (xs.getD (ix + (2 : Int32)).toNatClampNeg 0) (xs.getD (ix + (3 : Int32)).toNatClampNeg 0) (en - ix) = 0 := by rw [pl_nl, if_neg hc21, if_pos hc45, if_neg hc67, if_neg hc75, if_neg hc86, if_pos hc104, if_pos hc185]
                      refine own_retI X0 hx Bd.returns hlk (hb hby d4_189) ?_ (by decide) (by decide)
                      refine ⟨?_, N0, e0⟩
                      show some (Value.int _) = some (Value.int (pl_nu xs en 8 fr))
                      rw [← hr, pl_nu, if_pos hlt, if_pos hnl]
                · have hc86 : ((xs.getD ix.toNatClampNeg 0) &&& (255 : Int32)) = (224 : Int32) := own_ne0 hc
                  clear hc
                  show own_R p e below s _ _ _ s₁ (mkF m 89 #[.val (.ref a1), .val (.int fr), .val (.int en), .val (.int ix), .val (.int ((xs.getD ix.toNatClampNeg 0) &&& (255 : Int32))), .val (.int (3 : Int32)), .val (.int (128 : Int32)), .val (.int (191 : Int32)), s8, s9] [])
                  refine own_sipush X0 hx (160 : Int32) (hb hby d4_89) rfl ?_
                  refine own_goto X0 hx (hb hby d4_92) (pc' := 97) (by decide) (by decide) ?_
                  show own_R p e below s _ _ _ s₁ (mkF m 97 #[.val (.ref a1), .val (.int fr), .val (.int en), .val (.int ix), .val (.int ((xs.getD ix.toNatClampNeg 0) &&& (255 : Int32))), .val (.int (3 : Int32)), .val (.int (128 : Int32)), .val (.int (191 : Int32)), s8, s9] [(.int (160 : Int32))])
                  refine own_istore X0 hx (hb hby d4_97) (l' := #[.val (.ref a1), .val (.int fr), .val (.int en), .val (.int ix), .val (.int ((xs.getD ix.toNatClampNeg 0) &&& (255 : Int32))), .val (.int (3 : Int32)), .val (.int (160 : Int32)), .val (.int (191 : Int32)), s8, s9]) rfl ?_
                  refine own_iload X0 hx (hb hby d4_99) rfl ?_
                  refine own_sipush X0 hx (237 : Int32) (hb hby d4_101) rfl ?_
                  refine own_icmp X0 hx (hb hby d4_104) (pc' := 113) (by decide) (by decide) (fun hc => ?_) (fun hc => ?_)
                  · have hc104 : ¬ ((xs.getD ix.toNatClampNeg 0) &&& (255 : Int32)) = (237 : Int32) := own_ne1 hc
                    clear hc
                    show own_R p e below s _ _ _ s₁ (mkF m 113 #[.val (.ref a1), .val (.int fr), .val (.int en), .val (.int ix), .val (.int ((xs.getD ix.toNatClampNeg 0) &&& (255 : Int32))), .val (.int (3 : Int32)), .val (.int (160 : Int32)), .val (.int (191 : Int32)), s8, s9] [])
                    refine own_iload X0 hx (hb hby d4_113) rfl ?_
                    refine own_istore X0 hx (hb hby d4_115) (l' := #[.val (.ref a1), .val (.int fr), .val (.int en), .val (.int ix), .val (.int ((xs.getD ix.toNatClampNeg 0) &&& (255 : Int32))), .val (.int (3 : Int32)), .val (.int (160 : Int32)), .val (.int (191 : Int32)), s8, s9]) rfl ?_
                    refine own_goto X0 hx (hb hby d4_117) (pc' := 180) (by decide) (by decide) ?_
                    show own_R p e below s _ _ _ s₁ (mkF m 180 #[.val (.ref a1), .val (.int fr), .val (.int en), .val (.int ix), .val (.int ((xs.getD ix.toNatClampNeg 0) &&& (255 : Int32))), .val (.int (3 : Int32)), .val (.int (160 : Int32)), .val (.int (191 : Int32)), s8, s9] [])
                    refine own_iloadN X0 hx (hb hby d4_180) rfl ?_
                    refine own_iloadN X0 hx (hb hby d4_181) rfl ?_
                    refine own_isub X0 hx (hb hby d4_182) ?_
                    refine own_iload X0 hx (hb hby d4_183) rfl ?_
                    refine own_icmp X0 hx (hb hby d4_185) (pc' := 190) (by decide) (by decide) (fun hc => ?_) (fun hc => ?_)
                    · have hc185 : ¬ (en - ix) < (3 : Int32) := own_ge1 hc
                      clear hc
                      show own_R p e below s _ _ _ s₁ (mkF m 190 #[.val (.ref a1), .val (.int fr), .val (.int en), .val (.int ix), .val (.int ((xs.getD ix.toNatClampNeg 0) &&& (255 : Int32))), .val (.int (3 : Int32)), .val (.int (160 : Int32)), .val (.int (191 : Int32)), s8, s9] [])
                      refine own_aloadN X0 hx (hb hby d4_190) rfl rfl ?_
                      refine own_iloadN X0 hx (hb hby d4_191) rfl ?_
                      refine own_iconst X0 hx (1 : Int32) (hb hby d4_192) rfl ?_
                      refine own_iadd X0 hx (hb hby d4_193) ?_
                      refine own_baload X0 hx hZ e0 hV (v := .int (xs.getD (ix + (1 : Int32)).toNatClampNeg 0)) (pl_at1 ix en (3 : Int32) h0' hlt h8 (by decide) hc185) (pl_gd _ _) (hb hby d4_194) ?_
                      show own_R p e below s _ _ _ s₁ (mkF m 195 #[.val (.ref a1), .val (.int fr), .val (.int en), .val (.int ix), .val (.int ((xs.getD ix.toNatClampNeg 0) &&& (255 : Int32))), .val (.int (3 : Int32)), .val (.int (160 : Int32)), .val (.int (191 : Int32)), s8, s9] [(.int (xs.getD (ix + (1 : Int32)).toNatClampNeg 0))])
                      refine own_sipush X0 hx (255 : Int32) (hb hby d4_195) rfl ?_
                      refine own_iand X0 hx (hb hby d4_198) ?_
                      refine own_istore X0 hx (hb hby d4_199) (l' := #[.val (.ref a1), .val (.int fr), .val (.int en), .val (.int ix), .val (.int ((xs.getD ix.toNatClampNeg 0) &&& (255 : Int32))), .val (.int (3 : Int32)), .val (.int (160 : Int32)), .val (.int (191 : Int32)), .val (.int ((xs.getD (ix + (1 : Int32)).toNatClampNeg 0) &&& (255 : Int32))), s9]) (by rcases hs8 with rfl | ⟨w, rfl, hw'⟩ <;> first | rfl | (cases w <;> first | rfl | (simp [Value.category] at hw'))) ?_
                      refine own_iload X0 hx (hb hby d4_201) rfl ?_
                      refine own_iload X0 hx (hb hby d4_203) rfl ?_
                      refine own_icmp X0 hx (hb hby d4_205) (pc' := 215) (by decide) (by decide) (fun hc => ?_) (fun hc => ?_)
                      · have hc205 : ((xs.getD (ix + (1 : Int32)).toNatClampNeg 0) &&& (255 : Int32)) < (160 : Int32) := own_lt1 hc
                        clear hc
                        show own_R p e below s _ _ _ s₁ (mkF m 215 #[.val (.ref a1), .val (.int fr), .val (.int en), .val (.int ix), .val (.int ((xs.getD ix.toNatClampNeg 0) &&& (255 : Int32))), .val (.int (3 : Int32)), .val (.int (160 : Int32)), .val (.int (191 : Int32)), .val (.int ((xs.getD (ix + (1 : Int32)).toNatClampNeg 0) &&& (255 : Int32))), s9] [])
                        refine own_iloadN X0 hx (hb hby d4_215) rfl ?_
                        have hnl : pl_nl ((xs.getD ix.toNatClampNeg 0) &&& (255 : Int32)) ((xs.getD (ix + (1 : Int32)).toNatClampNeg 0) &&& (255 : Int32)) (xs.getD (ix + (2 : Int32)).toNatClampNeg 0) (xs.getD (ix + (3 : Int32)).toNatClampNeg 0) (en - ix) = 0 := by rw [pl_nl, if_neg hc21, if_pos hc45, if_neg hc67, if_neg hc75, if_pos hc86, if_neg hc104, if_neg hc185, if_pos hc205]
                        refine own_retI X0 hx Bd.returns hlk (hb hby d4_216) ?_ (by decide) (by decide)
                        refine ⟨?_, N0, e0⟩
                        show some (Value.int _) = some (Value.int (pl_nu xs en 8 fr))
                        rw [← hr, pl_nu, if_pos hlt, if_pos hnl]
                      · have hc205 : ¬ ((xs.getD (ix + (1 : Int32)).toNatClampNeg 0) &&& (255 : Int32)) < (160 : Int32) := own_lt0 hc
                        clear hc
                        show own_R p e below s _ _ _ s₁ (mkF m 208 #[.val (.ref a1), .val (.int fr), .val (.int en), .val (.int ix), .val (.int ((xs.getD ix.toNatClampNeg 0) &&& (255 : Int32))), .val (.int (3 : Int32)), .val (.int (160 : Int32)), .val (.int (191 : Int32)), .val (.int ((xs.getD (ix + (1 : Int32)).toNatClampNeg 0) &&& (255 : Int32))), s9] [])
                        refine own_iload X0 hx (hb hby d4_208) rfl ?_
                        refine own_iload X0 hx (hb hby d4_210) rfl ?_
                        refine own_icmp X0 hx (hb hby d4_212) (pc' := 217) (by decide) (by decide) (fun hc => ?_) (fun hc => ?_)
                        · have hc212 : ¬ (191 : Int32) < ((xs.getD (ix + (1 : Int32)).toNatClampNeg 0) &&& (255 : Int32)) := own_le1 hc
                          clear hc
                          show own_R p e below s _ _ _ s₁ (mkF m 217 #[.val (.ref a1), .val (.int fr), .val (.int en), .val (.int ix), .val (.int ((xs.getD ix.toNatClampNeg 0) &&& (255 : Int32))), .val (.int (3 : Int32)), .val (.int (160 : Int32)), .val (.int (191 : Int32)), .val (.int ((xs.getD (ix + (1 : Int32)).toNatClampNeg 0) &&& (255 : Int32))), s9] [])
                          refine own_iloadN X0 hx (hb hby d4_217) rfl ?_
                          refine own_iconst X0 hx (2 : Int32) (hb hby d4_218) rfl ?_
                          refine own_iadd X0 hx (hb hby d4_219) ?_
                          refine own_istore X0 hx (hb hby d4_220) (l' := #[.val (.ref a1), .val (.int fr), .val (.int en), .val (.int ix), .val (.int ((xs.getD ix.toNatClampNeg 0) &&& (255 : Int32))), .val (.int (3 : Int32)), .val (.int (160 : Int32)), .val (.int (191 : Int32)), .val (.int ((xs.getD (ix + (1 : Int32)).toNatClampNeg 0) &&& (255 : Int32))), .val (.int (ix + (2 : Int32)))]) (by rcases hs9 with rfl | ⟨w, rfl, hw'⟩ <;> first | rfl | (cases w <;> first | rfl | (simp [Value.category] at hw'))) ?_
                          refine own_iload X0 hx (hb hby d4_222) rfl ?_
                          refine own_iloadN X0 hx (hb hby d4_224) rfl ?_
                          refine own_iload X0 hx (hb hby d4_225) rfl ?_
                          refine own_iadd X0 hx (hb hby d4_227) ?_
                          refine own_icmp X0 hx (hb hby d4_228) (pc' := 253) (by decide) (by decide) (fun hc => ?_) (fun hc => ?_)
                          · have hl2 : ¬ (ix + (2 : Int32)) < (ix + (3 : Int32)) := own_ge1 hc
                            exfalso; obtain ⟨d1, d2⟩ := pl_d ix en h0' hlt h8; obtain ⟨a1, a2, a3, a4, a5, a6⟩ := pl_off ix h0' d2; rw [Int32.lt_iff_toInt_lt] at hl2; omega
                          · have hl2 : (ix + (2 : Int32)) < (ix + (3 : Int32)) := own_ge0 hc
                            clear hc
                            show own_R p e below s _ _ _ s₁ (mkF m 231 #[.val (.ref a1), .val (.int fr), .val (.int en), .val (.int ix), .val (.int ((xs.getD ix.toNatClampNeg 0) &&& (255 : Int32))), .val (.int (3 : Int32)), .val (.int (160 : Int32)), .val (.int (191 : Int32)), .val (.int ((xs.getD (ix + (1 : Int32)).toNatClampNeg 0) &&& (255 : Int32))), .val (.int (ix + (2 : Int32)))] [])
                            refine own_aloadN X0 hx (hb hby d4_231) rfl rfl ?_
                            refine own_iload X0 hx (hb hby d4_232) rfl ?_
                            refine own_baload X0 hx hZ e0 hV (v := .int (xs.getD (ix + (2 : Int32)).toNatClampNeg 0)) (pl_at2 ix en (3 : Int32) h0' hlt h8 (by decide) hc185) (pl_gd _ _) (hb hby d4_234) ?_
                            show own_R p e below s _ _ _ s₁ (mkF m 235 #[.val (.ref a1), .val (.int fr), .val (.int en), .val (.int ix), .val (.int ((xs.getD ix.toNatClampNeg 0) &&& (255 : Int32))), .val (.int (3 : Int32)), .val (.int (160 : Int32)), .val (.int (191 : Int32)), .val (.int ((xs.getD (ix + (1 : Int32)).toNatClampNeg 0) &&& (255 : Int32))), .val (.int (ix + (2 : Int32)))] [(.int (xs.getD (ix + (2 : Int32)).toNatClampNeg 0))])
                            refine own_sipush X0 hx (192 : Int32) (hb hby d4_235) rfl ?_
                            refine own_iand X0 hx (hb hby d4_238) ?_
                            refine own_sipush X0 hx (128 : Int32) (hb hby d4_239) rfl ?_
                            refine own_icmp X0 hx (hb hby d4_242) (pc' := 247) (by decide) (by decide) (fun hc => ?_) (fun hc => ?_)
                            · have hc242_2 : ((xs.getD (ix + (2 : Int32)).toNatClampNeg 0) &&& (192 : Int32)) = (128 : Int32) := own_eq1 hc
                              clear hc
                              show own_R p e below s _ _ _ s₁ (mkF m 247 #[.val (.ref a1), .val (.int fr), .val (.int en), .val (.int ix), .val (.int ((xs.getD ix.toNatClampNeg 0) &&& (255 : Int32))), .val (.int (3 : Int32)), .val (.int (160 : Int32)), .val (.int (191 : Int32)), .val (.int ((xs.getD (ix + (1 : Int32)).toNatClampNeg 0) &&& (255 : Int32))), .val (.int (ix + (2 : Int32)))] [])
                              refine own_iinc X0 hx (1 : Int32) (hb hby d4_247) rfl rfl (l' := #[.val (.ref a1), .val (.int fr), .val (.int en), .val (.int ix), .val (.int ((xs.getD ix.toNatClampNeg 0) &&& (255 : Int32))), .val (.int (3 : Int32)), .val (.int (160 : Int32)), .val (.int (191 : Int32)), .val (.int ((xs.getD (ix + (1 : Int32)).toNatClampNeg 0) &&& (255 : Int32))), .val (.int ((ix + (2 : Int32)) + (1 : Int32)))]) rfl ?_
                              refine own_goto X0 hx (hb hby d4_250) (pc' := 222) (by decide) (by decide) ?_
                              show own_R p e below s _ _ _ s₁ (mkF m 222 #[.val (.ref a1), .val (.int fr), .val (.int en), .val (.int ix), .val (.int ((xs.getD ix.toNatClampNeg 0) &&& (255 : Int32))), .val (.int (3 : Int32)), .val (.int (160 : Int32)), .val (.int (191 : Int32)), .val (.int ((xs.getD (ix + (1 : Int32)).toNatClampNeg 0) &&& (255 : Int32))), .val (.int ((ix + (2 : Int32)) + (1 : Int32)))] [])
                              refine own_iload X0 hx (hb hby d4_222) rfl ?_
                              refine own_iloadN X0 hx (hb hby d4_224) rfl ?_
                              refine own_iload X0 hx (hb hby d4_225) rfl ?_
                              refine own_iadd X0 hx (hb hby d4_227) ?_
                              refine own_icmp X0 hx (hb hby d4_228) (pc' := 253) (by decide) (by decide) (fun hc => ?_) (fun hc => ?_)
                              · have hl3 : ¬ ((ix + (2 : Int32)) + (1 : Int32)) < (ix + (3 : Int32)) := own_ge1 hc
                                clear hc
                                show own_R p e below s _ _ _ s₁ (mkF m 253 #[.val (.ref a1), .val (.int fr), .val (.int en), .val (.int ix), .val (.int ((xs.getD ix.toNatClampNeg 0) &&& (255 : Int32))), .val (.int (3 : Int32)), .val (.int (160 : Int32)), .val (.int (191 : Int32)), .val (.int ((xs.getD (ix + (1 : Int32)).toNatClampNeg 0) &&& (255 : Int32))), .val (.int ((ix + (2 : Int32)) + (1 : Int32)))] [])
                                refine own_iloadN X0 hx (hb hby d4_253) rfl ?_
                                refine own_iload X0 hx (hb hby d4_254) rfl ?_
                                refine own_iadd X0 hx (hb hby d4_256) ?_
                                refine own_istoreN X0 hx (hb hby d4_257) (l' := #[.val (.ref a1), .val (.int fr), .val (.int en), .val (.int (ix + (3 : Int32))), .val (.int ((xs.getD ix.toNatClampNeg 0) &&& (255 : Int32))), .val (.int (3 : Int32)), .val (.int (160 : Int32)), .val (.int (191 : Int32)), .val (.int ((xs.getD (ix + (1 : Int32)).toNatClampNeg 0) &&& (255 : Int32))), .val (.int ((ix + (2 : Int32)) + (1 : Int32)))]) rfl ?_
                                refine own_goto X0 hx (hb hby d4_258) (pc' := 2) (by decide) (by decide) ?_
                                show own_R p e below s _ _ _ s₁ (mkF m 2 #[.val (.ref a1), .val (.int fr), .val (.int en), .val (.int (ix + (3 : Int32))), .val (.int ((xs.getD ix.toNatClampNeg 0) &&& (255 : Int32))), .val (.int (3 : Int32)), .val (.int (160 : Int32)), .val (.int (191 : Int32)), .val (.int ((xs.getD (ix + (1 : Int32)).toNatClampNeg 0) &&& (255 : Int32))), .val (.int ((ix + (2 : Int32)) + (1 : Int32)))] [])
                                have hnl : pl_nl ((xs.getD ix.toNatClampNeg 0) &&& (255 : Int32)) ((xs.getD (ix + (1 : Int32)).toNatClampNeg 0) &&& (255 : Int32)) (xs.getD (ix + (2 : Int32)).toNatClampNeg 0) (xs.getD (ix + (3 : Int32)).toNatClampNeg 0) (en - ix) = (3 : Int32) := by rw [pl_nl, if_neg hc21, if_pos hc45, if_neg hc67, if_neg hc75, if_pos hc86, if_neg hc104, if_neg hc185, if_neg hc205, if_neg hc212, if_pos hc242_2]
                                obtain ⟨u0, uk⟩ := pl_adv ix en (3 : Int32) k h0' hlt h8 hk' (by decide)
                                exact ih _ _ _ _ _ _ _ (One.val rfl) (One.val rfl) (One.val rfl) (One.val rfl) (One.val rfl) (One.val rfl) u0 uk (by rw [← hr]; conv => rhs; rw [pl_nu, if_pos hlt, hnl, if_neg (by decide)])
                              · have hl3 : ((ix + (2 : Int32)) + (1 : Int32)) < (ix + (3 : Int32)) := own_ge0 hc
                                exfalso; obtain ⟨d1, d2⟩ := pl_d ix en h0' hlt h8; obtain ⟨a1, a2, a3, a4, a5, a6⟩ := pl_off ix h0' d2; rw [Int32.lt_iff_toInt_lt] at hl3; omega
                            · have hc242_2 : ¬ ((xs.getD (ix + (2 : Int32)).toNatClampNeg 0) &&& (192 : Int32)) = (128 : Int32) := own_eq0 hc
                              clear hc
                              show own_R p e below s _ _ _ s₁ (mkF m 245 #[.val (.ref a1), .val (.int fr), .val (.int en), .val (.int ix), .val (.int ((xs.getD ix.toNatClampNeg 0) &&& (255 : Int32))), .val (.int (3 : Int32)), .val (.int (160 : Int32)), .val (.int (191 : Int32)), .val (.int ((xs.getD (ix + (1 : Int32)).toNatClampNeg 0) &&& (255 : Int32))), .val (.int (ix + (2 : Int32)))] [])
                              refine own_iloadN X0 hx (hb hby d4_245) rfl ?_
                              have hnl : pl_nl ((xs.getD ix.toNatClampNeg 0) &&& (255 : Int32)) ((xs.getD (ix + (1 : Int32)).toNatClampNeg 0) &&& (255 : Int32)) (xs.getD (ix + (2 : Int32)).toNatClampNeg 0) (xs.getD (ix + (3 : Int32)).toNatClampNeg 0) (en - ix) = 0 := by rw [pl_nl, if_neg hc21, if_pos hc45, if_neg hc67, if_neg hc75, if_pos hc86, if_neg hc104, if_neg hc185, if_neg hc205, if_neg hc212, if_neg hc242_2]
                              refine own_retI X0 hx Bd.returns hlk (hb hby d4_246) ?_ (by decide) (by decide)
                              refine ⟨?_, N0, e0⟩
                              show some (Value.int _) = some (Value.int (pl_nu xs en 8 fr))
                              rw [← hr, pl_nu, if_pos hlt, if_pos hnl]
                        · have hc212 : (191 : Int32) < ((xs.getD (ix + (1 : Int32)).toNatClampNeg 0) &&& (255 : Int32)) := own_le0 hc
                          clear hc
                          show own_R p e below s _ _ _ s₁ (mkF m 215 #[.val (.ref a1), .val (.int fr), .val (.int en), .val (.int ix), .val (.int ((xs.getD ix.toNatClampNeg 0) &&& (255 : Int32))), .val (.int (3 : Int32)), .val (.int (160 : Int32)), .val (.int (191 : Int32)), .val (.int ((xs.getD (ix + (1 : Int32)).toNatClampNeg 0) &&& (255 : Int32))), s9] [])
                          refine own_iloadN X0 hx (hb hby d4_215) rfl ?_
                          have hnl : pl_nl ((xs.getD ix.toNatClampNeg 0) &&& (255 : Int32)) ((xs.getD (ix + (1 : Int32)).toNatClampNeg 0) &&& (255 : Int32)) (xs.getD (ix + (2 : Int32)).toNatClampNeg 0) (xs.getD (ix + (3 : Int32)).toNatClampNeg 0) (en - ix) = 0 := by rw [pl_nl, if_neg hc21, if_pos hc45, if_neg hc67, if_neg hc75, if_pos hc86, if_neg hc104, if_neg hc185, if_neg hc205, if_pos hc212]
                          refine own_retI X0 hx Bd.returns hlk (hb hby d4_216) ?_ (by decide) (by decide)
                          refine ⟨?_, N0, e0⟩
                          show some (Value.int _) = some (Value.int (pl_nu xs en 8 fr))
                          rw [← hr, pl_nu, if_pos hlt, if_pos hnl]
                    · have hc185 : (en - ix) < (3 : Int32) := own_ge0 hc
                      clear hc
                      show own_R p e below s _ _ _ s₁ (mkF m 188 #[.val (.ref a1), .val (.int fr), .val (.int en), .val (.int ix), .val (.int ((xs.getD ix.toNatClampNeg 0) &&& (255 : Int32))), .val (.int (3 : Int32)), .val (.int (160 : Int32)), .val (.int (191 : Int32)), s8, s9] [])
                      refine own_iloadN X0 hx (hb hby d4_188) rfl ?_
                      have hnl : pl_nl ((xs.getD ix.toNatClampNeg 0) &&& (255 : Int32)) ((xs.getD (ix + (1 : Int32)).toNatClampNeg 0) &&& (255 : Int32)) (xs.getD (ix + (2 : Int32)).toNatClampNeg 0) (xs.getD (ix + (3 : Int32)).toNatClampNeg 0) (en - ix) = 0 := by rw [pl_nl, if_neg hc21, if_pos hc45, if_neg hc67, if_neg hc75, if_pos hc86, if_neg hc104, if_pos hc185]
                      refine own_retI X0 hx Bd.returns hlk (hb hby d4_189) ?_ (by decide) (by decide)
                      refine ⟨?_, N0, e0⟩
                      show some (Value.int _) = some (Value.int (pl_nu xs en 8 fr))
                      rw [← hr, pl_nu, if_pos hlt, if_pos hnl]
                  · have hc104 : ((xs.getD ix.toNatClampNeg 0) &&& (255 : Int32)) = (237 : Int32) := own_ne0 hc
                    clear hc
                    show own_R p e below s _ _ _ s₁ (mkF m 107 #[.val (.ref a1), .val (.int fr), .val (.int en), .val (.int ix), .val (.int ((xs.getD ix.toNatClampNeg 0) &&& (255 : Int32))), .val (.int (3 : Int32)), .val (.int (160 : Int32)), .val (.int (191 : Int32)), s8, s9] [])
                    refine own_sipush X0 hx (159 : Int32) (hb hby d4_107) rfl ?_
                    refine own_goto X0 hx (hb hby d4_110) (pc' := 115) (by decide) (by decide) ?_
                    show own_R p e below s _ _ _ s₁ (mkF m 115 #[.val (.ref a1), .val (.int fr), .val (.int en), .val (.int ix), .val (.int ((xs.getD ix.toNatClampNeg 0) &&& (255 : Int32))), .val (.int (3 : Int32)), .val (.int (160 : Int32)), .val (.int (191 : Int32)), s8, s9] [(.int (159 : Int32))])
                    refine own_istore X0 hx (hb hby d4_115) (l' := #[.val (.ref a1), .val (.int fr), .val (.int en), .val (.int ix), .val (.int ((xs.getD ix.toNatClampNeg 0) &&& (255 : Int32))), .val (.int (3 : Int32)), .val (.int (160 : Int32)), .val (.int (159 : Int32)), s8, s9]) rfl ?_
                    refine own_goto X0 hx (hb hby d4_117) (pc' := 180) (by decide) (by decide) ?_
                    show own_R p e below s _ _ _ s₁ (mkF m 180 #[.val (.ref a1), .val (.int fr), .val (.int en), .val (.int ix), .val (.int ((xs.getD ix.toNatClampNeg 0) &&& (255 : Int32))), .val (.int (3 : Int32)), .val (.int (160 : Int32)), .val (.int (159 : Int32)), s8, s9] [])
                    refine own_iloadN X0 hx (hb hby d4_180) rfl ?_
                    refine own_iloadN X0 hx (hb hby d4_181) rfl ?_
                    refine own_isub X0 hx (hb hby d4_182) ?_
                    refine own_iload X0 hx (hb hby d4_183) rfl ?_
                    refine own_icmp X0 hx (hb hby d4_185) (pc' := 190) (by decide) (by decide) (fun hc => ?_) (fun hc => ?_)
                    · have hc185 : ¬ (en - ix) < (3 : Int32) := own_ge1 hc
                      clear hc
                      show own_R p e below s _ _ _ s₁ (mkF m 190 #[.val (.ref a1), .val (.int fr), .val (.int en), .val (.int ix), .val (.int ((xs.getD ix.toNatClampNeg 0) &&& (255 : Int32))), .val (.int (3 : Int32)), .val (.int (160 : Int32)), .val (.int (159 : Int32)), s8, s9] [])
                      refine own_aloadN X0 hx (hb hby d4_190) rfl rfl ?_
                      refine own_iloadN X0 hx (hb hby d4_191) rfl ?_
                      refine own_iconst X0 hx (1 : Int32) (hb hby d4_192) rfl ?_
                      refine own_iadd X0 hx (hb hby d4_193) ?_
                      refine own_baload X0 hx hZ e0 hV (v := .int (xs.getD (ix + (1 : Int32)).toNatClampNeg 0)) (pl_at1 ix en (3 : Int32) h0' hlt h8 (by decide) hc185) (pl_gd _ _) (hb hby d4_194) ?_
                      show own_R p e below s _ _ _ s₁ (mkF m 195 #[.val (.ref a1), .val (.int fr), .val (.int en), .val (.int ix), .val (.int ((xs.getD ix.toNatClampNeg 0) &&& (255 : Int32))), .val (.int (3 : Int32)), .val (.int (160 : Int32)), .val (.int (159 : Int32)), s8, s9] [(.int (xs.getD (ix + (1 : Int32)).toNatClampNeg 0))])
                      refine own_sipush X0 hx (255 : Int32) (hb hby d4_195) rfl ?_
                      refine own_iand X0 hx (hb hby d4_198) ?_
                      refine own_istore X0 hx (hb hby d4_199) (l' := #[.val (.ref a1), .val (.int fr), .val (.int en), .val (.int ix), .val (.int ((xs.getD ix.toNatClampNeg 0) &&& (255 : Int32))), .val (.int (3 : Int32)), .val (.int (160 : Int32)), .val (.int (159 : Int32)), .val (.int ((xs.getD (ix + (1 : Int32)).toNatClampNeg 0) &&& (255 : Int32))), s9]) (by rcases hs8 with rfl | ⟨w, rfl, hw'⟩ <;> first | rfl | (cases w <;> first | rfl | (simp [Value.category] at hw'))) ?_
                      refine own_iload X0 hx (hb hby d4_201) rfl ?_
                      refine own_iload X0 hx (hb hby d4_203) rfl ?_
                      refine own_icmp X0 hx (hb hby d4_205) (pc' := 215) (by decide) (by decide) (fun hc => ?_) (fun hc => ?_)
                      · have hc205 : ((xs.getD (ix + (1 : Int32)).toNatClampNeg 0) &&& (255 : Int32)) < (160 : Int32) := own_lt1 hc
                        clear hc
                        show own_R p e below s _ _ _ s₁ (mkF m 215 #[.val (.ref a1), .val (.int fr), .val (.int en), .val (.int ix), .val (.int ((xs.getD ix.toNatClampNeg 0) &&& (255 : Int32))), .val (.int (3 : Int32)), .val (.int (160 : Int32)), .val (.int (159 : Int32)), .val (.int ((xs.getD (ix + (1 : Int32)).toNatClampNeg 0) &&& (255 : Int32))), s9] [])
                        refine own_iloadN X0 hx (hb hby d4_215) rfl ?_
                        have hnl : pl_nl ((xs.getD ix.toNatClampNeg 0) &&& (255 : Int32)) ((xs.getD (ix + (1 : Int32)).toNatClampNeg 0) &&& (255 : Int32)) (xs.getD (ix + (2 : Int32)).toNatClampNeg 0) (xs.getD (ix + (3 : Int32)).toNatClampNeg 0) (en - ix) = 0 := by rw [pl_nl, if_neg hc21, if_pos hc45, if_neg hc67, if_neg hc75, if_pos hc86, if_pos hc104, if_neg hc185, if_pos hc205]
                        refine own_retI X0 hx Bd.returns hlk (hb hby d4_216) ?_ (by decide) (by decide)
                        refine ⟨?_, N0, e0⟩
                        show some (Value.int _) = some (Value.int (pl_nu xs en 8 fr))
                        rw [← hr, pl_nu, if_pos hlt, if_pos hnl]
                      · have hc205 : ¬ ((xs.getD (ix + (1 : Int32)).toNatClampNeg 0) &&& (255 : Int32)) < (160 : Int32) := own_lt0 hc
                        clear hc
                        show own_R p e below s _ _ _ s₁ (mkF m 208 #[.val (.ref a1), .val (.int fr), .val (.int en), .val (.int ix), .val (.int ((xs.getD ix.toNatClampNeg 0) &&& (255 : Int32))), .val (.int (3 : Int32)), .val (.int (160 : Int32)), .val (.int (159 : Int32)), .val (.int ((xs.getD (ix + (1 : Int32)).toNatClampNeg 0) &&& (255 : Int32))), s9] [])
                        refine own_iload X0 hx (hb hby d4_208) rfl ?_
                        refine own_iload X0 hx (hb hby d4_210) rfl ?_
                        refine own_icmp X0 hx (hb hby d4_212) (pc' := 217) (by decide) (by decide) (fun hc => ?_) (fun hc => ?_)
                        · have hc212 : ¬ (159 : Int32) < ((xs.getD (ix + (1 : Int32)).toNatClampNeg 0) &&& (255 : Int32)) := own_le1 hc
                          clear hc
                          show own_R p e below s _ _ _ s₁ (mkF m 217 #[.val (.ref a1), .val (.int fr), .val (.int en), .val (.int ix), .val (.int ((xs.getD ix.toNatClampNeg 0) &&& (255 : Int32))), .val (.int (3 : Int32)), .val (.int (160 : Int32)), .val (.int (159 : Int32)), .val (.int ((xs.getD (ix + (1 : Int32)).toNatClampNeg 0) &&& (255 : Int32))), s9] [])
                          refine own_iloadN X0 hx (hb hby d4_217) rfl ?_
                          refine own_iconst X0 hx (2 : Int32) (hb hby d4_218) rfl ?_
                          refine own_iadd X0 hx (hb hby d4_219) ?_
                          refine own_istore X0 hx (hb hby d4_220) (l' := #[.val (.ref a1), .val (.int fr), .val (.int en), .val (.int ix), .val (.int ((xs.getD ix.toNatClampNeg 0) &&& (255 : Int32))), .val (.int (3 : Int32)), .val (.int (160 : Int32)), .val (.int (159 : Int32)), .val (.int ((xs.getD (ix + (1 : Int32)).toNatClampNeg 0) &&& (255 : Int32))), .val (.int (ix + (2 : Int32)))]) (by rcases hs9 with rfl | ⟨w, rfl, hw'⟩ <;> first | rfl | (cases w <;> first | rfl | (simp [Value.category] at hw'))) ?_
                          refine own_iload X0 hx (hb hby d4_222) rfl ?_
                          refine own_iloadN X0 hx (hb hby d4_224) rfl ?_
                          refine own_iload X0 hx (hb hby d4_225) rfl ?_
                          refine own_iadd X0 hx (hb hby d4_227) ?_
                          refine own_icmp X0 hx (hb hby d4_228) (pc' := 253) (by decide) (by decide) (fun hc => ?_) (fun hc => ?_)
                          · have hl2 : ¬ (ix + (2 : Int32)) < (ix + (3 : Int32)) := own_ge1 hc
                            exfalso; obtain ⟨d1, d2⟩ := pl_d ix en h0' hlt h8; obtain ⟨a1, a2, a3, a4, a5, a6⟩ := pl_off ix h0' d2; rw [Int32.lt_iff_toInt_lt] at hl2; omega
                          · have hl2 : (ix + (2 : Int32)) < (ix + (3 : Int32)) := own_ge0 hc
                            clear hc
                            show own_R p e below s _ _ _ s₁ (mkF m 231 #[.val (.ref a1), .val (.int fr), .val (.int en), .val (.int ix), .val (.int ((xs.getD ix.toNatClampNeg 0) &&& (255 : Int32))), .val (.int (3 : Int32)), .val (.int (160 : Int32)), .val (.int (159 : Int32)), .val (.int ((xs.getD (ix + (1 : Int32)).toNatClampNeg 0) &&& (255 : Int32))), .val (.int (ix + (2 : Int32)))] [])
                            refine own_aloadN X0 hx (hb hby d4_231) rfl rfl ?_
                            refine own_iload X0 hx (hb hby d4_232) rfl ?_
                            refine own_baload X0 hx hZ e0 hV (v := .int (xs.getD (ix + (2 : Int32)).toNatClampNeg 0)) (pl_at2 ix en (3 : Int32) h0' hlt h8 (by decide) hc185) (pl_gd _ _) (hb hby d4_234) ?_
                            show own_R p e below s _ _ _ s₁ (mkF m 235 #[.val (.ref a1), .val (.int fr), .val (.int en), .val (.int ix), .val (.int ((xs.getD ix.toNatClampNeg 0) &&& (255 : Int32))), .val (.int (3 : Int32)), .val (.int (160 : Int32)), .val (.int (159 : Int32)), .val (.int ((xs.getD (ix + (1 : Int32)).toNatClampNeg 0) &&& (255 : Int32))), .val (.int (ix + (2 : Int32)))] [(.int (xs.getD (ix + (2 : Int32)).toNatClampNeg 0))])
                            refine own_sipush X0 hx (192 : Int32) (hb hby d4_235) rfl ?_
                            refine own_iand X0 hx (hb hby d4_238) ?_
                            refine own_sipush X0 hx (128 : Int32) (hb hby d4_239) rfl ?_
                            refine own_icmp X0 hx (hb hby d4_242) (pc' := 247) (by decide) (by decide) (fun hc => ?_) (fun hc => ?_)
                            · have hc242_2 : ((xs.getD (ix + (2 : Int32)).toNatClampNeg 0) &&& (192 : Int32)) = (128 : Int32) := own_eq1 hc
                              clear hc
                              show own_R p e below s _ _ _ s₁ (mkF m 247 #[.val (.ref a1), .val (.int fr), .val (.int en), .val (.int ix), .val (.int ((xs.getD ix.toNatClampNeg 0) &&& (255 : Int32))), .val (.int (3 : Int32)), .val (.int (160 : Int32)), .val (.int (159 : Int32)), .val (.int ((xs.getD (ix + (1 : Int32)).toNatClampNeg 0) &&& (255 : Int32))), .val (.int (ix + (2 : Int32)))] [])
                              refine own_iinc X0 hx (1 : Int32) (hb hby d4_247) rfl rfl (l' := #[.val (.ref a1), .val (.int fr), .val (.int en), .val (.int ix), .val (.int ((xs.getD ix.toNatClampNeg 0) &&& (255 : Int32))), .val (.int (3 : Int32)), .val (.int (160 : Int32)), .val (.int (159 : Int32)), .val (.int ((xs.getD (ix + (1 : Int32)).toNatClampNeg 0) &&& (255 : Int32))), .val (.int ((ix + (2 : Int32)) + (1 : Int32)))]) rfl ?_
                              refine own_goto X0 hx (hb hby d4_250) (pc' := 222) (by decide) (by decide) ?_
                              show own_R p e below s _ _ _ s₁ (mkF m 222 #[.val (.ref a1), .val (.int fr), .val (.int en), .val (.int ix), .val (.int ((xs.getD ix.toNatClampNeg 0) &&& (255 : Int32))), .val (.int (3 : Int32)), .val (.int (160 : Int32)), .val (.int (159 : Int32)), .val (.int ((xs.getD (ix + (1 : Int32)).toNatClampNeg 0) &&& (255 : Int32))), .val (.int ((ix + (2 : Int32)) + (1 : Int32)))] [])
                              refine own_iload X0 hx (hb hby d4_222) rfl ?_
                              refine own_iloadN X0 hx (hb hby d4_224) rfl ?_
                              refine own_iload X0 hx (hb hby d4_225) rfl ?_
                              refine own_iadd X0 hx (hb hby d4_227) ?_
                              refine own_icmp X0 hx (hb hby d4_228) (pc' := 253) (by decide) (by decide) (fun hc => ?_) (fun hc => ?_)
                              · have hl3 : ¬ ((ix + (2 : Int32)) + (1 : Int32)) < (ix + (3 : Int32)) := own_ge1 hc
                                clear hc
                                show own_R p e below s _ _ _ s₁ (mkF m 253 #[.val (.ref a1), .val (.int fr), .val (.int en), .val (.int ix), .val (.int ((xs.getD ix.toNatClampNeg 0) &&& (255 : Int32))), .val (.int (3 : Int32)), .val (.int (160 : Int32)), .val (.int (159 : Int32)), .val (.int ((xs.getD (ix + (1 : Int32)).toNatClampNeg 0) &&& (255 : Int32))), .val (.int ((ix + (2 : Int32)) + (1 : Int32)))] [])
                                refine own_iloadN X0 hx (hb hby d4_253) rfl ?_
                                refine own_iload X0 hx (hb hby d4_254) rfl ?_
                                refine own_iadd X0 hx (hb hby d4_256) ?_
                                refine own_istoreN X0 hx (hb hby d4_257) (l' := #[.val (.ref a1), .val (.int fr), .val (.int en), .val (.int (ix + (3 : Int32))), .val (.int ((xs.getD ix.toNatClampNeg 0) &&& (255 : Int32))), .val (.int (3 : Int32)), .val (.int (160 : Int32)), .val (.int (159 : Int32)), .val (.int ((xs.getD (ix + (1 : Int32)).toNatClampNeg 0) &&& (255 : Int32))), .val (.int ((ix + (2 : Int32)) + (1 : Int32)))]) rfl ?_
                                refine own_goto X0 hx (hb hby d4_258) (pc' := 2) (by decide) (by decide) ?_
                                show own_R p e below s _ _ _ s₁ (mkF m 2 #[.val (.ref a1), .val (.int fr), .val (.int en), .val (.int (ix + (3 : Int32))), .val (.int ((xs.getD ix.toNatClampNeg 0) &&& (255 : Int32))), .val (.int (3 : Int32)), .val (.int (160 : Int32)), .val (.int (159 : Int32)), .val (.int ((xs.getD (ix + (1 : Int32)).toNatClampNeg 0) &&& (255 : Int32))), .val (.int ((ix + (2 : Int32)) + (1 : Int32)))] [])
                                have hnl : pl_nl ((xs.getD ix.toNatClampNeg 0) &&& (255 : Int32)) ((xs.getD (ix + (1 : Int32)).toNatClampNeg 0) &&& (255 : Int32)) (xs.getD (ix + (2 : Int32)).toNatClampNeg 0) (xs.getD (ix + (3 : Int32)).toNatClampNeg 0) (en - ix) = (3 : Int32) := by rw [pl_nl, if_neg hc21, if_pos hc45, if_neg hc67, if_neg hc75, if_pos hc86, if_pos hc104, if_neg hc185, if_neg hc205, if_neg hc212, if_pos hc242_2]
                                obtain ⟨u0, uk⟩ := pl_adv ix en (3 : Int32) k h0' hlt h8 hk' (by decide)
                                exact ih _ _ _ _ _ _ _ (One.val rfl) (One.val rfl) (One.val rfl) (One.val rfl) (One.val rfl) (One.val rfl) u0 uk (by rw [← hr]; conv => rhs; rw [pl_nu, if_pos hlt, hnl, if_neg (by decide)])
                              · have hl3 : ((ix + (2 : Int32)) + (1 : Int32)) < (ix + (3 : Int32)) := own_ge0 hc
                                exfalso; obtain ⟨d1, d2⟩ := pl_d ix en h0' hlt h8; obtain ⟨a1, a2, a3, a4, a5, a6⟩ := pl_off ix h0' d2; rw [Int32.lt_iff_toInt_lt] at hl3; omega
                            · have hc242_2 : ¬ ((xs.getD (ix + (2 : Int32)).toNatClampNeg 0) &&& (192 : Int32)) = (128 : Int32) := own_eq0 hc
                              clear hc
                              show own_R p e below s _ _ _ s₁ (mkF m 245 #[.val (.ref a1), .val (.int fr), .val (.int en), .val (.int ix), .val (.int ((xs.getD ix.toNatClampNeg 0) &&& (255 : Int32))), .val (.int (3 : Int32)), .val (.int (160 : Int32)), .val (.int (159 : Int32)), .val (.int ((xs.getD (ix + (1 : Int32)).toNatClampNeg 0) &&& (255 : Int32))), .val (.int (ix + (2 : Int32)))] [])
                              refine own_iloadN X0 hx (hb hby d4_245) rfl ?_
                              have hnl : pl_nl ((xs.getD ix.toNatClampNeg 0) &&& (255 : Int32)) ((xs.getD (ix + (1 : Int32)).toNatClampNeg 0) &&& (255 : Int32)) (xs.getD (ix + (2 : Int32)).toNatClampNeg 0) (xs.getD (ix + (3 : Int32)).toNatClampNeg 0) (en - ix) = 0 := by rw [pl_nl, if_neg hc21, if_pos hc45, if_neg hc67, if_neg hc75, if_pos hc86, if_pos hc104, if_neg hc185, if_neg hc205, if_neg hc212, if_neg hc242_2]
                              refine own_retI X0 hx Bd.returns hlk (hb hby d4_246) ?_ (by decide) (by decide)
                              refine ⟨?_, N0, e0⟩
                              show some (Value.int _) = some (Value.int (pl_nu xs en 8 fr))
                              rw [← hr, pl_nu, if_pos hlt, if_pos hnl]
                        · have hc212 : (159 : Int32) < ((xs.getD (ix + (1 : Int32)).toNatClampNeg 0) &&& (255 : Int32)) := own_le0 hc
                          clear hc
                          show own_R p e below s _ _ _ s₁ (mkF m 215 #[.val (.ref a1), .val (.int fr), .val (.int en), .val (.int ix), .val (.int ((xs.getD ix.toNatClampNeg 0) &&& (255 : Int32))), .val (.int (3 : Int32)), .val (.int (160 : Int32)), .val (.int (159 : Int32)), .val (.int ((xs.getD (ix + (1 : Int32)).toNatClampNeg 0) &&& (255 : Int32))), s9] [])
                          refine own_iloadN X0 hx (hb hby d4_215) rfl ?_
                          have hnl : pl_nl ((xs.getD ix.toNatClampNeg 0) &&& (255 : Int32)) ((xs.getD (ix + (1 : Int32)).toNatClampNeg 0) &&& (255 : Int32)) (xs.getD (ix + (2 : Int32)).toNatClampNeg 0) (xs.getD (ix + (3 : Int32)).toNatClampNeg 0) (en - ix) = 0 := by rw [pl_nl, if_neg hc21, if_pos hc45, if_neg hc67, if_neg hc75, if_pos hc86, if_pos hc104, if_neg hc185, if_neg hc205, if_pos hc212]
                          refine own_retI X0 hx Bd.returns hlk (hb hby d4_216) ?_ (by decide) (by decide)
                          refine ⟨?_, N0, e0⟩
                          show some (Value.int _) = some (Value.int (pl_nu xs en 8 fr))
                          rw [← hr, pl_nu, if_pos hlt, if_pos hnl]
                    · have hc185 : (en - ix) < (3 : Int32) := own_ge0 hc
                      clear hc
                      show own_R p e below s _ _ _ s₁ (mkF m 188 #[.val (.ref a1), .val (.int fr), .val (.int en), .val (.int ix), .val (.int ((xs.getD ix.toNatClampNeg 0) &&& (255 : Int32))), .val (.int (3 : Int32)), .val (.int (160 : Int32)), .val (.int (159 : Int32)), s8, s9] [])
                      refine own_iloadN X0 hx (hb hby d4_188) rfl ?_
                      have hnl : pl_nl ((xs.getD ix.toNatClampNeg 0) &&& (255 : Int32)) ((xs.getD (ix + (1 : Int32)).toNatClampNeg 0) &&& (255 : Int32)) (xs.getD (ix + (2 : Int32)).toNatClampNeg 0) (xs.getD (ix + (3 : Int32)).toNatClampNeg 0) (en - ix) = 0 := by rw [pl_nl, if_neg hc21, if_pos hc45, if_neg hc67, if_neg hc75, if_pos hc86, if_pos hc104, if_pos hc185]
                      refine own_retI X0 hx Bd.returns hlk (hb hby d4_189) ?_ (by decide) (by decide)
                      refine ⟨?_, N0, e0⟩
                      show some (Value.int _) = some (Value.int (pl_nu xs en 8 fr))
                      rw [← hr, pl_nu, if_pos hlt, if_pos hnl]
          · have hc45 : ¬ ((xs.getD ix.toNatClampNeg 0) &&& (255 : Int32)) < (194 : Int32) := own_lt0 hc
            clear hc
            show own_R p e below s _ _ _ s₁ (mkF m 48 #[.val (.ref a1), .val (.int fr), .val (.int en), .val (.int ix), .val (.int ((xs.getD ix.toNatClampNeg 0) &&& (255 : Int32))), s5, .val (.int (128 : Int32)), .val (.int (191 : Int32)), s8, s9] [])
            refine own_iload X0 hx (hb hby d4_48) rfl ?_
            refine own_sipush X0 hx (223 : Int32) (hb hby d4_50) rfl ?_
            refine own_icmp X0 hx (hb hby d4_53) (pc' := 62) (by decide) (by decide) (fun hc => ?_) (fun hc => ?_)
            · have hc53 : (223 : Int32) < ((xs.getD ix.toNatClampNeg 0) &&& (255 : Int32)) := own_gt1 hc
              clear hc
              show own_R p e below s _ _ _ s₁ (mkF m 62 #[.val (.ref a1), .val (.int fr), .val (.int en), .val (.int ix), .val (.int ((xs.getD ix.toNatClampNeg 0) &&& (255 : Int32))), s5, .val (.int (128 : Int32)), .val (.int (191 : Int32)), s8, s9] [])
              refine own_iload X0 hx (hb hby d4_62) rfl ?_
              refine own_sipush X0 hx (224 : Int32) (hb hby d4_64) rfl ?_
              refine own_icmp X0 hx (hb hby d4_67) (pc' := 120) (by decide) (by decide) (fun hc => ?_) (fun hc => ?_)
              · have hc67 : ((xs.getD ix.toNatClampNeg 0) &&& (255 : Int32)) < (224 : Int32) := own_lt1 hc
                clear hc
                show own_R p e below s _ _ _ s₁ (mkF m 120 #[.val (.ref a1), .val (.int fr), .val (.int en), .val (.int ix), .val (.int ((xs.getD ix.toNatClampNeg 0) &&& (255 : Int32))), s5, .val (.int (128 : Int32)), .val (.int (191 : Int32)), s8, s9] [])
                refine own_iload X0 hx (hb hby d4_120) rfl ?_
                refine own_sipush X0 hx (240 : Int32) (hb hby d4_122) rfl ?_
                refine own_icmp X0 hx (hb hby d4_125) (pc' := 178) (by decide) (by decide) (fun hc => ?_) (fun hc => ?_)
                · have hc125 : ((xs.getD ix.toNatClampNeg 0) &&& (255 : Int32)) < (240 : Int32) := own_lt1 hc
                  clear hc
                  show own_R p e below s _ _ _ s₁ (mkF m 178 #[.val (.ref a1), .val (.int fr), .val (.int en), .val (.int ix), .val (.int ((xs.getD ix.toNatClampNeg 0) &&& (255 : Int32))), s5, .val (.int (128 : Int32)), .val (.int (191 : Int32)), s8, s9] [])
                  refine own_iloadN X0 hx (hb hby d4_178) rfl ?_
                  have hnl : pl_nl ((xs.getD ix.toNatClampNeg 0) &&& (255 : Int32)) ((xs.getD (ix + (1 : Int32)).toNatClampNeg 0) &&& (255 : Int32)) (xs.getD (ix + (2 : Int32)).toNatClampNeg 0) (xs.getD (ix + (3 : Int32)).toNatClampNeg 0) (en - ix) = 0 := by rw [pl_nl, if_neg hc21, if_neg hc45, if_pos hc53, if_pos hc67, if_pos hc125]
                  refine own_retI X0 hx Bd.returns hlk (hb hby d4_179) ?_ (by decide) (by decide)
                  refine ⟨?_, N0, e0⟩
                  show some (Value.int _) = some (Value.int (pl_nu xs en 8 fr))
                  rw [← hr, pl_nu, if_pos hlt, if_pos hnl]
                · have hc125 : ¬ ((xs.getD ix.toNatClampNeg 0) &&& (255 : Int32)) < (240 : Int32) := own_lt0 hc
                  clear hc
                  show own_R p e below s _ _ _ s₁ (mkF m 128 #[.val (.ref a1), .val (.int fr), .val (.int en), .val (.int ix), .val (.int ((xs.getD ix.toNatClampNeg 0) &&& (255 : Int32))), s5, .val (.int (128 : Int32)), .val (.int (191 : Int32)), s8, s9] [])
                  refine own_iload X0 hx (hb hby d4_128) rfl ?_
                  refine own_sipush X0 hx (244 : Int32) (hb hby d4_130) rfl ?_
                  refine own_icmp X0 hx (hb hby d4_133) (pc' := 178) (by decide) (by decide) (fun hc => ?_) (fun hc => ?_)
                  · have hc133 : (244 : Int32) < ((xs.getD ix.toNatClampNeg 0) &&& (255 : Int32)) := own_gt1 hc
                    clear hc
                    show own_R p e below s _ _ _ s₁ (mkF m 178 #[.val (.ref a1), .val (.int fr), .val (.int en), .val (.int ix), .val (.int ((xs.getD ix.toNatClampNeg 0) &&& (255 : Int32))), s5, .val (.int (128 : Int32)), .val (.int (191 : Int32)), s8, s9] [])
                    refine own_iloadN X0 hx (hb hby d4_178) rfl ?_
                    have hnl : pl_nl ((xs.getD ix.toNatClampNeg 0) &&& (255 : Int32)) ((xs.getD (ix + (1 : Int32)).toNatClampNeg 0) &&& (255 : Int32)) (xs.getD (ix + (2 : Int32)).toNatClampNeg 0) (xs.getD (ix + (3 : Int32)).toNatClampNeg 0) (en - ix) = 0 := by rw [pl_nl, if_neg hc21, if_neg hc45, if_pos hc53, if_pos hc67, if_neg hc125, if_pos hc133]
                    refine own_retI X0 hx Bd.returns hlk (hb hby d4_179) ?_ (by decide) (by decide)
                    refine ⟨?_, N0, e0⟩
                    show some (Value.int _) = some (Value.int (pl_nu xs en 8 fr))
                    rw [← hr, pl_nu, if_pos hlt, if_pos hnl]
                  · have hc133 : ¬ (244 : Int32) < ((xs.getD ix.toNatClampNeg 0) &&& (255 : Int32)) := own_gt0 hc
                    clear hc
                    show own_R p e below s _ _ _ s₁ (mkF m 136 #[.val (.ref a1), .val (.int fr), .val (.int en), .val (.int ix), .val (.int ((xs.getD ix.toNatClampNeg 0) &&& (255 : Int32))), s5, .val (.int (128 : Int32)), .val (.int (191 : Int32)), s8, s9] [])
                    refine own_iconst X0 hx (4 : Int32) (hb hby d4_136) rfl ?_
                    refine own_istore X0 hx (hb hby d4_137) (l' := #[.val (.ref a1), .val (.int fr), .val (.int en), .val (.int ix), .val (.int ((xs.getD ix.toNatClampNeg 0) &&& (255 : Int32))), .val (.int (4 : Int32)), .val (.int (128 : Int32)), .val (.int (191 : Int32)), s8, s9]) (by rcases hs5 with rfl | ⟨w, rfl, hw'⟩ <;> first | rfl | (cases w <;> first | rfl | (simp [Value.category] at hw'))) ?_
                    refine own_iload X0 hx (hb hby d4_139) rfl ?_
                    refine own_sipush X0 hx (240 : Int32) (hb hby d4_141) rfl ?_
                    refine own_icmp X0 hx (hb hby d4_144) (pc' := 153) (by decide) (by decide) (fun hc => ?_) (fun hc => ?_)
                    · have hc144 : ¬ ((xs.getD ix.toNatClampNeg 0) &&& (255 : Int32)) = (240 : Int32) := own_ne1 hc
                      clear hc
                      show own_R p e below s _ _ _ s₁ (mkF m 153 #[.val (.ref a1), .val (.int fr), .val (.int en), .val (.int ix), .val (.int ((xs.getD ix.toNatClampNeg 0) &&& (255 : Int32))), .val (.int (4 : Int32)), .val (.int (128 : Int32)), .val (.int (191 : Int32)), s8, s9] [])
                      refine own_iload X0 hx (hb hby d4_153) rfl ?_
                      refine own_istore X0 hx (hb hby d4_155) (l' := #[.val (.ref a1), .val (.int fr), .val (.int en), .val (.int ix), .val (.int ((xs.getD ix.toNatClampNeg 0) &&& (255 : Int32))), .val (.int (4 : Int32)), .val (.int (128 : Int32)), .val (.int (191 : Int32)), s8, s9]) rfl ?_
                      refine own_iload X0 hx (hb hby d4_157) rfl ?_
                      refine own_sipush X0 hx (244 : Int32) (hb hby d4_159) rfl ?_
                      refine own_icmp X0 hx (hb hby d4_162) (pc' := 171) (by decide) (by decide) (fun hc => ?_) (fun hc => ?_)
                      · have hc162 : ¬ ((xs.getD ix.toNatClampNeg 0) &&& (255 : Int32)) = (244 : Int32) := own_ne1 hc
                        clear hc
                        show own_R p e below s _ _ _ s₁ (mkF m 171 #[.val (.ref a1), .val (.int fr), .val (.int en), .val (.int ix), .val (.int ((xs.getD ix.toNatClampNeg 0) &&& (255 : Int32))), .val (.int (4 : Int32)), .val (.int (128 : Int32)), .val (.int (191 : Int32)), s8, s9] [])
                        refine own_iload X0 hx (hb hby d4_171) rfl ?_
                        refine own_istore X0 hx (hb hby d4_173) (l' := #[.val (.ref a1), .val (.int fr), .val (.int en), .val (.int ix), .val (.int ((xs.getD ix.toNatClampNeg 0) &&& (255 : Int32))), .val (.int (4 : Int32)), .val (.int (128 : Int32)), .val (.int (191 : Int32)), s8, s9]) rfl ?_
                        refine own_goto X0 hx (hb hby d4_175) (pc' := 180) (by decide) (by decide) ?_
                        show own_R p e below s _ _ _ s₁ (mkF m 180 #[.val (.ref a1), .val (.int fr), .val (.int en), .val (.int ix), .val (.int ((xs.getD ix.toNatClampNeg 0) &&& (255 : Int32))), .val (.int (4 : Int32)), .val (.int (128 : Int32)), .val (.int (191 : Int32)), s8, s9] [])
                        refine own_iloadN X0 hx (hb hby d4_180) rfl ?_
                        refine own_iloadN X0 hx (hb hby d4_181) rfl ?_
                        refine own_isub X0 hx (hb hby d4_182) ?_
                        refine own_iload X0 hx (hb hby d4_183) rfl ?_
                        refine own_icmp X0 hx (hb hby d4_185) (pc' := 190) (by decide) (by decide) (fun hc => ?_) (fun hc => ?_)
                        · have hc185 : ¬ (en - ix) < (4 : Int32) := own_ge1 hc
                          clear hc
                          show own_R p e below s _ _ _ s₁ (mkF m 190 #[.val (.ref a1), .val (.int fr), .val (.int en), .val (.int ix), .val (.int ((xs.getD ix.toNatClampNeg 0) &&& (255 : Int32))), .val (.int (4 : Int32)), .val (.int (128 : Int32)), .val (.int (191 : Int32)), s8, s9] [])
                          refine own_aloadN X0 hx (hb hby d4_190) rfl rfl ?_
                          refine own_iloadN X0 hx (hb hby d4_191) rfl ?_
                          refine own_iconst X0 hx (1 : Int32) (hb hby d4_192) rfl ?_
                          refine own_iadd X0 hx (hb hby d4_193) ?_
                          refine own_baload X0 hx hZ e0 hV (v := .int (xs.getD (ix + (1 : Int32)).toNatClampNeg 0)) (pl_at1 ix en (4 : Int32) h0' hlt h8 (by decide) hc185) (pl_gd _ _) (hb hby d4_194) ?_
                          show own_R p e below s _ _ _ s₁ (mkF m 195 #[.val (.ref a1), .val (.int fr), .val (.int en), .val (.int ix), .val (.int ((xs.getD ix.toNatClampNeg 0) &&& (255 : Int32))), .val (.int (4 : Int32)), .val (.int (128 : Int32)), .val (.int (191 : Int32)), s8, s9] [(.int (xs.getD (ix + (1 : Int32)).toNatClampNeg 0))])
                          refine own_sipush X0 hx (255 : Int32) (hb hby d4_195) rfl ?_
                          refine own_iand X0 hx (hb hby d4_198) ?_
                          refine own_istore X0 hx (hb hby d4_199) (l' := #[.val (.ref a1), .val (.int fr), .val (.int en), .val (.int ix), .val (.int ((xs.getD ix.toNatClampNeg 0) &&& (255 : Int32))), .val (.int (4 : Int32)), .val (.int (128 : Int32)), .val (.int (191 : Int32)), .val (.int ((xs.getD (ix + (1 : Int32)).toNatClampNeg 0) &&& (255 : Int32))), s9]) (by rcases hs8 with rfl | ⟨w, rfl, hw'⟩ <;> first | rfl | (cases w <;> first | rfl | (simp [Value.category] at hw'))) ?_
                          refine own_iload X0 hx (hb hby d4_201) rfl ?_
                          refine own_iload X0 hx (hb hby d4_203) rfl ?_
                          refine own_icmp X0 hx (hb hby d4_205) (pc' := 215) (by decide) (by decide) (fun hc => ?_) (fun hc => ?_)
                          · have hc205 : ((xs.getD (ix + (1 : Int32)).toNatClampNeg 0) &&& (255 : Int32)) < (128 : Int32) := own_lt1 hc
                            clear hc
                            show own_R p e below s _ _ _ s₁ (mkF m 215 #[.val (.ref a1), .val (.int fr), .val (.int en), .val (.int ix), .val (.int ((xs.getD ix.toNatClampNeg 0) &&& (255 : Int32))), .val (.int (4 : Int32)), .val (.int (128 : Int32)), .val (.int (191 : Int32)), .val (.int ((xs.getD (ix + (1 : Int32)).toNatClampNeg 0) &&& (255 : Int32))), s9] [])
                            refine own_iloadN X0 hx (hb hby d4_215) rfl ?_
                            have hnl : pl_nl ((xs.getD ix.toNatClampNeg 0) &&& (255 : Int32)) ((xs.getD (ix + (1 : Int32)).toNatClampNeg 0) &&& (255 : Int32)) (xs.getD (ix + (2 : Int32)).toNatClampNeg 0) (xs.getD (ix + (3 : Int32)).toNatClampNeg 0) (en - ix) = 0 := by rw [pl_nl, if_neg hc21, if_neg hc45, if_pos hc53, if_pos hc67, if_neg hc125, if_neg hc133, if_neg hc144, if_neg hc162, if_neg hc185, if_pos hc205]
                            refine own_retI X0 hx Bd.returns hlk (hb hby d4_216) ?_ (by decide) (by decide)
                            refine ⟨?_, N0, e0⟩
                            show some (Value.int _) = some (Value.int (pl_nu xs en 8 fr))
                            rw [← hr, pl_nu, if_pos hlt, if_pos hnl]
                          · have hc205 : ¬ ((xs.getD (ix + (1 : Int32)).toNatClampNeg 0) &&& (255 : Int32)) < (128 : Int32) := own_lt0 hc
                            clear hc
                            show own_R p e below s _ _ _ s₁ (mkF m 208 #[.val (.ref a1), .val (.int fr), .val (.int en), .val (.int ix), .val (.int ((xs.getD ix.toNatClampNeg 0) &&& (255 : Int32))), .val (.int (4 : Int32)), .val (.int (128 : Int32)), .val (.int (191 : Int32)), .val (.int ((xs.getD (ix + (1 : Int32)).toNatClampNeg 0) &&& (255 : Int32))), s9] [])
                            refine own_iload X0 hx (hb hby d4_208) rfl ?_
                            refine own_iload X0 hx (hb hby d4_210) rfl ?_
                            refine own_icmp X0 hx (hb hby d4_212) (pc' := 217) (by decide) (by decide) (fun hc => ?_) (fun hc => ?_)
                            · have hc212 : ¬ (191 : Int32) < ((xs.getD (ix + (1 : Int32)).toNatClampNeg 0) &&& (255 : Int32)) := own_le1 hc
                              clear hc
                              show own_R p e below s _ _ _ s₁ (mkF m 217 #[.val (.ref a1), .val (.int fr), .val (.int en), .val (.int ix), .val (.int ((xs.getD ix.toNatClampNeg 0) &&& (255 : Int32))), .val (.int (4 : Int32)), .val (.int (128 : Int32)), .val (.int (191 : Int32)), .val (.int ((xs.getD (ix + (1 : Int32)).toNatClampNeg 0) &&& (255 : Int32))), s9] [])
                              refine own_iloadN X0 hx (hb hby d4_217) rfl ?_
                              refine own_iconst X0 hx (2 : Int32) (hb hby d4_218) rfl ?_
                              refine own_iadd X0 hx (hb hby d4_219) ?_
                              refine own_istore X0 hx (hb hby d4_220) (l' := #[.val (.ref a1), .val (.int fr), .val (.int en), .val (.int ix), .val (.int ((xs.getD ix.toNatClampNeg 0) &&& (255 : Int32))), .val (.int (4 : Int32)), .val (.int (128 : Int32)), .val (.int (191 : Int32)), .val (.int ((xs.getD (ix + (1 : Int32)).toNatClampNeg 0) &&& (255 : Int32))), .val (.int (ix + (2 : Int32)))]) (by rcases hs9 with rfl | ⟨w, rfl, hw'⟩ <;> first | rfl | (cases w <;> first | rfl | (simp [Value.category] at hw'))) ?_
                              refine own_iload X0 hx (hb hby d4_222) rfl ?_
                              refine own_iloadN X0 hx (hb hby d4_224) rfl ?_
                              refine own_iload X0 hx (hb hby d4_225) rfl ?_
                              refine own_iadd X0 hx (hb hby d4_227) ?_
                              refine own_icmp X0 hx (hb hby d4_228) (pc' := 253) (by decide) (by decide) (fun hc => ?_) (fun hc => ?_)
                              · have hl2 : ¬ (ix + (2 : Int32)) < (ix + (4 : Int32)) := own_ge1 hc
                                exfalso; obtain ⟨d1, d2⟩ := pl_d ix en h0' hlt h8; obtain ⟨a1, a2, a3, a4, a5, a6⟩ := pl_off ix h0' d2; rw [Int32.lt_iff_toInt_lt] at hl2; omega
                              · have hl2 : (ix + (2 : Int32)) < (ix + (4 : Int32)) := own_ge0 hc
                                clear hc
                                show own_R p e below s _ _ _ s₁ (mkF m 231 #[.val (.ref a1), .val (.int fr), .val (.int en), .val (.int ix), .val (.int ((xs.getD ix.toNatClampNeg 0) &&& (255 : Int32))), .val (.int (4 : Int32)), .val (.int (128 : Int32)), .val (.int (191 : Int32)), .val (.int ((xs.getD (ix + (1 : Int32)).toNatClampNeg 0) &&& (255 : Int32))), .val (.int (ix + (2 : Int32)))] [])
                                refine own_aloadN X0 hx (hb hby d4_231) rfl rfl ?_
                                refine own_iload X0 hx (hb hby d4_232) rfl ?_
                                refine own_baload X0 hx hZ e0 hV (v := .int (xs.getD (ix + (2 : Int32)).toNatClampNeg 0)) (pl_at2 ix en (4 : Int32) h0' hlt h8 (by decide) hc185) (pl_gd _ _) (hb hby d4_234) ?_
                                show own_R p e below s _ _ _ s₁ (mkF m 235 #[.val (.ref a1), .val (.int fr), .val (.int en), .val (.int ix), .val (.int ((xs.getD ix.toNatClampNeg 0) &&& (255 : Int32))), .val (.int (4 : Int32)), .val (.int (128 : Int32)), .val (.int (191 : Int32)), .val (.int ((xs.getD (ix + (1 : Int32)).toNatClampNeg 0) &&& (255 : Int32))), .val (.int (ix + (2 : Int32)))] [(.int (xs.getD (ix + (2 : Int32)).toNatClampNeg 0))])
                                refine own_sipush X0 hx (192 : Int32) (hb hby d4_235) rfl ?_
                                refine own_iand X0 hx (hb hby d4_238) ?_
                                refine own_sipush X0 hx (128 : Int32) (hb hby d4_239) rfl ?_
                                refine own_icmp X0 hx (hb hby d4_242) (pc' := 247) (by decide) (by decide) (fun hc => ?_) (fun hc => ?_)
                                · have hc242_2 : ((xs.getD (ix + (2 : Int32)).toNatClampNeg 0) &&& (192 : Int32)) = (128 : Int32) := own_eq1 hc
                                  clear hc
                                  show own_R p e below s _ _ _ s₁ (mkF m 247 #[.val (.ref a1), .val (.int fr), .val (.int en), .val (.int ix), .val (.int ((xs.getD ix.toNatClampNeg 0) &&& (255 : Int32))), .val (.int (4 : Int32)), .val (.int (128 : Int32)), .val (.int (191 : Int32)), .val (.int ((xs.getD (ix + (1 : Int32)).toNatClampNeg 0) &&& (255 : Int32))), .val (.int (ix + (2 : Int32)))] [])
                                  refine own_iinc X0 hx (1 : Int32) (hb hby d4_247) rfl rfl (l' := #[.val (.ref a1), .val (.int fr), .val (.int en), .val (.int ix), .val (.int ((xs.getD ix.toNatClampNeg 0) &&& (255 : Int32))), .val (.int (4 : Int32)), .val (.int (128 : Int32)), .val (.int (191 : Int32)), .val (.int ((xs.getD (ix + (1 : Int32)).toNatClampNeg 0) &&& (255 : Int32))), .val (.int ((ix + (2 : Int32)) + (1 : Int32)))]) rfl ?_
                                  refine own_goto X0 hx (hb hby d4_250) (pc' := 222) (by decide) (by decide) ?_
                                  show own_R p e below s _ _ _ s₁ (mkF m 222 #[.val (.ref a1), .val (.int fr), .val (.int en), .val (.int ix), .val (.int ((xs.getD ix.toNatClampNeg 0) &&& (255 : Int32))), .val (.int (4 : Int32)), .val (.int (128 : Int32)), .val (.int (191 : Int32)), .val (.int ((xs.getD (ix + (1 : Int32)).toNatClampNeg 0) &&& (255 : Int32))), .val (.int ((ix + (2 : Int32)) + (1 : Int32)))] [])
                                  refine own_iload X0 hx (hb hby d4_222) rfl ?_
                                  refine own_iloadN X0 hx (hb hby d4_224) rfl ?_
                                  refine own_iload X0 hx (hb hby d4_225) rfl ?_
                                  refine own_iadd X0 hx (hb hby d4_227) ?_
                                  refine own_icmp X0 hx (hb hby d4_228) (pc' := 253) (by decide) (by decide) (fun hc => ?_) (fun hc => ?_)
                                  · have hl3 : ¬ ((ix + (2 : Int32)) + (1 : Int32)) < (ix + (4 : Int32)) := own_ge1 hc
                                    exfalso; obtain ⟨d1, d2⟩ := pl_d ix en h0' hlt h8; obtain ⟨a1, a2, a3, a4, a5, a6⟩ := pl_off ix h0' d2; rw [Int32.lt_iff_toInt_lt] at hl3; omega
                                  · have hl3 : ((ix + (2 : Int32)) + (1 : Int32)) < (ix + (4 : Int32)) := own_ge0 hc
                                    clear hc
                                    show own_R p e below s _ _ _ s₁ (mkF m 231 #[.val (.ref a1), .val (.int fr), .val (.int en), .val (.int ix), .val (.int ((xs.getD ix.toNatClampNeg 0) &&& (255 : Int32))), .val (.int (4 : Int32)), .val (.int (128 : Int32)), .val (.int (191 : Int32)), .val (.int ((xs.getD (ix + (1 : Int32)).toNatClampNeg 0) &&& (255 : Int32))), .val (.int ((ix + (2 : Int32)) + (1 : Int32)))] [])
                                    refine own_aloadN X0 hx (hb hby d4_231) rfl rfl ?_
                                    refine own_iload X0 hx (hb hby d4_232) rfl ?_
                                    rw [pl_21]
                                    show own_R p e below s _ _ _ s₁ (mkF m 234 #[.val (.ref a1), .val (.int fr), .val (.int en), .val (.int ix), .val (.int ((xs.getD ix.toNatClampNeg 0) &&& (255 : Int32))), .val (.int (4 : Int32)), .val (.int (128 : Int32)), .val (.int (191 : Int32)), .val (.int ((xs.getD (ix + (1 : Int32)).toNatClampNeg 0) &&& (255 : Int32))), .val (.int (ix + (3 : Int32)))] [(.int (ix + (3 : Int32))), (.ref a1)])
                                    refine own_baload X0 hx hZ e0 hV (v := .int (xs.getD (ix + (3 : Int32)).toNatClampNeg 0)) (pl_at3 ix en (4 : Int32) h0' hlt h8 (by decide) hc185) (pl_gd _ _) (hb hby d4_234) ?_
                                    show own_R p e below s _ _ _ s₁ (mkF m 235 #[.val (.ref a1), .val (.int fr), .val (.int en), .val (.int ix), .val (.int ((xs.getD ix.toNatClampNeg 0) &&& (255 : Int32))), .val (.int (4 : Int32)), .val (.int (128 : Int32)), .val (.int (191 : Int32)), .val (.int ((xs.getD (ix + (1 : Int32)).toNatClampNeg 0) &&& (255 : Int32))), .val (.int (ix + (3 : Int32)))] [(.int (xs.getD (ix + (3 : Int32)).toNatClampNeg 0))])
                                    refine own_sipush X0 hx (192 : Int32) (hb hby d4_235) rfl ?_
                                    refine own_iand X0 hx (hb hby d4_238) ?_
                                    refine own_sipush X0 hx (128 : Int32) (hb hby d4_239) rfl ?_
                                    refine own_icmp X0 hx (hb hby d4_242) (pc' := 247) (by decide) (by decide) (fun hc => ?_) (fun hc => ?_)
                                    · have hc242_3 : ((xs.getD (ix + (3 : Int32)).toNatClampNeg 0) &&& (192 : Int32)) = (128 : Int32) := own_eq1 hc
                                      clear hc
                                      show own_R p e below s _ _ _ s₁ (mkF m 247 #[.val (.ref a1), .val (.int fr), .val (.int en), .val (.int ix), .val (.int ((xs.getD ix.toNatClampNeg 0) &&& (255 : Int32))), .val (.int (4 : Int32)), .val (.int (128 : Int32)), .val (.int (191 : Int32)), .val (.int ((xs.getD (ix + (1 : Int32)).toNatClampNeg 0) &&& (255 : Int32))), .val (.int (ix + (3 : Int32)))] [])
                                      refine own_iinc X0 hx (1 : Int32) (hb hby d4_247) rfl rfl (l' := #[.val (.ref a1), .val (.int fr), .val (.int en), .val (.int ix), .val (.int ((xs.getD ix.toNatClampNeg 0) &&& (255 : Int32))), .val (.int (4 : Int32)), .val (.int (128 : Int32)), .val (.int (191 : Int32)), .val (.int ((xs.getD (ix + (1 : Int32)).toNatClampNeg 0) &&& (255 : Int32))), .val (.int ((ix + (3 : Int32)) + (1 : Int32)))]) rfl ?_
                                      refine own_goto X0 hx (hb hby d4_250) (pc' := 222) (by decide) (by decide) ?_
                                      show own_R p e below s _ _ _ s₁ (mkF m 222 #[.val (.ref a1), .val (.int fr), .val (.int en), .val (.int ix), .val (.int ((xs.getD ix.toNatClampNeg 0) &&& (255 : Int32))), .val (.int (4 : Int32)), .val (.int (128 : Int32)), .val (.int (191 : Int32)), .val (.int ((xs.getD (ix + (1 : Int32)).toNatClampNeg 0) &&& (255 : Int32))), .val (.int ((ix + (3 : Int32)) + (1 : Int32)))] [])
                                      refine own_iload X0 hx (hb hby d4_222) rfl ?_
                                      refine own_iloadN X0 hx (hb hby d4_224) rfl ?_
                                      refine own_iload X0 hx (hb hby d4_225) rfl ?_
                                      refine own_iadd X0 hx (hb hby d4_227) ?_
                                      refine own_icmp X0 hx (hb hby d4_228) (pc' := 253) (by decide) (by decide) (fun hc => ?_) (fun hc => ?_)
                                      · have hl4 : ¬ ((ix + (3 : Int32)) + (1 : Int32)) < (ix + (4 : Int32)) := own_ge1 hc
                                        clear hc
                                        show own_R p e below s _ _ _ s₁ (mkF m 253 #[.val (.ref a1), .val (.int fr), .val (.int en), .val (.int ix), .val (.int ((xs.getD ix.toNatClampNeg 0) &&& (255 : Int32))), .val (.int (4 : Int32)), .val (.int (128 : Int32)), .val (.int (191 : Int32)), .val (.int ((xs.getD (ix + (1 : Int32)).toNatClampNeg 0) &&& (255 : Int32))), .val (.int ((ix + (3 : Int32)) + (1 : Int32)))] [])
                                        refine own_iloadN X0 hx (hb hby d4_253) rfl ?_
                                        refine own_iload X0 hx (hb hby d4_254) rfl ?_
                                        refine own_iadd X0 hx (hb hby d4_256) ?_
                                        refine own_istoreN X0 hx (hb hby d4_257) (l' := #[.val (.ref a1), .val (.int fr), .val (.int en), .val (.int (ix + (4 : Int32))), .val (.int ((xs.getD ix.toNatClampNeg 0) &&& (255 : Int32))), .val (.int (4 : Int32)), .val (.int (128 : Int32)), .val (.int (191 : Int32)), .val (.int ((xs.getD (ix + (1 : Int32)).toNatClampNeg 0) &&& (255 : Int32))), .val (.int ((ix + (3 : Int32)) + (1 : Int32)))]) rfl ?_
                                        refine own_goto X0 hx (hb hby d4_258) (pc' := 2) (by decide) (by decide) ?_
                                        show own_R p e below s _ _ _ s₁ (mkF m 2 #[.val (.ref a1), .val (.int fr), .val (.int en), .val (.int (ix + (4 : Int32))), .val (.int ((xs.getD ix.toNatClampNeg 0) &&& (255 : Int32))), .val (.int (4 : Int32)), .val (.int (128 : Int32)), .val (.int (191 : Int32)), .val (.int ((xs.getD (ix + (1 : Int32)).toNatClampNeg 0) &&& (255 : Int32))), .val (.int ((ix + (3 : Int32)) + (1 : Int32)))] [])
                                        have hnl : pl_nl ((xs.getD ix.toNatClampNeg 0) &&& (255 : Int32)) ((xs.getD (ix + (1 : Int32)).toNatClampNeg 0) &&& (255 : Int32)) (xs.getD (ix + (2 : Int32)).toNatClampNeg 0) (xs.getD (ix + (3 : Int32)).toNatClampNeg 0) (en - ix) = (4 : Int32) := by rw [pl_nl, if_neg hc21, if_neg hc45, if_pos hc53, if_pos hc67, if_neg hc125, if_neg hc133, if_neg hc144, if_neg hc162, if_neg hc185, if_neg hc205, if_neg hc212, if_pos hc242_2, if_pos hc242_3]
                                        obtain ⟨u0, uk⟩ := pl_adv ix en (4 : Int32) k h0' hlt h8 hk' (by decide)
                                        exact ih _ _ _ _ _ _ _ (One.val rfl) (One.val rfl) (One.val rfl) (One.val rfl) (One.val rfl) (One.val rfl) u0 uk (by rw [← hr]; conv => rhs; rw [pl_nu, if_pos hlt, hnl, if_neg (by decide)])
                                      · have hl4 : ((ix + (3 : Int32)) + (1 : Int32)) < (ix + (4 : Int32)) := own_ge0 hc
                                        exfalso; obtain ⟨d1, d2⟩ := pl_d ix en h0' hlt h8; obtain ⟨a1, a2, a3, a4, a5, a6⟩ := pl_off ix h0' d2; rw [Int32.lt_iff_toInt_lt] at hl4; omega
                                    · have hc242_3 : ¬ ((xs.getD (ix + (3 : Int32)).toNatClampNeg 0) &&& (192 : Int32)) = (128 : Int32) := own_eq0 hc
                                      clear hc
                                      show own_R p e below s _ _ _ s₁ (mkF m 245 #[.val (.ref a1), .val (.int fr), .val (.int en), .val (.int ix), .val (.int ((xs.getD ix.toNatClampNeg 0) &&& (255 : Int32))), .val (.int (4 : Int32)), .val (.int (128 : Int32)), .val (.int (191 : Int32)), .val (.int ((xs.getD (ix + (1 : Int32)).toNatClampNeg 0) &&& (255 : Int32))), .val (.int (ix + (3 : Int32)))] [])
                                      refine own_iloadN X0 hx (hb hby d4_245) rfl ?_
                                      have hnl : pl_nl ((xs.getD ix.toNatClampNeg 0) &&& (255 : Int32)) ((xs.getD (ix + (1 : Int32)).toNatClampNeg 0) &&& (255 : Int32)) (xs.getD (ix + (2 : Int32)).toNatClampNeg 0) (xs.getD (ix + (3 : Int32)).toNatClampNeg 0) (en - ix) = 0 := by rw [pl_nl, if_neg hc21, if_neg hc45, if_pos hc53, if_pos hc67, if_neg hc125, if_neg hc133, if_neg hc144, if_neg hc162, if_neg hc185, if_neg hc205, if_neg hc212, if_pos hc242_2, if_neg hc242_3]
                                      refine own_retI X0 hx Bd.returns hlk (hb hby d4_246) ?_ (by decide) (by decide)
                                      refine ⟨?_, N0, e0⟩
                                      show some (Value.int _) = some (Value.int (pl_nu xs en 8 fr))
                                      rw [← hr, pl_nu, if_pos hlt, if_pos hnl]
                                · have hc242_2 : ¬ ((xs.getD (ix + (2 : Int32)).toNatClampNeg 0) &&& (192 : Int32)) = (128 : Int32) := own_eq0 hc
                                  clear hc
                                  show own_R p e below s _ _ _ s₁ (mkF m 245 #[.val (.ref a1), .val (.int fr), .val (.int en), .val (.int ix), .val (.int ((xs.getD ix.toNatClampNeg 0) &&& (255 : Int32))), .val (.int (4 : Int32)), .val (.int (128 : Int32)), .val (.int (191 : Int32)), .val (.int ((xs.getD (ix + (1 : Int32)).toNatClampNeg 0) &&& (255 : Int32))), .val (.int (ix + (2 : Int32)))] [])
                                  refine own_iloadN X0 hx (hb hby d4_245) rfl ?_
                                  have hnl : pl_nl ((xs.getD ix.toNatClampNeg 0) &&& (255 : Int32)) ((xs.getD (ix + (1 : Int32)).toNatClampNeg 0) &&& (255 : Int32)) (xs.getD (ix + (2 : Int32)).toNatClampNeg 0) (xs.getD (ix + (3 : Int32)).toNatClampNeg 0) (en - ix) = 0 := by rw [pl_nl, if_neg hc21, if_neg hc45, if_pos hc53, if_pos hc67, if_neg hc125, if_neg hc133, if_neg hc144, if_neg hc162, if_neg hc185, if_neg hc205, if_neg hc212, if_neg hc242_2]
                                  refine own_retI X0 hx Bd.returns hlk (hb hby d4_246) ?_ (by decide) (by decide)
                                  refine ⟨?_, N0, e0⟩
                                  show some (Value.int _) = some (Value.int (pl_nu xs en 8 fr))
                                  rw [← hr, pl_nu, if_pos hlt, if_pos hnl]
                            · have hc212 : (191 : Int32) < ((xs.getD (ix + (1 : Int32)).toNatClampNeg 0) &&& (255 : Int32)) := own_le0 hc
                              clear hc
                              show own_R p e below s _ _ _ s₁ (mkF m 215 #[.val (.ref a1), .val (.int fr), .val (.int en), .val (.int ix), .val (.int ((xs.getD ix.toNatClampNeg 0) &&& (255 : Int32))), .val (.int (4 : Int32)), .val (.int (128 : Int32)), .val (.int (191 : Int32)), .val (.int ((xs.getD (ix + (1 : Int32)).toNatClampNeg 0) &&& (255 : Int32))), s9] [])
                              refine own_iloadN X0 hx (hb hby d4_215) rfl ?_
                              have hnl : pl_nl ((xs.getD ix.toNatClampNeg 0) &&& (255 : Int32)) ((xs.getD (ix + (1 : Int32)).toNatClampNeg 0) &&& (255 : Int32)) (xs.getD (ix + (2 : Int32)).toNatClampNeg 0) (xs.getD (ix + (3 : Int32)).toNatClampNeg 0) (en - ix) = 0 := by rw [pl_nl, if_neg hc21, if_neg hc45, if_pos hc53, if_pos hc67, if_neg hc125, if_neg hc133, if_neg hc144, if_neg hc162, if_neg hc185, if_neg hc205, if_pos hc212]
                              refine own_retI X0 hx Bd.returns hlk (hb hby d4_216) ?_ (by decide) (by decide)
                              refine ⟨?_, N0, e0⟩
                              show some (Value.int _) = some (Value.int (pl_nu xs en 8 fr))
                              rw [← hr, pl_nu, if_pos hlt, if_pos hnl]
                        · have hc185 : (en - ix) < (4 : Int32) := own_ge0 hc
                          clear hc
                          show own_R p e below s _ _ _ s₁ (mkF m 188 #[.val (.ref a1), .val (.int fr), .val (.int en), .val (.int ix), .val (.int ((xs.getD ix.toNatClampNeg 0) &&& (255 : Int32))), .val (.int (4 : Int32)), .val (.int (128 : Int32)), .val (.int (191 : Int32)), s8, s9] [])
                          refine own_iloadN X0 hx (hb hby d4_188) rfl ?_
                          have hnl : pl_nl ((xs.getD ix.toNatClampNeg 0) &&& (255 : Int32)) ((xs.getD (ix + (1 : Int32)).toNatClampNeg 0) &&& (255 : Int32)) (xs.getD (ix + (2 : Int32)).toNatClampNeg 0) (xs.getD (ix + (3 : Int32)).toNatClampNeg 0) (en - ix) = 0 := by rw [pl_nl, if_neg hc21, if_neg hc45, if_pos hc53, if_pos hc67, if_neg hc125, if_neg hc133, if_neg hc144, if_neg hc162, if_pos hc185]
                          refine own_retI X0 hx Bd.returns hlk (hb hby d4_189) ?_ (by decide) (by decide)
                          refine ⟨?_, N0, e0⟩
                          show some (Value.int _) = some (Value.int (pl_nu xs en 8 fr))
                          rw [← hr, pl_nu, if_pos hlt, if_pos hnl]
                      · have hc162 : ((xs.getD ix.toNatClampNeg 0) &&& (255 : Int32)) = (244 : Int32) := own_ne0 hc
                        clear hc
                        show own_R p e below s _ _ _ s₁ (mkF m 165 #[.val (.ref a1), .val (.int fr), .val (.int en), .val (.int ix), .val (.int ((xs.getD ix.toNatClampNeg 0) &&& (255 : Int32))), .val (.int (4 : Int32)), .val (.int (128 : Int32)), .val (.int (191 : Int32)), s8, s9] [])
                        refine own_sipush X0 hx (143 : Int32) (hb hby d4_165) rfl ?_
                        refine own_goto X0 hx (hb hby d4_168) (pc' := 173) (by decide) (by decide) ?_
                        show own_R p e below s _ _ _ s₁ (mkF m 173 #[.val (.ref a1), .val (.int fr), .val (.int en), .val (.int ix), .val (.int ((xs.getD ix.toNatClampNeg 0) &&& (255 : Int32))), .val (.int (4 : Int32)), .val (.int (128 : Int32)), .val (.int (191 : Int32)), s8, s9] [(.int (143 : Int32))])
                        refine own_istore X0 hx (hb hby d4_173) (l' := #[.val (.ref a1), .val (.int fr), .val (.int en), .val (.int ix), .val (.int ((xs.getD ix.toNatClampNeg 0) &&& (255 : Int32))), .val (.int (4 : Int32)), .val (.int (128 : Int32)), .val (.int (143 : Int32)), s8, s9]) rfl ?_
                        refine own_goto X0 hx (hb hby d4_175) (pc' := 180) (by decide) (by decide) ?_
                        show own_R p e below s _ _ _ s₁ (mkF m 180 #[.val (.ref a1), .val (.int fr), .val (.int en), .val (.int ix), .val (.int ((xs.getD ix.toNatClampNeg 0) &&& (255 : Int32))), .val (.int (4 : Int32)), .val (.int (128 : Int32)), .val (.int (143 : Int32)), s8, s9] [])
                        refine own_iloadN X0 hx (hb hby d4_180) rfl ?_
                        refine own_iloadN X0 hx (hb hby d4_181) rfl ?_
                        refine own_isub X0 hx (hb hby d4_182) ?_
                        refine own_iload X0 hx (hb hby d4_183) rfl ?_
                        refine own_icmp X0 hx (hb hby d4_185) (pc' := 190) (by decide) (by decide) (fun hc => ?_) (fun hc => ?_)
                        · have hc185 : ¬ (en - ix) < (4 : Int32) := own_ge1 hc
                          clear hc
                          show own_R p e below s _ _ _ s₁ (mkF m 190 #[.val (.ref a1), .val (.int fr), .val (.int en), .val (.int ix), .val (.int ((xs.getD ix.toNatClampNeg 0) &&& (255 : Int32))), .val (.int (4 : Int32)), .val (.int (128 : Int32)), .val (.int (143 : Int32)), s8, s9] [])
                          refine own_aloadN X0 hx (hb hby d4_190) rfl rfl ?_
                          refine own_iloadN X0 hx (hb hby d4_191) rfl ?_
                          refine own_iconst X0 hx (1 : Int32) (hb hby d4_192) rfl ?_
                          refine own_iadd X0 hx (hb hby d4_193) ?_
                          refine own_baload X0 hx hZ e0 hV (v := .int (xs.getD (ix + (1 : Int32)).toNatClampNeg 0)) (pl_at1 ix en (4 : Int32) h0' hlt h8 (by decide) hc185) (pl_gd _ _) (hb hby d4_194) ?_
                          show own_R p e below s _ _ _ s₁ (mkF m 195 #[.val (.ref a1), .val (.int fr), .val (.int en), .val (.int ix), .val (.int ((xs.getD ix.toNatClampNeg 0) &&& (255 : Int32))), .val (.int (4 : Int32)), .val (.int (128 : Int32)), .val (.int (143 : Int32)), s8, s9] [(.int (xs.getD (ix + (1 : Int32)).toNatClampNeg 0))])
                          refine own_sipush X0 hx (255 : Int32) (hb hby d4_195) rfl ?_
                          refine own_iand X0 hx (hb hby d4_198) ?_
                          refine own_istore X0 hx (hb hby d4_199) (l' := #[.val (.ref a1), .val (.int fr), .val (.int en), .val (.int ix), .val (.int ((xs.getD ix.toNatClampNeg 0) &&& (255 : Int32))), .val (.int (4 : Int32)), .val (.int (128 : Int32)), .val (.int (143 : Int32)), .val (.int ((xs.getD (ix + (1 : Int32)).toNatClampNeg 0) &&& (255 : Int32))), s9]) (by rcases hs8 with rfl | ⟨w, rfl, hw'⟩ <;> first | rfl | (cases w <;> first | rfl | (simp [Value.category] at hw'))) ?_
                          refine own_iload X0 hx (hb hby d4_201) rfl ?_
                          refine own_iload X0 hx (hb hby d4_203) rfl ?_
                          refine own_icmp X0 hx (hb hby d4_205) (pc' := 215) (by decide) (by decide) (fun hc => ?_) (fun hc => ?_)
                          · have hc205 : ((xs.getD (ix + (1 : Int32)).toNatClampNeg 0) &&& (255 : Int32)) < (128 : Int32) := own_lt1 hc
                            clear hc
                            show own_R p e below s _ _ _ s₁ (mkF m 215 #[.val (.ref a1), .val (.int fr), .val (.int en), .val (.int ix), .val (.int ((xs.getD ix.toNatClampNeg 0) &&& (255 : Int32))), .val (.int (4 : Int32)), .val (.int (128 : Int32)), .val (.int (143 : Int32)), .val (.int ((xs.getD (ix + (1 : Int32)).toNatClampNeg 0) &&& (255 : Int32))), s9] [])
                            refine own_iloadN X0 hx (hb hby d4_215) rfl ?_
                            have hnl : pl_nl ((xs.getD ix.toNatClampNeg 0) &&& (255 : Int32)) ((xs.getD (ix + (1 : Int32)).toNatClampNeg 0) &&& (255 : Int32)) (xs.getD (ix + (2 : Int32)).toNatClampNeg 0) (xs.getD (ix + (3 : Int32)).toNatClampNeg 0) (en - ix) = 0 := by rw [pl_nl, if_neg hc21, if_neg hc45, if_pos hc53, if_pos hc67, if_neg hc125, if_neg hc133, if_neg hc144, if_pos hc162, if_neg hc185, if_pos hc205]
                            refine own_retI X0 hx Bd.returns hlk (hb hby d4_216) ?_ (by decide) (by decide)
                            refine ⟨?_, N0, e0⟩
                            show some (Value.int _) = some (Value.int (pl_nu xs en 8 fr))
                            rw [← hr, pl_nu, if_pos hlt, if_pos hnl]
                          · have hc205 : ¬ ((xs.getD (ix + (1 : Int32)).toNatClampNeg 0) &&& (255 : Int32)) < (128 : Int32) := own_lt0 hc
                            clear hc
                            show own_R p e below s _ _ _ s₁ (mkF m 208 #[.val (.ref a1), .val (.int fr), .val (.int en), .val (.int ix), .val (.int ((xs.getD ix.toNatClampNeg 0) &&& (255 : Int32))), .val (.int (4 : Int32)), .val (.int (128 : Int32)), .val (.int (143 : Int32)), .val (.int ((xs.getD (ix + (1 : Int32)).toNatClampNeg 0) &&& (255 : Int32))), s9] [])
                            refine own_iload X0 hx (hb hby d4_208) rfl ?_
                            refine own_iload X0 hx (hb hby d4_210) rfl ?_
                            refine own_icmp X0 hx (hb hby d4_212) (pc' := 217) (by decide) (by decide) (fun hc => ?_) (fun hc => ?_)
                            · have hc212 : ¬ (143 : Int32) < ((xs.getD (ix + (1 : Int32)).toNatClampNeg 0) &&& (255 : Int32)) := own_le1 hc
                              clear hc
                              show own_R p e below s _ _ _ s₁ (mkF m 217 #[.val (.ref a1), .val (.int fr), .val (.int en), .val (.int ix), .val (.int ((xs.getD ix.toNatClampNeg 0) &&& (255 : Int32))), .val (.int (4 : Int32)), .val (.int (128 : Int32)), .val (.int (143 : Int32)), .val (.int ((xs.getD (ix + (1 : Int32)).toNatClampNeg 0) &&& (255 : Int32))), s9] [])
                              refine own_iloadN X0 hx (hb hby d4_217) rfl ?_
                              refine own_iconst X0 hx (2 : Int32) (hb hby d4_218) rfl ?_
                              refine own_iadd X0 hx (hb hby d4_219) ?_
                              refine own_istore X0 hx (hb hby d4_220) (l' := #[.val (.ref a1), .val (.int fr), .val (.int en), .val (.int ix), .val (.int ((xs.getD ix.toNatClampNeg 0) &&& (255 : Int32))), .val (.int (4 : Int32)), .val (.int (128 : Int32)), .val (.int (143 : Int32)), .val (.int ((xs.getD (ix + (1 : Int32)).toNatClampNeg 0) &&& (255 : Int32))), .val (.int (ix + (2 : Int32)))]) (by rcases hs9 with rfl | ⟨w, rfl, hw'⟩ <;> first | rfl | (cases w <;> first | rfl | (simp [Value.category] at hw'))) ?_
                              refine own_iload X0 hx (hb hby d4_222) rfl ?_
                              refine own_iloadN X0 hx (hb hby d4_224) rfl ?_
                              refine own_iload X0 hx (hb hby d4_225) rfl ?_
                              refine own_iadd X0 hx (hb hby d4_227) ?_
                              refine own_icmp X0 hx (hb hby d4_228) (pc' := 253) (by decide) (by decide) (fun hc => ?_) (fun hc => ?_)
                              · have hl2 : ¬ (ix + (2 : Int32)) < (ix + (4 : Int32)) := own_ge1 hc
                                exfalso; obtain ⟨d1, d2⟩ := pl_d ix en h0' hlt h8; obtain ⟨a1, a2, a3, a4, a5, a6⟩ := pl_off ix h0' d2; rw [Int32.lt_iff_toInt_lt] at hl2; omega
                              · have hl2 : (ix + (2 : Int32)) < (ix + (4 : Int32)) := own_ge0 hc
                                clear hc
                                show own_R p e below s _ _ _ s₁ (mkF m 231 #[.val (.ref a1), .val (.int fr), .val (.int en), .val (.int ix), .val (.int ((xs.getD ix.toNatClampNeg 0) &&& (255 : Int32))), .val (.int (4 : Int32)), .val (.int (128 : Int32)), .val (.int (143 : Int32)), .val (.int ((xs.getD (ix + (1 : Int32)).toNatClampNeg 0) &&& (255 : Int32))), .val (.int (ix + (2 : Int32)))] [])
                                refine own_aloadN X0 hx (hb hby d4_231) rfl rfl ?_
                                refine own_iload X0 hx (hb hby d4_232) rfl ?_
                                refine own_baload X0 hx hZ e0 hV (v := .int (xs.getD (ix + (2 : Int32)).toNatClampNeg 0)) (pl_at2 ix en (4 : Int32) h0' hlt h8 (by decide) hc185) (pl_gd _ _) (hb hby d4_234) ?_
                                show own_R p e below s _ _ _ s₁ (mkF m 235 #[.val (.ref a1), .val (.int fr), .val (.int en), .val (.int ix), .val (.int ((xs.getD ix.toNatClampNeg 0) &&& (255 : Int32))), .val (.int (4 : Int32)), .val (.int (128 : Int32)), .val (.int (143 : Int32)), .val (.int ((xs.getD (ix + (1 : Int32)).toNatClampNeg 0) &&& (255 : Int32))), .val (.int (ix + (2 : Int32)))] [(.int (xs.getD (ix + (2 : Int32)).toNatClampNeg 0))])
                                refine own_sipush X0 hx (192 : Int32) (hb hby d4_235) rfl ?_
                                refine own_iand X0 hx (hb hby d4_238) ?_
                                refine own_sipush X0 hx (128 : Int32) (hb hby d4_239) rfl ?_
                                refine own_icmp X0 hx (hb hby d4_242) (pc' := 247) (by decide) (by decide) (fun hc => ?_) (fun hc => ?_)
                                · have hc242_2 : ((xs.getD (ix + (2 : Int32)).toNatClampNeg 0) &&& (192 : Int32)) = (128 : Int32) := own_eq1 hc
                                  clear hc
                                  show own_R p e below s _ _ _ s₁ (mkF m 247 #[.val (.ref a1), .val (.int fr), .val (.int en), .val (.int ix), .val (.int ((xs.getD ix.toNatClampNeg 0) &&& (255 : Int32))), .val (.int (4 : Int32)), .val (.int (128 : Int32)), .val (.int (143 : Int32)), .val (.int ((xs.getD (ix + (1 : Int32)).toNatClampNeg 0) &&& (255 : Int32))), .val (.int (ix + (2 : Int32)))] [])
                                  refine own_iinc X0 hx (1 : Int32) (hb hby d4_247) rfl rfl (l' := #[.val (.ref a1), .val (.int fr), .val (.int en), .val (.int ix), .val (.int ((xs.getD ix.toNatClampNeg 0) &&& (255 : Int32))), .val (.int (4 : Int32)), .val (.int (128 : Int32)), .val (.int (143 : Int32)), .val (.int ((xs.getD (ix + (1 : Int32)).toNatClampNeg 0) &&& (255 : Int32))), .val (.int ((ix + (2 : Int32)) + (1 : Int32)))]) rfl ?_
                                  refine own_goto X0 hx (hb hby d4_250) (pc' := 222) (by decide) (by decide) ?_
                                  show own_R p e below s _ _ _ s₁ (mkF m 222 #[.val (.ref a1), .val (.int fr), .val (.int en), .val (.int ix), .val (.int ((xs.getD ix.toNatClampNeg 0) &&& (255 : Int32))), .val (.int (4 : Int32)), .val (.int (128 : Int32)), .val (.int (143 : Int32)), .val (.int ((xs.getD (ix + (1 : Int32)).toNatClampNeg 0) &&& (255 : Int32))), .val (.int ((ix + (2 : Int32)) + (1 : Int32)))] [])
                                  refine own_iload X0 hx (hb hby d4_222) rfl ?_
                                  refine own_iloadN X0 hx (hb hby d4_224) rfl ?_
                                  refine own_iload X0 hx (hb hby d4_225) rfl ?_
                                  refine own_iadd X0 hx (hb hby d4_227) ?_
                                  refine own_icmp X0 hx (hb hby d4_228) (pc' := 253) (by decide) (by decide) (fun hc => ?_) (fun hc => ?_)
                                  · have hl3 : ¬ ((ix + (2 : Int32)) + (1 : Int32)) < (ix + (4 : Int32)) := own_ge1 hc
                                    exfalso; obtain ⟨d1, d2⟩ := pl_d ix en h0' hlt h8; obtain ⟨a1, a2, a3, a4, a5, a6⟩ := pl_off ix h0' d2; rw [Int32.lt_iff_toInt_lt] at hl3; omega
                                  · have hl3 : ((ix + (2 : Int32)) + (1 : Int32)) < (ix + (4 : Int32)) := own_ge0 hc
                                    clear hc
                                    show own_R p e below s _ _ _ s₁ (mkF m 231 #[.val (.ref a1), .val (.int fr), .val (.int en), .val (.int ix), .val (.int ((xs.getD ix.toNatClampNeg 0) &&& (255 : Int32))), .val (.int (4 : Int32)), .val (.int (128 : Int32)), .val (.int (143 : Int32)), .val (.int ((xs.getD (ix + (1 : Int32)).toNatClampNeg 0) &&& (255 : Int32))), .val (.int ((ix + (2 : Int32)) + (1 : Int32)))] [])
                                    refine own_aloadN X0 hx (hb hby d4_231) rfl rfl ?_
                                    refine own_iload X0 hx (hb hby d4_232) rfl ?_
                                    rw [pl_21]
                                    show own_R p e below s _ _ _ s₁ (mkF m 234 #[.val (.ref a1), .val (.int fr), .val (.int en), .val (.int ix), .val (.int ((xs.getD ix.toNatClampNeg 0) &&& (255 : Int32))), .val (.int (4 : Int32)), .val (.int (128 : Int32)), .val (.int (143 : Int32)), .val (.int ((xs.getD (ix + (1 : Int32)).toNatClampNeg 0) &&& (255 : Int32))), .val (.int (ix + (3 : Int32)))] [(.int (ix + (3 : Int32))), (.ref a1)])
                                    refine own_baload X0 hx hZ e0 hV (v := .int (xs.getD (ix + (3 : Int32)).toNatClampNeg 0)) (pl_at3 ix en (4 : Int32) h0' hlt h8 (by decide) hc185) (pl_gd _ _) (hb hby d4_234) ?_
                                    show own_R p e below s _ _ _ s₁ (mkF m 235 #[.val (.ref a1), .val (.int fr), .val (.int en), .val (.int ix), .val (.int ((xs.getD ix.toNatClampNeg 0) &&& (255 : Int32))), .val (.int (4 : Int32)), .val (.int (128 : Int32)), .val (.int (143 : Int32)), .val (.int ((xs.getD (ix + (1 : Int32)).toNatClampNeg 0) &&& (255 : Int32))), .val (.int (ix + (3 : Int32)))] [(.int (xs.getD (ix + (3 : Int32)).toNatClampNeg 0))])
                                    refine own_sipush X0 hx (192 : Int32) (hb hby d4_235) rfl ?_
                                    refine own_iand X0 hx (hb hby d4_238) ?_
                                    refine own_sipush X0 hx (128 : Int32) (hb hby d4_239) rfl ?_
                                    refine own_icmp X0 hx (hb hby d4_242) (pc' := 247) (by decide) (by decide) (fun hc => ?_) (fun hc => ?_)
                                    · have hc242_3 : ((xs.getD (ix + (3 : Int32)).toNatClampNeg 0) &&& (192 : Int32)) = (128 : Int32) := own_eq1 hc
                                      clear hc
                                      show own_R p e below s _ _ _ s₁ (mkF m 247 #[.val (.ref a1), .val (.int fr), .val (.int en), .val (.int ix), .val (.int ((xs.getD ix.toNatClampNeg 0) &&& (255 : Int32))), .val (.int (4 : Int32)), .val (.int (128 : Int32)), .val (.int (143 : Int32)), .val (.int ((xs.getD (ix + (1 : Int32)).toNatClampNeg 0) &&& (255 : Int32))), .val (.int (ix + (3 : Int32)))] [])
                                      refine own_iinc X0 hx (1 : Int32) (hb hby d4_247) rfl rfl (l' := #[.val (.ref a1), .val (.int fr), .val (.int en), .val (.int ix), .val (.int ((xs.getD ix.toNatClampNeg 0) &&& (255 : Int32))), .val (.int (4 : Int32)), .val (.int (128 : Int32)), .val (.int (143 : Int32)), .val (.int ((xs.getD (ix + (1 : Int32)).toNatClampNeg 0) &&& (255 : Int32))), .val (.int ((ix + (3 : Int32)) + (1 : Int32)))]) rfl ?_
                                      refine own_goto X0 hx (hb hby d4_250) (pc' := 222) (by decide) (by decide) ?_
                                      show own_R p e below s _ _ _ s₁ (mkF m 222 #[.val (.ref a1), .val (.int fr), .val (.int en), .val (.int ix), .val (.int ((xs.getD ix.toNatClampNeg 0) &&& (255 : Int32))), .val (.int (4 : Int32)), .val (.int (128 : Int32)), .val (.int (143 : Int32)), .val (.int ((xs.getD (ix + (1 : Int32)).toNatClampNeg 0) &&& (255 : Int32))), .val (.int ((ix + (3 : Int32)) + (1 : Int32)))] [])
                                      refine own_iload X0 hx (hb hby d4_222) rfl ?_
                                      refine own_iloadN X0 hx (hb hby d4_224) rfl ?_
                                      refine own_iload X0 hx (hb hby d4_225) rfl ?_
                                      refine own_iadd X0 hx (hb hby d4_227) ?_
                                      refine own_icmp X0 hx (hb hby d4_228) (pc' := 253) (by decide) (by decide) (fun hc => ?_) (fun hc => ?_)
                                      · have hl4 : ¬ ((ix + (3 : Int32)) + (1 : Int32)) < (ix + (4 : Int32)) := own_ge1 hc
                                        clear hc
                                        show own_R p e below s _ _ _ s₁ (mkF m 253 #[.val (.ref a1), .val (.int fr), .val (.int en), .val (.int ix), .val (.int ((xs.getD ix.toNatClampNeg 0) &&& (255 : Int32))), .val (.int (4 : Int32)), .val (.int (128 : Int32)), .val (.int (143 : Int32)), .val (.int ((xs.getD (ix + (1 : Int32)).toNatClampNeg 0) &&& (255 : Int32))), .val (.int ((ix + (3 : Int32)) + (1 : Int32)))] [])
                                        refine own_iloadN X0 hx (hb hby d4_253) rfl ?_
                                        refine own_iload X0 hx (hb hby d4_254) rfl ?_
                                        refine own_iadd X0 hx (hb hby d4_256) ?_
                                        refine own_istoreN X0 hx (hb hby d4_257) (l' := #[.val (.ref a1), .val (.int fr), .val (.int en), .val (.int (ix + (4 : Int32))), .val (.int ((xs.getD ix.toNatClampNeg 0) &&& (255 : Int32))), .val (.int (4 : Int32)), .val (.int (128 : Int32)), .val (.int (143 : Int32)), .val (.int ((xs.getD (ix + (1 : Int32)).toNatClampNeg 0) &&& (255 : Int32))), .val (.int ((ix + (3 : Int32)) + (1 : Int32)))]) rfl ?_
                                        refine own_goto X0 hx (hb hby d4_258) (pc' := 2) (by decide) (by decide) ?_
                                        show own_R p e below s _ _ _ s₁ (mkF m 2 #[.val (.ref a1), .val (.int fr), .val (.int en), .val (.int (ix + (4 : Int32))), .val (.int ((xs.getD ix.toNatClampNeg 0) &&& (255 : Int32))), .val (.int (4 : Int32)), .val (.int (128 : Int32)), .val (.int (143 : Int32)), .val (.int ((xs.getD (ix + (1 : Int32)).toNatClampNeg 0) &&& (255 : Int32))), .val (.int ((ix + (3 : Int32)) + (1 : Int32)))] [])
                                        have hnl : pl_nl ((xs.getD ix.toNatClampNeg 0) &&& (255 : Int32)) ((xs.getD (ix + (1 : Int32)).toNatClampNeg 0) &&& (255 : Int32)) (xs.getD (ix + (2 : Int32)).toNatClampNeg 0) (xs.getD (ix + (3 : Int32)).toNatClampNeg 0) (en - ix) = (4 : Int32) := by rw [pl_nl, if_neg hc21, if_neg hc45, if_pos hc53, if_pos hc67, if_neg hc125, if_neg hc133, if_neg hc144, if_pos hc162, if_neg hc185, if_neg hc205, if_neg hc212, if_pos hc242_2, if_pos hc242_3]
                                        obtain ⟨u0, uk⟩ := pl_adv ix en (4 : Int32) k h0' hlt h8 hk' (by decide)
                                        exact ih _ _ _ _ _ _ _ (One.val rfl) (One.val rfl) (One.val rfl) (One.val rfl) (One.val rfl) (One.val rfl) u0 uk (by rw [← hr]; conv => rhs; rw [pl_nu, if_pos hlt, hnl, if_neg (by decide)])
                                      · have hl4 : ((ix + (3 : Int32)) + (1 : Int32)) < (ix + (4 : Int32)) := own_ge0 hc
                                        exfalso; obtain ⟨d1, d2⟩ := pl_d ix en h0' hlt h8; obtain ⟨a1, a2, a3, a4, a5, a6⟩ := pl_off ix h0' d2; rw [Int32.lt_iff_toInt_lt] at hl4; omega
                                    · have hc242_3 : ¬ ((xs.getD (ix + (3 : Int32)).toNatClampNeg 0) &&& (192 : Int32)) = (128 : Int32) := own_eq0 hc
                                      clear hc
                                      show own_R p e below s _ _ _ s₁ (mkF m 245 #[.val (.ref a1), .val (.int fr), .val (.int en), .val (.int ix), .val (.int ((xs.getD ix.toNatClampNeg 0) &&& (255 : Int32))), .val (.int (4 : Int32)), .val (.int (128 : Int32)), .val (.int (143 : Int32)), .val (.int ((xs.getD (ix + (1 : Int32)).toNatClampNeg 0) &&& (255 : Int32))), .val (.int (ix + (3 : Int32)))] [])
                                      refine own_iloadN X0 hx (hb hby d4_245) rfl ?_
                                      have hnl : pl_nl ((xs.getD ix.toNatClampNeg 0) &&& (255 : Int32)) ((xs.getD (ix + (1 : Int32)).toNatClampNeg 0) &&& (255 : Int32)) (xs.getD (ix + (2 : Int32)).toNatClampNeg 0) (xs.getD (ix + (3 : Int32)).toNatClampNeg 0) (en - ix) = 0 := by rw [pl_nl, if_neg hc21, if_neg hc45, if_pos hc53, if_pos hc67, if_neg hc125, if_neg hc133, if_neg hc144, if_pos hc162, if_neg hc185, if_neg hc205, if_neg hc212, if_pos hc242_2, if_neg hc242_3]
                                      refine own_retI X0 hx Bd.returns hlk (hb hby d4_246) ?_ (by decide) (by decide)
                                      refine ⟨?_, N0, e0⟩
                                      show some (Value.int _) = some (Value.int (pl_nu xs en 8 fr))
                                      rw [← hr, pl_nu, if_pos hlt, if_pos hnl]
                                · have hc242_2 : ¬ ((xs.getD (ix + (2 : Int32)).toNatClampNeg 0) &&& (192 : Int32)) = (128 : Int32) := own_eq0 hc
                                  clear hc
                                  show own_R p e below s _ _ _ s₁ (mkF m 245 #[.val (.ref a1), .val (.int fr), .val (.int en), .val (.int ix), .val (.int ((xs.getD ix.toNatClampNeg 0) &&& (255 : Int32))), .val (.int (4 : Int32)), .val (.int (128 : Int32)), .val (.int (143 : Int32)), .val (.int ((xs.getD (ix + (1 : Int32)).toNatClampNeg 0) &&& (255 : Int32))), .val (.int (ix + (2 : Int32)))] [])
                                  refine own_iloadN X0 hx (hb hby d4_245) rfl ?_
                                  have hnl : pl_nl ((xs.getD ix.toNatClampNeg 0) &&& (255 : Int32)) ((xs.getD (ix + (1 : Int32)).toNatClampNeg 0) &&& (255 : Int32)) (xs.getD (ix + (2 : Int32)).toNatClampNeg 0) (xs.getD (ix + (3 : Int32)).toNatClampNeg 0) (en - ix) = 0 := by rw [pl_nl, if_neg hc21, if_neg hc45, if_pos hc53, if_pos hc67, if_neg hc125, if_neg hc133, if_neg hc144, if_pos hc162, if_neg hc185, if_neg hc205, if_neg hc212, if_neg hc242_2]
                                  refine own_retI X0 hx Bd.returns hlk (hb hby d4_246) ?_ (by decide) (by decide)
                                  refine ⟨?_, N0, e0⟩
                                  show some (Value.int _) = some (Value.int (pl_nu xs en 8 fr))
                                  rw [← hr, pl_nu, if_pos hlt, if_pos hnl]
                            · have hc212 : (143 : Int32) < ((xs.getD (ix + (1 : Int32)).toNatClampNeg 0) &&& (255 : Int32)) := own_le0 hc
                              clear hc
                              show own_R p e below s _ _ _ s₁ (mkF m 215 #[.val (.ref a1), .val (.int fr), .val (.int en), .val (.int ix), .val (.int ((xs.getD ix.toNatClampNeg 0) &&& (255 : Int32))), .val (.int (4 : Int32)), .val (.int (128 : Int32)), .val (.int (143 : Int32)), .val (.int ((xs.getD (ix + (1 : Int32)).toNatClampNeg 0) &&& (255 : Int32))), s9] [])
                              refine own_iloadN X0 hx (hb hby d4_215) rfl ?_
                              have hnl : pl_nl ((xs.getD ix.toNatClampNeg 0) &&& (255 : Int32)) ((xs.getD (ix + (1 : Int32)).toNatClampNeg 0) &&& (255 : Int32)) (xs.getD (ix + (2 : Int32)).toNatClampNeg 0) (xs.getD (ix + (3 : Int32)).toNatClampNeg 0) (en - ix) = 0 := by rw [pl_nl, if_neg hc21, if_neg hc45, if_pos hc53, if_pos hc67, if_neg hc125, if_neg hc133, if_neg hc144, if_pos hc162, if_neg hc185, if_neg hc205, if_pos hc212]
                              refine own_retI X0 hx Bd.returns hlk (hb hby d4_216) ?_ (by decide) (by decide)
                              refine ⟨?_, N0, e0⟩
                              show some (Value.int _) = some (Value.int (pl_nu xs en 8 fr))
                              rw [← hr, pl_nu, if_pos hlt, if_pos hnl]
                        · have hc185 : (en - ix) < (4 : Int32) := own_ge0 hc
                          clear hc
                          show own_R p e below s _ _ _ s₁ (mkF m 188 #[.val (.ref a1), .val (.int fr), .val (.int en), .val (.int ix), .val (.int ((xs.getD ix.toNatClampNeg 0) &&& (255 : Int32))), .val (.int (4 : Int32)), .val (.int (128 : Int32)), .val (.int (143 : Int32)), s8, s9] [])
                          refine own_iloadN X0 hx (hb hby d4_188) rfl ?_
                          have hnl : pl_nl ((xs.getD ix.toNatClampNeg 0) &&& (255 : Int32)) ((xs.getD (ix + (1 : Int32)).toNatClampNeg 0) &&& (255 : Int32)) (xs.getD (ix + (2 : Int32)).toNatClampNeg 0) (xs.getD (ix + (3 : Int32)).toNatClampNeg 0) (en - ix) = 0 := by rw [pl_nl, if_neg hc21, if_neg hc45, if_pos hc53, if_pos hc67, if_neg hc125, if_neg hc133, if_neg hc144, if_pos hc162, if_pos hc185]
                          refine own_retI X0 hx Bd.returns hlk (hb hby d4_189) ?_ (by decide) (by decide)
                          refine ⟨?_, N0, e0⟩
                          show some (Value.int _) = some (Value.int (pl_nu xs en 8 fr))
                          rw [← hr, pl_nu, if_pos hlt, if_pos hnl]
                    · have hc144 : ((xs.getD ix.toNatClampNeg 0) &&& (255 : Int32)) = (240 : Int32) := own_ne0 hc
                      clear hc
                      show own_R p e below s _ _ _ s₁ (mkF m 147 #[.val (.ref a1), .val (.int fr), .val (.int en), .val (.int ix), .val (.int ((xs.getD ix.toNatClampNeg 0) &&& (255 : Int32))), .val (.int (4 : Int32)), .val (.int (128 : Int32)), .val (.int (191 : Int32)), s8, s9] [])
                      refine own_sipush X0 hx (144 : Int32) (hb hby d4_147) rfl ?_
                      refine own_goto X0 hx (hb hby d4_150) (pc' := 155) (by decide) (by decide) ?_
                      show own_R p e below s _ _ _ s₁ (mkF m 155 #[.val (.ref a1), .val (.int fr), .val (.int en), .val (.int ix), .val (.int ((xs.getD ix.toNatClampNeg 0) &&& (255 : Int32))), .val (.int (4 : Int32)), .val (.int (128 : Int32)), .val (.int (191 : Int32)), s8, s9] [(.int (144 : Int32))])
                      refine own_istore X0 hx (hb hby d4_155) (l' := #[.val (.ref a1), .val (.int fr), .val (.int en), .val (.int ix), .val (.int ((xs.getD ix.toNatClampNeg 0) &&& (255 : Int32))), .val (.int (4 : Int32)), .val (.int (144 : Int32)), .val (.int (191 : Int32)), s8, s9]) rfl ?_
                      refine own_iload X0 hx (hb hby d4_157) rfl ?_
                      refine own_sipush X0 hx (244 : Int32) (hb hby d4_159) rfl ?_
                      refine own_icmp X0 hx (hb hby d4_162) (pc' := 171) (by decide) (by decide) (fun hc => ?_) (fun hc => ?_)
                      · have hc162 : ¬ ((xs.getD ix.toNatClampNeg 0) &&& (255 : Int32)) = (244 : Int32) := own_ne1 hc
                        clear hc
                        show own_R p e below s _ _ _ s₁ (mkF m 171 #[.val (.ref a1), .val (.int fr), .val (.int en), .val (.int ix), .val (.int ((xs.getD ix.toNatClampNeg 0) &&& (255 : Int32))), .val (.int (4 : Int32)), .val (.int (144 : Int32)), .val (.int (191 : Int32)), s8, s9] [])
                        refine own_iload X0 hx (hb hby d4_171) rfl ?_
                        refine own_istore X0 hx (hb hby d4_173) (l' := #[.val (.ref a1), .val (.int fr), .val (.int en), .val (.int ix), .val (.int ((xs.getD ix.toNatClampNeg 0) &&& (255 : Int32))), .val (.int (4 : Int32)), .val (.int (144 : Int32)), .val (.int (191 : Int32)), s8, s9]) rfl ?_
                        refine own_goto X0 hx (hb hby d4_175) (pc' := 180) (by decide) (by decide) ?_
                        show own_R p e below s _ _ _ s₁ (mkF m 180 #[.val (.ref a1), .val (.int fr), .val (.int en), .val (.int ix), .val (.int ((xs.getD ix.toNatClampNeg 0) &&& (255 : Int32))), .val (.int (4 : Int32)), .val (.int (144 : Int32)), .val (.int (191 : Int32)), s8, s9] [])
                        refine own_iloadN X0 hx (hb hby d4_180) rfl ?_
                        refine own_iloadN X0 hx (hb hby d4_181) rfl ?_
                        refine own_isub X0 hx (hb hby d4_182) ?_
                        refine own_iload X0 hx (hb hby d4_183) rfl ?_
                        refine own_icmp X0 hx (hb hby d4_185) (pc' := 190) (by decide) (by decide) (fun hc => ?_) (fun hc => ?_)
                        · have hc185 : ¬ (en - ix) < (4 : Int32) := own_ge1 hc
                          clear hc
                          show own_R p e below s _ _ _ s₁ (mkF m 190 #[.val (.ref a1), .val (.int fr), .val (.int en), .val (.int ix), .val (.int ((xs.getD ix.toNatClampNeg 0) &&& (255 : Int32))), .val (.int (4 : Int32)), .val (.int (144 : Int32)), .val (.int (191 : Int32)), s8, s9] [])
                          refine own_aloadN X0 hx (hb hby d4_190) rfl rfl ?_
                          refine own_iloadN X0 hx (hb hby d4_191) rfl ?_
                          refine own_iconst X0 hx (1 : Int32) (hb hby d4_192) rfl ?_
                          refine own_iadd X0 hx (hb hby d4_193) ?_
                          refine own_baload X0 hx hZ e0 hV (v := .int (xs.getD (ix + (1 : Int32)).toNatClampNeg 0)) (pl_at1 ix en (4 : Int32) h0' hlt h8 (by decide) hc185) (pl_gd _ _) (hb hby d4_194) ?_
                          show own_R p e below s _ _ _ s₁ (mkF m 195 #[.val (.ref a1), .val (.int fr), .val (.int en), .val (.int ix), .val (.int ((xs.getD ix.toNatClampNeg 0) &&& (255 : Int32))), .val (.int (4 : Int32)), .val (.int (144 : Int32)), .val (.int (191 : Int32)), s8, s9] [(.int (xs.getD (ix + (1 : Int32)).toNatClampNeg 0))])
                          refine own_sipush X0 hx (255 : Int32) (hb hby d4_195) rfl ?_
                          refine own_iand X0 hx (hb hby d4_198) ?_
                          refine own_istore X0 hx (hb hby d4_199) (l' := #[.val (.ref a1), .val (.int fr), .val (.int en), .val (.int ix), .val (.int ((xs.getD ix.toNatClampNeg 0) &&& (255 : Int32))), .val (.int (4 : Int32)), .val (.int (144 : Int32)), .val (.int (191 : Int32)), .val (.int ((xs.getD (ix + (1 : Int32)).toNatClampNeg 0) &&& (255 : Int32))), s9]) (by rcases hs8 with rfl | ⟨w, rfl, hw'⟩ <;> first | rfl | (cases w <;> first | rfl | (simp [Value.category] at hw'))) ?_
                          refine own_iload X0 hx (hb hby d4_201) rfl ?_
                          refine own_iload X0 hx (hb hby d4_203) rfl ?_
                          refine own_icmp X0 hx (hb hby d4_205) (pc' := 215) (by decide) (by decide) (fun hc => ?_) (fun hc => ?_)
                          · have hc205 : ((xs.getD (ix + (1 : Int32)).toNatClampNeg 0) &&& (255 : Int32)) < (144 : Int32) := own_lt1 hc
                            clear hc
                            show own_R p e below s _ _ _ s₁ (mkF m 215 #[.val (.ref a1), .val (.int fr), .val (.int en), .val (.int ix), .val (.int ((xs.getD ix.toNatClampNeg 0) &&& (255 : Int32))), .val (.int (4 : Int32)), .val (.int (144 : Int32)), .val (.int (191 : Int32)), .val (.int ((xs.getD (ix + (1 : Int32)).toNatClampNeg 0) &&& (255 : Int32))), s9] [])
                            refine own_iloadN X0 hx (hb hby d4_215) rfl ?_
                            have hnl : pl_nl ((xs.getD ix.toNatClampNeg 0) &&& (255 : Int32)) ((xs.getD (ix + (1 : Int32)).toNatClampNeg 0) &&& (255 : Int32)) (xs.getD (ix + (2 : Int32)).toNatClampNeg 0) (xs.getD (ix + (3 : Int32)).toNatClampNeg 0) (en - ix) = 0 := by rw [pl_nl, if_neg hc21, if_neg hc45, if_pos hc53, if_pos hc67, if_neg hc125, if_neg hc133, if_pos hc144, if_neg hc162, if_neg hc185, if_pos hc205]
                            refine own_retI X0 hx Bd.returns hlk (hb hby d4_216) ?_ (by decide) (by decide)
                            refine ⟨?_, N0, e0⟩
                            show some (Value.int _) = some (Value.int (pl_nu xs en 8 fr))
                            rw [← hr, pl_nu, if_pos hlt, if_pos hnl]
                          · have hc205 : ¬ ((xs.getD (ix + (1 : Int32)).toNatClampNeg 0) &&& (255 : Int32)) < (144 : Int32) := own_lt0 hc
                            clear hc
                            show own_R p e below s _ _ _ s₁ (mkF m 208 #[.val (.ref a1), .val (.int fr), .val (.int en), .val (.int ix), .val (.int ((xs.getD ix.toNatClampNeg 0) &&& (255 : Int32))), .val (.int (4 : Int32)), .val (.int (144 : Int32)), .val (.int (191 : Int32)), .val (.int ((xs.getD (ix + (1 : Int32)).toNatClampNeg 0) &&& (255 : Int32))), s9] [])
                            refine own_iload X0 hx (hb hby d4_208) rfl ?_
                            refine own_iload X0 hx (hb hby d4_210) rfl ?_
                            refine own_icmp X0 hx (hb hby d4_212) (pc' := 217) (by decide) (by decide) (fun hc => ?_) (fun hc => ?_)
                            · have hc212 : ¬ (191 : Int32) < ((xs.getD (ix + (1 : Int32)).toNatClampNeg 0) &&& (255 : Int32)) := own_le1 hc
                              clear hc
                              show own_R p e below s _ _ _ s₁ (mkF m 217 #[.val (.ref a1), .val (.int fr), .val (.int en), .val (.int ix), .val (.int ((xs.getD ix.toNatClampNeg 0) &&& (255 : Int32))), .val (.int (4 : Int32)), .val (.int (144 : Int32)), .val (.int (191 : Int32)), .val (.int ((xs.getD (ix + (1 : Int32)).toNatClampNeg 0) &&& (255 : Int32))), s9] [])
                              refine own_iloadN X0 hx (hb hby d4_217) rfl ?_
                              refine own_iconst X0 hx (2 : Int32) (hb hby d4_218) rfl ?_
                              refine own_iadd X0 hx (hb hby d4_219) ?_
                              refine own_istore X0 hx (hb hby d4_220) (l' := #[.val (.ref a1), .val (.int fr), .val (.int en), .val (.int ix), .val (.int ((xs.getD ix.toNatClampNeg 0) &&& (255 : Int32))), .val (.int (4 : Int32)), .val (.int (144 : Int32)), .val (.int (191 : Int32)), .val (.int ((xs.getD (ix + (1 : Int32)).toNatClampNeg 0) &&& (255 : Int32))), .val (.int (ix + (2 : Int32)))]) (by rcases hs9 with rfl | ⟨w, rfl, hw'⟩ <;> first | rfl | (cases w <;> first | rfl | (simp [Value.category] at hw'))) ?_
                              refine own_iload X0 hx (hb hby d4_222) rfl ?_
                              refine own_iloadN X0 hx (hb hby d4_224) rfl ?_
                              refine own_iload X0 hx (hb hby d4_225) rfl ?_
                              refine own_iadd X0 hx (hb hby d4_227) ?_
                              refine own_icmp X0 hx (hb hby d4_228) (pc' := 253) (by decide) (by decide) (fun hc => ?_) (fun hc => ?_)
                              · have hl2 : ¬ (ix + (2 : Int32)) < (ix + (4 : Int32)) := own_ge1 hc
                                exfalso; obtain ⟨d1, d2⟩ := pl_d ix en h0' hlt h8; obtain ⟨a1, a2, a3, a4, a5, a6⟩ := pl_off ix h0' d2; rw [Int32.lt_iff_toInt_lt] at hl2; omega
                              · have hl2 : (ix + (2 : Int32)) < (ix + (4 : Int32)) := own_ge0 hc
                                clear hc
                                show own_R p e below s _ _ _ s₁ (mkF m 231 #[.val (.ref a1), .val (.int fr), .val (.int en), .val (.int ix), .val (.int ((xs.getD ix.toNatClampNeg 0) &&& (255 : Int32))), .val (.int (4 : Int32)), .val (.int (144 : Int32)), .val (.int (191 : Int32)), .val (.int ((xs.getD (ix + (1 : Int32)).toNatClampNeg 0) &&& (255 : Int32))), .val (.int (ix + (2 : Int32)))] [])
                                refine own_aloadN X0 hx (hb hby d4_231) rfl rfl ?_
                                refine own_iload X0 hx (hb hby d4_232) rfl ?_
                                refine own_baload X0 hx hZ e0 hV (v := .int (xs.getD (ix + (2 : Int32)).toNatClampNeg 0)) (pl_at2 ix en (4 : Int32) h0' hlt h8 (by decide) hc185) (pl_gd _ _) (hb hby d4_234) ?_
                                show own_R p e below s _ _ _ s₁ (mkF m 235 #[.val (.ref a1), .val (.int fr), .val (.int en), .val (.int ix), .val (.int ((xs.getD ix.toNatClampNeg 0) &&& (255 : Int32))), .val (.int (4 : Int32)), .val (.int (144 : Int32)), .val (.int (191 : Int32)), .val (.int ((xs.getD (ix + (1 : Int32)).toNatClampNeg 0) &&& (255 : Int32))), .val (.int (ix + (2 : Int32)))] [(.int (xs.getD (ix + (2 : Int32)).toNatClampNeg 0))])
                                refine own_sipush X0 hx (192 : Int32) (hb hby d4_235) rfl ?_
                                refine own_iand X0 hx (hb hby d4_238) ?_
                                refine own_sipush X0 hx (128 : Int32) (hb hby d4_239) rfl ?_
                                refine own_icmp X0 hx (hb hby d4_242) (pc' := 247) (by decide) (by decide) (fun hc => ?_) (fun hc => ?_)
                                · have hc242_2 : ((xs.getD (ix + (2 : Int32)).toNatClampNeg 0) &&& (192 : Int32)) = (128 : Int32) := own_eq1 hc
                                  clear hc
                                  show own_R p e below s _ _ _ s₁ (mkF m 247 #[.val (.ref a1), .val (.int fr), .val (.int en), .val (.int ix), .val (.int ((xs.getD ix.toNatClampNeg 0) &&& (255 : Int32))), .val (.int (4 : Int32)), .val (.int (144 : Int32)), .val (.int (191 : Int32)), .val (.int ((xs.getD (ix + (1 : Int32)).toNatClampNeg 0) &&& (255 : Int32))), .val (.int (ix + (2 : Int32)))] [])
                                  refine own_iinc X0 hx (1 : Int32) (hb hby d4_247) rfl rfl (l' := #[.val (.ref a1), .val (.int fr), .val (.int en), .val (.int ix), .val (.int ((xs.getD ix.toNatClampNeg 0) &&& (255 : Int32))), .val (.int (4 : Int32)), .val (.int (144 : Int32)), .val (.int (191 : Int32)), .val (.int ((xs.getD (ix + (1 : Int32)).toNatClampNeg 0) &&& (255 : Int32))), .val (.int ((ix + (2 : Int32)) + (1 : Int32)))]) rfl ?_
                                  refine own_goto X0 hx (hb hby d4_250) (pc' := 222) (by decide) (by decide) ?_
                                  show own_R p e below s _ _ _ s₁ (mkF m 222 #[.val (.ref a1), .val (.int fr), .val (.int en), .val (.int ix), .val (.int ((xs.getD ix.toNatClampNeg 0) &&& (255 : Int32))), .val (.int (4 : Int32)), .val (.int (144 : Int32)), .val (.int (191 : Int32)), .val (.int ((xs.getD (ix + (1 : Int32)).toNatClampNeg 0) &&& (255 : Int32))), .val (.int ((ix + (2 : Int32)) + (1 : Int32)))] [])
                                  refine own_iload X0 hx (hb hby d4_222) rfl ?_
                                  refine own_iloadN X0 hx (hb hby d4_224) rfl ?_
                                  refine own_iload X0 hx (hb hby d4_225) rfl ?_
                                  refine own_iadd X0 hx (hb hby d4_227) ?_
                                  refine own_icmp X0 hx (hb hby d4_228) (pc' := 253) (by decide) (by decide) (fun hc => ?_) (fun hc => ?_)
                                  · have hl3 : ¬ ((ix + (2 : Int32)) + (1 : Int32)) < (ix + (4 : Int32)) := own_ge1 hc
                                    exfalso; obtain ⟨d1, d2⟩ := pl_d ix en h0' hlt h8; obtain ⟨a1, a2, a3, a4, a5, a6⟩ := pl_off ix h0' d2; rw [Int32.lt_iff_toInt_lt] at hl3; omega
                                  · have hl3 : ((ix + (2 : Int32)) + (1 : Int32)) < (ix + (4 : Int32)) := own_ge0 hc
                                    clear hc
                                    show own_R p e below s _ _ _ s₁ (mkF m 231 #[.val (.ref a1), .val (.int fr), .val (.int en), .val (.int ix), .val (.int ((xs.getD ix.toNatClampNeg 0) &&& (255 : Int32))), .val (.int (4 : Int32)), .val (.int (144 : Int32)), .val (.int (191 : Int32)), .val (.int ((xs.getD (ix + (1 : Int32)).toNatClampNeg 0) &&& (255 : Int32))), .val (.int ((ix + (2 : Int32)) + (1 : Int32)))] [])
                                    refine own_aloadN X0 hx (hb hby d4_231) rfl rfl ?_
                                    refine own_iload X0 hx (hb hby d4_232) rfl ?_
                                    rw [pl_21]
                                    show own_R p e below s _ _ _ s₁ (mkF m 234 #[.val (.ref a1), .val (.int fr), .val (.int en), .val (.int ix), .val (.int ((xs.getD ix.toNatClampNeg 0) &&& (255 : Int32))), .val (.int (4 : Int32)), .val (.int (144 : Int32)), .val (.int (191 : Int32)), .val (.int ((xs.getD (ix + (1 : Int32)).toNatClampNeg 0) &&& (255 : Int32))), .val (.int (ix + (3 : Int32)))] [(.int (ix + (3 : Int32))), (.ref a1)])
                                    refine own_baload X0 hx hZ e0 hV (v := .int (xs.getD (ix + (3 : Int32)).toNatClampNeg 0)) (pl_at3 ix en (4 : Int32) h0' hlt h8 (by decide) hc185) (pl_gd _ _) (hb hby d4_234) ?_
                                    show own_R p e below s _ _ _ s₁ (mkF m 235 #[.val (.ref a1), .val (.int fr), .val (.int en), .val (.int ix), .val (.int ((xs.getD ix.toNatClampNeg 0) &&& (255 : Int32))), .val (.int (4 : Int32)), .val (.int (144 : Int32)), .val (.int (191 : Int32)), .val (.int ((xs.getD (ix + (1 : Int32)).toNatClampNeg 0) &&& (255 : Int32))), .val (.int (ix + (3 : Int32)))] [(.int (xs.getD (ix + (3 : Int32)).toNatClampNeg 0))])
                                    refine own_sipush X0 hx (192 : Int32) (hb hby d4_235) rfl ?_
                                    refine own_iand X0 hx (hb hby d4_238) ?_
                                    refine own_sipush X0 hx (128 : Int32) (hb hby d4_239) rfl ?_
                                    refine own_icmp X0 hx (hb hby d4_242) (pc' := 247) (by decide) (by decide) (fun hc => ?_) (fun hc => ?_)
                                    · have hc242_3 : ((xs.getD (ix + (3 : Int32)).toNatClampNeg 0) &&& (192 : Int32)) = (128 : Int32) := own_eq1 hc
                                      clear hc
                                      show own_R p e below s _ _ _ s₁ (mkF m 247 #[.val (.ref a1), .val (.int fr), .val (.int en), .val (.int ix), .val (.int ((xs.getD ix.toNatClampNeg 0) &&& (255 : Int32))), .val (.int (4 : Int32)), .val (.int (144 : Int32)), .val (.int (191 : Int32)), .val (.int ((xs.getD (ix + (1 : Int32)).toNatClampNeg 0) &&& (255 : Int32))), .val (.int (ix + (3 : Int32)))] [])
                                      refine own_iinc X0 hx (1 : Int32) (hb hby d4_247) rfl rfl (l' := #[.val (.ref a1), .val (.int fr), .val (.int en), .val (.int ix), .val (.int ((xs.getD ix.toNatClampNeg 0) &&& (255 : Int32))), .val (.int (4 : Int32)), .val (.int (144 : Int32)), .val (.int (191 : Int32)), .val (.int ((xs.getD (ix + (1 : Int32)).toNatClampNeg 0) &&& (255 : Int32))), .val (.int ((ix + (3 : Int32)) + (1 : Int32)))]) rfl ?_
                                      refine own_goto X0 hx (hb hby d4_250) (pc' := 222) (by decide) (by decide) ?_
                                      show own_R p e below s _ _ _ s₁ (mkF m 222 #[.val (.ref a1), .val (.int fr), .val (.int en), .val (.int ix), .val (.int ((xs.getD ix.toNatClampNeg 0) &&& (255 : Int32))), .val (.int (4 : Int32)), .val (.int (144 : Int32)), .val (.int (191 : Int32)), .val (.int ((xs.getD (ix + (1 : Int32)).toNatClampNeg 0) &&& (255 : Int32))), .val (.int ((ix + (3 : Int32)) + (1 : Int32)))] [])
                                      refine own_iload X0 hx (hb hby d4_222) rfl ?_
                                      refine own_iloadN X0 hx (hb hby d4_224) rfl ?_
                                      refine own_iload X0 hx (hb hby d4_225) rfl ?_
                                      refine own_iadd X0 hx (hb hby d4_227) ?_
                                      refine own_icmp X0 hx (hb hby d4_228) (pc' := 253) (by decide) (by decide) (fun hc => ?_) (fun hc => ?_)
                                      · have hl4 : ¬ ((ix + (3 : Int32)) + (1 : Int32)) < (ix + (4 : Int32)) := own_ge1 hc
                                        clear hc
                                        show own_R p e below s _ _ _ s₁ (mkF m 253 #[.val (.ref a1), .val (.int fr), .val (.int en), .val (.int ix), .val (.int ((xs.getD ix.toNatClampNeg 0) &&& (255 : Int32))), .val (.int (4 : Int32)), .val (.int (144 : Int32)), .val (.int (191 : Int32)), .val (.int ((xs.getD (ix + (1 : Int32)).toNatClampNeg 0) &&& (255 : Int32))), .val (.int ((ix + (3 : Int32)) + (1 : Int32)))] [])
                                        refine own_iloadN X0 hx (hb hby d4_253) rfl ?_
                                        refine own_iload X0 hx (hb hby d4_254) rfl ?_
                                        refine own_iadd X0 hx (hb hby d4_256) ?_
                                        refine own_istoreN X0 hx (hb hby d4_257) (l' := #[.val (.ref a1), .val (.int fr), .val (.int en), .val (.int (ix + (4 : Int32))), .val (.int ((xs.getD ix.toNatClampNeg 0) &&& (255 : Int32))), .val (.int (4 : Int32)), .val (.int (144 : Int32)), .val (.int (191 : Int32)), .val (.int ((xs.getD (ix + (1 : Int32)).toNatClampNeg 0) &&& (255 : Int32))), .val (.int ((ix + (3 : Int32)) + (1 : Int32)))]) rfl ?_
                                        refine own_goto X0 hx (hb hby d4_258) (pc' := 2) (by decide) (by decide) ?_
                                        show own_R p e below s _ _ _ s₁ (mkF m 2 #[.val (.ref a1), .val (.int fr), .val (.int en), .val (.int (ix + (4 : Int32))), .val (.int ((xs.getD ix.toNatClampNeg 0) &&& (255 : Int32))), .val (.int (4 : Int32)), .val (.int (144 : Int32)), .val (.int (191 : Int32)), .val (.int ((xs.getD (ix + (1 : Int32)).toNatClampNeg 0) &&& (255 : Int32))), .val (.int ((ix + (3 : Int32)) + (1 : Int32)))] [])
                                        have hnl : pl_nl ((xs.getD ix.toNatClampNeg 0) &&& (255 : Int32)) ((xs.getD (ix + (1 : Int32)).toNatClampNeg 0) &&& (255 : Int32)) (xs.getD (ix + (2 : Int32)).toNatClampNeg 0) (xs.getD (ix + (3 : Int32)).toNatClampNeg 0) (en - ix) = (4 : Int32) := by rw [pl_nl, if_neg hc21, if_neg hc45, if_pos hc53, if_pos hc67, if_neg hc125, if_neg hc133, if_pos hc144, if_neg hc162, if_neg hc185, if_neg hc205, if_neg hc212, if_pos hc242_2, if_pos hc242_3]
                                        obtain ⟨u0, uk⟩ := pl_adv ix en (4 : Int32) k h0' hlt h8 hk' (by decide)
                                        exact ih _ _ _ _ _ _ _ (One.val rfl) (One.val rfl) (One.val rfl) (One.val rfl) (One.val rfl) (One.val rfl) u0 uk (by rw [← hr]; conv => rhs; rw [pl_nu, if_pos hlt, hnl, if_neg (by decide)])
                                      · have hl4 : ((ix + (3 : Int32)) + (1 : Int32)) < (ix + (4 : Int32)) := own_ge0 hc
                                        exfalso; obtain ⟨d1, d2⟩ := pl_d ix en h0' hlt h8; obtain ⟨a1, a2, a3, a4, a5, a6⟩ := pl_off ix h0' d2; rw [Int32.lt_iff_toInt_lt] at hl4; omega
                                    · have hc242_3 : ¬ ((xs.getD (ix + (3 : Int32)).toNatClampNeg 0) &&& (192 : Int32)) = (128 : Int32) := own_eq0 hc
                                      clear hc
                                      show own_R p e below s _ _ _ s₁ (mkF m 245 #[.val (.ref a1), .val (.int fr), .val (.int en), .val (.int ix), .val (.int ((xs.getD ix.toNatClampNeg 0) &&& (255 : Int32))), .val (.int (4 : Int32)), .val (.int (144 : Int32)), .val (.int (191 : Int32)), .val (.int ((xs.getD (ix + (1 : Int32)).toNatClampNeg 0) &&& (255 : Int32))), .val (.int (ix + (3 : Int32)))] [])
                                      refine own_iloadN X0 hx (hb hby d4_245) rfl ?_
                                      have hnl : pl_nl ((xs.getD ix.toNatClampNeg 0) &&& (255 : Int32)) ((xs.getD (ix + (1 : Int32)).toNatClampNeg 0) &&& (255 : Int32)) (xs.getD (ix + (2 : Int32)).toNatClampNeg 0) (xs.getD (ix + (3 : Int32)).toNatClampNeg 0) (en - ix) = 0 := by rw [pl_nl, if_neg hc21, if_neg hc45, if_pos hc53, if_pos hc67, if_neg hc125, if_neg hc133, if_pos hc144, if_neg hc162, if_neg hc185, if_neg hc205, if_neg hc212, if_pos hc242_2, if_neg hc242_3]
                                      refine own_retI X0 hx Bd.returns hlk (hb hby d4_246) ?_ (by decide) (by decide)
                                      refine ⟨?_, N0, e0⟩
                                      show some (Value.int _) = some (Value.int (pl_nu xs en 8 fr))
                                      rw [← hr, pl_nu, if_pos hlt, if_pos hnl]
                                · have hc242_2 : ¬ ((xs.getD (ix + (2 : Int32)).toNatClampNeg 0) &&& (192 : Int32)) = (128 : Int32) := own_eq0 hc
                                  clear hc
                                  show own_R p e below s _ _ _ s₁ (mkF m 245 #[.val (.ref a1), .val (.int fr), .val (.int en), .val (.int ix), .val (.int ((xs.getD ix.toNatClampNeg 0) &&& (255 : Int32))), .val (.int (4 : Int32)), .val (.int (144 : Int32)), .val (.int (191 : Int32)), .val (.int ((xs.getD (ix + (1 : Int32)).toNatClampNeg 0) &&& (255 : Int32))), .val (.int (ix + (2 : Int32)))] [])
                                  refine own_iloadN X0 hx (hb hby d4_245) rfl ?_
                                  have hnl : pl_nl ((xs.getD ix.toNatClampNeg 0) &&& (255 : Int32)) ((xs.getD (ix + (1 : Int32)).toNatClampNeg 0) &&& (255 : Int32)) (xs.getD (ix + (2 : Int32)).toNatClampNeg 0) (xs.getD (ix + (3 : Int32)).toNatClampNeg 0) (en - ix) = 0 := by rw [pl_nl, if_neg hc21, if_neg hc45, if_pos hc53, if_pos hc67, if_neg hc125, if_neg hc133, if_pos hc144, if_neg hc162, if_neg hc185, if_neg hc205, if_neg hc212, if_neg hc242_2]
                                  refine own_retI X0 hx Bd.returns hlk (hb hby d4_246) ?_ (by decide) (by decide)
                                  refine ⟨?_, N0, e0⟩
                                  show some (Value.int _) = some (Value.int (pl_nu xs en 8 fr))
                                  rw [← hr, pl_nu, if_pos hlt, if_pos hnl]
                            · have hc212 : (191 : Int32) < ((xs.getD (ix + (1 : Int32)).toNatClampNeg 0) &&& (255 : Int32)) := own_le0 hc
                              clear hc
                              show own_R p e below s _ _ _ s₁ (mkF m 215 #[.val (.ref a1), .val (.int fr), .val (.int en), .val (.int ix), .val (.int ((xs.getD ix.toNatClampNeg 0) &&& (255 : Int32))), .val (.int (4 : Int32)), .val (.int (144 : Int32)), .val (.int (191 : Int32)), .val (.int ((xs.getD (ix + (1 : Int32)).toNatClampNeg 0) &&& (255 : Int32))), s9] [])
                              refine own_iloadN X0 hx (hb hby d4_215) rfl ?_
                              have hnl : pl_nl ((xs.getD ix.toNatClampNeg 0) &&& (255 : Int32)) ((xs.getD (ix + (1 : Int32)).toNatClampNeg 0) &&& (255 : Int32)) (xs.getD (ix + (2 : Int32)).toNatClampNeg 0) (xs.getD (ix + (3 : Int32)).toNatClampNeg 0) (en - ix) = 0 := by rw [pl_nl, if_neg hc21, if_neg hc45, if_pos hc53, if_pos hc67, if_neg hc125, if_neg hc133, if_pos hc144, if_neg hc162, if_neg hc185, if_neg hc205, if_pos hc212]
                              refine own_retI X0 hx Bd.returns hlk (hb hby d4_216) ?_ (by decide) (by decide)
                              refine ⟨?_, N0, e0⟩
                              show some (Value.int _) = some (Value.int (pl_nu xs en 8 fr))
                              rw [← hr, pl_nu, if_pos hlt, if_pos hnl]
                        · have hc185 : (en - ix) < (4 : Int32) := own_ge0 hc
                          clear hc
                          show own_R p e below s _ _ _ s₁ (mkF m 188 #[.val (.ref a1), .val (.int fr), .val (.int en), .val (.int ix), .val (.int ((xs.getD ix.toNatClampNeg 0) &&& (255 : Int32))), .val (.int (4 : Int32)), .val (.int (144 : Int32)), .val (.int (191 : Int32)), s8, s9] [])
                          refine own_iloadN X0 hx (hb hby d4_188) rfl ?_
                          have hnl : pl_nl ((xs.getD ix.toNatClampNeg 0) &&& (255 : Int32)) ((xs.getD (ix + (1 : Int32)).toNatClampNeg 0) &&& (255 : Int32)) (xs.getD (ix + (2 : Int32)).toNatClampNeg 0) (xs.getD (ix + (3 : Int32)).toNatClampNeg 0) (en - ix) = 0 := by rw [pl_nl, if_neg hc21, if_neg hc45, if_pos hc53, if_pos hc67, if_neg hc125, if_neg hc133, if_pos hc144, if_neg hc162, if_pos hc185]
                          refine own_retI X0 hx Bd.returns hlk (hb hby d4_189) ?_ (by decide) (by decide)
                          refine ⟨?_, N0, e0⟩
                          show some (Value.int _) = some (Value.int (pl_nu xs en 8 fr))
                          rw [← hr, pl_nu, if_pos hlt, if_pos hnl]
                      · have hc162 : ((xs.getD ix.toNatClampNeg 0) &&& (255 : Int32)) = (244 : Int32) := own_ne0 hc
                        clear hc
                        show own_R p e below s _ _ _ s₁ (mkF m 165 #[.val (.ref a1), .val (.int fr), .val (.int en), .val (.int ix), .val (.int ((xs.getD ix.toNatClampNeg 0) &&& (255 : Int32))), .val (.int (4 : Int32)), .val (.int (144 : Int32)), .val (.int (191 : Int32)), s8, s9] [])
                        refine own_sipush X0 hx (143 : Int32) (hb hby d4_165) rfl ?_
                        refine own_goto X0 hx (hb hby d4_168) (pc' := 173) (by decide) (by decide) ?_
                        show own_R p e below s _ _ _ s₁ (mkF m 173 #[.val (.ref a1), .val (.int fr), .val (.int en), .val (.int ix), .val (.int ((xs.getD ix.toNatClampNeg 0) &&& (255 : Int32))), .val (.int (4 : Int32)), .val (.int (144 : Int32)), .val (.int (191 : Int32)), s8, s9] [(.int (143 : Int32))])
                        refine own_istore X0 hx (hb hby d4_173) (l' := #[.val (.ref a1), .val (.int fr), .val (.int en), .val (.int ix), .val (.int ((xs.getD ix.toNatClampNeg 0) &&& (255 : Int32))), .val (.int (4 : Int32)), .val (.int (144 : Int32)), .val (.int (143 : Int32)), s8, s9]) rfl ?_
                        refine own_goto X0 hx (hb hby d4_175) (pc' := 180) (by decide) (by decide) ?_
                        show own_R p e below s _ _ _ s₁ (mkF m 180 #[.val (.ref a1), .val (.int fr), .val (.int en), .val (.int ix), .val (.int ((xs.getD ix.toNatClampNeg 0) &&& (255 : Int32))), .val (.int (4 : Int32)), .val (.int (144 : Int32)), .val (.int (143 : Int32)), s8, s9] [])
                        refine own_iloadN X0 hx (hb hby d4_180) rfl ?_
                        refine own_iloadN X0 hx (hb hby d4_181) rfl ?_
                        refine own_isub X0 hx (hb hby d4_182) ?_
                        refine own_iload X0 hx (hb hby d4_183) rfl ?_
                        refine own_icmp X0 hx (hb hby d4_185) (pc' := 190) (by decide) (by decide) (fun hc => ?_) (fun hc => ?_)
                        · have hc185 : ¬ (en - ix) < (4 : Int32) := own_ge1 hc
                          clear hc
                          show own_R p e below s _ _ _ s₁ (mkF m 190 #[.val (.ref a1), .val (.int fr), .val (.int en), .val (.int ix), .val (.int ((xs.getD ix.toNatClampNeg 0) &&& (255 : Int32))), .val (.int (4 : Int32)), .val (.int (144 : Int32)), .val (.int (143 : Int32)), s8, s9] [])
                          refine own_aloadN X0 hx (hb hby d4_190) rfl rfl ?_
                          refine own_iloadN X0 hx (hb hby d4_191) rfl ?_
                          refine own_iconst X0 hx (1 : Int32) (hb hby d4_192) rfl ?_
                          refine own_iadd X0 hx (hb hby d4_193) ?_
                          refine own_baload X0 hx hZ e0 hV (v := .int (xs.getD (ix + (1 : Int32)).toNatClampNeg 0)) (pl_at1 ix en (4 : Int32) h0' hlt h8 (by decide) hc185) (pl_gd _ _) (hb hby d4_194) ?_
                          show own_R p e below s _ _ _ s₁ (mkF m 195 #[.val (.ref a1), .val (.int fr), .val (.int en), .val (.int ix), .val (.int ((xs.getD ix.toNatClampNeg 0) &&& (255 : Int32))), .val (.int (4 : Int32)), .val (.int (144 : Int32)), .val (.int (143 : Int32)), s8, s9] [(.int (xs.getD (ix + (1 : Int32)).toNatClampNeg 0))])
                          refine own_sipush X0 hx (255 : Int32) (hb hby d4_195) rfl ?_
                          refine own_iand X0 hx (hb hby d4_198) ?_
                          refine own_istore X0 hx (hb hby d4_199) (l' := #[.val (.ref a1), .val (.int fr), .val (.int en), .val (.int ix), .val (.int ((xs.getD ix.toNatClampNeg 0) &&& (255 : Int32))), .val (.int (4 : Int32)), .val (.int (144 : Int32)), .val (.int (143 : Int32)), .val (.int ((xs.getD (ix + (1 : Int32)).toNatClampNeg 0) &&& (255 : Int32))), s9]) (by rcases hs8 with rfl | ⟨w, rfl, hw'⟩ <;> first | rfl | (cases w <;> first | rfl | (simp [Value.category] at hw'))) ?_
                          refine own_iload X0 hx (hb hby d4_201) rfl ?_
                          refine own_iload X0 hx (hb hby d4_203) rfl ?_
                          refine own_icmp X0 hx (hb hby d4_205) (pc' := 215) (by decide) (by decide) (fun hc => ?_) (fun hc => ?_)
                          · have hc205 : ((xs.getD (ix + (1 : Int32)).toNatClampNeg 0) &&& (255 : Int32)) < (144 : Int32) := own_lt1 hc
                            clear hc
                            show own_R p e below s _ _ _ s₁ (mkF m 215 #[.val (.ref a1), .val (.int fr), .val (.int en), .val (.int ix), .val (.int ((xs.getD ix.toNatClampNeg 0) &&& (255 : Int32))), .val (.int (4 : Int32)), .val (.int (144 : Int32)), .val (.int (143 : Int32)), .val (.int ((xs.getD (ix + (1 : Int32)).toNatClampNeg 0) &&& (255 : Int32))), s9] [])
                            refine own_iloadN X0 hx (hb hby d4_215) rfl ?_
                            have hnl : pl_nl ((xs.getD ix.toNatClampNeg 0) &&& (255 : Int32)) ((xs.getD (ix + (1 : Int32)).toNatClampNeg 0) &&& (255 : Int32)) (xs.getD (ix + (2 : Int32)).toNatClampNeg 0) (xs.getD (ix + (3 : Int32)).toNatClampNeg 0) (en - ix) = 0 := by rw [pl_nl, if_neg hc21, if_neg hc45, if_pos hc53, if_pos hc67, if_neg hc125, if_neg hc133, if_pos hc144, if_pos hc162, if_neg hc185, if_pos hc205]
                            refine own_retI X0 hx Bd.returns hlk (hb hby d4_216) ?_ (by decide) (by decide)
                            refine ⟨?_, N0, e0⟩
                            show some (Value.int _) = some (Value.int (pl_nu xs en 8 fr))
                            rw [← hr, pl_nu, if_pos hlt, if_pos hnl]
                          · have hc205 : ¬ ((xs.getD (ix + (1 : Int32)).toNatClampNeg 0) &&& (255 : Int32)) < (144 : Int32) := own_lt0 hc
                            clear hc
                            show own_R p e below s _ _ _ s₁ (mkF m 208 #[.val (.ref a1), .val (.int fr), .val (.int en), .val (.int ix), .val (.int ((xs.getD ix.toNatClampNeg 0) &&& (255 : Int32))), .val (.int (4 : Int32)), .val (.int (144 : Int32)), .val (.int (143 : Int32)), .val (.int ((xs.getD (ix + (1 : Int32)).toNatClampNeg 0) &&& (255 : Int32))), s9] [])
                            refine own_iload X0 hx (hb hby d4_208) rfl ?_
                            refine own_iload X0 hx (hb hby d4_210) rfl ?_
                            refine own_icmp X0 hx (hb hby d4_212) (pc' := 217) (by decide) (by decide) (fun hc => ?_) (fun hc => ?_)
                            · have hc212 : ¬ (143 : Int32) < ((xs.getD (ix + (1 : Int32)).toNatClampNeg 0) &&& (255 : Int32)) := own_le1 hc
                              clear hc
                              show own_R p e below s _ _ _ s₁ (mkF m 217 #[.val (.ref a1), .val (.int fr), .val (.int en), .val (.int ix), .val (.int ((xs.getD ix.toNatClampNeg 0) &&& (255 : Int32))), .val (.int (4 : Int32)), .val (.int (144 : Int32)), .val (.int (143 : Int32)), .val (.int ((xs.getD (ix + (1 : Int32)).toNatClampNeg 0) &&& (255 : Int32))), s9] [])
                              refine own_iloadN X0 hx (hb hby d4_217) rfl ?_
                              refine own_iconst X0 hx (2 : Int32) (hb hby d4_218) rfl ?_
                              refine own_iadd X0 hx (hb hby d4_219) ?_
                              refine own_istore X0 hx (hb hby d4_220) (l' := #[.val (.ref a1), .val (.int fr), .val (.int en), .val (.int ix), .val (.int ((xs.getD ix.toNatClampNeg 0) &&& (255 : Int32))), .val (.int (4 : Int32)), .val (.int (144 : Int32)), .val (.int (143 : Int32)), .val (.int ((xs.getD (ix + (1 : Int32)).toNatClampNeg 0) &&& (255 : Int32))), .val (.int (ix + (2 : Int32)))]) (by rcases hs9 with rfl | ⟨w, rfl, hw'⟩ <;> first | rfl | (cases w <;> first | rfl | (simp [Value.category] at hw'))) ?_
                              refine own_iload X0 hx (hb hby d4_222) rfl ?_
                              refine own_iloadN X0 hx (hb hby d4_224) rfl ?_
                              refine own_iload X0 hx (hb hby d4_225) rfl ?_
                              refine own_iadd X0 hx (hb hby d4_227) ?_
                              refine own_icmp X0 hx (hb hby d4_228) (pc' := 253) (by decide) (by decide) (fun hc => ?_) (fun hc => ?_)
                              · have hl2 : ¬ (ix + (2 : Int32)) < (ix + (4 : Int32)) := own_ge1 hc
                                exfalso; obtain ⟨d1, d2⟩ := pl_d ix en h0' hlt h8; obtain ⟨a1, a2, a3, a4, a5, a6⟩ := pl_off ix h0' d2; rw [Int32.lt_iff_toInt_lt] at hl2; omega
                              · have hl2 : (ix + (2 : Int32)) < (ix + (4 : Int32)) := own_ge0 hc
                                clear hc
                                show own_R p e below s _ _ _ s₁ (mkF m 231 #[.val (.ref a1), .val (.int fr), .val (.int en), .val (.int ix), .val (.int ((xs.getD ix.toNatClampNeg 0) &&& (255 : Int32))), .val (.int (4 : Int32)), .val (.int (144 : Int32)), .val (.int (143 : Int32)), .val (.int ((xs.getD (ix + (1 : Int32)).toNatClampNeg 0) &&& (255 : Int32))), .val (.int (ix + (2 : Int32)))] [])
                                refine own_aloadN X0 hx (hb hby d4_231) rfl rfl ?_
                                refine own_iload X0 hx (hb hby d4_232) rfl ?_
                                refine own_baload X0 hx hZ e0 hV (v := .int (xs.getD (ix + (2 : Int32)).toNatClampNeg 0)) (pl_at2 ix en (4 : Int32) h0' hlt h8 (by decide) hc185) (pl_gd _ _) (hb hby d4_234) ?_
                                show own_R p e below s _ _ _ s₁ (mkF m 235 #[.val (.ref a1), .val (.int fr), .val (.int en), .val (.int ix), .val (.int ((xs.getD ix.toNatClampNeg 0) &&& (255 : Int32))), .val (.int (4 : Int32)), .val (.int (144 : Int32)), .val (.int (143 : Int32)), .val (.int ((xs.getD (ix + (1 : Int32)).toNatClampNeg 0) &&& (255 : Int32))), .val (.int (ix + (2 : Int32)))] [(.int (xs.getD (ix + (2 : Int32)).toNatClampNeg 0))])
                                refine own_sipush X0 hx (192 : Int32) (hb hby d4_235) rfl ?_
                                refine own_iand X0 hx (hb hby d4_238) ?_
                                refine own_sipush X0 hx (128 : Int32) (hb hby d4_239) rfl ?_
                                refine own_icmp X0 hx (hb hby d4_242) (pc' := 247) (by decide) (by decide) (fun hc => ?_) (fun hc => ?_)
                                · have hc242_2 : ((xs.getD (ix + (2 : Int32)).toNatClampNeg 0) &&& (192 : Int32)) = (128 : Int32) := own_eq1 hc
                                  clear hc
                                  show own_R p e below s _ _ _ s₁ (mkF m 247 #[.val (.ref a1), .val (.int fr), .val (.int en), .val (.int ix), .val (.int ((xs.getD ix.toNatClampNeg 0) &&& (255 : Int32))), .val (.int (4 : Int32)), .val (.int (144 : Int32)), .val (.int (143 : Int32)), .val (.int ((xs.getD (ix + (1 : Int32)).toNatClampNeg 0) &&& (255 : Int32))), .val (.int (ix + (2 : Int32)))] [])
                                  refine own_iinc X0 hx (1 : Int32) (hb hby d4_247) rfl rfl (l' := #[.val (.ref a1), .val (.int fr), .val (.int en), .val (.int ix), .val (.int ((xs.getD ix.toNatClampNeg 0) &&& (255 : Int32))), .val (.int (4 : Int32)), .val (.int (144 : Int32)), .val (.int (143 : Int32)), .val (.int ((xs.getD (ix + (1 : Int32)).toNatClampNeg 0) &&& (255 : Int32))), .val (.int ((ix + (2 : Int32)) + (1 : Int32)))]) rfl ?_
                                  refine own_goto X0 hx (hb hby d4_250) (pc' := 222) (by decide) (by decide) ?_
                                  show own_R p e below s _ _ _ s₁ (mkF m 222 #[.val (.ref a1), .val (.int fr), .val (.int en), .val (.int ix), .val (.int ((xs.getD ix.toNatClampNeg 0) &&& (255 : Int32))), .val (.int (4 : Int32)), .val (.int (144 : Int32)), .val (.int (143 : Int32)), .val (.int ((xs.getD (ix + (1 : Int32)).toNatClampNeg 0) &&& (255 : Int32))), .val (.int ((ix + (2 : Int32)) + (1 : Int32)))] [])
                                  refine own_iload X0 hx (hb hby d4_222) rfl ?_
                                  refine own_iloadN X0 hx (hb hby d4_224) rfl ?_
                                  refine own_iload X0 hx (hb hby d4_225) rfl ?_
                                  refine own_iadd X0 hx (hb hby d4_227) ?_
                                  refine own_icmp X0 hx (hb hby d4_228) (pc' := 253) (by decide) (by decide) (fun hc => ?_) (fun hc => ?_)
                                  · have hl3 : ¬ ((ix + (2 : Int32)) + (1 : Int32)) < (ix + (4 : Int32)) := own_ge1 hc
                                    exfalso; obtain ⟨d1, d2⟩ := pl_d ix en h0' hlt h8; obtain ⟨a1, a2, a3, a4, a5, a6⟩ := pl_off ix h0' d2; rw [Int32.lt_iff_toInt_lt] at hl3; omega
                                  · have hl3 : ((ix + (2 : Int32)) + (1 : Int32)) < (ix + (4 : Int32)) := own_ge0 hc
                                    clear hc
                                    show own_R p e below s _ _ _ s₁ (mkF m 231 #[.val (.ref a1), .val (.int fr), .val (.int en), .val (.int ix), .val (.int ((xs.getD ix.toNatClampNeg 0) &&& (255 : Int32))), .val (.int (4 : Int32)), .val (.int (144 : Int32)), .val (.int (143 : Int32)), .val (.int ((xs.getD (ix + (1 : Int32)).toNatClampNeg 0) &&& (255 : Int32))), .val (.int ((ix + (2 : Int32)) + (1 : Int32)))] [])
                                    refine own_aloadN X0 hx (hb hby d4_231) rfl rfl ?_
                                    refine own_iload X0 hx (hb hby d4_232) rfl ?_
                                    rw [pl_21]
                                    show own_R p e below s _ _ _ s₁ (mkF m 234 #[.val (.ref a1), .val (.int fr), .val (.int en), .val (.int ix), .val (.int ((xs.getD ix.toNatClampNeg 0) &&& (255 : Int32))), .val (.int (4 : Int32)), .val (.int (144 : Int32)), .val (.int (143 : Int32)), .val (.int ((xs.getD (ix + (1 : Int32)).toNatClampNeg 0) &&& (255 : Int32))), .val (.int (ix + (3 : Int32)))] [(.int (ix + (3 : Int32))), (.ref a1)])
                                    refine own_baload X0 hx hZ e0 hV (v := .int (xs.getD (ix + (3 : Int32)).toNatClampNeg 0)) (pl_at3 ix en (4 : Int32) h0' hlt h8 (by decide) hc185) (pl_gd _ _) (hb hby d4_234) ?_
                                    show own_R p e below s _ _ _ s₁ (mkF m 235 #[.val (.ref a1), .val (.int fr), .val (.int en), .val (.int ix), .val (.int ((xs.getD ix.toNatClampNeg 0) &&& (255 : Int32))), .val (.int (4 : Int32)), .val (.int (144 : Int32)), .val (.int (143 : Int32)), .val (.int ((xs.getD (ix + (1 : Int32)).toNatClampNeg 0) &&& (255 : Int32))), .val (.int (ix + (3 : Int32)))] [(.int (xs.getD (ix + (3 : Int32)).toNatClampNeg 0))])
                                    refine own_sipush X0 hx (192 : Int32) (hb hby d4_235) rfl ?_
                                    refine own_iand X0 hx (hb hby d4_238) ?_
                                    refine own_sipush X0 hx (128 : Int32) (hb hby d4_239) rfl ?_
                                    refine own_icmp X0 hx (hb hby d4_242) (pc' := 247) (by decide) (by decide) (fun hc => ?_) (fun hc => ?_)
                                    · have hc242_3 : ((xs.getD (ix + (3 : Int32)).toNatClampNeg 0) &&& (192 : Int32)) = (128 : Int32) := own_eq1 hc
                                      clear hc
                                      show own_R p e below s _ _ _ s₁ (mkF m 247 #[.val (.ref a1), .val (.int fr), .val (.int en), .val (.int ix), .val (.int ((xs.getD ix.toNatClampNeg 0) &&& (255 : Int32))), .val (.int (4 : Int32)), .val (.int (144 : Int32)), .val (.int (143 : Int32)), .val (.int ((xs.getD (ix + (1 : Int32)).toNatClampNeg 0) &&& (255 : Int32))), .val (.int (ix + (3 : Int32)))] [])
                                      refine own_iinc X0 hx (1 : Int32) (hb hby d4_247) rfl rfl (l' := #[.val (.ref a1), .val (.int fr), .val (.int en), .val (.int ix), .val (.int ((xs.getD ix.toNatClampNeg 0) &&& (255 : Int32))), .val (.int (4 : Int32)), .val (.int (144 : Int32)), .val (.int (143 : Int32)), .val (.int ((xs.getD (ix + (1 : Int32)).toNatClampNeg 0) &&& (255 : Int32))), .val (.int ((ix + (3 : Int32)) + (1 : Int32)))]) rfl ?_
                                      refine own_goto X0 hx (hb hby d4_250) (pc' := 222) (by decide) (by decide) ?_
                                      show own_R p e below s _ _ _ s₁ (mkF m 222 #[.val (.ref a1), .val (.int fr), .val (.int en), .val (.int ix), .val (.int ((xs.getD ix.toNatClampNeg 0) &&& (255 : Int32))), .val (.int (4 : Int32)), .val (.int (144 : Int32)), .val (.int (143 : Int32)), .val (.int ((xs.getD (ix + (1 : Int32)).toNatClampNeg 0) &&& (255 : Int32))), .val (.int ((ix + (3 : Int32)) + (1 : Int32)))] [])
                                      refine own_iload X0 hx (hb hby d4_222) rfl ?_
                                      refine own_iloadN X0 hx (hb hby d4_224) rfl ?_
                                      refine own_iload X0 hx (hb hby d4_225) rfl ?_
                                      refine own_iadd X0 hx (hb hby d4_227) ?_
                                      refine own_icmp X0 hx (hb hby d4_228) (pc' := 253) (by decide) (by decide) (fun hc => ?_) (fun hc => ?_)
                                      · have hl4 : ¬ ((ix + (3 : Int32)) + (1 : Int32)) < (ix + (4 : Int32)) := own_ge1 hc
                                        clear hc
                                        show own_R p e below s _ _ _ s₁ (mkF m 253 #[.val (.ref a1), .val (.int fr), .val (.int en), .val (.int ix), .val (.int ((xs.getD ix.toNatClampNeg 0) &&& (255 : Int32))), .val (.int (4 : Int32)), .val (.int (144 : Int32)), .val (.int (143 : Int32)), .val (.int ((xs.getD (ix + (1 : Int32)).toNatClampNeg 0) &&& (255 : Int32))), .val (.int ((ix + (3 : Int32)) + (1 : Int32)))] [])
                                        refine own_iloadN X0 hx (hb hby d4_253) rfl ?_
                                        refine own_iload X0 hx (hb hby d4_254) rfl ?_
                                        refine own_iadd X0 hx (hb hby d4_256) ?_
                                        refine own_istoreN X0 hx (hb hby d4_257) (l' := #[.val (.ref a1), .val (.int fr), .val (.int en), .val (.int (ix + (4 : Int32))), .val (.int ((xs.getD ix.toNatClampNeg 0) &&& (255 : Int32))), .val (.int (4 : Int32)), .val (.int (144 : Int32)), .val (.int (143 : Int32)), .val (.int ((xs.getD (ix + (1 : Int32)).toNatClampNeg 0) &&& (255 : Int32))), .val (.int ((ix + (3 : Int32)) + (1 : Int32)))]) rfl ?_
                                        refine own_goto X0 hx (hb hby d4_258) (pc' := 2) (by decide) (by decide) ?_
                                        show own_R p e below s _ _ _ s₁ (mkF m 2 #[.val (.ref a1), .val (.int fr), .val (.int en), .val (.int (ix + (4 : Int32))), .val (.int ((xs.getD ix.toNatClampNeg 0) &&& (255 : Int32))), .val (.int (4 : Int32)), .val (.int (144 : Int32)), .val (.int (143 : Int32)), .val (.int ((xs.getD (ix + (1 : Int32)).toNatClampNeg 0) &&& (255 : Int32))), .val (.int ((ix + (3 : Int32)) + (1 : Int32)))] [])
                                        have hnl : pl_nl ((xs.getD ix.toNatClampNeg 0) &&& (255 : Int32)) ((xs.getD (ix + (1 : Int32)).toNatClampNeg 0) &&& (255 : Int32)) (xs.getD (ix + (2 : Int32)).toNatClampNeg 0) (xs.getD (ix + (3 : Int32)).toNatClampNeg 0) (en - ix) = (4 : Int32) := by rw [pl_nl, if_neg hc21, if_neg hc45, if_pos hc53, if_pos hc67, if_neg hc125, if_neg hc133, if_pos hc144, if_pos hc162, if_neg hc185, if_neg hc205, if_neg hc212, if_pos hc242_2, if_pos hc242_3]
                                        obtain ⟨u0, uk⟩ := pl_adv ix en (4 : Int32) k h0' hlt h8 hk' (by decide)
                                        exact ih _ _ _ _ _ _ _ (One.val rfl) (One.val rfl) (One.val rfl) (One.val rfl) (One.val rfl) (One.val rfl) u0 uk (by rw [← hr]; conv => rhs; rw [pl_nu, if_pos hlt, hnl, if_neg (by decide)])
                                      · have hl4 : ((ix + (3 : Int32)) + (1 : Int32)) < (ix + (4 : Int32)) := own_ge0 hc
                                        exfalso; obtain ⟨d1, d2⟩ := pl_d ix en h0' hlt h8; obtain ⟨a1, a2, a3, a4, a5, a6⟩ := pl_off ix h0' d2; rw [Int32.lt_iff_toInt_lt] at hl4; omega
                                    · have hc242_3 : ¬ ((xs.getD (ix + (3 : Int32)).toNatClampNeg 0) &&& (192 : Int32)) = (128 : Int32) := own_eq0 hc
                                      clear hc
                                      show own_R p e below s _ _ _ s₁ (mkF m 245 #[.val (.ref a1), .val (.int fr), .val (.int en), .val (.int ix), .val (.int ((xs.getD ix.toNatClampNeg 0) &&& (255 : Int32))), .val (.int (4 : Int32)), .val (.int (144 : Int32)), .val (.int (143 : Int32)), .val (.int ((xs.getD (ix + (1 : Int32)).toNatClampNeg 0) &&& (255 : Int32))), .val (.int (ix + (3 : Int32)))] [])
                                      refine own_iloadN X0 hx (hb hby d4_245) rfl ?_
                                      have hnl : pl_nl ((xs.getD ix.toNatClampNeg 0) &&& (255 : Int32)) ((xs.getD (ix + (1 : Int32)).toNatClampNeg 0) &&& (255 : Int32)) (xs.getD (ix + (2 : Int32)).toNatClampNeg 0) (xs.getD (ix + (3 : Int32)).toNatClampNeg 0) (en - ix) = 0 := by rw [pl_nl, if_neg hc21, if_neg hc45, if_pos hc53, if_pos hc67, if_neg hc125, if_neg hc133, if_pos hc144, if_pos hc162, if_neg hc185, if_neg hc205, if_neg hc212, if_pos hc242_2, if_neg hc242_3]
                                      refine own_retI X0 hx Bd.returns hlk (hb hby d4_246) ?_ (by decide) (by decide)
                                      refine ⟨?_, N0, e0⟩
                                      show some (Value.int _) = some (Value.int (pl_nu xs en 8 fr))
                                      rw [← hr, pl_nu, if_pos hlt, if_pos hnl]
                                · have hc242_2 : ¬ ((xs.getD (ix + (2 : Int32)).toNatClampNeg 0) &&& (192 : Int32)) = (128 : Int32) := own_eq0 hc
                                  clear hc
                                  show own_R p e below s _ _ _ s₁ (mkF m 245 #[.val (.ref a1), .val (.int fr), .val (.int en), .val (.int ix), .val (.int ((xs.getD ix.toNatClampNeg 0) &&& (255 : Int32))), .val (.int (4 : Int32)), .val (.int (144 : Int32)), .val (.int (143 : Int32)), .val (.int ((xs.getD (ix + (1 : Int32)).toNatClampNeg 0) &&& (255 : Int32))), .val (.int (ix + (2 : Int32)))] [])
                                  refine own_iloadN X0 hx (hb hby d4_245) rfl ?_
                                  have hnl : pl_nl ((xs.getD ix.toNatClampNeg 0) &&& (255 : Int32)) ((xs.getD (ix + (1 : Int32)).toNatClampNeg 0) &&& (255 : Int32)) (xs.getD (ix + (2 : Int32)).toNatClampNeg 0) (xs.getD (ix + (3 : Int32)).toNatClampNeg 0) (en - ix) = 0 := by rw [pl_nl, if_neg hc21, if_neg hc45, if_pos hc53, if_pos hc67, if_neg hc125, if_neg hc133, if_pos hc144, if_pos hc162, if_neg hc185, if_neg hc205, if_neg hc212, if_neg hc242_2]
                                  refine own_retI X0 hx Bd.returns hlk (hb hby d4_246) ?_ (by decide) (by decide)
                                  refine ⟨?_, N0, e0⟩
                                  show some (Value.int _) = some (Value.int (pl_nu xs en 8 fr))
                                  rw [← hr, pl_nu, if_pos hlt, if_pos hnl]
                            · have hc212 : (143 : Int32) < ((xs.getD (ix + (1 : Int32)).toNatClampNeg 0) &&& (255 : Int32)) := own_le0 hc
                              clear hc
                              show own_R p e below s _ _ _ s₁ (mkF m 215 #[.val (.ref a1), .val (.int fr), .val (.int en), .val (.int ix), .val (.int ((xs.getD ix.toNatClampNeg 0) &&& (255 : Int32))), .val (.int (4 : Int32)), .val (.int (144 : Int32)), .val (.int (143 : Int32)), .val (.int ((xs.getD (ix + (1 : Int32)).toNatClampNeg 0) &&& (255 : Int32))), s9] [])
                              refine own_iloadN X0 hx (hb hby d4_215) rfl ?_
                              have hnl : pl_nl ((xs.getD ix.toNatClampNeg 0) &&& (255 : Int32)) ((xs.getD (ix + (1 : Int32)).toNatClampNeg 0) &&& (255 : Int32)) (xs.getD (ix + (2 : Int32)).toNatClampNeg 0) (xs.getD (ix + (3 : Int32)).toNatClampNeg 0) (en - ix) = 0 := by rw [pl_nl, if_neg hc21, if_neg hc45, if_pos hc53, if_pos hc67, if_neg hc125, if_neg hc133, if_pos hc144, if_pos hc162, if_neg hc185, if_neg hc205, if_pos hc212]
                              refine own_retI X0 hx Bd.returns hlk (hb hby d4_216) ?_ (by decide) (by decide)
                              refine ⟨?_, N0, e0⟩
                              show some (Value.int _) = some (Value.int (pl_nu xs en 8 fr))
                              rw [← hr, pl_nu, if_pos hlt, if_pos hnl]
                        · have hc185 : (en - ix) < (4 : Int32) := own_ge0 hc
                          clear hc
                          show own_R p e below s _ _ _ s₁ (mkF m 188 #[.val (.ref a1), .val (.int fr), .val (.int en), .val (.int ix), .val (.int ((xs.getD ix.toNatClampNeg 0) &&& (255 : Int32))), .val (.int (4 : Int32)), .val (.int (144 : Int32)), .val (.int (143 : Int32)), s8, s9] [])
                          refine own_iloadN X0 hx (hb hby d4_188) rfl ?_
                          have hnl : pl_nl ((xs.getD ix.toNatClampNeg 0) &&& (255 : Int32)) ((xs.getD (ix + (1 : Int32)).toNatClampNeg 0) &&& (255 : Int32)) (xs.getD (ix + (2 : Int32)).toNatClampNeg 0) (xs.getD (ix + (3 : Int32)).toNatClampNeg 0) (en - ix) = 0 := by rw [pl_nl, if_neg hc21, if_neg hc45, if_pos hc53, if_pos hc67, if_neg hc125, if_neg hc133, if_pos hc144, if_pos hc162, if_pos hc185]
                          refine own_retI X0 hx Bd.returns hlk (hb hby d4_189) ?_ (by decide) (by decide)
                          refine ⟨?_, N0, e0⟩
                          show some (Value.int _) = some (Value.int (pl_nu xs en 8 fr))
                          rw [← hr, pl_nu, if_pos hlt, if_pos hnl]
              · have hc67 : ¬ ((xs.getD ix.toNatClampNeg 0) &&& (255 : Int32)) < (224 : Int32) := own_lt0 hc
                clear hc
                show own_R p e below s _ _ _ s₁ (mkF m 70 #[.val (.ref a1), .val (.int fr), .val (.int en), .val (.int ix), .val (.int ((xs.getD ix.toNatClampNeg 0) &&& (255 : Int32))), s5, .val (.int (128 : Int32)), .val (.int (191 : Int32)), s8, s9] [])
                refine own_iload X0 hx (hb hby d4_70) rfl ?_
                refine own_sipush X0 hx (239 : Int32) (hb hby d4_72) rfl ?_
                refine own_icmp X0 hx (hb hby d4_75) (pc' := 120) (by decide) (by decide) (fun hc => ?_) (fun hc => ?_)
                · have hc75 : (239 : Int32) < ((xs.getD ix.toNatClampNeg 0) &&& (255 : Int32)) := own_gt1 hc
                  clear hc
                  show own_R p e below s _ _ _ s₁ (mkF m 120 #[.val (.ref a1), .val (.int fr), .val (.int en), .val (.int ix), .val (.int ((xs.getD ix.toNatClampNeg 0) &&& (255 : Int32))), s5, .val (.int (128 : Int32)), .val (.int (191 : Int32)), s8, s9] [])
                  refine own_iload X0 hx (hb hby d4_120) rfl ?_
                  refine own_sipush X0 hx (240 : Int32) (hb hby d4_122) rfl ?_
                  refine own_icmp X0 hx (hb hby d4_125) (pc' := 178) (by decide) (by decide) (fun hc => ?_) (fun hc => ?_)
                  · have hc125 : ((xs.getD ix.toNatClampNeg 0) &&& (255 : Int32)) < (240 : Int32) := own_lt1 hc
                    clear hc
                    show own_R p e below s _ _ _ s₁ (mkF m 178 #[.val (.ref a1), .val (.int fr), .val (.int en), .val (.int ix), .val (.int ((xs.getD ix.toNatClampNeg 0) &&& (255 : Int32))), s5, .val (.int (128 : Int32)), .val (.int (191 : Int32)), s8, s9] [])
                    refine own_iloadN X0 hx (hb hby d4_178) rfl ?_
                    have hnl : pl_nl ((xs.getD ix.toNatClampNeg 0) &&& (255 : Int32)) ((xs.getD (ix + (1 : Int32)).toNatClampNeg 0) &&& (255 : Int32)) (xs.getD (ix + (2 : Int32)).toNatClampNeg 0) (xs.getD (ix + (3 : Int32)).toNatClampNeg 0) (en - ix) = 0 := by rw [pl_nl, if_neg hc21, if_neg hc45, if_pos hc53, if_neg hc67, if_pos hc75, if_pos hc125]
                    refine own_retI X0 hx Bd.returns hlk (hb hby d4_179) ?_ (by decide) (by decide)
                    refine ⟨?_, N0, e0⟩
                    show some (Value.int _) = some (Value.int (pl_nu xs en 8 fr))
                    rw [← hr, pl_nu, if_pos hlt, if_pos hnl]
                  · have hc125 : ¬ ((xs.getD ix.toNatClampNeg 0) &&& (255 : Int32)) < (240 : Int32) := own_lt0 hc
                    clear hc
                    show own_R p e below s _ _ _ s₁ (mkF m 128 #[.val (.ref a1), .val (.int fr), .val (.int en), .val (.int ix), .val (.int ((xs.getD ix.toNatClampNeg 0) &&& (255 : Int32))), s5, .val (.int (128 : Int32)), .val (.int (191 : Int32)), s8, s9] [])
                    refine own_iload X0 hx (hb hby d4_128) rfl ?_
                    refine own_sipush X0 hx (244 : Int32) (hb hby d4_130) rfl ?_
                    refine own_icmp X0 hx (hb hby d4_133) (pc' := 178) (by decide) (by decide) (fun hc => ?_) (fun hc => ?_)
                    · have hc133 : (244 : Int32) < ((xs.getD ix.toNatClampNeg 0) &&& (255 : Int32)) := own_gt1 hc
                      clear hc
                      show own_R p e below s _ _ _ s₁ (mkF m 178 #[.val (.ref a1), .val (.int fr), .val (.int en), .val (.int ix), .val (.int ((xs.getD ix.toNatClampNeg 0) &&& (255 : Int32))), s5, .val (.int (128 : Int32)), .val (.int (191 : Int32)), s8, s9] [])
                      refine own_iloadN X0 hx (hb hby d4_178) rfl ?_
                      have hnl : pl_nl ((xs.getD ix.toNatClampNeg 0) &&& (255 : Int32)) ((xs.getD (ix + (1 : Int32)).toNatClampNeg 0) &&& (255 : Int32)) (xs.getD (ix + (2 : Int32)).toNatClampNeg 0) (xs.getD (ix + (3 : Int32)).toNatClampNeg 0) (en - ix) = 0 := by rw [pl_nl, if_neg hc21, if_neg hc45, if_pos hc53, if_neg hc67, if_pos hc75, if_neg hc125, if_pos hc133]
                      refine own_retI X0 hx Bd.returns hlk (hb hby d4_179) ?_ (by decide) (by decide)
                      refine ⟨?_, N0, e0⟩
                      show some (Value.int _) = some (Value.int (pl_nu xs en 8 fr))
                      rw [← hr, pl_nu, if_pos hlt, if_pos hnl]
                    · have hc133 : ¬ (244 : Int32) < ((xs.getD ix.toNatClampNeg 0) &&& (255 : Int32)) := own_gt0 hc
                      clear hc
                      show own_R p e below s _ _ _ s₁ (mkF m 136 #[.val (.ref a1), .val (.int fr), .val (.int en), .val (.int ix), .val (.int ((xs.getD ix.toNatClampNeg 0) &&& (255 : Int32))), s5, .val (.int (128 : Int32)), .val (.int (191 : Int32)), s8, s9] [])
                      refine own_iconst X0 hx (4 : Int32) (hb hby d4_136) rfl ?_
                      refine own_istore X0 hx (hb hby d4_137) (l' := #[.val (.ref a1), .val (.int fr), .val (.int en), .val (.int ix), .val (.int ((xs.getD ix.toNatClampNeg 0) &&& (255 : Int32))), .val (.int (4 : Int32)), .val (.int (128 : Int32)), .val (.int (191 : Int32)), s8, s9]) (by rcases hs5 with rfl | ⟨w, rfl, hw'⟩ <;> first | rfl | (cases w <;> first | rfl | (simp [Value.category] at hw'))) ?_
                      refine own_iload X0 hx (hb hby d4_139) rfl ?_
                      refine own_sipush X0 hx (240 : Int32) (hb hby d4_141) rfl ?_
                      refine own_icmp X0 hx (hb hby d4_144) (pc' := 153) (by decide) (by decide) (fun hc => ?_) (fun hc => ?_)
                      · have hc144 : ¬ ((xs.getD ix.toNatClampNeg 0) &&& (255 : Int32)) = (240 : Int32) := own_ne1 hc
                        clear hc
                        show own_R p e below s _ _ _ s₁ (mkF m 153 #[.val (.ref a1), .val (.int fr), .val (.int en), .val (.int ix), .val (.int ((xs.getD ix.toNatClampNeg 0) &&& (255 : Int32))), .val (.int (4 : Int32)), .val (.int (128 : Int32)), .val (.int (191 : Int32)), s8, s9] [])
                        refine own_iload X0 hx (hb hby d4_153) rfl ?_
                        refine own_istore X0 hx (hb hby d4_155) (l' := #[.val (.ref a1), .val (.int fr), .val (.int en), .val (.int ix), .val (.int ((xs.getD ix.toNatClampNeg 0) &&& (255 : Int32))), .val (.int (4 : Int32)), .val (.int (128 : Int32)), .val (.int (191 : Int32)), s8, s9]) rfl ?_
                        refine own_iload X0 hx (hb hby d4_157) rfl ?_
                        refine own_sipush X0 hx (244 : Int32) (hb hby d4_159) rfl ?_
                        refine own_icmp X0 hx (hb hby d4_162) (pc' := 171) (by decide) (by decide) (fun hc => ?_) (fun hc => ?_)
                        · have hc162 : ¬ ((xs.getD ix.toNatClampNeg 0) &&& (255 : Int32)) = (244 : Int32) := own_ne1 hc
                          clear hc
                          show own_R p e below s _ _ _ s₁ (mkF m 171 #[.val (.ref a1), .val (.int fr), .val (.int en), .val (.int ix), .val (.int ((xs.getD ix.toNatClampNeg 0) &&& (255 : Int32))), .val (.int (4 : Int32)), .val (.int (128 : Int32)), .val (.int (191 : Int32)), s8, s9] [])
                          refine own_iload X0 hx (hb hby d4_171) rfl ?_
                          refine own_istore X0 hx (hb hby d4_173) (l' := #[.val (.ref a1), .val (.int fr), .val (.int en), .val (.int ix), .val (.int ((xs.getD ix.toNatClampNeg 0) &&& (255 : Int32))), .val (.int (4 : Int32)), .val (.int (128 : Int32)), .val (.int (191 : Int32)), s8, s9]) rfl ?_
                          refine own_goto X0 hx (hb hby d4_175) (pc' := 180) (by decide) (by decide) ?_
                          show own_R p e below s _ _ _ s₁ (mkF m 180 #[.val (.ref a1), .val (.int fr), .val (.int en), .val (.int ix), .val (.int ((xs.getD ix.toNatClampNeg 0) &&& (255 : Int32))), .val (.int (4 : Int32)), .val (.int (128 : Int32)), .val (.int (191 : Int32)), s8, s9] [])
                          refine own_iloadN X0 hx (hb hby d4_180) rfl ?_
                          refine own_iloadN X0 hx (hb hby d4_181) rfl ?_
                          refine own_isub X0 hx (hb hby d4_182) ?_
                          refine own_iload X0 hx (hb hby d4_183) rfl ?_
                          refine own_icmp X0 hx (hb hby d4_185) (pc' := 190) (by decide) (by decide) (fun hc => ?_) (fun hc => ?_)
                          · have hc185 : ¬ (en - ix) < (4 : Int32) := own_ge1 hc
                            clear hc
                            show own_R p e below s _ _ _ s₁ (mkF m 190 #[.val (.ref a1), .val (.int fr), .val (.int en), .val (.int ix), .val (.int ((xs.getD ix.toNatClampNeg 0) &&& (255 : Int32))), .val (.int (4 : Int32)), .val (.int (128 : Int32)), .val (.int (191 : Int32)), s8, s9] [])
                            refine own_aloadN X0 hx (hb hby d4_190) rfl rfl ?_
                            refine own_iloadN X0 hx (hb hby d4_191) rfl ?_
                            refine own_iconst X0 hx (1 : Int32) (hb hby d4_192) rfl ?_
                            refine own_iadd X0 hx (hb hby d4_193) ?_
                            refine own_baload X0 hx hZ e0 hV (v := .int (xs.getD (ix + (1 : Int32)).toNatClampNeg 0)) (pl_at1 ix en (4 : Int32) h0' hlt h8 (by decide) hc185) (pl_gd _ _) (hb hby d4_194) ?_
                            show own_R p e below s _ _ _ s₁ (mkF m 195 #[.val (.ref a1), .val (.int fr), .val (.int en), .val (.int ix), .val (.int ((xs.getD ix.toNatClampNeg 0) &&& (255 : Int32))), .val (.int (4 : Int32)), .val (.int (128 : Int32)), .val (.int (191 : Int32)), s8, s9] [(.int (xs.getD (ix + (1 : Int32)).toNatClampNeg 0))])
                            refine own_sipush X0 hx (255 : Int32) (hb hby d4_195) rfl ?_
                            refine own_iand X0 hx (hb hby d4_198) ?_
                            refine own_istore X0 hx (hb hby d4_199) (l' := #[.val (.ref a1), .val (.int fr), .val (.int en), .val (.int ix), .val (.int ((xs.getD ix.toNatClampNeg 0) &&& (255 : Int32))), .val (.int (4 : Int32)), .val (.int (128 : Int32)), .val (.int (191 : Int32)), .val (.int ((xs.getD (ix + (1 : Int32)).toNatClampNeg 0) &&& (255 : Int32))), s9]) (by rcases hs8 with rfl | ⟨w, rfl, hw'⟩ <;> first | rfl | (cases w <;> first | rfl | (simp [Value.category] at hw'))) ?_
                            refine own_iload X0 hx (hb hby d4_201) rfl ?_
                            refine own_iload X0 hx (hb hby d4_203) rfl ?_
                            refine own_icmp X0 hx (hb hby d4_205) (pc' := 215) (by decide) (by decide) (fun hc => ?_) (fun hc => ?_)
                            · have hc205 : ((xs.getD (ix + (1 : Int32)).toNatClampNeg 0) &&& (255 : Int32)) < (128 : Int32) := own_lt1 hc
                              clear hc
                              show own_R p e below s _ _ _ s₁ (mkF m 215 #[.val (.ref a1), .val (.int fr), .val (.int en), .val (.int ix), .val (.int ((xs.getD ix.toNatClampNeg 0) &&& (255 : Int32))), .val (.int (4 : Int32)), .val (.int (128 : Int32)), .val (.int (191 : Int32)), .val (.int ((xs.getD (ix + (1 : Int32)).toNatClampNeg 0) &&& (255 : Int32))), s9] [])
                              refine own_iloadN X0 hx (hb hby d4_215) rfl ?_
                              have hnl : pl_nl ((xs.getD ix.toNatClampNeg 0) &&& (255 : Int32)) ((xs.getD (ix + (1 : Int32)).toNatClampNeg 0) &&& (255 : Int32)) (xs.getD (ix + (2 : Int32)).toNatClampNeg 0) (xs.getD (ix + (3 : Int32)).toNatClampNeg 0) (en - ix) = 0 := by rw [pl_nl, if_neg hc21, if_neg hc45, if_pos hc53, if_neg hc67, if_pos hc75, if_neg hc125, if_neg hc133, if_neg hc144, if_neg hc162, if_neg hc185, if_pos hc205]
                              refine own_retI X0 hx Bd.returns hlk (hb hby d4_216) ?_ (by decide) (by decide)
                              refine ⟨?_, N0, e0⟩
                              show some (Value.int _) = some (Value.int (pl_nu xs en 8 fr))
                              rw [← hr, pl_nu, if_pos hlt, if_pos hnl]
                            · have hc205 : ¬ ((xs.getD (ix + (1 : Int32)).toNatClampNeg 0) &&& (255 : Int32)) < (128 : Int32) := own_lt0 hc
                              clear hc
                              show own_R p e below s _ _ _ s₁ (mkF m 208 #[.val (.ref a1), .val (.int fr), .val (.int en), .val (.int ix), .val (.int ((xs.getD ix.toNatClampNeg 0) &&& (255 : Int32))), .val (.int (4 : Int32)), .val (.int (128 : Int32)), .val (.int (191 : Int32)), .val (.int ((xs.getD (ix + (1 : Int32)).toNatClampNeg 0) &&& (255 : Int32))), s9] [])
                              refine own_iload X0 hx (hb hby d4_208) rfl ?_
                              refine own_iload X0 hx (hb hby d4_210) rfl ?_
                              refine own_icmp X0 hx (hb hby d4_212) (pc' := 217) (by decide) (by decide) (fun hc => ?_) (fun hc => ?_)
                              · have hc212 : ¬ (191 : Int32) < ((xs.getD (ix + (1 : Int32)).toNatClampNeg 0) &&& (255 : Int32)) := own_le1 hc
                                clear hc
                                show own_R p e below s _ _ _ s₁ (mkF m 217 #[.val (.ref a1), .val (.int fr), .val (.int en), .val (.int ix), .val (.int ((xs.getD ix.toNatClampNeg 0) &&& (255 : Int32))), .val (.int (4 : Int32)), .val (.int (128 : Int32)), .val (.int (191 : Int32)), .val (.int ((xs.getD (ix + (1 : Int32)).toNatClampNeg 0) &&& (255 : Int32))), s9] [])
                                refine own_iloadN X0 hx (hb hby d4_217) rfl ?_
                                refine own_iconst X0 hx (2 : Int32) (hb hby d4_218) rfl ?_
                                refine own_iadd X0 hx (hb hby d4_219) ?_
                                refine own_istore X0 hx (hb hby d4_220) (l' := #[.val (.ref a1), .val (.int fr), .val (.int en), .val (.int ix), .val (.int ((xs.getD ix.toNatClampNeg 0) &&& (255 : Int32))), .val (.int (4 : Int32)), .val (.int (128 : Int32)), .val (.int (191 : Int32)), .val (.int ((xs.getD (ix + (1 : Int32)).toNatClampNeg 0) &&& (255 : Int32))), .val (.int (ix + (2 : Int32)))]) (by rcases hs9 with rfl | ⟨w, rfl, hw'⟩ <;> first | rfl | (cases w <;> first | rfl | (simp [Value.category] at hw'))) ?_
                                refine own_iload X0 hx (hb hby d4_222) rfl ?_
                                refine own_iloadN X0 hx (hb hby d4_224) rfl ?_
                                refine own_iload X0 hx (hb hby d4_225) rfl ?_
                                refine own_iadd X0 hx (hb hby d4_227) ?_
                                refine own_icmp X0 hx (hb hby d4_228) (pc' := 253) (by decide) (by decide) (fun hc => ?_) (fun hc => ?_)
                                · have hl2 : ¬ (ix + (2 : Int32)) < (ix + (4 : Int32)) := own_ge1 hc
                                  exfalso; obtain ⟨d1, d2⟩ := pl_d ix en h0' hlt h8; obtain ⟨a1, a2, a3, a4, a5, a6⟩ := pl_off ix h0' d2; rw [Int32.lt_iff_toInt_lt] at hl2; omega
                                · have hl2 : (ix + (2 : Int32)) < (ix + (4 : Int32)) := own_ge0 hc
                                  clear hc
                                  show own_R p e below s _ _ _ s₁ (mkF m 231 #[.val (.ref a1), .val (.int fr), .val (.int en), .val (.int ix), .val (.int ((xs.getD ix.toNatClampNeg 0) &&& (255 : Int32))), .val (.int (4 : Int32)), .val (.int (128 : Int32)), .val (.int (191 : Int32)), .val (.int ((xs.getD (ix + (1 : Int32)).toNatClampNeg 0) &&& (255 : Int32))), .val (.int (ix + (2 : Int32)))] [])
                                  refine own_aloadN X0 hx (hb hby d4_231) rfl rfl ?_
                                  refine own_iload X0 hx (hb hby d4_232) rfl ?_
                                  refine own_baload X0 hx hZ e0 hV (v := .int (xs.getD (ix + (2 : Int32)).toNatClampNeg 0)) (pl_at2 ix en (4 : Int32) h0' hlt h8 (by decide) hc185) (pl_gd _ _) (hb hby d4_234) ?_
                                  show own_R p e below s _ _ _ s₁ (mkF m 235 #[.val (.ref a1), .val (.int fr), .val (.int en), .val (.int ix), .val (.int ((xs.getD ix.toNatClampNeg 0) &&& (255 : Int32))), .val (.int (4 : Int32)), .val (.int (128 : Int32)), .val (.int (191 : Int32)), .val (.int ((xs.getD (ix + (1 : Int32)).toNatClampNeg 0) &&& (255 : Int32))), .val (.int (ix + (2 : Int32)))] [(.int (xs.getD (ix + (2 : Int32)).toNatClampNeg 0))])
                                  refine own_sipush X0 hx (192 : Int32) (hb hby d4_235) rfl ?_
                                  refine own_iand X0 hx (hb hby d4_238) ?_
                                  refine own_sipush X0 hx (128 : Int32) (hb hby d4_239) rfl ?_
                                  refine own_icmp X0 hx (hb hby d4_242) (pc' := 247) (by decide) (by decide) (fun hc => ?_) (fun hc => ?_)
                                  · have hc242_2 : ((xs.getD (ix + (2 : Int32)).toNatClampNeg 0) &&& (192 : Int32)) = (128 : Int32) := own_eq1 hc
                                    clear hc
                                    show own_R p e below s _ _ _ s₁ (mkF m 247 #[.val (.ref a1), .val (.int fr), .val (.int en), .val (.int ix), .val (.int ((xs.getD ix.toNatClampNeg 0) &&& (255 : Int32))), .val (.int (4 : Int32)), .val (.int (128 : Int32)), .val (.int (191 : Int32)), .val (.int ((xs.getD (ix + (1 : Int32)).toNatClampNeg 0) &&& (255 : Int32))), .val (.int (ix + (2 : Int32)))] [])
                                    refine own_iinc X0 hx (1 : Int32) (hb hby d4_247) rfl rfl (l' := #[.val (.ref a1), .val (.int fr), .val (.int en), .val (.int ix), .val (.int ((xs.getD ix.toNatClampNeg 0) &&& (255 : Int32))), .val (.int (4 : Int32)), .val (.int (128 : Int32)), .val (.int (191 : Int32)), .val (.int ((xs.getD (ix + (1 : Int32)).toNatClampNeg 0) &&& (255 : Int32))), .val (.int ((ix + (2 : Int32)) + (1 : Int32)))]) rfl ?_
                                    refine own_goto X0 hx (hb hby d4_250) (pc' := 222) (by decide) (by decide) ?_
                                    show own_R p e below s _ _ _ s₁ (mkF m 222 #[.val (.ref a1), .val (.int fr), .val (.int en), .val (.int ix), .val (.int ((xs.getD ix.toNatClampNeg 0) &&& (255 : Int32))), .val (.int (4 : Int32)), .val (.int (128 : Int32)), .val (.int (191 : Int32)), .val (.int ((xs.getD (ix + (1 : Int32)).toNatClampNeg 0) &&& (255 : Int32))), .val (.int ((ix + (2 : Int32)) + (1 : Int32)))] [])
                                    refine own_iload X0 hx (hb hby d4_222) rfl ?_
                                    refine own_iloadN X0 hx (hb hby d4_224) rfl ?_
                                    refine own_iload X0 hx (hb hby d4_225) rfl ?_
                                    refine own_iadd X0 hx (hb hby d4_227) ?_
                                    refine own_icmp X0 hx (hb hby d4_228) (pc' := 253) (by decide) (by decide) (fun hc => ?_) (fun hc => ?_)
                                    · have hl3 : ¬ ((ix + (2 : Int32)) + (1 : Int32)) < (ix + (4 : Int32)) := own_ge1 hc
                                      exfalso; obtain ⟨d1, d2⟩ := pl_d ix en h0' hlt h8; obtain ⟨a1, a2, a3, a4, a5, a6⟩ := pl_off ix h0' d2; rw [Int32.lt_iff_toInt_lt] at hl3; omega
                                    · have hl3 : ((ix + (2 : Int32)) + (1 : Int32)) < (ix + (4 : Int32)) := own_ge0 hc
                                      clear hc
                                      show own_R p e below s _ _ _ s₁ (mkF m 231 #[.val (.ref a1), .val (.int fr), .val (.int en), .val (.int ix), .val (.int ((xs.getD ix.toNatClampNeg 0) &&& (255 : Int32))), .val (.int (4 : Int32)), .val (.int (128 : Int32)), .val (.int (191 : Int32)), .val (.int ((xs.getD (ix + (1 : Int32)).toNatClampNeg 0) &&& (255 : Int32))), .val (.int ((ix + (2 : Int32)) + (1 : Int32)))] [])
                                      refine own_aloadN X0 hx (hb hby d4_231) rfl rfl ?_
                                      refine own_iload X0 hx (hb hby d4_232) rfl ?_
                                      rw [pl_21]
                                      show own_R p e below s _ _ _ s₁ (mkF m 234 #[.val (.ref a1), .val (.int fr), .val (.int en), .val (.int ix), .val (.int ((xs.getD ix.toNatClampNeg 0) &&& (255 : Int32))), .val (.int (4 : Int32)), .val (.int (128 : Int32)), .val (.int (191 : Int32)), .val (.int ((xs.getD (ix + (1 : Int32)).toNatClampNeg 0) &&& (255 : Int32))), .val (.int (ix + (3 : Int32)))] [(.int (ix + (3 : Int32))), (.ref a1)])
                                      refine own_baload X0 hx hZ e0 hV (v := .int (xs.getD (ix + (3 : Int32)).toNatClampNeg 0)) (pl_at3 ix en (4 : Int32) h0' hlt h8 (by decide) hc185) (pl_gd _ _) (hb hby d4_234) ?_
                                      show own_R p e below s _ _ _ s₁ (mkF m 235 #[.val (.ref a1), .val (.int fr), .val (.int en), .val (.int ix), .val (.int ((xs.getD ix.toNatClampNeg 0) &&& (255 : Int32))), .val (.int (4 : Int32)), .val (.int (128 : Int32)), .val (.int (191 : Int32)), .val (.int ((xs.getD (ix + (1 : Int32)).toNatClampNeg 0) &&& (255 : Int32))), .val (.int (ix + (3 : Int32)))] [(.int (xs.getD (ix + (3 : Int32)).toNatClampNeg 0))])
                                      refine own_sipush X0 hx (192 : Int32) (hb hby d4_235) rfl ?_
                                      refine own_iand X0 hx (hb hby d4_238) ?_
                                      refine own_sipush X0 hx (128 : Int32) (hb hby d4_239) rfl ?_
                                      refine own_icmp X0 hx (hb hby d4_242) (pc' := 247) (by decide) (by decide) (fun hc => ?_) (fun hc => ?_)
                                      · have hc242_3 : ((xs.getD (ix + (3 : Int32)).toNatClampNeg 0) &&& (192 : Int32)) = (128 : Int32) := own_eq1 hc
                                        clear hc
                                        show own_R p e below s _ _ _ s₁ (mkF m 247 #[.val (.ref a1), .val (.int fr), .val (.int en), .val (.int ix), .val (.int ((xs.getD ix.toNatClampNeg 0) &&& (255 : Int32))), .val (.int (4 : Int32)), .val (.int (128 : Int32)), .val (.int (191 : Int32)), .val (.int ((xs.getD (ix + (1 : Int32)).toNatClampNeg 0) &&& (255 : Int32))), .val (.int (ix + (3 : Int32)))] [])
                                        refine own_iinc X0 hx (1 : Int32) (hb hby d4_247) rfl rfl (l' := #[.val (.ref a1), .val (.int fr), .val (.int en), .val (.int ix), .val (.int ((xs.getD ix.toNatClampNeg 0) &&& (255 : Int32))), .val (.int (4 : Int32)), .val (.int (128 : Int32)), .val (.int (191 : Int32)), .val (.int ((xs.getD (ix + (1 : Int32)).toNatClampNeg 0) &&& (255 : Int32))), .val (.int ((ix + (3 : Int32)) + (1 : Int32)))]) rfl ?_
                                        refine own_goto X0 hx (hb hby d4_250) (pc' := 222) (by decide) (by decide) ?_
                                        show own_R p e below s _ _ _ s₁ (mkF m 222 #[.val (.ref a1), .val (.int fr), .val (.int en), .val (.int ix), .val (.int ((xs.getD ix.toNatClampNeg 0) &&& (255 : Int32))), .val (.int (4 : Int32)), .val (.int (128 : Int32)), .val (.int (191 : Int32)), .val (.int ((xs.getD (ix + (1 : Int32)).toNatClampNeg 0) &&& (255 : Int32))), .val (.int ((ix + (3 : Int32)) + (1 : Int32)))] [])
                                        refine own_iload X0 hx (hb hby d4_222) rfl ?_
                                        refine own_iloadN X0 hx (hb hby d4_224) rfl ?_
                                        refine own_iload X0 hx (hb hby d4_225) rfl ?_
                                        refine own_iadd X0 hx (hb hby d4_227) ?_
                                        refine own_icmp X0 hx (hb hby d4_228) (pc' := 253) (by decide) (by decide) (fun hc => ?_) (fun hc => ?_)
                                        · have hl4 : ¬ ((ix + (3 : Int32)) + (1 : Int32)) < (ix + (4 : Int32)) := own_ge1 hc
                                          clear hc
                                          show own_R p e below s _ _ _ s₁ (mkF m 253 #[.val (.ref a1), .val (.int fr), .val (.int en), .val (.int ix), .val (.int ((xs.getD ix.toNatClampNeg 0) &&& (255 : Int32))), .val (.int (4 : Int32)), .val (.int (128 : Int32)), .val (.int (191 : Int32)), .val (.int ((xs.getD (ix + (1 : Int32)).toNatClampNeg 0) &&& (255 : Int32))), .val (.int ((ix + (3 : Int32)) + (1 : Int32)))] [])
                                          refine own_iloadN X0 hx (hb hby d4_253) rfl ?_
                                          refine own_iload X0 hx (hb hby d4_254) rfl ?_
                                          refine own_iadd X0 hx (hb hby d4_256) ?_
                                          refine own_istoreN X0 hx (hb hby d4_257) (l' := #[.val (.ref a1), .val (.int fr), .val (.int en), .val (.int (ix + (4 : Int32))), .val (.int ((xs.getD ix.toNatClampNeg 0) &&& (255 : Int32))), .val (.int (4 : Int32)), .val (.int (128 : Int32)), .val (.int (191 : Int32)), .val (.int ((xs.getD (ix + (1 : Int32)).toNatClampNeg 0) &&& (255 : Int32))), .val (.int ((ix + (3 : Int32)) + (1 : Int32)))]) rfl ?_
                                          refine own_goto X0 hx (hb hby d4_258) (pc' := 2) (by decide) (by decide) ?_
                                          show own_R p e below s _ _ _ s₁ (mkF m 2 #[.val (.ref a1), .val (.int fr), .val (.int en), .val (.int (ix + (4 : Int32))), .val (.int ((xs.getD ix.toNatClampNeg 0) &&& (255 : Int32))), .val (.int (4 : Int32)), .val (.int (128 : Int32)), .val (.int (191 : Int32)), .val (.int ((xs.getD (ix + (1 : Int32)).toNatClampNeg 0) &&& (255 : Int32))), .val (.int ((ix + (3 : Int32)) + (1 : Int32)))] [])
                                          have hnl : pl_nl ((xs.getD ix.toNatClampNeg 0) &&& (255 : Int32)) ((xs.getD (ix + (1 : Int32)).toNatClampNeg 0) &&& (255 : Int32)) (xs.getD (ix + (2 : Int32)).toNatClampNeg 0) (xs.getD (ix + (3 : Int32)).toNatClampNeg 0) (en - ix) = (4 : Int32) := by rw [pl_nl, if_neg hc21, if_neg hc45, if_pos hc53, if_neg hc67, if_pos hc75, if_neg hc125, if_neg hc133, if_neg hc144, if_neg hc162, if_neg hc185, if_neg hc205, if_neg hc212, if_pos hc242_2, if_pos hc242_3]
                                          obtain ⟨u0, uk⟩ := pl_adv ix en (4 : Int32) k h0' hlt h8 hk' (by decide)
                                          exact ih _ _ _ _ _ _ _ (One.val rfl) (One.val rfl) (One.val rfl) (One.val rfl) (One.val rfl) (One.val rfl) u0 uk (by rw [← hr]; conv => rhs; rw [pl_nu, if_pos hlt, hnl, if_neg (by decide)])
                                        · have hl4 : ((ix + (3 : Int32)) + (1 : Int32)) < (ix + (4 : Int32)) := own_ge0 hc
                                          exfalso; obtain ⟨d1, d2⟩ := pl_d ix en h0' hlt h8; obtain ⟨a1, a2, a3, a4, a5, a6⟩ := pl_off ix h0' d2; rw [Int32.lt_iff_toInt_lt] at hl4; omega
                                      · have hc242_3 : ¬ ((xs.getD (ix + (3 : Int32)).toNatClampNeg 0) &&& (192 : Int32)) = (128 : Int32) := own_eq0 hc
                                        clear hc
                                        show own_R p e below s _ _ _ s₁ (mkF m 245 #[.val (.ref a1), .val (.int fr), .val (.int en), .val (.int ix), .val (.int ((xs.getD ix.toNatClampNeg 0) &&& (255 : Int32))), .val (.int (4 : Int32)), .val (.int (128 : Int32)), .val (.int (191 : Int32)), .val (.int ((xs.getD (ix + (1 : Int32)).toNatClampNeg 0) &&& (255 : Int32))), .val (.int (ix + (3 : Int32)))] [])
                                        refine own_iloadN X0 hx (hb hby d4_245) rfl ?_
                                        have hnl : pl_nl ((xs.getD ix.toNatClampNeg 0) &&& (255 : Int32)) ((xs.getD (ix + (1 : Int32)).toNatClampNeg 0) &&& (255 : Int32)) (xs.getD (ix + (2 : Int32)).toNatClampNeg 0) (xs.getD (ix + (3 : Int32)).toNatClampNeg 0) (en - ix) = 0 := by rw [pl_nl, if_neg hc21, if_neg hc45, if_pos hc53, if_neg hc67, if_pos hc75, if_neg hc125, if_neg hc133, if_neg hc144, if_neg hc162, if_neg hc185, if_neg hc205, if_neg hc212, if_pos hc242_2, if_neg hc242_3]
                                        refine own_retI X0 hx Bd.returns hlk (hb hby d4_246) ?_ (by decide) (by decide)
                                        refine ⟨?_, N0, e0⟩
                                        show some (Value.int _) = some (Value.int (pl_nu xs en 8 fr))
                                        rw [← hr, pl_nu, if_pos hlt, if_pos hnl]
                                  · have hc242_2 : ¬ ((xs.getD (ix + (2 : Int32)).toNatClampNeg 0) &&& (192 : Int32)) = (128 : Int32) := own_eq0 hc
                                    clear hc
                                    show own_R p e below s _ _ _ s₁ (mkF m 245 #[.val (.ref a1), .val (.int fr), .val (.int en), .val (.int ix), .val (.int ((xs.getD ix.toNatClampNeg 0) &&& (255 : Int32))), .val (.int (4 : Int32)), .val (.int (128 : Int32)), .val (.int (191 : Int32)), .val (.int ((xs.getD (ix + (1 : Int32)).toNatClampNeg 0) &&& (255 : Int32))), .val (.int (ix + (2 : Int32)))] [])
                                    refine own_iloadN X0 hx (hb hby d4_245) rfl ?_
                                    have hnl : pl_nl ((xs.getD ix.toNatClampNeg 0) &&& (255 : Int32)) ((xs.getD (ix + (1 : Int32)).toNatClampNeg 0) &&& (255 : Int32)) (xs.getD (ix + (2 : Int32)).toNatClampNeg 0) (xs.getD (ix + (3 : Int32)).toNatClampNeg 0) (en - ix) = 0 := by rw [pl_nl, if_neg hc21, if_neg hc45, if_pos hc53, if_neg hc67, if_pos hc75, if_neg hc125, if_neg hc133, if_neg hc144, if_neg hc162, if_neg hc185, if_neg hc205, if_neg hc212, if_neg hc242_2]
                                    refine own_retI X0 hx Bd.returns hlk (hb hby d4_246) ?_ (by decide) (by decide)
                                    refine ⟨?_, N0, e0⟩
                                    show some (Value.int _) = some (Value.int (pl_nu xs en 8 fr))
                                    rw [← hr, pl_nu, if_pos hlt, if_pos hnl]
                              · have hc212 : (191 : Int32) < ((xs.getD (ix + (1 : Int32)).toNatClampNeg 0) &&& (255 : Int32)) := own_le0 hc
                                clear hc
                                show own_R p e below s _ _ _ s₁ (mkF m 215 #[.val (.ref a1), .val (.int fr), .val (.int en), .val (.int ix), .val (.int ((xs.getD ix.toNatClampNeg 0) &&& (255 : Int32))), .val (.int (4 : Int32)), .val (.int (128 : Int32)), .val (.int (191 : Int32)), .val (.int ((xs.getD (ix + (1 : Int32)).toNatClampNeg 0) &&& (255 : Int32))), s9] [])
                                refine own_iloadN X0 hx (hb hby d4_215) rfl ?_
                                have hnl : pl_nl ((xs.getD ix.toNatClampNeg 0) &&& (255 : Int32)) ((xs.getD (ix + (1 : Int32)).toNatClampNeg 0) &&& (255 : Int32)) (xs.getD (ix + (2 : Int32)).toNatClampNeg 0) (xs.getD (ix + (3 : Int32)).toNatClampNeg 0) (en - ix) = 0 := by rw [pl_nl, if_neg hc21, if_neg hc45, if_pos hc53, if_neg hc67, if_pos hc75, if_neg hc125, if_neg hc133, if_neg hc144, if_neg hc162, if_neg hc185, if_neg hc205, if_pos hc212]
                                refine own_retI X0 hx Bd.returns hlk (hb hby d4_216) ?_ (by decide) (by decide)
                                refine ⟨?_, N0, e0⟩
                                show some (Value.int _) = some (Value.int (pl_nu xs en 8 fr))
                                rw [← hr, pl_nu, if_pos hlt, if_pos hnl]
                          · have hc185 : (en - ix) < (4 : Int32) := own_ge0 hc
                            clear hc
                            show own_R p e below s _ _ _ s₁ (mkF m 188 #[.val (.ref a1), .val (.int fr), .val (.int en), .val (.int ix), .val (.int ((xs.getD ix.toNatClampNeg 0) &&& (255 : Int32))), .val (.int (4 : Int32)), .val (.int (128 : Int32)), .val (.int (191 : Int32)), s8, s9] [])
                            refine own_iloadN X0 hx (hb hby d4_188) rfl ?_
                            have hnl : pl_nl ((xs.getD ix.toNatClampNeg 0) &&& (255 : Int32)) ((xs.getD (ix + (1 : Int32)).toNatClampNeg 0) &&& (255 : Int32)) (xs.getD (ix + (2 : Int32)).toNatClampNeg 0) (xs.getD (ix + (3 : Int32)).toNatClampNeg 0) (en - ix) = 0 := by rw [pl_nl, if_neg hc21, if_neg hc45, if_pos hc53, if_neg hc67, if_pos hc75, if_neg hc125, if_neg hc133, if_neg hc144, if_neg hc162, if_pos hc185]
                            refine own_retI X0 hx Bd.returns hlk (hb hby d4_189) ?_ (by decide) (by decide)
                            refine ⟨?_, N0, e0⟩
                            show some (Value.int _) = some (Value.int (pl_nu xs en 8 fr))
                            rw [← hr, pl_nu, if_pos hlt, if_pos hnl]
                        · have hc162 : ((xs.getD ix.toNatClampNeg 0) &&& (255 : Int32)) = (244 : Int32) := own_ne0 hc
                          clear hc
                          show own_R p e below s _ _ _ s₁ (mkF m 165 #[.val (.ref a1), .val (.int fr), .val (.int en), .val (.int ix), .val (.int ((xs.getD ix.toNatClampNeg 0) &&& (255 : Int32))), .val (.int (4 : Int32)), .val (.int (128 : Int32)), .val (.int (191 : Int32)), s8, s9] [])
                          refine own_sipush X0 hx (143 : Int32) (hb hby d4_165) rfl ?_
                          refine own_goto X0 hx (hb hby d4_168) (pc' := 173) (by decide) (by decide) ?_
                          show own_R p e below s _ _ _ s₁ (mkF m 173 #[.val (.ref a1), .val (.int fr), .val (.int en), .val (.int ix), .val (.int ((xs.getD ix.toNatClampNeg 0) &&& (255 : Int32))), .val (.int (4 : Int32)), .val (.int (128 : Int32)), .val (.int (191 : Int32)), s8, s9] [(.int (143 : Int32))])
                          refine own_istore X0 hx (hb hby d4_173) (l' := #[.val (.ref a1), .val (.int fr), .val (.int en), .val (.int ix), .val (.int ((xs.getD ix.toNatClampNeg 0) &&& (255 : Int32))), .val (.int (4 : Int32)), .val (.int (128 : Int32)), .val (.int (143 : Int32)), s8, s9]) rfl ?_
                          refine own_goto X0 hx (hb hby d4_175) (pc' := 180) (by decide) (by decide) ?_
                          show own_R p e below s _ _ _ s₁ (mkF m 180 #[.val (.ref a1), .val (.int fr), .val (.int en), .val (.int ix), .val (.int ((xs.getD ix.toNatClampNeg 0) &&& (255 : Int32))), .val (.int (4 : Int32)), .val (.int (128 : Int32)), .val (.int (143 : Int32)), s8, s9] [])
                          refine own_iloadN X0 hx (hb hby d4_180) rfl ?_
                          refine own_iloadN X0 hx (hb hby d4_181) rfl ?_
                          refine own_isub X0 hx (hb hby d4_182) ?_
                          refine own_iload X0 hx (hb hby d4_183) rfl ?_
                          refine own_icmp X0 hx (hb hby d4_185) (pc' := 190) (by decide) (by decide) (fun hc => ?_) (fun hc => ?_)
                          · have hc185 : ¬ (en - ix) < (4 : Int32) := own_ge1 hc
                            clear hc
                            show own_R p e below s _ _ _ s₁ (mkF m 190 #[.val (.ref a1), .val (.int fr), .val (.int en), .val (.int ix), .val (.int ((xs.getD ix.toNatClampNeg 0) &&& (255 : Int32))), .val (.int (4 : Int32)), .val (.int (128 : Int32)), .val (.int (143 : Int32)), s8, s9] [])
                            refine own_aloadN X0 hx (hb hby d4_190) rfl rfl ?_
                            refine own_iloadN X0 hx (hb hby d4_191) rfl ?_
                            refine own_iconst X0 hx (1 : Int32) (hb hby d4_192) rfl ?_
                            refine own_iadd X0 hx (hb hby d4_193) ?_
                            refine own_baload X0 hx hZ e0 hV (v := .int (xs.getD (ix + (1 : Int32)).toNatClampNeg 0)) (pl_at1 ix en (4 : Int32) h0' hlt h8 (by decide) hc185) (pl_gd _ _) (hb hby d4_194) ?_
                            show own_R p e below s _ _ _ s₁ (mkF m 195 #[.val (.ref a1), .val (.int fr), .val (.int en), .val (.int ix), .val (.int ((xs.getD ix.toNatClampNeg 0) &&& (255 : Int32))), .val (.int (4 : Int32)), .val (.int (128 : Int32)), .val (.int (143 : Int32)), s8, s9] [(.int (xs.getD (ix + (1 : Int32)).toNatClampNeg 0))])
                            refine own_sipush X0 hx (255 : Int32) (hb hby d4_195) rfl ?_
                            refine own_iand X0 hx (hb hby d4_198) ?_
                            refine own_istore X0 hx (hb hby d4_199) (l' := #[.val (.ref a1), .val (.int fr), .val (.int en), .val (.int ix), .val (.int ((xs.getD ix.toNatClampNeg 0) &&& (255 : Int32))), .val (.int (4 : Int32)), .val (.int (128 : Int32)), .val (.int (143 : Int32)), .val (.int ((xs.getD (ix + (1 : Int32)).toNatClampNeg 0) &&& (255 : Int32))), s9]) (by rcases hs8 with rfl | ⟨w, rfl, hw'⟩ <;> first | rfl | (cases w <;> first | rfl | (simp [Value.category] at hw'))) ?_
                            refine own_iload X0 hx (hb hby d4_201) rfl ?_
                            refine own_iload X0 hx (hb hby d4_203) rfl ?_
                            refine own_icmp X0 hx (hb hby d4_205) (pc' := 215) (by decide) (by decide) (fun hc => ?_) (fun hc => ?_)
                            · have hc205 : ((xs.getD (ix + (1 : Int32)).toNatClampNeg 0) &&& (255 : Int32)) < (128 : Int32) := own_lt1 hc
                              clear hc
                              show own_R p e below s _ _ _ s₁ (mkF m 215 #[.val (.ref a1), .val (.int fr), .val (.int en), .val (.int ix), .val (.int ((xs.getD ix.toNatClampNeg 0) &&& (255 : Int32))), .val (.int (4 : Int32)), .val (.int (128 : Int32)), .val (.int (143 : Int32)), .val (.int ((xs.getD (ix + (1 : Int32)).toNatClampNeg 0) &&& (255 : Int32))), s9] [])
                              refine own_iloadN X0 hx (hb hby d4_215) rfl ?_
                              have hnl : pl_nl ((xs.getD ix.toNatClampNeg 0) &&& (255 : Int32)) ((xs.getD (ix + (1 : Int32)).toNatClampNeg 0) &&& (255 : Int32)) (xs.getD (ix + (2 : Int32)).toNatClampNeg 0) (xs.getD (ix + (3 : Int32)).toNatClampNeg 0) (en - ix) = 0 := by rw [pl_nl, if_neg hc21, if_neg hc45, if_pos hc53, if_neg hc67, if_pos hc75, if_neg hc125, if_neg hc133, if_neg hc144, if_pos hc162, if_neg hc185, if_pos hc205]
                              refine own_retI X0 hx Bd.returns hlk (hb hby d4_216) ?_ (by decide) (by decide)
                              refine ⟨?_, N0, e0⟩
                              show some (Value.int _) = some (Value.int (pl_nu xs en 8 fr))
                              rw [← hr, pl_nu, if_pos hlt, if_pos hnl]
                            · have hc205 : ¬ ((xs.getD (ix + (1 : Int32)).toNatClampNeg 0) &&& (255 : Int32)) < (128 : Int32) := own_lt0 hc
                              clear hc
                              show own_R p e below s _ _ _ s₁ (mkF m 208 #[.val (.ref a1), .val (.int fr), .val (.int en), .val (.int ix), .val (.int ((xs.getD ix.toNatClampNeg 0) &&& (255 : Int32))), .val (.int (4 : Int32)), .val (.int (128 : Int32)), .val (.int (143 : Int32)), .val (.int ((xs.getD (ix + (1 : Int32)).toNatClampNeg 0) &&& (255 : Int32))), s9] [])
                              refine own_iload X0 hx (hb hby d4_208) rfl ?_
                              refine own_iload X0 hx (hb hby d4_210) rfl ?_
                              refine own_icmp X0 hx (hb hby d4_212) (pc' := 217) (by decide) (by decide) (fun hc => ?_) (fun hc => ?_)
                              · have hc212 : ¬ (143 : Int32) < ((xs.getD (ix + (1 : Int32)).toNatClampNeg 0) &&& (255 : Int32)) := own_le1 hc
                                clear hc
                                show own_R p e below s _ _ _ s₁ (mkF m 217 #[.val (.ref a1), .val (.int fr), .val (.int en), .val (.int ix), .val (.int ((xs.getD ix.toNatClampNeg 0) &&& (255 : Int32))), .val (.int (4 : Int32)), .val (.int (128 : Int32)), .val (.int (143 : Int32)), .val (.int ((xs.getD (ix + (1 : Int32)).toNatClampNeg 0) &&& (255 : Int32))), s9] [])
                                refine own_iloadN X0 hx (hb hby d4_217) rfl ?_
                                refine own_iconst X0 hx (2 : Int32) (hb hby d4_218) rfl ?_
                                refine own_iadd X0 hx (hb hby d4_219) ?_
                                refine own_istore X0 hx (hb hby d4_220) (l' := #[.val (.ref a1), .val (.int fr), .val (.int en), .val (.int ix), .val (.int ((xs.getD ix.toNatClampNeg 0) &&& (255 : Int32))), .val (.int (4 : Int32)), .val (.int (128 : Int32)), .val (.int (143 : Int32)), .val (.int ((xs.getD (ix + (1 : Int32)).toNatClampNeg 0) &&& (255 : Int32))), .val (.int (ix + (2 : Int32)))]) (by rcases hs9 with rfl | ⟨w, rfl, hw'⟩ <;> first | rfl | (cases w <;> first | rfl | (simp [Value.category] at hw'))) ?_
                                refine own_iload X0 hx (hb hby d4_222) rfl ?_
                                refine own_iloadN X0 hx (hb hby d4_224) rfl ?_
                                refine own_iload X0 hx (hb hby d4_225) rfl ?_
                                refine own_iadd X0 hx (hb hby d4_227) ?_
                                refine own_icmp X0 hx (hb hby d4_228) (pc' := 253) (by decide) (by decide) (fun hc => ?_) (fun hc => ?_)
                                · have hl2 : ¬ (ix + (2 : Int32)) < (ix + (4 : Int32)) := own_ge1 hc
                                  exfalso; obtain ⟨d1, d2⟩ := pl_d ix en h0' hlt h8; obtain ⟨a1, a2, a3, a4, a5, a6⟩ := pl_off ix h0' d2; rw [Int32.lt_iff_toInt_lt] at hl2; omega
                                · have hl2 : (ix + (2 : Int32)) < (ix + (4 : Int32)) := own_ge0 hc
                                  clear hc
                                  show own_R p e below s _ _ _ s₁ (mkF m 231 #[.val (.ref a1), .val (.int fr), .val (.int en), .val (.int ix), .val (.int ((xs.getD ix.toNatClampNeg 0) &&& (255 : Int32))), .val (.int (4 : Int32)), .val (.int (128 : Int32)), .val (.int (143 : Int32)), .val (.int ((xs.getD (ix + (1 : Int32)).toNatClampNeg 0) &&& (255 : Int32))), .val (.int (ix + (2 : Int32)))] [])
                                  refine own_aloadN X0 hx (hb hby d4_231) rfl rfl ?_
                                  refine own_iload X0 hx (hb hby d4_232) rfl ?_
                                  refine own_baload X0 hx hZ e0 hV (v := .int (xs.getD (ix + (2 : Int32)).toNatClampNeg 0)) (pl_at2 ix en (4 : Int32) h0' hlt h8 (by decide) hc185) (pl_gd _ _) (hb hby d4_234) ?_
                                  show own_R p e below s _ _ _ s₁ (mkF m 235 #[.val (.ref a1), .val (.int fr), .val (.int en), .val (.int ix), .val (.int ((xs.getD ix.toNatClampNeg 0) &&& (255 : Int32))), .val (.int (4 : Int32)), .val (.int (128 : Int32)), .val (.int (143 : Int32)), .val (.int ((xs.getD (ix + (1 : Int32)).toNatClampNeg 0) &&& (255 : Int32))), .val (.int (ix + (2 : Int32)))] [(.int (xs.getD (ix + (2 : Int32)).toNatClampNeg 0))])
                                  refine own_sipush X0 hx (192 : Int32) (hb hby d4_235) rfl ?_
                                  refine own_iand X0 hx (hb hby d4_238) ?_
                                  refine own_sipush X0 hx (128 : Int32) (hb hby d4_239) rfl ?_
                                  refine own_icmp X0 hx (hb hby d4_242) (pc' := 247) (by decide) (by decide) (fun hc => ?_) (fun hc => ?_)
                                  · have hc242_2 : ((xs.getD (ix + (2 : Int32)).toNatClampNeg 0) &&& (192 : Int32)) = (128 : Int32) := own_eq1 hc
                                    clear hc
                                    show own_R p e below s _ _ _ s₁ (mkF m 247 #[.val (.ref a1), .val (.int fr), .val (.int en), .val (.int ix), .val (.int ((xs.getD ix.toNatClampNeg 0) &&& (255 : Int32))), .val (.int (4 : Int32)), .val (.int (128 : Int32)), .val (.int (143 : Int32)), .val (.int ((xs.getD (ix + (1 : Int32)).toNatClampNeg 0) &&& (255 : Int32))), .val (.int (ix + (2 : Int32)))] [])
                                    refine own_iinc X0 hx (1 : Int32) (hb hby d4_247) rfl rfl (l' := #[.val (.ref a1), .val (.int fr), .val (.int en), .val (.int ix), .val (.int ((xs.getD ix.toNatClampNeg 0) &&& (255 : Int32))), .val (.int (4 : Int32)), .val (.int (128 : Int32)), .val (.int (143 : Int32)), .val (.int ((xs.getD (ix + (1 : Int32)).toNatClampNeg 0) &&& (255 : Int32))), .val (.int ((ix + (2 : Int32)) + (1 : Int32)))]) rfl ?_
                                    refine own_goto X0 hx (hb hby d4_250) (pc' := 222) (by decide) (by decide) ?_
                                    show own_R p e below s _ _ _ s₁ (mkF m 222 #[.val (.ref a1), .val (.int fr), .val (.int en), .val (.int ix), .val (.int ((xs.getD ix.toNatClampNeg 0) &&& (255 : Int32))), .val (.int (4 : Int32)), .val (.int (128 : Int32)), .val (.int (143 : Int32)), .val (.int ((xs.getD (ix + (1 : Int32)).toNatClampNeg 0) &&& (255 : Int32))), .val (.int ((ix + (2 : Int32)) + (1 : Int32)))] [])
                                    refine own_iload X0 hx (hb hby d4_222) rfl ?_
                                    refine own_iloadN X0 hx (hb hby d4_224) rfl ?_
                                    refine own_iload X0 hx (hb hby d4_225) rfl ?_
                                    refine own_iadd X0 hx (hb hby d4_227) ?_
                                    refine own_icmp X0 hx (hb hby d4_228) (pc' := 253) (by decide) (by decide) (fun hc => ?_) (fun hc => ?_)
                                    · have hl3 : ¬ ((ix + (2 : Int32)) + (1 : Int32)) < (ix + (4 : Int32)) := own_ge1 hc
                                      exfalso; obtain ⟨d1, d2⟩ := pl_d ix en h0' hlt h8; obtain ⟨a1, a2, a3, a4, a5, a6⟩ := pl_off ix h0' d2; rw [Int32.lt_iff_toInt_lt] at hl3; omega
                                    · have hl3 : ((ix + (2 : Int32)) + (1 : Int32)) < (ix + (4 : Int32)) := own_ge0 hc
                                      clear hc
                                      show own_R p e below s _ _ _ s₁ (mkF m 231 #[.val (.ref a1), .val (.int fr), .val (.int en), .val (.int ix), .val (.int ((xs.getD ix.toNatClampNeg 0) &&& (255 : Int32))), .val (.int (4 : Int32)), .val (.int (128 : Int32)), .val (.int (143 : Int32)), .val (.int ((xs.getD (ix + (1 : Int32)).toNatClampNeg 0) &&& (255 : Int32))), .val (.int ((ix + (2 : Int32)) + (1 : Int32)))] [])
                                      refine own_aloadN X0 hx (hb hby d4_231) rfl rfl ?_
                                      refine own_iload X0 hx (hb hby d4_232) rfl ?_
                                      rw [pl_21]
                                      show own_R p e below s _ _ _ s₁ (mkF m 234 #[.val (.ref a1), .val (.int fr), .val (.int en), .val (.int ix), .val (.int ((xs.getD ix.toNatClampNeg 0) &&& (255 : Int32))), .val (.int (4 : Int32)), .val (.int (128 : Int32)), .val (.int (143 : Int32)), .val (.int ((xs.getD (ix + (1 : Int32)).toNatClampNeg 0) &&& (255 : Int32))), .val (.int (ix + (3 : Int32)))] [(.int (ix + (3 : Int32))), (.ref a1)])
                                      refine own_baload X0 hx hZ e0 hV (v := .int (xs.getD (ix + (3 : Int32)).toNatClampNeg 0)) (pl_at3 ix en (4 : Int32) h0' hlt h8 (by decide) hc185) (pl_gd _ _) (hb hby d4_234) ?_
                                      show own_R p e below s _ _ _ s₁ (mkF m 235 #[.val (.ref a1), .val (.int fr), .val (.int en), .val (.int ix), .val (.int ((xs.getD ix.toNatClampNeg 0) &&& (255 : Int32))), .val (.int (4 : Int32)), .val (.int (128 : Int32)), .val (.int (143 : Int32)), .val (.int ((xs.getD (ix + (1 : Int32)).toNatClampNeg 0) &&& (255 : Int32))), .val (.int (ix + (3 : Int32)))] [(.int (xs.getD (ix + (3 : Int32)).toNatClampNeg 0))])
                                      refine own_sipush X0 hx (192 : Int32) (hb hby d4_235) rfl ?_
                                      refine own_iand X0 hx (hb hby d4_238) ?_
                                      refine own_sipush X0 hx (128 : Int32) (hb hby d4_239) rfl ?_
                                      refine own_icmp X0 hx (hb hby d4_242) (pc' := 247) (by decide) (by decide) (fun hc => ?_) (fun hc => ?_)
                                      · have hc242_3 : ((xs.getD (ix + (3 : Int32)).toNatClampNeg 0) &&& (192 : Int32)) = (128 : Int32) := own_eq1 hc
                                        clear hc
                                        show own_R p e below s _ _ _ s₁ (mkF m 247 #[.val (.ref a1), .val (.int fr), .val (.int en), .val (.int ix), .val (.int ((xs.getD ix.toNatClampNeg 0) &&& (255 : Int32))), .val (.int (4 : Int32)), .val (.int (128 : Int32)), .val (.int (143 : Int32)), .val (.int ((xs.getD (ix + (1 : Int32)).toNatClampNeg 0) &&& (255 : Int32))), .val (.int (ix + (3 : Int32)))] [])
                                        refine own_iinc X0 hx (1 : Int32) (hb hby d4_247) rfl rfl (l' := #[.val (.ref a1), .val (.int fr), .val (.int en), .val (.int ix), .val (.int ((xs.getD ix.toNatClampNeg 0) &&& (255 : Int32))), .val (.int (4 : Int32)), .val (.int (128 : Int32)), .val (.int (143 : Int32)), .val (.int ((xs.getD (ix + (1 : Int32)).toNatClampNeg 0) &&& (255 : Int32))), .val (.int ((ix + (3 : Int32)) + (1 : Int32)))]) rfl ?_
                                        refine own_goto X0 hx (hb hby d4_250) (pc' := 222) (by decide) (by decide) ?_
                                        show own_R p e below s _ _ _ s₁ (mkF m 222 #[.val (.ref a1), .val (.int fr), .val (.int en), .val (.int ix), .val (.int ((xs.getD ix.toNatClampNeg 0) &&& (255 : Int32))), .val (.int (4 : Int32)), .val (.int (128 : Int32)), .val (.int (143 : Int32)), .val (.int ((xs.getD (ix + (1 : Int32)).toNatClampNeg 0) &&& (255 : Int32))), .val (.int ((ix + (3 : Int32)) + (1 : Int32)))] [])
                                        refine own_iload X0 hx (hb hby d4_222) rfl ?_
                                        refine own_iloadN X0 hx (hb hby d4_224) rfl ?_
                                        refine own_iload X0 hx (hb hby d4_225) rfl ?_
                                        refine own_iadd X0 hx (hb hby d4_227) ?_
                                        refine own_icmp X0 hx (hb hby d4_228) (pc' := 253) (by decide) (by decide) (fun hc => ?_) (fun hc => ?_)
                                        · have hl4 : ¬ ((ix + (3 : Int32)) + (1 : Int32)) < (ix + (4 : Int32)) := own_ge1 hc
                                          clear hc
                                          show own_R p e below s _ _ _ s₁ (mkF m 253 #[.val (.ref a1), .val (.int fr), .val (.int en), .val (.int ix), .val (.int ((xs.getD ix.toNatClampNeg 0) &&& (255 : Int32))), .val (.int (4 : Int32)), .val (.int (128 : Int32)), .val (.int (143 : Int32)), .val (.int ((xs.getD (ix + (1 : Int32)).toNatClampNeg 0) &&& (255 : Int32))), .val (.int ((ix + (3 : Int32)) + (1 : Int32)))] [])
                                          refine own_iloadN X0 hx (hb hby d4_253) rfl ?_
                                          refine own_iload X0 hx (hb hby d4_254) rfl ?_
                                          refine own_iadd X0 hx (hb hby d4_256) ?_
                                          refine own_istoreN X0 hx (hb hby d4_257) (l' := #[.val (.ref a1), .val (.int fr), .val (.int en), .val (.int (ix + (4 : Int32))), .val (.int ((xs.getD ix.toNatClampNeg 0) &&& (255 : Int32))), .val (.int (4 : Int32)), .val (.int (128 : Int32)), .val (.int (143 : Int32)), .val (.int ((xs.getD (ix + (1 : Int32)).toNatClampNeg 0) &&& (255 : Int32))), .val (.int ((ix + (3 : Int32)) + (1 : Int32)))]) rfl ?_
                                          refine own_goto X0 hx (hb hby d4_258) (pc' := 2) (by decide) (by decide) ?_
                                          show own_R p e below s _ _ _ s₁ (mkF m 2 #[.val (.ref a1), .val (.int fr), .val (.int en), .val (.int (ix + (4 : Int32))), .val (.int ((xs.getD ix.toNatClampNeg 0) &&& (255 : Int32))), .val (.int (4 : Int32)), .val (.int (128 : Int32)), .val (.int (143 : Int32)), .val (.int ((xs.getD (ix + (1 : Int32)).toNatClampNeg 0) &&& (255 : Int32))), .val (.int ((ix + (3 : Int32)) + (1 : Int32)))] [])
                                          have hnl : pl_nl ((xs.getD ix.toNatClampNeg 0) &&& (255 : Int32)) ((xs.getD (ix + (1 : Int32)).toNatClampNeg 0) &&& (255 : Int32)) (xs.getD (ix + (2 : Int32)).toNatClampNeg 0) (xs.getD (ix + (3 : Int32)).toNatClampNeg 0) (en - ix) = (4 : Int32) := by rw [pl_nl, if_neg hc21, if_neg hc45, if_pos hc53, if_neg hc67, if_pos hc75, if_neg hc125, if_neg hc133, if_neg hc144, if_pos hc162, if_neg hc185, if_neg hc205, if_neg hc212, if_pos hc242_2, if_pos hc242_3]
                                          obtain ⟨u0, uk⟩ := pl_adv ix en (4 : Int32) k h0' hlt h8 hk' (by decide)
                                          exact ih _ _ _ _ _ _ _ (One.val rfl) (One.val rfl) (One.val rfl) (One.val rfl) (One.val rfl) (One.val rfl) u0 uk (by rw [← hr]; conv => rhs; rw [pl_nu, if_pos hlt, hnl, if_neg (by decide)])
                                        · have hl4 : ((ix + (3 : Int32)) + (1 : Int32)) < (ix + (4 : Int32)) := own_ge0 hc
                                          exfalso; obtain ⟨d1, d2⟩ := pl_d ix en h0' hlt h8; obtain ⟨a1, a2, a3, a4, a5, a6⟩ := pl_off ix h0' d2; rw [Int32.lt_iff_toInt_lt] at hl4; omega
                                      · have hc242_3 : ¬ ((xs.getD (ix + (3 : Int32)).toNatClampNeg 0) &&& (192 : Int32)) = (128 : Int32) := own_eq0 hc
                                        clear hc
                                        show own_R p e below s _ _ _ s₁ (mkF m 245 #[.val (.ref a1), .val (.int fr), .val (.int en), .val (.int ix), .val (.int ((xs.getD ix.toNatClampNeg 0) &&& (255 : Int32))), .val (.int (4 : Int32)), .val (.int (128 : Int32)), .val (.int (143 : Int32)), .val (.int ((xs.getD (ix + (1 : Int32)).toNatClampNeg 0) &&& (255 : Int32))), .val (.int (ix + (3 : Int32)))] [])
                                        refine own_iloadN X0 hx (hb hby d4_245) rfl ?_
                                        have hnl : pl_nl ((xs.getD ix.toNatClampNeg 0) &&& (255 : Int32)) ((xs.getD (ix + (1 : Int32)).toNatClampNeg 0) &&& (255 : Int32)) (xs.getD (ix + (2 : Int32)).toNatClampNeg 0) (xs.getD (ix + (3 : Int32)).toNatClampNeg 0) (en - ix) = 0 := by rw [pl_nl, if_neg hc21, if_neg hc45, if_pos hc53, if_neg hc67, if_pos hc75, if_neg hc125, if_neg hc133, if_neg hc144, if_pos hc162, if_neg hc185, if_neg hc205, if_neg hc212, if_pos hc242_2, if_neg hc242_3]
                                        refine own_retI X0 hx Bd.returns hlk (hb hby d4_246) ?_ (by decide) (by decide)
                                        refine ⟨?_, N0, e0⟩
                                        show some (Value.int _) = some (Value.int (pl_nu xs en 8 fr))
                                        rw [← hr, pl_nu, if_pos hlt, if_pos hnl]
                                  · have hc242_2 : ¬ ((xs.getD (ix + (2 : Int32)).toNatClampNeg 0) &&& (192 : Int32)) = (128 : Int32) := own_eq0 hc
                                    clear hc
                                    show own_R p e below s _ _ _ s₁ (mkF m 245 #[.val (.ref a1), .val (.int fr), .val (.int en), .val (.int ix), .val (.int ((xs.getD ix.toNatClampNeg 0) &&& (255 : Int32))), .val (.int (4 : Int32)), .val (.int (128 : Int32)), .val (.int (143 : Int32)), .val (.int ((xs.getD (ix + (1 : Int32)).toNatClampNeg 0) &&& (255 : Int32))), .val (.int (ix + (2 : Int32)))] [])
                                    refine own_iloadN X0 hx (hb hby d4_245) rfl ?_
                                    have hnl : pl_nl ((xs.getD ix.toNatClampNeg 0) &&& (255 : Int32)) ((xs.getD (ix + (1 : Int32)).toNatClampNeg 0) &&& (255 : Int32)) (xs.getD (ix + (2 : Int32)).toNatClampNeg 0) (xs.getD (ix + (3 : Int32)).toNatClampNeg 0) (en - ix) = 0 := by rw [pl_nl, if_neg hc21, if_neg hc45, if_pos hc53, if_neg hc67, if_pos hc75, if_neg hc125, if_neg hc133, if_neg hc144, if_pos hc162, if_neg hc185, if_neg hc205, if_neg hc212, if_neg hc242_2]
                                    refine own_retI X0 hx Bd.returns hlk (hb hby d4_246) ?_ (by decide) (by decide)
                                    refine ⟨?_, N0, e0⟩
                                    show some (Value.int _) = some (Value.int (pl_nu xs en 8 fr))
                                    rw [← hr, pl_nu, if_pos hlt, if_pos hnl]
                              · have hc212 : (143 : Int32) < ((xs.getD (ix + (1 : Int32)).toNatClampNeg 0) &&& (255 : Int32)) := own_le0 hc
                                clear hc
                                show own_R p e below s _ _ _ s₁ (mkF m 215 #[.val (.ref a1), .val (.int fr), .val (.int en), .val (.int ix), .val (.int ((xs.getD ix.toNatClampNeg 0) &&& (255 : Int32))), .val (.int (4 : Int32)), .val (.int (128 : Int32)), .val (.int (143 : Int32)), .val (.int ((xs.getD (ix + (1 : Int32)).toNatClampNeg 0) &&& (255 : Int32))), s9] [])
                                refine own_iloadN X0 hx (hb hby d4_215) rfl ?_
                                have hnl : pl_nl ((xs.getD ix.toNatClampNeg 0) &&& (255 : Int32)) ((xs.getD (ix + (1 : Int32)).toNatClampNeg 0) &&& (255 : Int32)) (xs.getD (ix + (2 : Int32)).toNatClampNeg 0) (xs.getD (ix + (3 : Int32)).toNatClampNeg 0) (en - ix) = 0 := by rw [pl_nl, if_neg hc21, if_neg hc45, if_pos hc53, if_neg hc67, if_pos hc75, if_neg hc125, if_neg hc133, if_neg hc144, if_pos hc162, if_neg hc185, if_neg hc205, if_pos hc212]
                                refine own_retI X0 hx Bd.returns hlk (hb hby d4_216) ?_ (by decide) (by decide)
                                refine ⟨?_, N0, e0⟩
                                show some (Value.int _) = some (Value.int (pl_nu xs en 8 fr))
                                rw [← hr, pl_nu, if_pos hlt, if_pos hnl]
                          · have hc185 : (en - ix) < (4 : Int32) := own_ge0 hc
                            clear hc
                            show own_R p e below s _ _ _ s₁ (mkF m 188 #[.val (.ref a1), .val (.int fr), .val (.int en), .val (.int ix), .val (.int ((xs.getD ix.toNatClampNeg 0) &&& (255 : Int32))), .val (.int (4 : Int32)), .val (.int (128 : Int32)), .val (.int (143 : Int32)), s8, s9] [])
                            refine own_iloadN X0 hx (hb hby d4_188) rfl ?_
                            have hnl : pl_nl ((xs.getD ix.toNatClampNeg 0) &&& (255 : Int32)) ((xs.getD (ix + (1 : Int32)).toNatClampNeg 0) &&& (255 : Int32)) (xs.getD (ix + (2 : Int32)).toNatClampNeg 0) (xs.getD (ix + (3 : Int32)).toNatClampNeg 0) (en - ix) = 0 := by rw [pl_nl, if_neg hc21, if_neg hc45, if_pos hc53, if_neg hc67, if_pos hc75, if_neg hc125, if_neg hc133, if_neg hc144, if_pos hc162, if_pos hc185]
                            refine own_retI X0 hx Bd.returns hlk (hb hby d4_189) ?_ (by decide) (by decide)
                            refine ⟨?_, N0, e0⟩
                            show some (Value.int _) = some (Value.int (pl_nu xs en 8 fr))
                            rw [← hr, pl_nu, if_pos hlt, if_pos hnl]
                      · have hc144 : ((xs.getD ix.toNatClampNeg 0) &&& (255 : Int32)) = (240 : Int32) := own_ne0 hc
                        clear hc
                        show own_R p e below s _ _ _ s₁ (mkF m 147 #[.val (.ref a1), .val (.int fr), .val (.int en), .val (.int ix), .val (.int ((xs.getD ix.toNatClampNeg 0) &&& (255 : Int32))), .val (.int (4 : Int32)), .val (.int (128 : Int32)), .val (.int (191 : Int32)), s8, s9] [])
                        refine own_sipush X0 hx (144 : Int32) (hb hby d4_147) rfl ?_
                        refine own_goto X0 hx (hb hby d4_150) (pc' := 155) (by decide) (by decide) ?_
                        show own_R p e below s _ _ _ s₁ (mkF m 155 #[.val (.ref a1), .val (.int fr), .val (.int en), .val (.int ix), .val (.int ((xs.getD ix.toNatClampNeg 0) &&& (255 : Int32))), .val (.int (4 : Int32)), .val (.int (128 : Int32)), .val (.int (191 : Int32)), s8, s9] [(.int (144 : Int32))])
                        refine own_istore X0 hx (hb hby d4_155) (l' := #[.val (.ref a1), .val (.int fr), .val (.int en), .val (.int ix), .val (.int ((xs.getD ix.toNatClampNeg 0) &&& (255 : Int32))), .val (.int (4 : Int32)), .val (.int (144 : Int32)), .val (.int (191 : Int32)), s8, s9]) rfl ?_
                        refine own_iload X0 hx (hb hby d4_157) rfl ?_
                        refine own_sipush X0 hx (244 : Int32) (hb hby d4_159) rfl ?_
                        refine own_icmp X0 hx (hb hby d4_162) (pc' := 171) (by decide) (by decide) (fun hc => ?_) (fun hc => ?_)
                        · have hc162 : ¬ ((xs.getD ix.toNatClampNeg 0) &&& (255 : Int32)) = (244 : Int32) := own_ne1 hc
                          clear hc
                          show own_R p e below s _ _ _ s₁ (mkF m 171 #[.val (.ref a1), .val (.int fr), .val (.int en), .val (.int ix), .val (.int ((xs.getD ix.toNatClampNeg 0) &&& (255 : Int32))), .val (.int (4 : Int32)), .val (.int (144 : Int32)), .val (.int (191 : Int32)), s8, s9] [])
                          refine own_iload X0 hx (hb hby d4_171) rfl ?_
                          refine own_istore X0 hx (hb hby d4_173) (l' := #[.val (.ref a1), .val (.int fr), .val (.int en), .val (.int ix), .val (.int ((xs.getD ix.toNatClampNeg 0) &&& (255 : Int32))), .val (.int (4 : Int32)), .val (.int (144 : Int32)), .val (.int (191 : Int32)), s8, s9]) rfl ?_
                          refine own_goto X0 hx (hb hby d4_175) (pc' := 180) (by decide) (by decide) ?_
                          show own_R p e below s _ _ _ s₁ (mkF m 180 #[.val (.ref a1), .val (.int fr), .val (.int en), .val (.int ix), .val (.int ((xs.getD ix.toNatClampNeg 0) &&& (255 : Int32))), .val (.int (4 : Int32)), .val (.int (144 : Int32)), .val (.int (191 : Int32)), s8, s9] [])
                          refine own_iloadN X0 hx (hb hby d4_180) rfl ?_
                          refine own_iloadN X0 hx (hb hby d4_181) rfl ?_
                          refine own_isub X0 hx (hb hby d4_182) ?_
                          refine own_iload X0 hx (hb hby d4_183) rfl ?_
                          refine own_icmp X0 hx (hb hby d4_185) (pc' := 190) (by decide) (by decide) (fun hc => ?_) (fun hc => ?_)
                          · have hc185 : ¬ (en - ix) < (4 : Int32) := own_ge1 hc
                            clear hc
                            show own_R p e below s _ _ _ s₁ (mkF m 190 #[.val (.ref a1), .val (.int fr), .val (.int en), .val (.int ix), .val (.int ((xs.getD ix.toNatClampNeg 0) &&& (255 : Int32))), .val (.int (4 : Int32)), .val (.int (144 : Int32)), .val (.int (191 : Int32)), s8, s9] [])
                            refine own_aloadN X0 hx (hb hby d4_190) rfl rfl ?_
                            refine own_iloadN X0 hx (hb hby d4_191) rfl ?_
                            refine own_iconst X0 hx (1 : Int32) (hb hby d4_192) rfl ?_
                            refine own_iadd X0 hx (hb hby d4_193) ?_
                            refine own_baload X0 hx hZ e0 hV (v := .int (xs.getD (ix + (1 : Int32)).toNatClampNeg 0)) (pl_at1 ix en (4 : Int32) h0' hlt h8 (by decide) hc185) (pl_gd _ _) (hb hby d4_194) ?_
                            show own_R p e below s _ _ _ s₁ (mkF m 195 #[.val (.ref a1), .val (.int fr), .val (.int en), .val (.int ix), .val (.int ((xs.getD ix.toNatClampNeg 0) &&& (255 : Int32))), .val (.int (4 : Int32)), .val (.int (144 : Int32)), .val (.int (191 : Int32)), s8, s9] [(.int (xs.getD (ix + (1 : Int32)).toNatClampNeg 0))])
                            refine own_sipush X0 hx (255 : Int32) (hb hby d4_195) rfl ?_
                            refine own_iand X0 hx (hb hby d4_198) ?_
                            refine own_istore X0 hx (hb hby d4_199) (l' := #[.val (.ref a1), .val (.int fr), .val (.int en), .val (.int ix), .val (.int ((xs.getD ix.toNatClampNeg 0) &&& (255 : Int32))), .val (.int (4 : Int32)), .val (.int (144 : Int32)), .val (.int (191 : Int32)), .val (.int ((xs.getD (ix + (1 : Int32)).toNatClampNeg 0) &&& (255 : Int32))), s9]) (by rcases hs8 with rfl | ⟨w, rfl, hw'⟩ <;> first | rfl | (cases w <;> first | rfl | (simp [Value.category] at hw'))) ?_
                            refine own_iload X0 hx (hb hby d4_201) rfl ?_
                            refine own_iload X0 hx (hb hby d4_203) rfl ?_
                            refine own_icmp X0 hx (hb hby d4_205) (pc' := 215) (by decide) (by decide) (fun hc => ?_) (fun hc => ?_)
                            · have hc205 : ((xs.getD (ix + (1 : Int32)).toNatClampNeg 0) &&& (255 : Int32)) < (144 : Int32) := own_lt1 hc
                              clear hc
                              show own_R p e below s _ _ _ s₁ (mkF m 215 #[.val (.ref a1), .val (.int fr), .val (.int en), .val (.int ix), .val (.int ((xs.getD ix.toNatClampNeg 0) &&& (255 : Int32))), .val (.int (4 : Int32)), .val (.int (144 : Int32)), .val (.int (191 : Int32)), .val (.int ((xs.getD (ix + (1 : Int32)).toNatClampNeg 0) &&& (255 : Int32))), s9] [])
                              refine own_iloadN X0 hx (hb hby d4_215) rfl ?_
                              have hnl : pl_nl ((xs.getD ix.toNatClampNeg 0) &&& (255 : Int32)) ((xs.getD (ix + (1 : Int32)).toNatClampNeg 0) &&& (255 : Int32)) (xs.getD (ix + (2 : Int32)).toNatClampNeg 0) (xs.getD (ix + (3 : Int32)).toNatClampNeg 0) (en - ix) = 0 := by rw [pl_nl, if_neg hc21, if_neg hc45, if_pos hc53, if_neg hc67, if_pos hc75, if_neg hc125, if_neg hc133, if_pos hc144, if_neg hc162, if_neg hc185, if_pos hc205]
                              refine own_retI X0 hx Bd.returns hlk (hb hby d4_216) ?_ (by decide) (by decide)
                              refine ⟨?_, N0, e0⟩
                              show some (Value.int _) = some (Value.int (pl_nu xs en 8 fr))
                              rw [← hr, pl_nu, if_pos hlt, if_pos hnl]
                            · have hc205 : ¬ ((xs.getD (ix + (1 : Int32)).toNatClampNeg 0) &&& (255 : Int32)) < (144 : Int32) := own_lt0 hc
                              clear hc
                              show own_R p e below s _ _ _ s₁ (mkF m 208 #[.val (.ref a1), .val (.int fr), .val (.int en), .val (.int ix), .val (.int ((xs.getD ix.toNatClampNeg 0) &&& (255 : Int32))), .val (.int (4 : Int32)), .val (.int (144 : Int32)), .val (.int (191 : Int32)), .val (.int ((xs.getD (ix + (1 : Int32)).toNatClampNeg 0) &&& (255 : Int32))), s9] [])
                              refine own_iload X0 hx (hb hby d4_208) rfl ?_
                              refine own_iload X0 hx (hb hby d4_210) rfl ?_
                              refine own_icmp X0 hx (hb hby d4_212) (pc' := 217) (by decide) (by decide) (fun hc => ?_) (fun hc => ?_)
                              · have hc212 : ¬ (191 : Int32) < ((xs.getD (ix + (1 : Int32)).toNatClampNeg 0) &&& (255 : Int32)) := own_le1 hc
                                clear hc
                                show own_R p e below s _ _ _ s₁ (mkF m 217 #[.val (.ref a1), .val (.int fr), .val (.int en), .val (.int ix), .val (.int ((xs.getD ix.toNatClampNeg 0) &&& (255 : Int32))), .val (.int (4 : Int32)), .val (.int (144 : Int32)), .val (.int (191 : Int32)), .val (.int ((xs.getD (ix + (1 : Int32)).toNatClampNeg 0) &&& (255 : Int32))), s9] [])
                                refine own_iloadN X0 hx (hb hby d4_217) rfl ?_
                                refine own_iconst X0 hx (2 : Int32) (hb hby d4_218) rfl ?_
                                refine own_iadd X0 hx (hb hby d4_219) ?_
                                refine own_istore X0 hx (hb hby d4_220) (l' := #[.val (.ref a1), .val (.int fr), .val (.int en), .val (.int ix), .val (.int ((xs.getD ix.toNatClampNeg 0) &&& (255 : Int32))), .val (.int (4 : Int32)), .val (.int (144 : Int32)), .val (.int (191 : Int32)), .val (.int ((xs.getD (ix + (1 : Int32)).toNatClampNeg 0) &&& (255 : Int32))), .val (.int (ix + (2 : Int32)))]) (by rcases hs9 with rfl | ⟨w, rfl, hw'⟩ <;> first | rfl | (cases w <;> first | rfl | (simp [Value.category] at hw'))) ?_
                                refine own_iload X0 hx (hb hby d4_222) rfl ?_
                                refine own_iloadN X0 hx (hb hby d4_224) rfl ?_
                                refine own_iload X0 hx (hb hby d4_225) rfl ?_
                                refine own_iadd X0 hx (hb hby d4_227) ?_
                                refine own_icmp X0 hx (hb hby d4_228) (pc' := 253) (by decide) (by decide) (fun hc => ?_) (fun hc => ?_)
                                · have hl2 : ¬ (ix + (2 : Int32)) < (ix + (4 : Int32)) := own_ge1 hc
                                  exfalso; obtain ⟨d1, d2⟩ := pl_d ix en h0' hlt h8; obtain ⟨a1, a2, a3, a4, a5, a6⟩ := pl_off ix h0' d2; rw [Int32.lt_iff_toInt_lt] at hl2; omega
                                · have hl2 : (ix + (2 : Int32)) < (ix + (4 : Int32)) := own_ge0 hc
                                  clear hc
                                  show own_R p e below s _ _ _ s₁ (mkF m 231 #[.val (.ref a1), .val (.int fr), .val (.int en), .val (.int ix), .val (.int ((xs.getD ix.toNatClampNeg 0) &&& (255 : Int32))), .val (.int (4 : Int32)), .val (.int (144 : Int32)), .val (.int (191 : Int32)), .val (.int ((xs.getD (ix + (1 : Int32)).toNatClampNeg 0) &&& (255 : Int32))), .val (.int (ix + (2 : Int32)))] [])
                                  refine own_aloadN X0 hx (hb hby d4_231) rfl rfl ?_
                                  refine own_iload X0 hx (hb hby d4_232) rfl ?_
                                  refine own_baload X0 hx hZ e0 hV (v := .int (xs.getD (ix + (2 : Int32)).toNatClampNeg 0)) (pl_at2 ix en (4 : Int32) h0' hlt h8 (by decide) hc185) (pl_gd _ _) (hb hby d4_234) ?_
                                  show own_R p e below s _ _ _ s₁ (mkF m 235 #[.val (.ref a1), .val (.int fr), .val (.int en), .val (.int ix), .val (.int ((xs.getD ix.toNatClampNeg 0) &&& (255 : Int32))), .val (.int (4 : Int32)), .val (.int (144 : Int32)), .val (.int (191 : Int32)), .val (.int ((xs.getD (ix + (1 : Int32)).toNatClampNeg 0) &&& (255 : Int32))), .val (.int (ix + (2 : Int32)))] [(.int (xs.getD (ix + (2 : Int32)).toNatClampNeg 0))])
                                  refine own_sipush X0 hx (192 : Int32) (hb hby d4_235) rfl ?_
                                  refine own_iand X0 hx (hb hby d4_238) ?_
                                  refine own_sipush X0 hx (128 : Int32) (hb hby d4_239) rfl ?_
                                  refine own_icmp X0 hx (hb hby d4_242) (pc' := 247) (by decide) (by decide) (fun hc => ?_) (fun hc => ?_)
                                  · have hc242_2 : ((xs.getD (ix + (2 : Int32)).toNatClampNeg 0) &&& (192 : Int32)) = (128 : Int32) := own_eq1 hc
                                    clear hc
                                    show own_R p e below s _ _ _ s₁ (mkF m 247 #[.val (.ref a1), .val (.int fr), .val (.int en), .val (.int ix), .val (.int ((xs.getD ix.toNatClampNeg 0) &&& (255 : Int32))), .val (.int (4 : Int32)), .val (.int (144 : Int32)), .val (.int (191 : Int32)), .val (.int ((xs.getD (ix + (1 : Int32)).toNatClampNeg 0) &&& (255 : Int32))), .val (.int (ix + (2 : Int32)))] [])
                                    refine own_iinc X0 hx (1 : Int32) (hb hby d4_247) rfl rfl (l' := #[.val (.ref a1), .val (.int fr), .val (.int en), .val (.int ix), .val (.int ((xs.getD ix.toNatClampNeg 0) &&& (255 : Int32))), .val (.int (4 : Int32)), .val (.int (144 : Int32)), .val (.int (191 : Int32)), .val (.int ((xs.getD (ix + (1 : Int32)).toNatClampNeg 0) &&& (255 : Int32))), .val (.int ((ix + (2 : Int32)) + (1 : Int32)))]) rfl ?_
                                    refine own_goto X0 hx (hb hby d4_250) (pc' := 222) (by decide) (by decide) ?_
                                    show own_R p e below s _ _ _ s₁ (mkF m 222 #[.val (.ref a1), .val (.int fr), .val (.int en), .val (.int ix), .val (.int ((xs.getD ix.toNatClampNeg 0) &&& (255 : Int32))), .val (.int (4 : Int32)), .val (.int (144 : Int32)), .val (.int (191 : Int32)), .val (.int ((xs.getD (ix + (1 : Int32)).toNatClampNeg 0) &&& (255 : Int32))), .val (.int ((ix + (2 : Int32)) + (1 : Int32)))] [])
                                    refine own_iload X0 hx (hb hby d4_222) rfl ?_
                                    refine own_iloadN X0 hx (hb hby d4_224) rfl ?_
                                    refine own_iload X0 hx (hb hby d4_225) rfl ?_
                                    refine own_iadd X0 hx (hb hby d4_227) ?_
                                    refine own_icmp X0 hx (hb hby d4_228) (pc' := 253) (by decide) (by decide) (fun hc => ?_) (fun hc => ?_)
                                    · have hl3 : ¬ ((ix + (2 : Int32)) + (1 : Int32)) < (ix + (4 : Int32)) := own_ge1 hc
                                      exfalso; obtain ⟨d1, d2⟩ := pl_d ix en h0' hlt h8; obtain ⟨a1, a2, a3, a4, a5, a6⟩ := pl_off ix h0' d2; rw [Int32.lt_iff_toInt_lt] at hl3; omega
                                    · have hl3 : ((ix + (2 : Int32)) + (1 : Int32)) < (ix + (4 : Int32)) := own_ge0 hc
                                      clear hc
                                      show own_R p e below s _ _ _ s₁ (mkF m 231 #[.val (.ref a1), .val (.int fr), .val (.int en), .val (.int ix), .val (.int ((xs.getD ix.toNatClampNeg 0) &&& (255 : Int32))), .val (.int (4 : Int32)), .val (.int (144 : Int32)), .val (.int (191 : Int32)), .val (.int ((xs.getD (ix + (1 : Int32)).toNatClampNeg 0) &&& (255 : Int32))), .val (.int ((ix + (2 : Int32)) + (1 : Int32)))] [])
                                      refine own_aloadN X0 hx (hb hby d4_231) rfl rfl ?_
                                      refine own_iload X0 hx (hb hby d4_232) rfl ?_
                                      rw [pl_21]
                                      show own_R p e below s _ _ _ s₁ (mkF m 234 #[.val (.ref a1), .val (.int fr), .val (.int en), .val (.int ix), .val (.int ((xs.getD ix.toNatClampNeg 0) &&& (255 : Int32))), .val (.int (4 : Int32)), .val (.int (144 : Int32)), .val (.int (191 : Int32)), .val (.int ((xs.getD (ix + (1 : Int32)).toNatClampNeg 0) &&& (255 : Int32))), .val (.int (ix + (3 : Int32)))] [(.int (ix + (3 : Int32))), (.ref a1)])
                                      refine own_baload X0 hx hZ e0 hV (v := .int (xs.getD (ix + (3 : Int32)).toNatClampNeg 0)) (pl_at3 ix en (4 : Int32) h0' hlt h8 (by decide) hc185) (pl_gd _ _) (hb hby d4_234) ?_
                                      show own_R p e below s _ _ _ s₁ (mkF m 235 #[.val (.ref a1), .val (.int fr), .val (.int en), .val (.int ix), .val (.int ((xs.getD ix.toNatClampNeg 0) &&& (255 : Int32))), .val (.int (4 : Int32)), .val (.int (144 : Int32)), .val (.int (191 : Int32)), .val (.int ((xs.getD (ix + (1 : Int32)).toNatClampNeg 0) &&& (255 : Int32))), .val (.int (ix + (3 : Int32)))] [(.int (xs.getD (ix + (3 : Int32)).toNatClampNeg 0))])
                                      refine own_sipush X0 hx (192 : Int32) (hb hby d4_235) rfl ?_
                                      refine own_iand X0 hx (hb hby d4_238) ?_
                                      refine own_sipush X0 hx (128 : Int32) (hb hby d4_239) rfl ?_
                                      refine own_icmp X0 hx (hb hby d4_242) (pc' := 247) (by decide) (by decide) (fun hc => ?_) (fun hc => ?_)
                                      · have hc242_3 : ((xs.getD (ix + (3 : Int32)).toNatClampNeg 0) &&& (192 : Int32)) = (128 : Int32) := own_eq1 hc
                                        clear hc
                                        show own_R p e below s _ _ _ s₁ (mkF m 247 #[.val (.ref a1), .val (.int fr), .val (.int en), .val (.int ix), .val (.int ((xs.getD ix.toNatClampNeg 0) &&& (255 : Int32))), .val (.int (4 : Int32)), .val (.int (144 : Int32)), .val (.int (191 : Int32)), .val (.int ((xs.getD (ix + (1 : Int32)).toNatClampNeg 0) &&& (255 : Int32))), .val (.int (ix + (3 : Int32)))] [])
                                        refine own_iinc X0 hx (1 : Int32) (hb hby d4_247) rfl rfl (l' := #[.val (.ref a1), .val (.int fr), .val (.int en), .val (.int ix), .val (.int ((xs.getD ix.toNatClampNeg 0) &&& (255 : Int32))), .val (.int (4 : Int32)), .val (.int (144 : Int32)), .val (.int (191 : Int32)), .val (.int ((xs.getD (ix + (1 : Int32)).toNatClampNeg 0) &&& (255 : Int32))), .val (.int ((ix + (3 : Int32)) + (1 : Int32)))]) rfl ?_
                                        refine own_goto X0 hx (hb hby d4_250) (pc' := 222) (by decide) (by decide) ?_
                                        show own_R p e below s _ _ _ s₁ (mkF m 222 #[.val (.ref a1), .val (.int fr), .val (.int en), .val (.int ix), .val (.int ((xs.getD ix.toNatClampNeg 0) &&& (255 : Int32))), .val (.int (4 : Int32)), .val (.int (144 : Int32)), .val (.int (191 : Int32)), .val (.int ((xs.getD (ix + (1 : Int32)).toNatClampNeg 0) &&& (255 : Int32))), .val (.int ((ix + (3 : Int32)) + (1 : Int32)))] [])
                                        refine own_iload X0 hx (hb hby d4_222) rfl ?_
                                        refine own_iloadN X0 hx (hb hby d4_224) rfl ?_
                                        refine own_iload X0 hx (hb hby d4_225) rfl ?_
                                        refine own_iadd X0 hx (hb hby d4_227) ?_
                                        refine own_icmp X0 hx (hb hby d4_228) (pc' := 253) (by decide) (by decide) (fun hc => ?_) (fun hc => ?_)
                                        · have hl4 : ¬ ((ix + (3 : Int32)) + (1 : Int32)) < (ix + (4 : Int32)) := own_ge1 hc
                                          clear hc
                                          show own_R p e below s _ _ _ s₁ (mkF m 253 #[.val (.ref a1), .val (.int fr), .val (.int en), .val (.int ix), .val (.int ((xs.getD ix.toNatClampNeg 0) &&& (255 : Int32))), .val (.int (4 : Int32)), .val (.int (144 : Int32)), .val (.int (191 : Int32)), .val (.int ((xs.getD (ix + (1 : Int32)).toNatClampNeg 0) &&& (255 : Int32))), .val (.int ((ix + (3 : Int32)) + (1 : Int32)))] [])
                                          refine own_iloadN X0 hx (hb hby d4_253) rfl ?_
                                          refine own_iload X0 hx (hb hby d4_254) rfl ?_
                                          refine own_iadd X0 hx (hb hby d4_256) ?_
                                          refine own_istoreN X0 hx (hb hby d4_257) (l' := #[.val (.ref a1), .val (.int fr), .val (.int en), .val (.int (ix + (4 : Int32))), .val (.int ((xs.getD ix.toNatClampNeg 0) &&& (255 : Int32))), .val (.int (4 : Int32)), .val (.int (144 : Int32)), .val (.int (191 : Int32)), .val (.int ((xs.getD (ix + (1 : Int32)).toNatClampNeg 0) &&& (255 : Int32))), .val (.int ((ix + (3 : Int32)) + (1 : Int32)))]) rfl ?_
                                          refine own_goto X0 hx (hb hby d4_258) (pc' := 2) (by decide) (by decide) ?_
                                          show own_R p e below s _ _ _ s₁ (mkF m 2 #[.val (.ref a1), .val (.int fr), .val (.int en), .val (.int (ix + (4 : Int32))), .val (.int ((xs.getD ix.toNatClampNeg 0) &&& (255 : Int32))), .val (.int (4 : Int32)), .val (.int (144 : Int32)), .val (.int (191 : Int32)), .val (.int ((xs.getD (ix + (1 : Int32)).toNatClampNeg 0) &&& (255 : Int32))), .val (.int ((ix + (3 : Int32)) + (1 : Int32)))] [])
                                          have hnl : pl_nl ((xs.getD ix.toNatClampNeg 0) &&& (255 : Int32)) ((xs.getD (ix + (1 : Int32)).toNatClampNeg 0) &&& (255 : Int32)) (xs.getD (ix + (2 : Int32)).toNatClampNeg 0) (xs.getD (ix + (3 : Int32)).toNatClampNeg 0) (en - ix) = (4 : Int32) := by rw [pl_nl, if_neg hc21, if_neg hc45, if_pos hc53, if_neg hc67, if_pos hc75, if_neg hc125, if_neg hc133, if_pos hc144, if_neg hc162, if_neg hc185, if_neg hc205, if_neg hc212, if_pos hc242_2, if_pos hc242_3]
                                          obtain ⟨u0, uk⟩ := pl_adv ix en (4 : Int32) k h0' hlt h8 hk' (by decide)
                                          exact ih _ _ _ _ _ _ _ (One.val rfl) (One.val rfl) (One.val rfl) (One.val rfl) (One.val rfl) (One.val rfl) u0 uk (by rw [← hr]; conv => rhs; rw [pl_nu, if_pos hlt, hnl, if_neg (by decide)])
                                        · have hl4 : ((ix + (3 : Int32)) + (1 : Int32)) < (ix + (4 : Int32)) := own_ge0 hc
                                          exfalso; obtain ⟨d1, d2⟩ := pl_d ix en h0' hlt h8; obtain ⟨a1, a2, a3, a4, a5, a6⟩ := pl_off ix h0' d2; rw [Int32.lt_iff_toInt_lt] at hl4; omega
                                      · have hc242_3 : ¬ ((xs.getD (ix + (3 : Int32)).toNatClampNeg 0) &&& (192 : Int32)) = (128 : Int32) := own_eq0 hc
                                        clear hc
                                        show own_R p e below s _ _ _ s₁ (mkF m 245 #[.val (.ref a1), .val (.int fr), .val (.int en), .val (.int ix), .val (.int ((xs.getD ix.toNatClampNeg 0) &&& (255 : Int32))), .val (.int (4 : Int32)), .val (.int (144 : Int32)), .val (.int (191 : Int32)), .val (.int ((xs.getD (ix + (1 : Int32)).toNatClampNeg 0) &&& (255 : Int32))), .val (.int (ix + (3 : Int32)))] [])
                                        refine own_iloadN X0 hx (hb hby d4_245) rfl ?_
                                        have hnl : pl_nl ((xs.getD ix.toNatClampNeg 0) &&& (255 : Int32)) ((xs.getD (ix + (1 : Int32)).toNatClampNeg 0) &&& (255 : Int32)) (xs.getD (ix + (2 : Int32)).toNatClampNeg 0) (xs.getD (ix + (3 : Int32)).toNatClampNeg 0) (en - ix) = 0 := by rw [pl_nl, if_neg hc21, if_neg hc45, if_pos hc53, if_neg hc67, if_pos hc75, if_neg hc125, if_neg hc133, if_pos hc144, if_neg hc162, if_neg hc185, if_neg hc205, if_neg hc212, if_pos hc242_2, if_neg hc242_3]
                                        refine own_retI X0 hx Bd.returns hlk (hb hby d4_246) ?_ (by decide) (by decide)
                                        refine ⟨?_, N0, e0⟩
                                        show some (Value.int _) = some (Value.int (pl_nu xs en 8 fr))
                                        rw [← hr, pl_nu, if_pos hlt, if_pos hnl]
                                  · have hc242_2 : ¬ ((xs.getD (ix + (2 : Int32)).toNatClampNeg 0) &&& (192 : Int32)) = (128 : Int32) := own_eq0 hc
                                    clear hc
                                    show own_R p e below s _ _ _ s₁ (mkF m 245 #[.val (.ref a1), .val (.int fr), .val (.int en), .val (.int ix), .val (.int ((xs.getD ix.toNatClampNeg 0) &&& (255 : Int32))), .val (.int (4 : Int32)), .val (.int (144 : Int32)), .val (.int (191 : Int32)), .val (.int ((xs.getD (ix + (1 : Int32)).toNatClampNeg 0) &&& (255 : Int32))), .val (.int (ix + (2 : Int32)))] [])
                                    refine own_iloadN X0 hx (hb hby d4_245) rfl ?_
                                    have hnl : pl_nl ((xs.getD ix.toNatClampNeg 0) &&& (255 : Int32)) ((xs.getD (ix + (1 : Int32)).toNatClampNeg 0) &&& (255 : Int32)) (xs.getD (ix + (2 : Int32)).toNatClampNeg 0) (xs.getD (ix + (3 : Int32)).toNatClampNeg 0) (en - ix) = 0 := by rw [pl_nl, if_neg hc21, if_neg hc45, if_pos hc53, if_neg hc67, if_pos hc75, if_neg hc125, if_neg hc133, if_pos hc144, if_neg hc162, if_neg hc185, if_neg hc205, if_neg hc212, if_neg hc242_2]
                                    refine own_retI X0 hx Bd.returns hlk (hb hby d4_246) ?_ (by decide) (by decide)
                                    refine ⟨?_, N0, e0⟩
                                    show some (Value.int _) = some (Value.int (pl_nu xs en 8 fr))
                                    rw [← hr, pl_nu, if_pos hlt, if_pos hnl]
                              · have hc212 : (191 : Int32) < ((xs.getD (ix + (1 : Int32)).toNatClampNeg 0) &&& (255 : Int32)) := own_le0 hc
                                clear hc
                                show own_R p e below s _ _ _ s₁ (mkF m 215 #[.val (.ref a1), .val (.int fr), .val (.int en), .val (.int ix), .val (.int ((xs.getD ix.toNatClampNeg 0) &&& (255 : Int32))), .val (.int (4 : Int32)), .val (.int (144 : Int32)), .val (.int (191 : Int32)), .val (.int ((xs.getD (ix + (1 : Int32)).toNatClampNeg 0) &&& (255 : Int32))), s9] [])
                                refine own_iloadN X0 hx (hb hby d4_215) rfl ?_
                                have hnl : pl_nl ((xs.getD ix.toNatClampNeg 0) &&& (255 : Int32)) ((xs.getD (ix + (1 : Int32)).toNatClampNeg 0) &&& (255 : Int32)) (xs.getD (ix + (2 : Int32)).toNatClampNeg 0) (xs.getD (ix + (3 : Int32)).toNatClampNeg 0) (en - ix) = 0 := by rw [pl_nl, if_neg hc21, if_neg hc45, if_pos hc53, if_neg hc67, if_pos hc75, if_neg hc125, if_neg hc133, if_pos hc144, if_neg hc162, if_neg hc185, if_neg hc205, if_pos hc212]
                                refine own_retI X0 hx Bd.returns hlk (hb hby d4_216) ?_ (by decide) (by decide)
                                refine ⟨?_, N0, e0⟩
                                show some (Value.int _) = some (Value.int (pl_nu xs en 8 fr))
                                rw [← hr, pl_nu, if_pos hlt, if_pos hnl]
                          · have hc185 : (en - ix) < (4 : Int32) := own_ge0 hc
                            clear hc
                            show own_R p e below s _ _ _ s₁ (mkF m 188 #[.val (.ref a1), .val (.int fr), .val (.int en), .val (.int ix), .val (.int ((xs.getD ix.toNatClampNeg 0) &&& (255 : Int32))), .val (.int (4 : Int32)), .val (.int (144 : Int32)), .val (.int (191 : Int32)), s8, s9] [])
                            refine own_iloadN X0 hx (hb hby d4_188) rfl ?_
                            have hnl : pl_nl ((xs.getD ix.toNatClampNeg 0) &&& (255 : Int32)) ((xs.getD (ix + (1 : Int32)).toNatClampNeg 0) &&& (255 : Int32)) (xs.getD (ix + (2 : Int32)).toNatClampNeg 0) (xs.getD (ix + (3 : Int32)).toNatClampNeg 0) (en - ix) = 0 := by rw [pl_nl, if_neg hc21, if_neg hc45, if_pos hc53, if_neg hc67, if_pos hc75, if_neg hc125, if_neg hc133, if_pos hc144, if_neg hc162, if_pos hc185]
                            refine own_retI X0 hx Bd.returns hlk (hb hby d4_189) ?_ (by decide) (by decide)
                            refine ⟨?_, N0, e0⟩
                            show some (Value.int _) = some (Value.int (pl_nu xs en 8 fr))
                            rw [← hr, pl_nu, if_pos hlt, if_pos hnl]
                        · have hc162 : ((xs.getD ix.toNatClampNeg 0) &&& (255 : Int32)) = (244 : Int32) := own_ne0 hc
                          clear hc
                          show own_R p e below s _ _ _ s₁ (mkF m 165 #[.val (.ref a1), .val (.int fr), .val (.int en), .val (.int ix), .val (.int ((xs.getD ix.toNatClampNeg 0) &&& (255 : Int32))), .val (.int (4 : Int32)), .val (.int (144 : Int32)), .val (.int (191 : Int32)), s8, s9] [])
                          refine own_sipush X0 hx (143 : Int32) (hb hby d4_165) rfl ?_
                          refine own_goto X0 hx (hb hby d4_168) (pc' := 173) (by decide) (by decide) ?_
                          show own_R p e below s _ _ _ s₁ (mkF m 173 #[.val (.ref a1), .val (.int fr), .val (.int en), .val (.int ix), .val (.int ((xs.getD ix.toNatClampNeg 0) &&& (255 : Int32))), .val (.int (4 : Int32)), .val (.int (144 : Int32)), .val (.int (191 : Int32)), s8, s9] [(.int (143 : Int32))])
                          refine own_istore X0 hx (hb hby d4_173) (l' := #[.val (.ref a1), .val (.int fr), .val (.int en), .val (.int ix), .val (.int ((xs.getD ix.toNatClampNeg 0) &&& (255 : Int32))), .val (.int (4 : Int32)), .val (.int (144 : Int32)), .val (.int (143 : Int32)), s8, s9]) rfl ?_
                          refine own_goto X0 hx (hb hby d4_175) (pc' := 180) (by decide) (by decide) ?_
                          show own_R p e below s _ _ _ s₁ (mkF m 180 #[.val (.ref a1), .val (.int fr), .val (.int en), .val (.int ix), .val (.int ((xs.getD ix.toNatClampNeg 0) &&& (255 : Int32))), .val (.int (4 : Int32)), .val (.int (144 : Int32)), .val (.int (143 : Int32)), s8, s9] [])
                          refine own_iloadN X0 hx (hb hby d4_180) rfl ?_
                          refine own_iloadN X0 hx (hb hby d4_181) rfl ?_
                          refine own_isub X0 hx (hb hby d4_182) ?_
                          refine own_iload X0 hx (hb hby d4_183) rfl ?_
                          refine own_icmp X0 hx (hb hby d4_185) (pc' := 190) (by decide) (by decide) (fun hc => ?_) (fun hc => ?_)
                          · have hc185 : ¬ (en - ix) < (4 : Int32) := own_ge1 hc
                            clear hc
                            show own_R p e below s _ _ _ s₁ (mkF m 190 #[.val (.ref a1), .val (.int fr), .val (.int en), .val (.int ix), .val (.int ((xs.getD ix.toNatClampNeg 0) &&& (255 : Int32))), .val (.int (4 : Int32)), .val (.int (144 : Int32)), .val (.int (143 : Int32)), s8, s9] [])
                            refine own_aloadN X0 hx (hb hby d4_190) rfl rfl ?_
                            refine own_iloadN X0 hx (hb hby d4_191) rfl ?_
                            refine own_iconst X0 hx (1 : Int32) (hb hby d4_192) rfl ?_
                            refine own_iadd X0 hx (hb hby d4_193) ?_
                            refine own_baload X0 hx hZ e0 hV (v := .int (xs.getD (ix + (1 : Int32)).toNatClampNeg 0)) (pl_at1 ix en (4 : Int32) h0' hlt h8 (by decide) hc185) (pl_gd _ _) (hb hby d4_194) ?_
                            show own_R p e below s _ _ _ s₁ (mkF m 195 #[.val (.ref a1), .val (.int fr), .val (.int en), .val (.int ix), .val (.int ((xs.getD ix.toNatClampNeg 0) &&& (255 : Int32))), .val (.int (4 : Int32)), .val (.int (144 : Int32)), .val (.int (143 : Int32)), s8, s9] [(.int (xs.getD (ix + (1 : Int32)).toNatClampNeg 0))])
                            refine own_sipush X0 hx (255 : Int32) (hb hby d4_195) rfl ?_
                            refine own_iand X0 hx (hb hby d4_198) ?_
                            refine own_istore X0 hx (hb hby d4_199) (l' := #[.val (.ref a1), .val (.int fr), .val (.int en), .val (.int ix), .val (.int ((xs.getD ix.toNatClampNeg 0) &&& (255 : Int32))), .val (.int (4 : Int32)), .val (.int (144 : Int32)), .val (.int (143 : Int32)), .val (.int ((xs.getD (ix + (1 : Int32)).toNatClampNeg 0) &&& (255 : Int32))), s9]) (by rcases hs8 with rfl | ⟨w, rfl, hw'⟩ <;> first | rfl | (cases w <;> first | rfl | (simp [Value.category] at hw'))) ?_
                            refine own_iload X0 hx (hb hby d4_201) rfl ?_
                            refine own_iload X0 hx (hb hby d4_203) rfl ?_
                            refine own_icmp X0 hx (hb hby d4_205) (pc' := 215) (by decide) (by decide) (fun hc => ?_) (fun hc => ?_)
                            · have hc205 : ((xs.getD (ix + (1 : Int32)).toNatClampNeg 0) &&& (255 : Int32)) < (144 : Int32) := own_lt1 hc
                              clear hc
                              show own_R p e below s _ _ _ s₁ (mkF m 215 #[.val (.ref a1), .val (.int fr), .val (.int en), .val (.int ix), .val (.int ((xs.getD ix.toNatClampNeg 0) &&& (255 : Int32))), .val (.int (4 : Int32)), .val (.int (144 : Int32)), .val (.int (143 : Int32)), .val (.int ((xs.getD (ix + (1 : Int32)).toNatClampNeg 0) &&& (255 : Int32))), s9] [])
                              refine own_iloadN X0 hx (hb hby d4_215) rfl ?_
                              have hnl : pl_nl ((xs.getD ix.toNatClampNeg 0) &&& (255 : Int32)) ((xs.getD (ix + (1 : Int32)).toNatClampNeg 0) &&& (255 : Int32)) (xs.getD (ix + (2 : Int32)).toNatClampNeg 0) (xs.getD (ix + (3 : Int32)).toNatClampNeg 0) (en - ix) = 0 := by rw [pl_nl, if_neg hc21, if_neg hc45, if_pos hc53, if_neg hc67, if_pos hc75, if_neg hc125, if_neg hc133, if_pos hc144, if_pos hc162, if_neg hc185, if_pos hc205]
                              refine own_retI X0 hx Bd.returns hlk (hb hby d4_216) ?_ (by decide) (by decide)
                              refine ⟨?_, N0, e0⟩
                              show some (Value.int _) = some (Value.int (pl_nu xs en 8 fr))
                              rw [← hr, pl_nu, if_pos hlt, if_pos hnl]
                            · have hc205 : ¬ ((xs.getD (ix + (1 : Int32)).toNatClampNeg 0) &&& (255 : Int32)) < (144 : Int32) := own_lt0 hc
                              clear hc
                              show own_R p e below s _ _ _ s₁ (mkF m 208 #[.val (.ref a1), .val (.int fr), .val (.int en), .val (.int ix), .val (.int ((xs.getD ix.toNatClampNeg 0) &&& (255 : Int32))), .val (.int (4 : Int32)), .val (.int (144 : Int32)), .val (.int (143 : Int32)), .val (.int ((xs.getD (ix + (1 : Int32)).toNatClampNeg 0) &&& (255 : Int32))), s9] [])
                              refine own_iload X0 hx (hb hby d4_208) rfl ?_
                              refine own_iload X0 hx (hb hby d4_210) rfl ?_
                              refine own_icmp X0 hx (hb hby d4_212) (pc' := 217) (by decide) (by decide) (fun hc => ?_) (fun hc => ?_)
                              · have hc212 : ¬ (143 : Int32) < ((xs.getD (ix + (1 : Int32)).toNatClampNeg 0) &&& (255 : Int32)) := own_le1 hc
                                clear hc
                                show own_R p e below s _ _ _ s₁ (mkF m 217 #[.val (.ref a1), .val (.int fr), .val (.int en), .val (.int ix), .val (.int ((xs.getD ix.toNatClampNeg 0) &&& (255 : Int32))), .val (.int (4 : Int32)), .val (.int (144 : Int32)), .val (.int (143 : Int32)), .val (.int ((xs.getD (ix + (1 : Int32)).toNatClampNeg 0) &&& (255 : Int32))), s9] [])
                                refine own_iloadN X0 hx (hb hby d4_217) rfl ?_
                                refine own_iconst X0 hx (2 : Int32) (hb hby d4_218) rfl ?_
                                refine own_iadd X0 hx (hb hby d4_219) ?_
                                refine own_istore X0 hx (hb hby d4_220) (l' := #[.val (.ref a1), .val (.int fr), .val (.int en), .val (.int ix), .val (.int ((xs.getD ix.toNatClampNeg 0) &&& (255 : Int32))), .val (.int (4 : Int32)), .val (.int (144 : Int32)), .val (.int (143 : Int32)), .val (.int ((xs.getD (ix + (1 : Int32)).toNatClampNeg 0) &&& (255 : Int32))), .val (.int (ix + (2 : Int32)))]) (by rcases hs9 with rfl | ⟨w, rfl, hw'⟩ <;> first | rfl | (cases w <;> first | rfl | (simp [Value.category] at hw'))) ?_
                                refine own_iload X0 hx (hb hby d4_222) rfl ?_
                                refine own_iloadN X0 hx (hb hby d4_224) rfl ?_
                                refine own_iload X0 hx (hb hby d4_225) rfl ?_
                                refine own_iadd X0 hx (hb hby d4_227) ?_
                                refine own_icmp X0 hx (hb hby d4_228) (pc' := 253) (by decide) (by decide) (fun hc => ?_) (fun hc => ?_)
                                · have hl2 : ¬ (ix + (2 : Int32)) < (ix + (4 : Int32)) := own_ge1 hc
                                  exfalso; obtain ⟨d1, d2⟩ := pl_d ix en h0' hlt h8; obtain ⟨a1, a2, a3, a4, a5, a6⟩ := pl_off ix h0' d2; rw [Int32.lt_iff_toInt_lt] at hl2; omega
                                · have hl2 : (ix + (2 : Int32)) < (ix + (4 : Int32)) := own_ge0 hc
                                  clear hc
                                  show own_R p e below s _ _ _ s₁ (mkF m 231 #[.val (.ref a1), .val (.int fr), .val (.int en), .val (.int ix), .val (.int ((xs.getD ix.toNatClampNeg 0) &&& (255 : Int32))), .val (.int (4 : Int32)), .val (.int (144 : Int32)), .val (.int (143 : Int32)), .val (.int ((xs.getD (ix + (1 : Int32)).toNatClampNeg 0) &&& (255 : Int32))), .val (.int (ix + (2 : Int32)))] [])
                                  refine own_aloadN X0 hx (hb hby d4_231) rfl rfl ?_
                                  refine own_iload X0 hx (hb hby d4_232) rfl ?_
                                  refine own_baload X0 hx hZ e0 hV (v := .int (xs.getD (ix + (2 : Int32)).toNatClampNeg 0)) (pl_at2 ix en (4 : Int32) h0' hlt h8 (by decide) hc185) (pl_gd _ _) (hb hby d4_234) ?_
                                  show own_R p e below s _ _ _ s₁ (mkF m 235 #[.val (.ref a1), .val (.int fr), .val (.int en), .val (.int ix), .val (.int ((xs.getD ix.toNatClampNeg 0) &&& (255 : Int32))), .val (.int (4 : Int32)), .val (.int (144 : Int32)), .val (.int (143 : Int32)), .val (.int ((xs.getD (ix + (1 : Int32)).toNatClampNeg 0) &&& (255 : Int32))), .val (.int (ix + (2 : Int32)))] [(.int (xs.getD (ix + (2 : Int32)).toNatClampNeg 0))])
                                  refine own_sipush X0 hx (192 : Int32) (hb hby d4_235) rfl ?_
                                  refine own_iand X0 hx (hb hby d4_238) ?_
                                  refine own_sipush X0 hx (128 : Int32) (hb hby d4_239) rfl ?_
                                  refine own_icmp X0 hx (hb hby d4_242) (pc' := 247) (by decide) (by decide) (fun hc => ?_) (fun hc => ?_)
                                  · have hc242_2 : ((xs.getD (ix + (2 : Int32)).toNatClampNeg 0) &&& (192 : Int32)) = (128 : Int32) := own_eq1 hc
                                    clear hc
                                    show own_R p e below s _ _ _ s₁ (mkF m 247 #[.val (.ref a1), .val (.int fr), .val (.int en), .val (.int ix), .val (.int ((xs.getD ix.toNatClampNeg 0) &&& (255 : Int32))), .val (.int (4 : Int32)), .val (.int (144 : Int32)), .val (.int (143 : Int32)), .val (.int ((xs.getD (ix + (1 : Int32)).toNatClampNeg 0) &&& (255 : Int32))), .val (.int (ix + (2 : Int32)))] [])
                                    refine own_iinc X0 hx (1 : Int32) (hb hby d4_247) rfl rfl (l' := #[.val (.ref a1), .val (.int fr), .val (.int en), .val (.int ix), .val (.int ((xs.getD ix.toNatClampNeg 0) &&& (255 : Int32))), .val (.int (4 : Int32)), .val (.int (144 : Int32)), .val (.int (143 : Int32)), .val (.int ((xs.getD (ix + (1 : Int32)).toNatClampNeg 0) &&& (255 : Int32))), .val (.int ((ix + (2 : Int32)) + (1 : Int32)))]) rfl ?_
                                    refine own_goto X0 hx (hb hby d4_250) (pc' := 222) (by decide) (by decide) ?_
                                    show own_R p e below s _ _ _ s₁ (mkF m 222 #[.val (.ref a1), .val (.int fr), .val (.int en), .val (.int ix), .val (.int ((xs.getD ix.toNatClampNeg 0) &&& (255 : Int32))), .val (.int (4 : Int32)), .val (.int (144 : Int32)), .val (.int (143 : Int32)), .val (.int ((xs.getD (ix + (1 : Int32)).toNatClampNeg 0) &&& (255 : Int32))), .val (.int ((ix + (2 : Int32)) + (1 : Int32)))] [])
                                    refine own_iload X0 hx (hb hby d4_222) rfl ?_
                                    refine own_iloadN X0 hx (hb hby d4_224) rfl ?_
                                    refine own_iload X0 hx (hb hby d4_225) rfl ?_
                                    refine own_iadd X0 hx (hb hby d4_227) ?_
                                    refine own_icmp X0 hx (hb hby d4_228) (pc' := 253) (by decide) (by decide) (fun hc => ?_) (fun hc => ?_)
                                    · have hl3 : ¬ ((ix + (2 : Int32)) + (1 : Int32)) < (ix + (4 : Int32)) := own_ge1 hc
                                      exfalso; obtain ⟨d1, d2⟩ := pl_d ix en h0' hlt h8; obtain ⟨a1, a2, a3, a4, a5, a6⟩ := pl_off ix h0' d2; rw [Int32.lt_iff_toInt_lt] at hl3; omega
                                    · have hl3 : ((ix + (2 : Int32)) + (1 : Int32)) < (ix + (4 : Int32)) := own_ge0 hc
                                      clear hc
                                      show own_R p e below s _ _ _ s₁ (mkF m 231 #[.val (.ref a1), .val (.int fr), .val (.int en), .val (.int ix), .val (.int ((xs.getD ix.toNatClampNeg 0) &&& (255 : Int32))), .val (.int (4 : Int32)), .val (.int (144 : Int32)), .val (.int (143 : Int32)), .val (.int ((xs.getD (ix + (1 : Int32)).toNatClampNeg 0) &&& (255 : Int32))), .val (.int ((ix + (2 : Int32)) + (1 : Int32)))] [])
                                      refine own_aloadN X0 hx (hb hby d4_231) rfl rfl ?_
                                      refine own_iload X0 hx (hb hby d4_232) rfl ?_
                                      rw [pl_21]
                                      show own_R p e below s _ _ _ s₁ (mkF m 234 #[.val (.ref a1), .val (.int fr), .val (.int en), .val (.int ix), .val (.int ((xs.getD ix.toNatClampNeg 0) &&& (255 : Int32))), .val (.int (4 : Int32)), .val (.int (144 : Int32)), .val (.int (143 : Int32)), .val (.int ((xs.getD (ix + (1 : Int32)).toNatClampNeg 0) &&& (255 : Int32))), .val (.int (ix + (3 : Int32)))] [(.int (ix + (3 : Int32))), (.ref a1)])
                                      refine own_baload X0 hx hZ e0 hV (v := .int (xs.getD (ix + (3 : Int32)).toNatClampNeg 0)) (pl_at3 ix en (4 : Int32) h0' hlt h8 (by decide) hc185) (pl_gd _ _) (hb hby d4_234) ?_
                                      show own_R p e below s _ _ _ s₁ (mkF m 235 #[.val (.ref a1), .val (.int fr), .val (.int en), .val (.int ix), .val (.int ((xs.getD ix.toNatClampNeg 0) &&& (255 : Int32))), .val (.int (4 : Int32)), .val (.int (144 : Int32)), .val (.int (143 : Int32)), .val (.int ((xs.getD (ix + (1 : Int32)).toNatClampNeg 0) &&& (255 : Int32))), .val (.int (ix + (3 : Int32)))] [(.int (xs.getD (ix + (3 : Int32)).toNatClampNeg 0))])
                                      refine own_sipush X0 hx (192 : Int32) (hb hby d4_235) rfl ?_
                                      refine own_iand X0 hx (hb hby d4_238) ?_
                                      refine own_sipush X0 hx (128 : Int32) (hb hby d4_239) rfl ?_
                                      refine own_icmp X0 hx (hb hby d4_242) (pc' := 247) (by decide) (by decide) (fun hc => ?_) (fun hc => ?_)
                                      · have hc242_3 : ((xs.getD (ix + (3 : Int32)).toNatClampNeg 0) &&& (192 : Int32)) = (128 : Int32) := own_eq1 hc
                                        clear hc
                                        show own_R p e below s _ _ _ s₁ (mkF m 247 #[.val (.ref a1), .val (.int fr), .val (.int en), .val (.int ix), .val (.int ((xs.getD ix.toNatClampNeg 0) &&& (255 : Int32))), .val (.int (4 : Int32)), .val (.int (144 : Int32)), .val (.int (143 : Int32)), .val (.int ((xs.getD (ix + (1 : Int32)).toNatClampNeg 0) &&& (255 : Int32))), .val (.int (ix + (3 : Int32)))] [])
                                        refine own_iinc X0 hx (1 : Int32) (hb hby d4_247) rfl rfl (l' := #[.val (.ref a1), .val (.int fr), .val (.int en), .val (.int ix), .val (.int ((xs.getD ix.toNatClampNeg 0) &&& (255 : Int32))), .val (.int (4 : Int32)), .val (.int (144 : Int32)), .val (.int (143 : Int32)), .val (.int ((xs.getD (ix + (1 : Int32)).toNatClampNeg 0) &&& (255 : Int32))), .val (.int ((ix + (3 : Int32)) + (1 : Int32)))]) rfl ?_
                                        refine own_goto X0 hx (hb hby d4_250) (pc' := 222) (by decide) (by decide) ?_
                                        show own_R p e below s _ _ _ s₁ (mkF m 222 #[.val (.ref a1), .val (.int fr), .val (.int en), .val (.int ix), .val (.int ((xs.getD ix.toNatClampNeg 0) &&& (255 : Int32))), .val (.int (4 : Int32)), .val (.int (144 : Int32)), .val (.int (143 : Int32)), .val (.int ((xs.getD (ix + (1 : Int32)).toNatClampNeg 0) &&& (255 : Int32))), .val (.int ((ix + (3 : Int32)) + (1 : Int32)))] [])
                                        refine own_iload X0 hx (hb hby d4_222) rfl ?_
                                        refine own_iloadN X0 hx (hb hby d4_224) rfl ?_
                                        refine own_iload X0 hx (hb hby d4_225) rfl ?_
                                        refine own_iadd X0 hx (hb hby d4_227) ?_
                                        refine own_icmp X0 hx (hb hby d4_228) (pc' := 253) (by decide) (by decide) (fun hc => ?_) (fun hc => ?_)
                                        · have hl4 : ¬ ((ix + (3 : Int32)) + (1 : Int32)) < (ix + (4 : Int32)) := own_ge1 hc
                                          clear hc
                                          show own_R p e below s _ _ _ s₁ (mkF m 253 #[.val (.ref a1), .val (.int fr), .val (.int en), .val (.int ix), .val (.int ((xs.getD ix.toNatClampNeg 0) &&& (255 : Int32))), .val (.int (4 : Int32)), .val (.int (144 : Int32)), .val (.int (143 : Int32)), .val (.int ((xs.getD (ix + (1 : Int32)).toNatClampNeg 0) &&& (255 : Int32))), .val (.int ((ix + (3 : Int32)) + (1 : Int32)))] [])
                                          refine own_iloadN X0 hx (hb hby d4_253) rfl ?_
                                          refine own_iload X0 hx (hb hby d4_254) rfl ?_
                                          refine own_iadd X0 hx (hb hby d4_256) ?_
                                          refine own_istoreN X0 hx (hb hby d4_257) (l' := #[.val (.ref a1), .val (.int fr), .val (.int en), .val (.int (ix + (4 : Int32))), .val (.int ((xs.getD ix.toNatClampNeg 0) &&& (255 : Int32))), .val (.int (4 : Int32)), .val (.int (144 : Int32)), .val (.int (143 : Int32)), .val (.int ((xs.getD (ix + (1 : Int32)).toNatClampNeg 0) &&& (255 : Int32))), .val (.int ((ix + (3 : Int32)) + (1 : Int32)))]) rfl ?_
                                          refine own_goto X0 hx (hb hby d4_258) (pc' := 2) (by decide) (by decide) ?_
                                          show own_R p e below s _ _ _ s₁ (mkF m 2 #[.val (.ref a1), .val (.int fr), .val (.int en), .val (.int (ix + (4 : Int32))), .val (.int ((xs.getD ix.toNatClampNeg 0) &&& (255 : Int32))), .val (.int (4 : Int32)), .val (.int (144 : Int32)), .val (.int (143 : Int32)), .val (.int ((xs.getD (ix + (1 : Int32)).toNatClampNeg 0) &&& (255 : Int32))), .val (.int ((ix + (3 : Int32)) + (1 : Int32)))] [])
                                          have hnl : pl_nl ((xs.getD ix.toNatClampNeg 0) &&& (255 : Int32)) ((xs.getD (ix + (1 : Int32)).toNatClampNeg 0) &&& (255 : Int32)) (xs.getD (ix + (2 : Int32)).toNatClampNeg 0) (xs.getD (ix + (3 : Int32)).toNatClampNeg 0) (en - ix) = (4 : Int32) := by rw [pl_nl, if_neg hc21, if_neg hc45, if_pos hc53, if_neg hc67, if_pos hc75, if_neg hc125, if_neg hc133, if_pos hc144, if_pos hc162, if_neg hc185, if_neg hc205, if_neg hc212, if_pos hc242_2, if_pos hc242_3]
                                          obtain ⟨u0, uk⟩ := pl_adv ix en (4 : Int32) k h0' hlt h8 hk' (by decide)
                                          exact ih _ _ _ _ _ _ _ (One.val rfl) (One.val rfl) (One.val rfl) (One.val rfl) (One.val rfl) (One.val rfl) u0 uk (by rw [← hr]; conv => rhs; rw [pl_nu, if_pos hlt, hnl, if_neg (by decide)])
                                        · have hl4 : ((ix + (3 : Int32)) + (1 : Int32)) < (ix + (4 : Int32)) := own_ge0 hc
                                          exfalso; obtain ⟨d1, d2⟩ := pl_d ix en h0' hlt h8; obtain ⟨a1, a2, a3, a4, a5, a6⟩ := pl_off ix h0' d2; rw [Int32.lt_iff_toInt_lt] at hl4; omega
                                      · have hc242_3 : ¬ ((xs.getD (ix + (3 : Int32)).toNatClampNeg 0) &&& (192 : Int32)) = (128 : Int32) := own_eq0 hc
                                        clear hc
                                        show own_R p e below s _ _ _ s₁ (mkF m 245 #[.val (.ref a1), .val (.int fr), .val (.int en), .val (.int ix), .val (.int ((xs.getD ix.toNatClampNeg 0) &&& (255 : Int32))), .val (.int (4 : Int32)), .val (.int (144 : Int32)), .val (.int (143 : Int32)), .val (.int ((xs.getD (ix + (1 : Int32)).toNatClampNeg 0) &&& (255 : Int32))), .val (.int (ix + (3 : Int32)))] [])
                                        refine own_iloadN X0 hx (hb hby d4_245) rfl ?_
                                        have hnl : pl_nl ((xs.getD ix.toNatClampNeg 0) &&& (255 : Int32)) ((xs.getD (ix + (1 : Int32)).toNatClampNeg 0) &&& (255 : Int32)) (xs.getD (ix + (2 : Int32)).toNatClampNeg 0) (xs.getD (ix + (3 : Int32)).toNatClampNeg 0) (en - ix) = 0 := by rw [pl_nl, if_neg hc21, if_neg hc45, if_pos hc53, if_neg hc67, if_pos hc75, if_neg hc125, if_neg hc133, if_pos hc144, if_pos hc162, if_neg hc185, if_neg hc205, if_neg hc212, if_pos hc242_2, if_neg hc242_3]
                                        refine own_retI X0 hx Bd.returns hlk (hb hby d4_246) ?_ (by decide) (by decide)
                                        refine ⟨?_, N0, e0⟩
                                        show some (Value.int _) = some (Value.int (pl_nu xs en 8 fr))
                                        rw [← hr, pl_nu, if_pos hlt, if_pos hnl]
                                  · have hc242_2 : ¬ ((xs.getD (ix + (2 : Int32)).toNatClampNeg 0) &&& (192 : Int32)) = (128 : Int32) := own_eq0 hc
                                    clear hc
                                    show own_R p e below s _ _ _ s₁ (mkF m 245 #[.val (.ref a1), .val (.int fr), .val (.int en), .val (.int ix), .val (.int ((xs.getD ix.toNatClampNeg 0) &&& (255 : Int32))), .val (.int (4 : Int32)), .val (.int (144 : Int32)), .val (.int (143 : Int32)), .val (.int ((xs.getD (ix + (1 : Int32)).toNatClampNeg 0) &&& (255 : Int32))), .val (.int (ix + (2 : Int32)))] [])
                                    refine own_iloadN X0 hx (hb hby d4_245) rfl ?_
                                    have hnl : pl_nl ((xs.getD ix.toNatClampNeg 0) &&& (255 : Int32)) ((xs.getD (ix + (1 : Int32)).toNatClampNeg 0) &&& (255 : Int32)) (xs.getD (ix + (2 : Int32)).toNatClampNeg 0) (xs.getD (ix + (3 : Int32)).toNatClampNeg 0) (en - ix) = 0 := by rw [pl_nl, if_neg hc21, if_neg hc45, if_pos hc53, if_neg hc67, if_pos hc75, if_neg hc125, if_neg hc133, if_pos hc144, if_pos hc162, if_neg hc185, if_neg hc205, if_neg hc212, if_neg hc242_2]
                                    refine own_retI X0 hx Bd.returns hlk (hb hby d4_246) ?_ (by decide) (by decide)
                                    refine ⟨?_, N0, e0⟩
                                    show some (Value.int _) = some (Value.int (pl_nu xs en 8 fr))
                                    rw [← hr, pl_nu, if_pos hlt, if_pos hnl]
                              · have hc212 : (143 : Int32) < ((xs.getD (ix + (1 : Int32)).toNatClampNeg 0) &&& (255 : Int32)) := own_le0 hc
                                clear hc
                                show own_R p e below s _ _ _ s₁ (mkF m 215 #[.val (.ref a1), .val (.int fr), .val (.int en), .val (.int ix), .val (.int ((xs.getD ix.toNatClampNeg 0) &&& (255 : Int32))), .val (.int (4 : Int32)), .val (.int (144 : Int32)), .val (.int (143 : Int32)), .val (.int ((xs.getD (ix + (1 : Int32)).toNatClampNeg 0) &&& (255 : Int32))), s9] [])
                                refine own_iloadN X0 hx (hb hby d4_215) rfl ?_
                                have hnl : pl_nl ((xs.getD ix.toNatClampNeg 0) &&& (255 : Int32)) ((xs.getD (ix + (1 : Int32)).toNatClampNeg 0) &&& (255 : Int32)) (xs.getD (ix + (2 : Int32)).toNatClampNeg 0) (xs.getD (ix + (3 : Int32)).toNatClampNeg 0) (en - ix) = 0 := by rw [pl_nl, if_neg hc21, if_neg hc45, if_pos hc53, if_neg hc67, if_pos hc75, if_neg hc125, if_neg hc133, if_pos hc144, if_pos hc162, if_neg hc185, if_neg hc205, if_pos hc212]
                                refine own_retI X0 hx Bd.returns hlk (hb hby d4_216) ?_ (by decide) (by decide)
                                refine ⟨?_, N0, e0⟩
                                show some (Value.int _) = some (Value.int (pl_nu xs en 8 fr))
                                rw [← hr, pl_nu, if_pos hlt, if_pos hnl]
                          · have hc185 : (en - ix) < (4 : Int32) := own_ge0 hc
                            clear hc
                            show own_R p e below s _ _ _ s₁ (mkF m 188 #[.val (.ref a1), .val (.int fr), .val (.int en), .val (.int ix), .val (.int ((xs.getD ix.toNatClampNeg 0) &&& (255 : Int32))), .val (.int (4 : Int32)), .val (.int (144 : Int32)), .val (.int (143 : Int32)), s8, s9] [])
                            refine own_iloadN X0 hx (hb hby d4_188) rfl ?_
                            have hnl : pl_nl ((xs.getD ix.toNatClampNeg 0) &&& (255 : Int32)) ((xs.getD (ix + (1 : Int32)).toNatClampNeg 0) &&& (255 : Int32)) (xs.getD (ix + (2 : Int32)).toNatClampNeg 0) (xs.getD (ix + (3 : Int32)).toNatClampNeg 0) (en - ix) = 0 := by rw [pl_nl, if_neg hc21, if_neg hc45, if_pos hc53, if_neg hc67, if_pos hc75, if_neg hc125, if_neg hc133, if_pos hc144, if_pos hc162, if_pos hc185]
                            refine own_retI X0 hx Bd.returns hlk (hb hby d4_189) ?_ (by decide) (by decide)
                            refine ⟨?_, N0, e0⟩
                            show some (Value.int _) = some (Value.int (pl_nu xs en 8 fr))
                            rw [← hr, pl_nu, if_pos hlt, if_pos hnl]
                · have hc75 : ¬ (239 : Int32) < ((xs.getD ix.toNatClampNeg 0) &&& (255 : Int32)) := own_gt0 hc
                  clear hc
                  show own_R p e below s _ _ _ s₁ (mkF m 78 #[.val (.ref a1), .val (.int fr), .val (.int en), .val (.int ix), .val (.int ((xs.getD ix.toNatClampNeg 0) &&& (255 : Int32))), s5, .val (.int (128 : Int32)), .val (.int (191 : Int32)), s8, s9] [])
                  refine own_iconst X0 hx (3 : Int32) (hb hby d4_78) rfl ?_
                  refine own_istore X0 hx (hb hby d4_79) (l' := #[.val (.ref a1), .val (.int fr), .val (.int en), .val (.int ix), .val (.int ((xs.getD ix.toNatClampNeg 0) &&& (255 : Int32))), .val (.int (3 : Int32)), .val (.int (128 : Int32)), .val (.int (191 : Int32)), s8, s9]) (by rcases hs5 with rfl | ⟨w, rfl, hw'⟩ <;> first | rfl | (cases w <;> first | rfl | (simp [Value.category] at hw'))) ?_
                  refine own_iload X0 hx (hb hby d4_81) rfl ?_
                  refine own_sipush X0 hx (224 : Int32) (hb hby d4_83) rfl ?_
                  refine own_icmp X0 hx (hb hby d4_86) (pc' := 95) (by decide) (by decide) (fun hc => ?_) (fun hc => ?_)
                  · have hc86 : ¬ ((xs.getD ix.toNatClampNeg 0) &&& (255 : Int32)) = (224 : Int32) := own_ne1 hc
                    clear hc
                    show own_R p e below s _ _ _ s₁ (mkF m 95 #[.val (.ref a1), .val (.int fr), .val (.int en), .val (.int ix), .val (.int ((xs.getD ix.toNatClampNeg 0) &&& (255 : Int32))), .val (.int (3 : Int32)), .val (.int (128 : Int32)), .val (.int (191 : Int32)), s8, s9] [])
                    refine own_iload X0 hx (hb hby d4_95) rfl ?_
                    refine own_istore X0 hx (hb hby d4_97) (l' := #[.val (.ref a1), .val (.int fr), .val (.int en), .val (.int ix), .val (.int ((xs.getD ix.toNatClampNeg 0) &&& (255 : Int32))), .val (.int (3 : Int32)), .val (.int (128 : Int32)), .val (.int (191 : Int32)), s8, s9]) rfl ?_
                    refine own_iload X0 hx (hb hby d4_99) rfl ?_
                    refine own_sipush X0 hx (237 : Int32) (hb hby d4_101) rfl ?_
                    refine own_icmp X0 hx (hb hby d4_104) (pc' := 113) (by decide) (by decide) (fun hc => ?_) (fun hc => ?_)
                    · have hc104 : ¬ ((xs.getD ix.toNatClampNeg 0) &&& (255 : Int32)) = (237 : Int32) := own_ne1 hc
                      clear hc
                      show own_R p e below s _ _ _ s₁ (mkF m 113 #[.val (.ref a1), .val (.int fr), .val (.int en), .val (.int ix), .val (.int ((xs.getD ix.toNatClampNeg 0) &&& (255 : Int32))), .val (.int (3 : Int32)), .val (.int (128 : Int32)), .val (.int (191 : Int32)), s8, s9] [])
                      refine own_iload X0 hx (hb hby d4_113) rfl ?_
                      refine own_istore X0 hx (hb hby d4_115) (l' := #[.val (.ref a1), .val (.int fr), .val (.int en), .val (.int ix), .val (.int ((xs.getD ix.toNatClampNeg 0) &&& (255 : Int32))), .val (.int (3 : Int32)), .val (.int (128 : Int32)), .val (.int (191 : Int32)), s8, s9]) rfl ?_
                      refine own_goto X0 hx (hb hby d4_117) (pc' := 180) (by decide) (by decide) ?_
                      show own_R p e below s _ _ _ s₁ (mkF m 180 #[.val (.ref a1), .val (.int fr), .val (.int en), .val (.int ix), .val (.int ((xs.getD ix.toNatClampNeg 0) &&& (255 : Int32))), .val (.int (3 : Int32)), .val (.int (128 : Int32)), .val (.int (191 : Int32)), s8, s9] [])
                      refine own_iloadN X0 hx (hb hby d4_180) rfl ?_
                      refine own_iloadN X0 hx (hb hby d4_181) rfl ?_
                      refine own_isub X0 hx (hb hby d4_182) ?_
                      refine own_iload X0 hx (hb hby d4_183) rfl ?_
                      refine own_icmp X0 hx (hb hby d4_185) (pc' := 190) (by decide) (by decide) (fun hc => ?_) (fun hc => ?_)
                      · have hc185 : ¬ (en - ix) < (3 : Int32) := own_ge1 hc
                        clear hc
                        show own_R p e below s _ _ _ s₁ (mkF m 190 #[.val (.ref a1), .val (.int fr), .val (.int en), .val (.int ix), .val (.int ((xs.getD ix.toNatClampNeg 0) &&& (255 : Int32))), .val (.int (3 : Int32)), .val (.int (128 : Int32)), .val (.int (191 : Int32)), s8, s9] [])
                        refine own_aloadN X0 hx (hb hby d4_190) rfl rfl ?_
                        refine own_iloadN X0 hx (hb hby d4_191) rfl ?_
                        refine own_iconst X0 hx (1 : Int32) (hb hby d4_192) rfl ?_
                        refine own_iadd X0 hx (hb hby d4_193) ?_
                        refine own_baload X0 hx hZ e0 hV (v := .int (xs.getD (ix + (1 : Int32)).toNatClampNeg 0)) (pl_at1 ix en (3 : Int32) h0' hlt h8 (by decide) hc185) (pl_gd _ _) (hb hby d4_194) ?_
                        show own_R p e below s _ _ _ s₁ (mkF m 195 #[.val (.ref a1), .val (.int fr), .val (.int en), .val (.int ix), .val (.int ((xs.getD ix.toNatClampNeg 0) &&& (255 : Int32))), .val (.int (3 : Int32)), .val (.int (128 : Int32)), .val (.int (191 : Int32)), s8, s9] [(.int (xs.getD (ix + (1 : Int32)).toNatClampNeg 0))])
                        refine own_sipush X0 hx (255 : Int32) (hb hby d4_195) rfl ?_
                        refine own_iand X0 hx (hb hby d4_198) ?_
                        refine own_istore X0 hx (hb hby d4_199) (l' := #[.val (.ref a1), .val (.int fr), .val (.int en), .val (.int ix), .val (.int ((xs.getD ix.toNatClampNeg 0) &&& (255 : Int32))), .val (.int (3 : Int32)), .val (.int (128 : Int32)), .val (.int (191 : Int32)), .val (.int ((xs.getD (ix + (1 : Int32)).toNatClampNeg 0) &&& (255 : Int32))), s9]) (by rcases hs8 with rfl | ⟨w, rfl, hw'⟩ <;> first | rfl | (cases w <;> first | rfl | (simp [Value.category] at hw'))) ?_
                        refine own_iload X0 hx (hb hby d4_201) rfl ?_
                        refine own_iload X0 hx (hb hby d4_203) rfl ?_
                        refine own_icmp X0 hx (hb hby d4_205) (pc' := 215) (by decide) (by decide) (fun hc => ?_) (fun hc => ?_)
                        · have hc205 : ((xs.getD (ix + (1 : Int32)).toNatClampNeg 0) &&& (255 : Int32)) < (128 : Int32) := own_lt1 hc
                          clear hc
                          show own_R p e below s _ _ _ s₁ (mkF m 215 #[.val (.ref a1), .val (.int fr), .val (.int en), .val (.int ix), .val (.int ((xs.getD ix.toNatClampNeg 0) &&& (255 : Int32))), .val (.int (3 : Int32)), .val (.int (128 : Int32)), .val (.int (191 : Int32)), .val (.int ((xs.getD (ix + (1 : Int32)).toNatClampNeg 0) &&& (255 : Int32))), s9] [])
                          refine own_iloadN X0 hx (hb hby d4_215) rfl ?_
                          have hnl : pl_nl ((xs.getD ix.toNatClampNeg 0) &&& (255 : Int32)) ((xs.getD (ix + (1 : Int32)).toNatClampNeg 0) &&& (255 : Int32)) (xs.getD (ix + (2 : Int32)).toNatClampNeg 0) (xs.getD (ix + (3 : Int32)).toNatClampNeg 0) (en - ix) = 0 := by rw [pl_nl, if_neg hc21, if_neg hc45, if_pos hc53, if_neg hc67, if_neg hc75, if_neg hc86, if_neg hc104, if_neg hc185, if_pos hc205]
                          refine own_retI X0 hx Bd.returns hlk (hb hby d4_216) ?_ (by decide) (by decide)
                          refine ⟨?_, N0, e0⟩
                          show some (Value.int _) = some (Value.int (pl_nu xs en 8 fr))
                          rw [← hr, pl_nu, if_pos hlt, if_pos hnl]
                        · have hc205 : ¬ ((xs.getD (ix + (1 : Int32)).toNatClampNeg 0) &&& (255 : Int32)) < (128 : Int32) := own_lt0 hc
                          clear hc
                          show own_R p e below s _ _ _ s₁ (mkF m 208 #[.val (.ref a1), .val (.int fr), .val (.int en), .val (.int ix), .val (.int ((xs.getD ix.toNatClampNeg 0) &&& (255 : Int32))), .val (.int (3 : Int32)), .val (.int (128 : Int32)), .val (.int (191 : Int32)), .val (.int ((xs.getD (ix + (1 : Int32)).toNatClampNeg 0) &&& (255 : Int32))), s9] [])
                          refine own_iload X0 hx (hb hby d4_208) rfl ?_
                          refine own_iload X0 hx (hb hby d4_210) rfl ?_
                          refine own_icmp X0 hx (hb hby d4_212) (pc' := 217) (by decide) (by decide) (fun hc => ?_) (fun hc => ?_)
                          · have hc212 : ¬ (191 : Int32) < ((xs.getD (ix + (1 : Int32)).toNatClampNeg 0) &&& (255 : Int32)) := own_le1 hc
                            clear hc
                            show own_R p e below s _ _ _ s₁ (mkF m 217 #[.val (.ref a1), .val (.int fr), .val (.int en), .val (.int ix), .val (.int ((xs.getD ix.toNatClampNeg 0) &&& (255 : Int32))), .val (.int (3 : Int32)), .val (.int (128 : Int32)), .val (.int (191 : Int32)), .val (.int ((xs.getD (ix + (1 : Int32)).toNatClampNeg 0) &&& (255 : Int32))), s9] [])
                            refine own_iloadN X0 hx (hb hby d4_217) rfl ?_
                            refine own_iconst X0 hx (2 : Int32) (hb hby d4_218) rfl ?_
                            refine own_iadd X0 hx (hb hby d4_219) ?_
                            refine own_istore X0 hx (hb hby d4_220) (l' := #[.val (.ref a1), .val (.int fr), .val (.int en), .val (.int ix), .val (.int ((xs.getD ix.toNatClampNeg 0) &&& (255 : Int32))), .val (.int (3 : Int32)), .val (.int (128 : Int32)), .val (.int (191 : Int32)), .val (.int ((xs.getD (ix + (1 : Int32)).toNatClampNeg 0) &&& (255 : Int32))), .val (.int (ix + (2 : Int32)))]) (by rcases hs9 with rfl | ⟨w, rfl, hw'⟩ <;> first | rfl | (cases w <;> first | rfl | (simp [Value.category] at hw'))) ?_
                            refine own_iload X0 hx (hb hby d4_222) rfl ?_
                            refine own_iloadN X0 hx (hb hby d4_224) rfl ?_
                            refine own_iload X0 hx (hb hby d4_225) rfl ?_
                            refine own_iadd X0 hx (hb hby d4_227) ?_
                            refine own_icmp X0 hx (hb hby d4_228) (pc' := 253) (by decide) (by decide) (fun hc => ?_) (fun hc => ?_)
                            · have hl2 : ¬ (ix + (2 : Int32)) < (ix + (3 : Int32)) := own_ge1 hc
                              exfalso; obtain ⟨d1, d2⟩ := pl_d ix en h0' hlt h8; obtain ⟨a1, a2, a3, a4, a5, a6⟩ := pl_off ix h0' d2; rw [Int32.lt_iff_toInt_lt] at hl2; omega
                            · have hl2 : (ix + (2 : Int32)) < (ix + (3 : Int32)) := own_ge0 hc
                              clear hc
                              show own_R p e below s _ _ _ s₁ (mkF m 231 #[.val (.ref a1), .val (.int fr), .val (.int en), .val (.int ix), .val (.int ((xs.getD ix.toNatClampNeg 0) &&& (255 : Int32))), .val (.int (3 : Int32)), .val (.int (128 : Int32)), .val (.int (191 : Int32)), .val (.int ((xs.getD (ix + (1 : Int32)).toNatClampNeg 0) &&& (255 : Int32))), .val (.int (ix + (2 : Int32)))] [])
                              refine own_aloadN X0 hx (hb hby d4_231) rfl rfl ?_
                              refine own_iload X0 hx (hb hby d4_232) rfl ?_
                              refine own_baload X0 hx hZ e0 hV (v := .int (xs.getD (ix + (2 : Int32)).toNatClampNeg 0)) (pl_at2 ix en (3 : Int32) h0' hlt h8 (by decide) hc185) (pl_gd _ _) (hb hby d4_234) ?_
                              show own_R p e below s _ _ _ s₁ (mkF m 235 #[.val (.ref a1), .val (.int fr), .val (.int en), .val (.int ix), .val (.int ((xs.getD ix.toNatClampNeg 0) &&& (255 : Int32))), .val (.int (3 : Int32)), .val (.int (128 : Int32)), .val (.int (191 : Int32)), .val (.int ((xs.getD (ix + (1 : Int32)).toNatClampNeg 0) &&& (255 : Int32))), .val (.int (ix + (2 : Int32)))] [(.int (xs.getD (ix + (2 : Int32)).toNatClampNeg 0))])
                              refine own_sipush X0 hx (192 : Int32) (hb hby d4_235) rfl ?_
                              refine own_iand X0 hx (hb hby d4_238) ?_
                              refine own_sipush X0 hx (128 : Int32) (hb hby d4_239) rfl ?_
                              refine own_icmp X0 hx (hb hby d4_242) (pc' := 247) (by decide) (by decide) (fun hc => ?_) (fun hc => ?_)
                              · have hc242_2 : ((xs.getD (ix + (2 : Int32)).toNatClampNeg 0) &&& (192 : Int32)) = (128 : Int32) := own_eq1 hc
                                clear hc
                                show own_R p e below s _ _ _ s₁ (mkF m 247 #[.val (.ref a1), .val (.int fr), .val (.int en), .val (.int ix), .val (.int ((xs.getD ix.toNatClampNeg 0) &&& (255 : Int32))), .val (.int (3 : Int32)), .val (.int (128 : Int32)), .val (.int (191 : Int32)), .val (.int ((xs.getD (ix + (1 : Int32)).toNatClampNeg 0) &&& (255 : Int32))), .val (.int (ix + (2 : Int32)))] [])
                                refine own_iinc X0 hx (1 : Int32) (hb hby d4_247) rfl rfl (l' := #[.val (.ref a1), .val (.int fr), .val (.int en), .val (.int ix), .val (.int ((xs.getD ix.toNatClampNeg 0) &&& (255 : Int32))), .val (.int (3 : Int32)), .val (.int (128 : Int32)), .val (.int (191 : Int32)), .val (.int ((xs.getD (ix + (1 : Int32)).toNatClampNeg 0) &&& (255 : Int32))), .val (.int ((ix + (2 : Int32)) + (1 : Int32)))]) rfl ?_
                                refine own_goto X0 hx (hb hby d4_250) (pc' := 222) (by decide) (by decide) ?_
                                show own_R p e below s _ _ _ s₁ (mkF m 222 #[.val (.ref a1), .val (.int fr), .val (.int en), .val (.int ix), .val (.int ((xs.getD ix.toNatClampNeg 0) &&& (255 : Int32))), .val (.int (3 : Int32)), .val (.int (128 : Int32)), .val (.int (191 : Int32)), .val (.int ((xs.getD (ix + (1 : Int32)).toNatClampNeg 0) &&& (255 : Int32))), .val (.int ((ix + (2 : Int32)) + (1 : Int32)))] [])
                                refine own_iload X0 hx (hb hby d4_222) rfl ?_
                                refine own_iloadN X0 hx (hb hby d4_224) rfl ?_
                                refine own_iload X0 hx (hb hby d4_225) rfl ?_
                                refine own_iadd X0 hx (hb hby d4_227) ?_
                                refine own_icmp X0 hx (hb hby d4_228) (pc' := 253) (by decide) (by decide) (fun hc => ?_) (fun hc => ?_)
                                · have hl3 : ¬ ((ix + (2 : Int32)) + (1 : Int32)) < (ix + (3 : Int32)) := own_ge1 hc
                                  clear hc
                                  show own_R p e below s _ _ _ s₁ (mkF m 253 #[.val (.ref a1), .val (.int fr), .val (.int en), .val (.int ix), .val (.int ((xs.getD ix.toNatClampNeg 0) &&& (255 : Int32))), .val (.int (3 : Int32)), .val (.int (128 : Int32)), .val (.int (191 : Int32)), .val (.int ((xs.getD (ix + (1 : Int32)).toNatClampNeg 0) &&& (255 : Int32))), .val (.int ((ix + (2 : Int32)) + (1 : Int32)))] [])
                                  refine own_iloadN X0 hx (hb hby d4_253) rfl ?_
                                  refine own_iload X0 hx (hb hby d4_254) rfl ?_
                                  refine own_iadd X0 hx (hb hby d4_256) ?_
                                  refine own_istoreN X0 hx (hb hby d4_257) (l' := #[.val (.ref a1), .val (.int fr), .val (.int en), .val (.int (ix + (3 : Int32))), .val (.int ((xs.getD ix.toNatClampNeg 0) &&& (255 : Int32))), .val (.int (3 : Int32)), .val (.int (128 : Int32)), .val (.int (191 : Int32)), .val (.int ((xs.getD (ix + (1 : Int32)).toNatClampNeg 0) &&& (255 : Int32))), .val (.int ((ix + (2 : Int32)) + (1 : Int32)))]) rfl ?_
                                  refine own_goto X0 hx (hb hby d4_258) (pc' := 2) (by decide) (by decide) ?_
                                  show own_R p e below s _ _ _ s₁ (mkF m 2 #[.val (.ref a1), .val (.int fr), .val (.int en), .val (.int (ix + (3 : Int32))), .val (.int ((xs.getD ix.toNatClampNeg 0) &&& (255 : Int32))), .val (.int (3 : Int32)), .val (.int (128 : Int32)), .val (.int (191 : Int32)), .val (.int ((xs.getD (ix + (1 : Int32)).toNatClampNeg 0) &&& (255 : Int32))), .val (.int ((ix + (2 : Int32)) + (1 : Int32)))] [])
                                  have hnl : pl_nl ((xs.getD ix.toNatClampNeg 0) &&& (255 : Int32)) ((xs.getD (ix + (1 : Int32)).toNatClampNeg 0) &&& (255 : Int32)) (xs.getD (ix + (2 : Int32)).toNatClampNeg 0) (xs.getD (ix + (3 : Int32)).toNatClampNeg 0) (en - ix) = (3 : Int32) := by rw [pl_nl, if_neg hc21, if_neg hc45, if_pos hc53, if_neg hc67, if_neg hc75, if_neg hc86, if_neg hc104, if_neg hc185, if_neg hc205, if_neg hc212, if_pos hc242_2]
                                  obtain ⟨u0, uk⟩ := pl_adv ix en (3 : Int32) k h0' hlt h8 hk' (by decide)
                                  exact ih _ _ _ _ _ _ _ (One.val rfl) (One.val rfl) (One.val rfl) (One.val rfl) (One.val rfl) (One.val rfl) u0 uk (by rw [← hr]; conv => rhs; rw [pl_nu, if_pos hlt, hnl, if_neg (by decide)])
                                · have hl3 : ((ix + (2 : Int32)) + (1 : Int32)) < (ix + (3 : Int32)) := own_ge0 hc
                                  exfalso; obtain ⟨d1, d2⟩ := pl_d ix en h0' hlt h8; obtain ⟨a1, a2, a3, a4, a5, a6⟩ := pl_off ix h0' d2; rw [Int32.lt_iff_toInt_lt] at hl3; omega
                              · have hc242_2 : ¬ ((xs.getD (ix + (2 : Int32)).toNatClampNeg 0) &&& (192 : Int32)) = (128 : Int32) := own_eq0 hc
                                clear hc
                                show own_R p e below s _ _ _ s₁ (mkF m 245 #[.val (.ref a1), .val (.int fr), .val (.int en), .val (.int ix), .val (.int ((xs.getD ix.toNatClampNeg 0) &&& (255 : Int32))), .val (.int (3 : Int32)), .val (.int (128 : Int32)), .val (.int (191 : Int32)), .val (.int ((xs.getD (ix + (1 : Int32)).toNatClampNeg 0) &&& (255 : Int32))), .val (.int (ix + (2 : Int32)))] [])
                                refine own_iloadN X0 hx (hb hby d4_245) rfl ?_
                                have hnl : pl_nl ((xs.getD ix.toNatClampNeg 0) &&& (255 : Int32)) ((xs.getD (ix + (1 : Int32)).toNatClampNeg 0) &&& (255 : Int32)) (xs.getD (ix + (2 : Int32)).toNatClampNeg 0) (xs.getD (ix + (3 : Int32)).toNatClampNeg 0) (en - ix) = 0 := by rw [pl_nl, if_neg hc21, if_neg hc45, if_pos hc53, if_neg hc67, if_neg hc75, if_neg hc86, if_neg hc104, if_neg hc185, if_neg hc205, if_neg hc212, if_neg hc242_2]
                                refine own_retI X0 hx Bd.returns hlk (hb hby d4_246) ?_ (by decide) (by decide)
                                refine ⟨?_, N0, e0⟩
                                show some (Value.int _) = some (Value.int (pl_nu xs en 8 fr))
                                rw [← hr, pl_nu, if_pos hlt, if_pos hnl]
                          · have hc212 : (191 : Int32) < ((xs.getD (ix + (1 : Int32)).toNatClampNeg 0) &&& (255 : Int32)) := own_le0 hc
                            clear hc
                            show own_R p e below s _ _ _ s₁ (mkF m 215 #[.val (.ref a1), .val (.int fr), .val (.int en), .val (.int ix), .val (.int ((xs.getD ix.toNatClampNeg 0) &&& (255 : Int32))), .val (.int (3 : Int32)), .val (.int (128 : Int32)), .val (.int (191 : Int32)), .val (.int ((xs.getD (ix + (1 : Int32)).toNatClampNeg 0) &&& (255 : Int32))), s9] [])
                            refine own_iloadN X0 hx (hb hby d4_215) rfl ?_
                            have hnl : pl_nl ((xs.getD ix.toNatClampNeg 0) &&& (255 : Int32)) ((xs.getD (ix + (1 : Int32)).toNatClampNeg 0) &&& (255 : Int32)) (xs.getD (ix + (2 : Int32)).toNatClampNeg 0) (xs.getD (ix + (3 : Int32)).toNatClampNeg 0) (en - ix) = 0 := by rw [pl_nl, if_neg hc21, if_neg hc45, if_pos hc53, if_neg hc67, if_neg hc75, if_neg hc86, if_neg hc104, if_neg hc185, if_neg hc205, if_pos hc212]
                            refine own_retI X0 hx Bd.returns hlk (hb hby d4_216) ?_ (by decide) (by decide)
                            refine ⟨?_, N0, e0⟩
                            show some (Value.int _) = some (Value.int (pl_nu xs en 8 fr))
                            rw [← hr, pl_nu, if_pos hlt, if_pos hnl]
                      · have hc185 : (en - ix) < (3 : Int32) := own_ge0 hc
                        clear hc
                        show own_R p e below s _ _ _ s₁ (mkF m 188 #[.val (.ref a1), .val (.int fr), .val (.int en), .val (.int ix), .val (.int ((xs.getD ix.toNatClampNeg 0) &&& (255 : Int32))), .val (.int (3 : Int32)), .val (.int (128 : Int32)), .val (.int (191 : Int32)), s8, s9] [])
                        refine own_iloadN X0 hx (hb hby d4_188) rfl ?_
                        have hnl : pl_nl ((xs.getD ix.toNatClampNeg 0) &&& (255 : Int32)) ((xs.getD (ix + (1 : Int32)).toNatClampNeg 0) &&& (255 : Int32)) (xs.getD (ix + (2 : Int32)).toNatClampNeg 0) (xs.getD (ix + (3 : Int32)).toNatClampNeg 0) (en - ix) = 0 := by rw [pl_nl, if_neg hc21, if_neg hc45, if_pos hc53, if_neg hc67, if_neg hc75, if_neg hc86, if_neg hc104, if_pos hc185]
                        refine own_retI X0 hx Bd.returns hlk (hb hby d4_189) ?_ (by decide) (by decide)
                        refine ⟨?_, N0, e0⟩
                        show some (Value.int _) = some (Value.int (pl_nu xs en 8 fr))
                        rw [← hr, pl_nu, if_pos hlt, if_pos hnl]
                    · have hc104 : ((xs.getD ix.toNatClampNeg 0) &&& (255 : Int32)) = (237 : Int32) := own_ne0 hc
                      clear hc
                      show own_R p e below s _ _ _ s₁ (mkF m 107 #[.val (.ref a1), .val (.int fr), .val (.int en), .val (.int ix), .val (.int ((xs.getD ix.toNatClampNeg 0) &&& (255 : Int32))), .val (.int (3 : Int32)), .val (.int (128 : Int32)), .val (.int (191 : Int32)), s8, s9] [])
                      refine own_sipush X0 hx (159 : Int32) (hb hby d4_107) rfl ?_
                      refine own_goto X0 hx (hb hby d4_110) (pc' := 115) (by decide) (by decide) ?_
                      show own_R p e below s _ _ _ s₁ (mkF m 115 #[.val (.ref a1), .val (.int fr), .val (.int en), .val (.int ix), .val (.int ((xs.getD ix.toNatClampNeg 0) &&& (255 : Int32))), .val (.int (3 : Int32)), .val (.int (128 : Int32)), .val (.int (191 : Int32)), s8, s9] [(.int (159 : Int32))])
                      refine own_istore X0 hx (hb hby d4_115) (l' := #[.val (.ref a1), .val (.int fr), .val (.int en), .val (.int ix), .val (.int ((xs.getD ix.toNatClampNeg 0) &&& (255 : Int32))), .val (.int (3 : Int32)), .val (.int (128 : Int32)), .val (.int (159 : Int32)), s8, s9]) rfl ?_
                      refine own_goto X0 hx (hb hby d4_117) (pc' := 180) (by decide) (by decide) ?_
                      show own_R p e below s _ _ _ s₁ (mkF m 180 #[.val (.ref a1), .val (.int fr), .val (.int en), .val (.int ix), .val (.int ((xs.getD ix.toNatClampNeg 0) &&& (255 : Int32))), .val (.int (3 : Int32)), .val (.int (128 : Int32)), .val (.int (159 : Int32)), s8, s9] [])
                      refine own_iloadN X0 hx (hb hby d4_180) rfl ?_
                      refine own_iloadN X0 hx (hb hby d4_181) rfl ?_
                      refine own_isub X0 hx (hb hby d4_182) ?_
                      refine own_iload X0 hx (hb hby d4_183) rfl ?_
                      refine own_icmp X0 hx (hb hby d4_185) (pc' := 190) (by decide) (by decide) (fun hc => ?_) (fun hc => ?_)
                      · have hc185 : ¬ (en - ix) < (3 : Int32) := own_ge1 hc
                        clear hc
                        show own_R p e below s _ _ _ s₁ (mkF m 190 #[.val (.ref a1), .val (.int fr), .val (.int en), .val (.int ix), .val (.int ((xs.getD ix.toNatClampNeg 0) &&& (255 : Int32))), .val (.int (3 : Int32)), .val (.int (128 : Int32)), .val (.int (159 : Int32)), s8, s9] [])
                        refine own_aloadN X0 hx (hb hby d4_190) rfl rfl ?_
                        refine own_iloadN X0 hx (hb hby d4_191) rfl ?_
                        refine own_iconst X0 hx (1 : Int32) (hb hby d4_192) rfl ?_
                        refine own_iadd X0 hx (hb hby d4_193) ?_
                        refine own_baload X0 hx hZ e0 hV (v := .int (xs.getD (ix + (1 : Int32)).toNatClampNeg 0)) (pl_at1 ix en (3 : Int32) h0' hlt h8 (by decide) hc185) (pl_gd _ _) (hb hby d4_194) ?_
                        show own_R p e below s _ _ _ s₁ (mkF m 195 #[.val (.ref a1), .val (.int fr), .val (.int en), .val (.int ix), .val (.int ((xs.getD ix.toNatClampNeg 0) &&& (255 : Int32))), .val (.int (3 : Int32)), .val (.int (128 : Int32)), .val (.int (159 : Int32)), s8, s9] [(.int (xs.getD (ix + (1 : Int32)).toNatClampNeg 0))])
                        refine own_sipush X0 hx (255 : Int32) (hb hby d4_195) rfl ?_
                        refine own_iand X0 hx (hb hby d4_198) ?_
                        refine own_istore X0 hx (hb hby d4_199) (l' := #[.val (.ref a1), .val (.int fr), .val (.int en), .val (.int ix), .val (.int ((xs.getD ix.toNatClampNeg 0) &&& (255 : Int32))), .val (.int (3 : Int32)), .val (.int (128 : Int32)), .val (.int (159 : Int32)), .val (.int ((xs.getD (ix + (1 : Int32)).toNatClampNeg 0) &&& (255 : Int32))), s9]) (by rcases hs8 with rfl | ⟨w, rfl, hw'⟩ <;> first | rfl | (cases w <;> first | rfl | (simp [Value.category] at hw'))) ?_
                        refine own_iload X0 hx (hb hby d4_201) rfl ?_
                        refine own_iload X0 hx (hb hby d4_203) rfl ?_
                        refine own_icmp X0 hx (hb hby d4_205) (pc' := 215) (by decide) (by decide) (fun hc => ?_) (fun hc => ?_)
                        · have hc205 : ((xs.getD (ix + (1 : Int32)).toNatClampNeg 0) &&& (255 : Int32)) < (128 : Int32) := own_lt1 hc
                          clear hc
                          show own_R p e below s _ _ _ s₁ (mkF m 215 #[.val (.ref a1), .val (.int fr), .val (.int en), .val (.int ix), .val (.int ((xs.getD ix.toNatClampNeg 0) &&& (255 : Int32))), .val (.int (3 : Int32)), .val (.int (128 : Int32)), .val (.int (159 : Int32)), .val (.int ((xs.getD (ix + (1 : Int32)).toNatClampNeg 0) &&& (255 : Int32))), s9] [])
                          refine own_iloadN X0 hx (hb hby d4_215) rfl ?_
                          have hnl : pl_nl ((xs.getD ix.toNatClampNeg 0) &&& (255 : Int32)) ((xs.getD (ix + (1 : Int32)).toNatClampNeg 0) &&& (255 : Int32)) (xs.getD (ix + (2 : Int32)).toNatClampNeg 0) (xs.getD (ix + (3 : Int32)).toNatClampNeg 0) (en - ix) = 0 := by rw [pl_nl, if_neg hc21, if_neg hc45, if_pos hc53, if_neg hc67, if_neg hc75, if_neg hc86, if_pos hc104, if_neg hc185, if_pos hc205]
                          refine own_retI X0 hx Bd.returns hlk (hb hby d4_216) ?_ (by decide) (by decide)
                          refine ⟨?_, N0, e0⟩
                          show some (Value.int _) = some (Value.int (pl_nu xs en 8 fr))
                          rw [← hr, pl_nu, if_pos hlt, if_pos hnl]
                        · have hc205 : ¬ ((xs.getD (ix + (1 : Int32)).toNatClampNeg 0) &&& (255 : Int32)) < (128 : Int32) := own_lt0 hc
                          clear hc
                          show own_R p e below s _ _ _ s₁ (mkF m 208 #[.val (.ref a1), .val (.int fr), .val (.int en), .val (.int ix), .val (.int ((xs.getD ix.toNatClampNeg 0) &&& (255 : Int32))), .val (.int (3 : Int32)), .val (.int (128 : Int32)), .val (.int (159 : Int32)), .val (.int ((xs.getD (ix + (1 : Int32)).toNatClampNeg 0) &&& (255 : Int32))), s9] [])
                          refine own_iload X0 hx (hb hby d4_208) rfl ?_
                          refine own_iload X0 hx (hb hby d4_210) rfl ?_
                          refine own_icmp X0 hx (hb hby d4_212) (pc' := 217) (by decide) (by decide) (fun hc => ?_) (fun hc => ?_)
                          · have hc212 : ¬ (159 : Int32) < ((xs.getD (ix + (1 : Int32)).toNatClampNeg 0) &&& (255 : Int32)) := own_le1 hc
                            clear hc
                            show own_R p e below s _ _ _ s₁ (mkF m 217 #[.val (.ref a1), .val (.int fr), .val (.int en), .val (.int ix), .val (.int ((xs.getD ix.toNatClampNeg 0) &&& (255 : Int32))), .val (.int (3 : Int32)), .val (.int (128 : Int32)), .val (.int (159 : Int32)), .val (.int ((xs.getD (ix + (1 : Int32)).toNatClampNeg 0) &&& (255 : Int32))), s9] [])
                            refine own_iloadN X0 hx (hb hby d4_217) rfl ?_
                            refine own_iconst X0 hx (2 : Int32) (hb hby d4_218) rfl ?_
                            refine own_iadd X0 hx (hb hby d4_219) ?_
                            refine own_istore X0 hx (hb hby d4_220) (l' := #[.val (.ref a1), .val (.int fr), .val (.int en), .val (.int ix), .val (.int ((xs.getD ix.toNatClampNeg 0) &&& (255 : Int32))), .val (.int (3 : Int32)), .val (.int (128 : Int32)), .val (.int (159 : Int32)), .val (.int ((xs.getD (ix + (1 : Int32)).toNatClampNeg 0) &&& (255 : Int32))), .val (.int (ix + (2 : Int32)))]) (by rcases hs9 with rfl | ⟨w, rfl, hw'⟩ <;> first | rfl | (cases w <;> first | rfl | (simp [Value.category] at hw'))) ?_
                            refine own_iload X0 hx (hb hby d4_222) rfl ?_
                            refine own_iloadN X0 hx (hb hby d4_224) rfl ?_
                            refine own_iload X0 hx (hb hby d4_225) rfl ?_
                            refine own_iadd X0 hx (hb hby d4_227) ?_
                            refine own_icmp X0 hx (hb hby d4_228) (pc' := 253) (by decide) (by decide) (fun hc => ?_) (fun hc => ?_)
                            · have hl2 : ¬ (ix + (2 : Int32)) < (ix + (3 : Int32)) := own_ge1 hc
                              exfalso; obtain ⟨d1, d2⟩ := pl_d ix en h0' hlt h8; obtain ⟨a1, a2, a3, a4, a5, a6⟩ := pl_off ix h0' d2; rw [Int32.lt_iff_toInt_lt] at hl2; omega
                            · have hl2 : (ix + (2 : Int32)) < (ix + (3 : Int32)) := own_ge0 hc
                              clear hc
                              show own_R p e below s _ _ _ s₁ (mkF m 231 #[.val (.ref a1), .val (.int fr), .val (.int en), .val (.int ix), .val (.int ((xs.getD ix.toNatClampNeg 0) &&& (255 : Int32))), .val (.int (3 : Int32)), .val (.int (128 : Int32)), .val (.int (159 : Int32)), .val (.int ((xs.getD (ix + (1 : Int32)).toNatClampNeg 0) &&& (255 : Int32))), .val (.int (ix + (2 : Int32)))] [])
                              refine own_aloadN X0 hx (hb hby d4_231) rfl rfl ?_
                              refine own_iload X0 hx (hb hby d4_232) rfl ?_
                              refine own_baload X0 hx hZ e0 hV (v := .int (xs.getD (ix + (2 : Int32)).toNatClampNeg 0)) (pl_at2 ix en (3 : Int32) h0' hlt h8 (by decide) hc185) (pl_gd _ _) (hb hby d4_234) ?_
                              show own_R p e below s _ _ _ s₁ (mkF m 235 #[.val (.ref a1), .val (.int fr), .val (.int en), .val (.int ix), .val (.int ((xs.getD ix.toNatClampNeg 0) &&& (255 : Int32))), .val (.int (3 : Int32)), .val (.int (128 : Int32)), .val (.int (159 : Int32)), .val (.int ((xs.getD (ix + (1 : Int32)).toNatClampNeg 0) &&& (255 : Int32))), .val (.int (ix + (2 : Int32)))] [(.int (xs.getD (ix + (2 : Int32)).toNatClampNeg 0))])
                              refine own_sipush X0 hx (192 : Int32) (hb hby d4_235) rfl ?_
                              refine own_iand X0 hx (hb hby d4_238) ?_
                              refine own_sipush X0 hx (128 : Int32) (hb hby d4_239) rfl ?_
                              refine own_icmp X0 hx (hb hby d4_242) (pc' := 247) (by decide) (by decide) (fun hc => ?_) (fun hc => ?_)
                              · have hc242_2 : ((xs.getD (ix + (2 : Int32)).toNatClampNeg 0) &&& (192 : Int32)) = (128 : Int32) := own_eq1 hc
                                clear hc
                                show own_R p e below s _ _ _ s₁ (mkF m 247 #[.val (.ref a1), .val (.int fr), .val (.int en), .val (.int ix), .val (.int ((xs.getD ix.toNatClampNeg 0) &&& (255 : Int32))), .val (.int (3 : Int32)), .val (.int (128 : Int32)), .val (.int (159 : Int32)), .val (.int ((xs.getD (ix + (1 : Int32)).toNatClampNeg 0) &&& (255 : Int32))), .val (.int (ix + (2 : Int32)))] [])
                                refine own_iinc X0 hx (1 : Int32) (hb hby d4_247) rfl rfl (l' := #[.val (.ref a1), .val (.int fr), .val (.int en), .val (.int ix), .val (.int ((xs.getD ix.toNatClampNeg 0) &&& (255 : Int32))), .val (.int (3 : Int32)), .val (.int (128 : Int32)), .val (.int (159 : Int32)), .val (.int ((xs.getD (ix + (1 : Int32)).toNatClampNeg 0) &&& (255 : Int32))), .val (.int ((ix + (2 : Int32)) + (1 : Int32)))]) rfl ?_
                                refine own_goto X0 hx (hb hby d4_250) (pc' := 222) (by decide) (by decide) ?_
                                show own_R p e below s _ _ _ s₁ (mkF m 222 #[.val (.ref a1), .val (.int fr), .val (.int en), .val (.int ix), .val (.int ((xs.getD ix.toNatClampNeg 0) &&& (255 : Int32))), .val (.int (3 : Int32)), .val (.int (128 : Int32)), .val (.int (159 : Int32)), .val (.int ((xs.getD (ix + (1 : Int32)).toNatClampNeg 0) &&& (255 : Int32))), .val (.int ((ix + (2 : Int32)) + (1 : Int32)))] [])
                                refine own_iload X0 hx (hb hby d4_222) rfl ?_
                                refine own_iloadN X0 hx (hb hby d4_224) rfl ?_
                                refine own_iload X0 hx (hb hby d4_225) rfl ?_
                                refine own_iadd X0 hx (hb hby d4_227) ?_
                                refine own_icmp X0 hx (hb hby d4_228) (pc' := 253) (by decide) (by decide) (fun hc => ?_) (fun hc => ?_)
                                · have hl3 : ¬ ((ix + (2 : Int32)) + (1 : Int32)) < (ix + (3 : Int32)) := own_ge1 hc
                                  clear hc
                                  show own_R p e below s _ _ _ s₁ (mkF m 253 #[.val (.ref a1), .val (.int fr), .val (.int en), .val (.int ix), .val (.int ((xs.getD ix.toNatClampNeg 0) &&& (255 : Int32))), .val (.int (3 : Int32)), .val (.int (128 : Int32)), .val (.int (159 : Int32)), .val (.int ((xs.getD (ix + (1 : Int32)).toNatClampNeg 0) &&& (255 : Int32))), .val (.int ((ix + (2 : Int32)) + (1 : Int32)))] [])
                                  refine own_iloadN X0 hx (hb hby d4_253) rfl ?_
                                  refine own_iload X0 hx (hb hby d4_254) rfl ?_
                                  refine own_iadd X0 hx (hb hby d4_256) ?_
                                  refine own_istoreN X0 hx (hb hby d4_257) (l' := #[.val (.ref a1), .val (.int fr), .val (.int en), .val (.int (ix + (3 : Int32))), .val (.int ((xs.getD ix.toNatClampNeg 0) &&& (255 : Int32))), .val (.int (3 : Int32)), .val (.int (128 : Int32)), .val (.int (159 : Int32)), .val (.int ((xs.getD (ix + (1 : Int32)).toNatClampNeg 0) &&& (255 : Int32))), .val (.int ((ix + (2 : Int32)) + (1 : Int32)))]) rfl ?_
                                  refine own_goto X0 hx (hb hby d4_258) (pc' := 2) (by decide) (by decide) ?_
                                  show own_R p e below s _ _ _ s₁ (mkF m 2 #[.val (.ref a1), .val (.int fr), .val (.int en), .val (.int (ix + (3 : Int32))), .val (.int ((xs.getD ix.toNatClampNeg 0) &&& (255 : Int32))), .val (.int (3 : Int32)), .val (.int (128 : Int32)), .val (.int (159 : Int32)), .val (.int ((xs.getD (ix + (1 : Int32)).toNatClampNeg 0) &&& (255 : Int32))), .val (.int ((ix + (2 : Int32)) + (1 : Int32)))] [])
                                  have hnl : pl_nl ((xs.getD ix.toNatClampNeg 0) &&& (255 : Int32)) ((xs.getD (ix + (1 : Int32)).toNatClampNeg 0) &&& (255 : Int32)) (xs.getD (ix + (2 : Int32)).toNatClampNeg 0) (xs.getD (ix + (3 : Int32)).toNatClampNeg 0) (en - ix) = (3 : Int32) := by rw [pl_nl, if_neg hc21, if_neg hc45, if_pos hc53, if_neg hc67, if_neg hc75, if_neg hc86, if_pos hc104, if_neg hc185, if_neg hc205, if_neg hc212, if_pos hc242_2]
                                  obtain ⟨u0, uk⟩ := pl_adv ix en (3 : Int32) k h0' hlt h8 hk' (by decide)
                                  exact ih _ _ _ _ _ _ _ (One.val rfl) (One.val rfl) (One.val rfl) (One.val rfl) (One.val rfl) (One.val rfl) u0 uk (by rw [← hr]; conv => rhs; rw [pl_nu, if_pos hlt, hnl, if_neg (by decide)])
                                · have hl3 : ((ix + (2 : Int32)) + (1 : Int32)) < (ix + (3 : Int32)) := own_ge0 hc
                                  exfalso; obtain ⟨d1, d2⟩ := pl_d ix en h0' hlt h8; obtain ⟨a1, a2, a3, a4, a5, a6⟩ := pl_off ix h0' d2; rw [Int32.lt_iff_toInt_lt] at hl3; omega
                              · have hc242_2 : ¬ ((xs.getD (ix + (2 : Int32)).toNatClampNeg 0) &&& (192 : Int32)) = (128 : Int32) := own_eq0 hc
                                clear hc
                                show own_R p e below s _ _ _ s₁ (mkF m 245 #[.val (.ref a1), .val (.int fr), .val (.int en), .val (.int ix), .val (.int ((xs.getD ix.toNatClampNeg 0) &&& (255 : Int32))), .val (.int (3 : Int32)), .val (.int (128 : Int32)), .val (.int (159 : Int32)), .val (.int ((xs.getD (ix + (1 : Int32)).toNatClampNeg 0) &&& (255 : Int32))), .val (.int (ix + (2 : Int32)))] [])
                                refine own_iloadN X0 hx (hb hby d4_245) rfl ?_
                                have hnl : pl_nl ((xs.getD ix.toNatClampNeg 0) &&& (255 : Int32)) ((xs.getD (ix + (1 : Int32)).toNatClampNeg 0) &&& (255 : Int32)) (xs.getD (ix + (2 : Int32)).toNatClampNeg 0) (xs.getD (ix + (3 : Int32)).toNatClampNeg 0) (en - ix) = 0 := by rw [pl_nl, if_neg hc21, if_neg hc45, if_pos hc53, if_neg hc67, if_neg hc75, if_neg hc86, if_pos hc104, if_neg hc185, if_neg hc205, if_neg hc212, if_neg hc242_2]
                                refine own_retI X0 hx Bd.returns hlk (hb hby d4_246) ?_ (by decide) (by decide)
                                refine ⟨?_, N0, e0⟩
                                show some (Value.int _) = some (Value.int (pl_nu xs en 8 fr))
                                rw [← hr, pl_nu, if_pos hlt, if_pos hnl]
                          · have hc212 : (159 : Int32) < ((xs.getD (ix + (1 : Int32)).toNatClampNeg 0) &&& (255 : Int32)) := own_le0 hc
                            clear hc
                            show own_R p e below s _ _ _ s₁ (mkF m 215 #[.val (.ref a1), .val (.int fr), .val (.int en), .val (.int ix), .val (.int ((xs.getD ix.toNatClampNeg 0) &&& (255 : Int32))), .val (.int (3 : Int32)), .val (.int (128 : Int32)), .val (.int (159 : Int32)), .val (.int ((xs.getD (ix + (1 : Int32)).toNatClampNeg 0) &&& (255 : Int32))), s9] [])
                            refine own_iloadN X0 hx (hb hby d4_215) rfl ?_
                            have hnl : pl_nl ((xs.getD ix.toNatClampNeg 0) &&& (255 : Int32)) ((xs.getD (ix + (1 : Int32)).toNatClampNeg 0) &&& (255 : Int32)) (xs.getD (ix + (2 : Int32)).toNatClampNeg 0) (xs.getD (ix + (3 : Int32)).toNatClampNeg 0) (en - ix) = 0 := by rw [pl_nl, if_neg hc21, if_neg hc45, if_pos hc53, if_neg hc67, if_neg hc75, if_neg hc86, if_pos hc104, if_neg hc185, if_neg hc205, if_pos hc212]
                            refine own_retI X0 hx Bd.returns hlk (hb hby d4_216) ?_ (by decide) (by decide)
                            refine ⟨?_, N0, e0⟩
                            show some (Value.int _) = some (Value.int (pl_nu xs en 8 fr))
                            rw [← hr, pl_nu, if_pos hlt, if_pos hnl]
                      · have hc185 : (en - ix) < (3 : Int32) := own_ge0 hc
                        clear hc
                        show own_R p e below s _ _ _ s₁ (mkF m 188 #[.val (.ref a1), .val (.int fr), .val (.int en), .val (.int ix), .val (.int ((xs.getD ix.toNatClampNeg 0) &&& (255 : Int32))), .val (.int (3 : Int32)), .val (.int (128 : Int32)), .val (.int (159 : Int32)), s8, s9] [])
                        refine own_iloadN X0 hx (hb hby d4_188) rfl ?_
                        have hnl : pl_nl ((xs.getD ix.toNatClampNeg 0) &&& (255 : Int32)) ((xs.getD (ix + (1 : Int32)).toNatClampNeg 0) &&& (255 : Int32)) (xs.getD (ix + (2 : Int32)).toNatClampNeg 0) (xs.getD (ix + (3 : Int32)).toNatClampNeg 0) (en - ix) = 0 := by rw [pl_nl, if_neg hc21, if_neg hc45, if_pos hc53, if_neg hc67, if_neg hc75, if_neg hc86, if_pos hc104, if_pos hc185]
                        refine own_retI X0 hx Bd.returns hlk (hb hby d4_189) ?_ (by decide) (by decide)
                        refine ⟨?_, N0, e0⟩
                        show some (Value.int _) = some (Value.int (pl_nu xs en 8 fr))
                        rw [← hr, pl_nu, if_pos hlt, if_pos hnl]
                  · have hc86 : ((xs.getD ix.toNatClampNeg 0) &&& (255 : Int32)) = (224 : Int32) := own_ne0 hc
                    clear hc
                    show own_R p e below s _ _ _ s₁ (mkF m 89 #[.val (.ref a1), .val (.int fr), .val (.int en), .val (.int ix), .val (.int ((xs.getD ix.toNatClampNeg 0) &&& (255 : Int32))), .val (.int (3 : Int32)), .val (.int (128 : Int32)), .val (.int (191 : Int32)), s8, s9] [])
                    refine own_sipush X0 hx (160 : Int32) (hb hby d4_89) rfl ?_
                    refine own_goto X0 hx (hb hby d4_92) (pc' := 97) (by decide) (by decide) ?_
                    show own_R p e below s _ _ _ s₁ (mkF m 97 #[.val (.ref a1), .val (.int fr), .val (.int en), .val (.int ix), .val (.int ((xs.getD ix.toNatClampNeg 0) &&& (255 : Int32))), .val (.int (3 : Int32)), .val (.int (128 : Int32)), .val (.int (191 : Int32)), s8, s9] [(.int (160 : Int32))])
                    refine own_istore X0 hx (hb hby d4_97) (l' := #[.val (.ref a1), .val (.int fr), .val (.int en), .val (.int ix), .val (.int ((xs.getD ix.toNatClampNeg 0) &&& (255 : Int32))), .val (.int (3 : Int32)), .val (.int (160 : Int32)), .val (.int (191 : Int32)), s8, s9]) rfl ?_
                    refine own_iload X0 hx (hb hby d4_99) rfl ?_
                    refine own_sipush X0 hx (237 : Int32) (hb hby d4_101) rfl ?_
                    refine own_icmp X0 hx (hb hby d4_104) (pc' := 113) (by decide) (by decide) (fun hc => ?_) (fun hc => ?_)
                    · have hc104 : ¬ ((xs.getD ix.toNatClampNeg 0) &&& (255 : Int32)) = (237 : Int32) := own_ne1 hc
                      clear hc
                      show own_R p e below s _ _ _ s₁ (mkF m 113 #[.val (.ref a1), .val (.int fr), .val (.int en), .val (.int ix), .val (.int ((xs.getD ix.toNatClampNeg 0) &&& (255 : Int32))), .val (.int (3 : Int32)), .val (.int (160 : Int32)), .val (.int (191 : Int32)), s8, s9] [])
                      refine own_iload X0 hx (hb hby d4_113) rfl ?_
                      refine own_istore X0 hx (hb hby d4_115) (l' := #[.val (.ref a1), .val (.int fr), .val (.int en), .val (.int ix), .val (.int ((xs.getD ix.toNatClampNeg 0) &&& (255 : Int32))), .val (.int (3 : Int32)), .val (.int (160 : Int32)), .val (.int (191 : Int32)), s8, s9]) rfl ?_
                      refine own_goto X0 hx (hb hby d4_117) (pc' := 180) (by decide) (by decide) ?_
                      show own_R p e below s _ _ _ s₁ (mkF m 180 #[.val (.ref a1), .val (.int fr), .val (.int en), .val (.int ix), .val (.int ((xs.getD ix.toNatClampNeg 0) &&& (255 : Int32))), .val (.int (3 : Int32)), .val (.int (160 : Int32)), .val (.int (191 : Int32)), s8, s9] [])
                      refine own_iloadN X0 hx (hb hby d4_180) rfl ?_
                      refine own_iloadN X0 hx (hb hby d4_181) rfl ?_
                      refine own_isub X0 hx (hb hby d4_182) ?_
                      refine own_iload X0 hx (hb hby d4_183) rfl ?_
                      refine own_icmp X0 hx (hb hby d4_185) (pc' := 190) (by decide) (by decide) (fun hc => ?_) (fun hc => ?_)
                      · have hc185 : ¬ (en - ix) < (3 : Int32) := own_ge1 hc
                        clear hc
                        show own_R p e below s _ _ _ s₁ (mkF m 190 #[.val (.ref a1), .val (.int fr), .val (.int en), .val (.int ix), .val (.int ((xs.getD ix.toNatClampNeg 0) &&& (255 : Int32))), .val (.int (3 : Int32)), .val (.int (160 : Int32)), .val (.int (191 : Int32)), s8, s9] [])
                        refine own_aloadN X0 hx (hb hby d4_190) rfl rfl ?_
                        refine own_iloadN X0 hx (hb hby d4_191) rfl ?_
                        refine own_iconst X0 hx (1 : Int32) (hb hby d4_192) rfl ?_
                        refine own_iadd X0 hx (hb hby d4_193) ?_
                        refine own_baload X0 hx hZ e0 hV (v := .int (xs.getD (ix + (1 : Int32)).toNatClampNeg 0)) (pl_at1 ix en (3 : Int32) h0' hlt h8 (by decide) hc185) (pl_gd _ _) (hb hby d4_194) ?_
                        show own_R p e below s _ _ _ s₁ (mkF m 195 #[.val (.ref a1), .val (.int fr), .val (.int en), .val (.int ix), .val (.int ((xs.getD ix.toNatClampNeg 0) &&& (255 : Int32))), .val (.int (3 : Int32)), .val (.int (160 : Int32)), .val (.int (191 : Int32)), s8, s9] [(.int (xs.getD (ix + (1 : Int32)).toNatClampNeg 0))])
                        refine own_sipush X0 hx (255 : Int32) (hb hby d4_195) rfl ?_
                        refine own_iand X0 hx (hb hby d4_198) ?_
                        refine own_istore X0 hx (hb hby d4_199) (l' := #[.val (.ref a1), .val (.int fr), .val (.int en), .val (.int ix), .val (.int ((xs.getD ix.toNatClampNeg 0) &&& (255 : Int32))), .val (.int (3 : Int32)), .val (.int (160 : Int32)), .val (.int (191 : Int32)), .val (.int ((xs.getD (ix + (1 : Int32)).toNatClampNeg 0) &&& (255 : Int32))), s9]) (by rcases hs8 with rfl | ⟨w, rfl, hw'⟩ <;> first | rfl | (cases w <;> first | rfl | (simp [Value.category] at hw'))) ?_
                        refine own_iload X0 hx (hb hby d4_201) rfl ?_
                        refine own_iload X0 hx (hb hby d4_203) rfl ?_
                        refine own_icmp X0 hx (hb hby d4_205) (pc' := 215) (by decide) (by decide) (fun hc => ?_) (fun hc => ?_)
                        · have hc205 : ((xs.getD (ix + (1 : Int32)).toNatClampNeg 0) &&& (255 : Int32)) < (160 : Int32) := own_lt1 hc
                          clear hc
                          show own_R p e below s _ _ _ s₁ (mkF m 215 #[.val (.ref a1), .val (.int fr), .val (.int en), .val (.int ix), .val (.int ((xs.getD ix.toNatClampNeg 0) &&& (255 : Int32))), .val (.int (3 : Int32)), .val (.int (160 : Int32)), .val (.int (191 : Int32)), .val (.int ((xs.getD (ix + (1 : Int32)).toNatClampNeg 0) &&& (255 : Int32))), s9] [])
                          refine own_iloadN X0 hx (hb hby d4_215) rfl ?_
                          have hnl : pl_nl ((xs.getD ix.toNatClampNeg 0) &&& (255 : Int32)) ((xs.getD (ix + (1 : Int32)).toNatClampNeg 0) &&& (255 : Int32)) (xs.getD (ix + (2 : Int32)).toNatClampNeg 0) (xs.getD (ix + (3 : Int32)).toNatClampNeg 0) (en - ix) = 0 := by rw [pl_nl, if_neg hc21, if_neg hc45, if_pos hc53, if_neg hc67, if_neg hc75, if_pos hc86, if_neg hc104, if_neg hc185, if_pos hc205]
                          refine own_retI X0 hx Bd.returns hlk (hb hby d4_216) ?_ (by decide) (by decide)
                          refine ⟨?_, N0, e0⟩
                          show some (Value.int _) = some (Value.int (pl_nu xs en 8 fr))
                          rw [← hr, pl_nu, if_pos hlt, if_pos hnl]
                        · have hc205 : ¬ ((xs.getD (ix + (1 : Int32)).toNatClampNeg 0) &&& (255 : Int32)) < (160 : Int32) := own_lt0 hc
                          clear hc
                          show own_R p e below s _ _ _ s₁ (mkF m 208 #[.val (.ref a1), .val (.int fr), .val (.int en), .val (.int ix), .val (.int ((xs.getD ix.toNatClampNeg 0) &&& (255 : Int32))), .val (.int (3 : Int32)), .val (.int (160 : Int32)), .val (.int (191 : Int32)), .val (.int ((xs.getD (ix + (1 : Int32)).toNatClampNeg 0) &&& (255 : Int32))), s9] [])
                          refine own_iload X0 hx (hb hby d4_208) rfl ?_
                          refine own_iload X0 hx (hb hby d4_210) rfl ?_
                          refine own_icmp X0 hx (hb hby d4_212) (pc' := 217) (by decide) (by decide) (fun hc => ?_) (fun hc => ?_)
                          · have hc212 : ¬ (191 : Int32) < ((xs.getD (ix + (1 : Int32)).toNatClampNeg 0) &&& (255 : Int32)) := own_le1 hc
                            clear hc
                            show own_R p e below s _ _ _ s₁ (mkF m 217 #[.val (.ref a1), .val (.int fr), .val (.int en), .val (.int ix), .val (.int ((xs.getD ix.toNatClampNeg 0) &&& (255 : Int32))), .val (.int (3 : Int32)), .val (.int (160 : Int32)), .val (.int (191 : Int32)), .val (.int ((xs.getD (ix + (1 : Int32)).toNatClampNeg 0) &&& (255 : Int32))), s9] [])
                            refine own_iloadN X0 hx (hb hby d4_217) rfl ?_
                            refine own_iconst X0 hx (2 : Int32) (hb hby d4_218) rfl ?_
                            refine own_iadd X0 hx (hb hby d4_219) ?_
                            refine own_istore X0 hx (hb hby d4_220) (l' := #[.val (.ref a1), .val (.int fr), .val (.int en), .val (.int ix), .val (.int ((xs.getD ix.toNatClampNeg 0) &&& (255 : Int32))), .val (.int (3 : Int32)), .val (.int (160 : Int32)), .val (.int (191 : Int32)), .val (.int ((xs.getD (ix + (1 : Int32)).toNatClampNeg 0) &&& (255 : Int32))), .val (.int (ix + (2 : Int32)))]) (by rcases hs9 with rfl | ⟨w, rfl, hw'⟩ <;> first | rfl | (cases w <;> first | rfl | (simp [Value.category] at hw'))) ?_
                            refine own_iload X0 hx (hb hby d4_222) rfl ?_
                            refine own_iloadN X0 hx (hb hby d4_224) rfl ?_
                            refine own_iload X0 hx (hb hby d4_225) rfl ?_
                            refine own_iadd X0 hx (hb hby d4_227) ?_
                            refine own_icmp X0 hx (hb hby d4_228) (pc' := 253) (by decide) (by decide) (fun hc => ?_) (fun hc => ?_)
                            · have hl2 : ¬ (ix + (2 : Int32)) < (ix + (3 : Int32)) := own_ge1 hc
                              exfalso; obtain ⟨d1, d2⟩ := pl_d ix en h0' hlt h8; obtain ⟨a1, a2, a3, a4, a5, a6⟩ := pl_off ix h0' d2; rw [Int32.lt_iff_toInt_lt] at hl2; omega
                            · have hl2 : (ix + (2 : Int32)) < (ix + (3 : Int32)) := own_ge0 hc
                              clear hc
                              show own_R p e below s _ _ _ s₁ (mkF m 231 #[.val (.ref a1), .val (.int fr), .val (.int en), .val (.int ix), .val (.int ((xs.getD ix.toNatClampNeg 0) &&& (255 : Int32))), .val (.int (3 : Int32)), .val (.int (160 : Int32)), .val (.int (191 : Int32)), .val (.int ((xs.getD (ix + (1 : Int32)).toNatClampNeg 0) &&& (255 : Int32))), .val (.int (ix + (2 : Int32)))] [])
                              refine own_aloadN X0 hx (hb hby d4_231) rfl rfl ?_
                              refine own_iload X0 hx (hb hby d4_232) rfl ?_
                              refine own_baload X0 hx hZ e0 hV (v := .int (xs.getD (ix + (2 : Int32)).toNatClampNeg 0)) (pl_at2 ix en (3 : Int32) h0' hlt h8 (by decide) hc185) (pl_gd _ _) (hb hby d4_234) ?_
                              show own_R p e below s _ _ _ s₁ (mkF m 235 #[.val (.ref a1), .val (.int fr), .val (.int en), .val (.int ix), .val (.int ((xs.getD ix.toNatClampNeg 0) &&& (255 : Int32))), .val (.int (3 : Int32)), .val (.int (160 : Int32)), .val (.int (191 : Int32)), .val (.int ((xs.getD (ix + (1 : Int32)).toNatClampNeg 0) &&& (255 : Int32))), .val (.int (ix + (2 : Int32)))] [(.int (xs.getD (ix + (2 : Int32)).toNatClampNeg 0))])
                              refine own_sipush X0 hx (192 : Int32) (hb hby d4_235) rfl ?_
                              refine own_iand X0 hx (hb hby d4_238) ?_
                              refine own_sipush X0 hx (128 : Int32) (hb hby d4_239) rfl ?_
                              refine own_icmp X0 hx (hb hby d4_242) (pc' := 247) (by decide) (by decide) (fun hc => ?_) (fun hc => ?_)
                              · have hc242_2 : ((xs.getD (ix + (2 : Int32)).toNatClampNeg 0) &&& (192 : Int32)) = (128 : Int32) := own_eq1 hc
                                clear hc
                                show own_R p e below s _ _ _ s₁ (mkF m 247 #[.val (.ref a1), .val (.int fr), .val (.int en), .val (.int ix), .val (.int ((xs.getD ix.toNatClampNeg 0) &&& (255 : Int32))), .val (.int (3 : Int32)), .val (.int (160 : Int32)), .val (.int (191 : Int32)), .val (.int ((xs.getD (ix + (1 : Int32)).toNatClampNeg 0) &&& (255 : Int32))), .val (.int (ix + (2 : Int32)))] [])
                                refine own_iinc X0 hx (1 : Int32) (hb hby d4_247) rfl rfl (l' := #[.val (.ref a1), .val (.int fr), .val (.int en), .val (.int ix), .val (.int ((xs.getD ix.toNatClampNeg 0) &&& (255 : Int32))), .val (.int (3 : Int32)), .val (.int (160 : Int32)), .val (.int (191 : Int32)), .val (.int ((xs.getD (ix + (1 : Int32)).toNatClampNeg 0) &&& (255 : Int32))), .val (.int ((ix + (2 : Int32)) + (1 : Int32)))]) rfl ?_
                                refine own_goto X0 hx (hb hby d4_250) (pc' := 222) (by decide) (by decide) ?_
                                show own_R p e below s _ _ _ s₁ (mkF m 222 #[.val (.ref a1), .val (.int fr), .val (.int en), .val (.int ix), .val (.int ((xs.getD ix.toNatClampNeg 0) &&& (255 : Int32))), .val (.int (3 : Int32)), .val (.int (160 : Int32)), .val (.int (191 : Int32)), .val (.int ((xs.getD (ix + (1 : Int32)).toNatClampNeg 0) &&& (255 : Int32))), .val (.int ((ix + (2 : Int32)) + (1 : Int32)))] [])
                                refine own_iload X0 hx (hb hby d4_222) rfl ?_
                                refine own_iloadN X0 hx (hb hby d4_224) rfl ?_
                                refine own_iload X0 hx (hb hby d4_225) rfl ?_
                                refine own_iadd X0 hx (hb hby d4_227) ?_
                                refine own_icmp X0 hx (hb hby d4_228) (pc' := 253) (by decide) (by decide) (fun hc => ?_) (fun hc => ?_)
                                · have hl3 : ¬ ((ix + (2 : Int32)) + (1 : Int32)) < (ix + (3 : Int32)) := own_ge1 hc
                                  clear hc
                                  show own_R p e below s _ _ _ s₁ (mkF m 253 #[.val (.ref a1), .val (.int fr), .val (.int en), .val (.int ix), .val (.int ((xs.getD ix.toNatClampNeg 0) &&& (255 : Int32))), .val (.int (3 : Int32)), .val (.int (160 : Int32)), .val (.int (191 : Int32)), .val (.int ((xs.getD (ix + (1 : Int32)).toNatClampNeg 0) &&& (255 : Int32))), .val (.int ((ix + (2 : Int32)) + (1 : Int32)))] [])
                                  refine own_iloadN X0 hx (hb hby d4_253) rfl ?_
                                  refine own_iload X0 hx (hb hby d4_254) rfl ?_
                                  refine own_iadd X0 hx (hb hby d4_256) ?_
                                  refine own_istoreN X0 hx (hb hby d4_257) (l' := #[.val (.ref a1), .val (.int fr), .val (.int en), .val (.int (ix + (3 : Int32))), .val (.int ((xs.getD ix.toNatClampNeg 0) &&& (255 : Int32))), .val (.int (3 : Int32)), .val (.int (160 : Int32)), .val (.int (191 : Int32)), .val (.int ((xs.getD (ix + (1 : Int32)).toNatClampNeg 0) &&& (255 : Int32))), .val (.int ((ix + (2 : Int32)) + (1 : Int32)))]) rfl ?_
                                  refine own_goto X0 hx (hb hby d4_258) (pc' := 2) (by decide) (by decide) ?_
                                  show own_R p e below s _ _ _ s₁ (mkF m 2 #[.val (.ref a1), .val (.int fr), .val (.int en), .val (.int (ix + (3 : Int32))), .val (.int ((xs.getD ix.toNatClampNeg 0) &&& (255 : Int32))), .val (.int (3 : Int32)), .val (.int (160 : Int32)), .val (.int (191 : Int32)), .val (.int ((xs.getD (ix + (1 : Int32)).toNatClampNeg 0) &&& (255 : Int32))), .val (.int ((ix + (2 : Int32)) + (1 : Int32)))] [])
                                  have hnl : pl_nl ((xs.getD ix.toNatClampNeg 0) &&& (255 : Int32)) ((xs.getD (ix + (1 : Int32)).toNatClampNeg 0) &&& (255 : Int32)) (xs.getD (ix + (2 : Int32)).toNatClampNeg 0) (xs.getD (ix + (3 : Int32)).toNatClampNeg 0) (en - ix) = (3 : Int32) := by rw [pl_nl, if_neg hc21, if_neg hc45, if_pos hc53, if_neg hc67, if_neg hc75, if_pos hc86, if_neg hc104, if_neg hc185, if_neg hc205, if_neg hc212, if_pos hc242_2]
                                  obtain ⟨u0, uk⟩ := pl_adv ix en (3 : Int32) k h0' hlt h8 hk' (by decide)
                                  exact ih _ _ _ _ _ _ _ (One.val rfl) (One.val rfl) (One.val rfl) (One.val rfl) (One.val rfl) (One.val rfl) u0 uk (by rw [← hr]; conv => rhs; rw [pl_nu, if_pos hlt, hnl, if_neg (by decide)])
                                · have hl3 : ((ix + (2 : Int32)) + (1 : Int32)) < (ix + (3 : Int32)) := own_ge0 hc
                                  exfalso; obtain ⟨d1, d2⟩ := pl_d ix en h0' hlt h8; obtain ⟨a1, a2, a3, a4, a5, a6⟩ := pl_off ix h0' d2; rw [Int32.lt_iff_toInt_lt] at hl3; omega
                              · have hc242_2 : ¬ ((xs.getD (ix + (2 : Int32)).toNatClampNeg 0) &&& (192 : Int32)) = (128 : Int32) := own_eq0 hc
                                clear hc
                                show own_R p e below s _ _ _ s₁ (mkF m 245 #[.val (.ref a1), .val (.int fr), .val (.int en), .val (.int ix), .val (.int ((xs.getD ix.toNatClampNeg 0) &&& (255 : Int32))), .val (.int (3 : Int32)), .val (.int (160 : Int32)), .val (.int (191 : Int32)), .val (.int ((xs.getD (ix + (1 : Int32)).toNatClampNeg 0) &&& (255 : Int32))), .val (.int (ix + (2 : Int32)))] [])
                                refine own_iloadN X0 hx (hb hby d4_245) rfl ?_
                                have hnl : pl_nl ((xs.getD ix.toNatClampNeg 0) &&& (255 : Int32)) ((xs.getD (ix + (1 : Int32)).toNatClampNeg 0) &&& (255 : Int32)) (xs.getD (ix + (2 : Int32)).toNatClampNeg 0) (xs.getD (ix + (3 : Int32)).toNatClampNeg 0) (en - ix) = 0 := by rw [pl_nl, if_neg hc21, if_neg hc45, if_pos hc53, if_neg hc67, if_neg hc75, if_pos hc86, if_neg hc104, if_neg hc185, if_neg hc205, if_neg hc212, if_neg hc242_2]
                                refine own_retI X0 hx Bd.returns hlk (hb hby d4_246) ?_ (by decide) (by decide)
                                refine ⟨?_, N0, e0⟩
                                show some (Value.int _) = some (Value.int (pl_nu xs en 8 fr))
                                rw [← hr, pl_nu, if_pos hlt, if_pos hnl]
                          · have hc212 : (191 : Int32) < ((xs.getD (ix + (1 : Int32)).toNatClampNeg 0) &&& (255 : Int32)) := own_le0 hc
                            clear hc
                            show own_R p e below s _ _ _ s₁ (mkF m 215 #[.val (.ref a1), .val (.int fr), .val (.int en), .val (.int ix), .val (.int ((xs.getD ix.toNatClampNeg 0) &&& (255 : Int32))), .val (.int (3 : Int32)), .val (.int (160 : Int32)), .val (.int (191 : Int32)), .val (.int ((xs.getD (ix + (1 : Int32)).toNatClampNeg 0) &&& (255 : Int32))), s9] [])
                            refine own_iloadN X0 hx (hb hby d4_215) rfl ?_
                            have hnl : pl_nl ((xs.getD ix.toNatClampNeg 0) &&& (255 : Int32)) ((xs.getD (ix + (1 : Int32)).toNatClampNeg 0) &&& (255 : Int32)) (xs.getD (ix + (2 : Int32)).toNatClampNeg 0) (xs.getD (ix + (3 : Int32)).toNatClampNeg 0) (en - ix) = 0 := by rw [pl_nl, if_neg hc21, if_neg hc45, if_pos hc53, if_neg hc67, if_neg hc75, if_pos hc86, if_neg hc104, if_neg hc185, if_neg hc205, if_pos hc212]
                            refine own_retI X0 hx Bd.returns hlk (hb hby d4_216) ?_ (by decide) (by decide)
                            refine ⟨?_, N0, e0⟩
                            show some (Value.int _) = some (Value.int (pl_nu xs en 8 fr))
                            rw [← hr, pl_nu, if_pos hlt, if_pos hnl]
                      · have hc185 : (en - ix) < (3 : Int32) := own_ge0 hc
                        clear hc
                        show own_R p e below s _ _ _ s₁ (mkF m 188 #[.val (.ref a1), .val (.int fr), .val (.int en), .val (.int ix), .val (.int ((xs.getD ix.toNatClampNeg 0) &&& (255 : Int32))), .val (.int (3 : Int32)), .val (.int (160 : Int32)), .val (.int (191 : Int32)), s8, s9] [])
                        refine own_iloadN X0 hx (hb hby d4_188) rfl ?_
                        have hnl : pl_nl ((xs.getD ix.toNatClampNeg 0) &&& (255 : Int32)) ((xs.getD (ix + (1 : Int32)).toNatClampNeg 0) &&& (255 : Int32)) (xs.getD (ix + (2 : Int32)).toNatClampNeg 0) (xs.getD (ix + (3 : Int32)).toNatClampNeg 0) (en - ix) = 0 := by rw [pl_nl, if_neg hc21, if_neg hc45, if_pos hc53, if_neg hc67, if_neg hc75, if_pos hc86, if_neg hc104, if_pos hc185]
                        refine own_retI X0 hx Bd.returns hlk (hb hby d4_189) ?_ (by decide) (by decide)
                        refine ⟨?_, N0, e0⟩
                        show some (Value.int _) = some (Value.int (pl_nu xs en 8 fr))
                        rw [← hr, pl_nu, if_pos hlt, if_pos hnl]
                    · have hc104 : ((xs.getD ix.toNatClampNeg 0) &&& (255 : Int32)) = (237 : Int32) := own_ne0 hc
                      clear hc
                      show own_R p e below s _ _ _ s₁ (mkF m 107 #[.val (.ref a1), .val (.int fr), .val (.int en), .val (.int ix), .val (.int ((xs.getD ix.toNatClampNeg 0) &&& (255 : Int32))), .val (.int (3 : Int32)), .val (.int (160 : Int32)), .val (.int (191 : Int32)), s8, s9] [])
                      refine own_sipush X0 hx (159 : Int32) (hb hby d4_107) rfl ?_
                      refine own_goto X0 hx (hb hby d4_110) (pc' := 115) (by decide) (by decide) ?_
                      show own_R p e below s _ _ _ s₁ (mkF m 115 #[.val (.ref a1), .val (.int fr), .val (.int en), .val (.int ix), .val (.int ((xs.getD ix.toNatClampNeg 0) &&& (255 : Int32))), .val (.int (3 : Int32)), .val (.int (160 : Int32)), .val (.int (191 : Int32)), s8, s9] [(.int (159 : Int32))])
                      refine own_istore X0 hx (hb hby d4_115) (l' := #[.val (.ref a1), .val (.int fr), .val (.int en), .val (.int ix), .val (.int ((xs.getD ix.toNatClampNeg 0) &&& (255 : Int32))), .val (.int (3 : Int32)), .val (.int (160 : Int32)), .val (.int (159 : Int32)), s8, s9]) rfl ?_
                      refine own_goto X0 hx (hb hby d4_117) (pc' := 180) (by decide) (by decide) ?_
                      show own_R p e below s _ _ _ s₁ (mkF m 180 #[.val (.ref a1), .val (.int fr), .val (.int en), .val (.int ix), .val (.int ((xs.getD ix.toNatClampNeg 0) &&& (255 : Int32))), .val (.int (3 : Int32)), .val (.int (160 : Int32)), .val (.int (159 : Int32)), s8, s9] [])
                      refine own_iloadN X0 hx (hb hby d4_180) rfl ?_
                      refine own_iloadN X0 hx (hb hby d4_181) rfl ?_
                      refine own_isub X0 hx (hb hby d4_182) ?_
                      refine own_iload X0 hx (hb hby d4_183) rfl ?_
                      refine own_icmp X0 hx (hb hby d4_185) (pc' := 190) (by decide) (by decide) (fun hc => ?_) (fun hc => ?_)
                      · have hc185 : ¬ (en - ix) < (3 : Int32) := own_ge1 hc
                        clear hc
                        show own_R p e below s _ _ _ s₁ (mkF m 190 #[.val (.ref a1), .val (.int fr), .val (.int en), .val (.int ix), .val (.int ((xs.getD ix.toNatClampNeg 0) &&& (255 : Int32))), .val (.int (3 : Int32)), .val (.int (160 : Int32)), .val (.int (159 : Int32)), s8, s9] [])
                        refine own_aloadN X0 hx (hb hby d4_190) rfl rfl ?_
                        refine own_iloadN X0 hx (hb hby d4_191) rfl ?_
                        refine own_iconst X0 hx (1 : Int32) (hb hby d4_192) rfl ?_
                        refine own_iadd X0 hx (hb hby d4_193) ?_
                        refine own_baload X0 hx hZ e0 hV (v := .int (xs.getD (ix + (1 : Int32)).toNatClampNeg 0)) (pl_at1 ix en (3 : Int32) h0' hlt h8 (by decide) hc185) (pl_gd _ _) (hb hby d4_194) ?_
                        show own_R p e below s _ _ _ s₁ (mkF m 195 #[.val (.ref a1), .val (.int fr), .val (.int en), .val (.int ix), .val (.int ((xs.getD ix.toNatClampNeg 0) &&& (255 : Int32))), .val (.int (3 : Int32)), .val (.int (160 : Int32)), .val (.int (159 : Int32)), s8, s9] [(.int (xs.getD (ix + (1 : Int32)).toNatClampNeg 0))])
                        refine own_sipush X0 hx (255 : Int32) (hb hby d4_195) rfl ?_
                        refine own_iand X0 hx (hb hby d4_198) ?_
                        refine own_istore X0 hx (hb hby d4_199) (l' := #[.val (.ref a1), .val (.int fr), .val (.int en), .val (.int ix), .val (.int ((xs.getD ix.toNatClampNeg 0) &&& (255 : Int32))), .val (.int (3 : Int32)), .val (.int (160 : Int32)), .val (.int (159 : Int32)), .val (.int ((xs.getD (ix + (1 : Int32)).toNatClampNeg 0) &&& (255 : Int32))), s9]) (by rcases hs8 with rfl | ⟨w, rfl, hw'⟩ <;> first | rfl | (cases w <;> first | rfl | (simp [Value.category] at hw'))) ?_
                        refine own_iload X0 hx (hb hby d4_201) rfl ?_
                        refine own_iload X0 hx (hb hby d4_203) rfl ?_
                        refine own_icmp X0 hx (hb hby d4_205) (pc' := 215) (by decide) (by decide) (fun hc => ?_) (fun hc => ?_)
                        · have hc205 : ((xs.getD (ix + (1 : Int32)).toNatClampNeg 0) &&& (255 : Int32)) < (160 : Int32) := own_lt1 hc
                          clear hc
                          show own_R p e below s _ _ _ s₁ (mkF m 215 #[.val (.ref a1), .val (.int fr), .val (.int en), .val (.int ix), .val (.int ((xs.getD ix.toNatClampNeg 0) &&& (255 : Int32))), .val (.int (3 : Int32)), .val (.int (160 : Int32)), .val (.int (159 : Int32)), .val (.int ((xs.getD (ix + (1 : Int32)).toNatClampNeg 0) &&& (255 : Int32))), s9] [])
                          refine own_iloadN X0 hx (hb hby d4_215) rfl ?_
                          have hnl : pl_nl ((xs.getD ix.toNatClampNeg 0) &&& (255 : Int32)) ((xs.getD (ix + (1 : Int32)).toNatClampNeg 0) &&& (255 : Int32)) (xs.getD (ix + (2 : Int32)).toNatClampNeg 0) (xs.getD (ix + (3 : Int32)).toNatClampNeg 0) (en - ix) = 0 := by rw [pl_nl, if_neg hc21, if_neg hc45, if_pos hc53, if_neg hc67, if_neg hc75, if_pos hc86, if_pos hc104, if_neg hc185, if_pos hc205]
                          refine own_retI X0 hx Bd.returns hlk (hb hby d4_216) ?_ (by decide) (by decide)
                          refine ⟨?_, N0, e0⟩
                          show some (Value.int _) = some (Value.int (pl_nu xs en 8 fr))
                          rw [← hr, pl_nu, if_pos hlt, if_pos hnl]
                        · have hc205 : ¬ ((xs.getD (ix + (1 : Int32)).toNatClampNeg 0) &&& (255 : Int32)) < (160 : Int32) := own_lt0 hc
                          clear hc
                          show own_R p e below s _ _ _ s₁ (mkF m 208 #[.val (.ref a1), .val (.int fr), .val (.int en), .val (.int ix), .val (.int ((xs.getD ix.toNatClampNeg 0) &&& (255 : Int32))), .val (.int (3 : Int32)), .val (.int (160 : Int32)), .val (.int (159 : Int32)), .val (.int ((xs.getD (ix + (1 : Int32)).toNatClampNeg 0) &&& (255 : Int32))), s9] [])
                          refine own_iload X0 hx (hb hby d4_208) rfl ?_
                          refine own_iload X0 hx (hb hby d4_210) rfl ?_
                          refine own_icmp X0 hx (hb hby d4_212) (pc' := 217) (by decide) (by decide) (fun hc => ?_) (fun hc => ?_)
                          · have hc212 : ¬ (159 : Int32) < ((xs.getD (ix + (1 : Int32)).toNatClampNeg 0) &&& (255 : Int32)) := own_le1 hc
                            clear hc
                            show own_R p e below s _ _ _ s₁ (mkF m 217 #[.val (.ref a1), .val (.int fr), .val (.int en), .val (.int ix), .val (.int ((xs.getD ix.toNatClampNeg 0) &&& (255 : Int32))), .val (.int (3 : Int32)), .val (.int (160 : Int32)), .val (.int (159 : Int32)), .val (.int ((xs.getD (ix + (1 : Int32)).toNatClampNeg 0) &&& (255 : Int32))), s9] [])
                            refine own_iloadN X0 hx (hb hby d4_217) rfl ?_
                            refine own_iconst X0 hx (2 : Int32) (hb hby d4_218) rfl ?_
                            refine own_iadd X0 hx (hb hby d4_219) ?_
                            refine own_istore X0 hx (hb hby d4_220) (l' := #[.val (.ref a1), .val (.int fr), .val (.int en), .val (.int ix), .val (.int ((xs.getD ix.toNatClampNeg 0) &&& (255 : Int32))), .val (.int (3 : Int32)), .val (.int (160 : Int32)), .val (.int (159 : Int32)), .val (.int ((xs.getD (ix + (1 : Int32)).toNatClampNeg 0) &&& (255 : Int32))), .val (.int (ix + (2 : Int32)))]) (by rcases hs9 with rfl | ⟨w, rfl, hw'⟩ <;> first | rfl | (cases w <;> first | rfl | (simp [Value.category] at hw'))) ?_
                            refine own_iload X0 hx (hb hby d4_222) rfl ?_
                            refine own_iloadN X0 hx (hb hby d4_224) rfl ?_
                            refine own_iload X0 hx (hb hby d4_225) rfl ?_
                            refine own_iadd X0 hx (hb hby d4_227) ?_
                            refine own_icmp X0 hx (hb hby d4_228) (pc' := 253) (by decide) (by decide) (fun hc => ?_) (fun hc => ?_)
                            · have hl2 : ¬ (ix + (2 : Int32)) < (ix + (3 : Int32)) := own_ge1 hc
                              exfalso; obtain ⟨d1, d2⟩ := pl_d ix en h0' hlt h8; obtain ⟨a1, a2, a3, a4, a5, a6⟩ := pl_off ix h0' d2; rw [Int32.lt_iff_toInt_lt] at hl2; omega
                            · have hl2 : (ix + (2 : Int32)) < (ix + (3 : Int32)) := own_ge0 hc
                              clear hc
                              show own_R p e below s _ _ _ s₁ (mkF m 231 #[.val (.ref a1), .val (.int fr), .val (.int en), .val (.int ix), .val (.int ((xs.getD ix.toNatClampNeg 0) &&& (255 : Int32))), .val (.int (3 : Int32)), .val (.int (160 : Int32)), .val (.int (159 : Int32)), .val (.int ((xs.getD (ix + (1 : Int32)).toNatClampNeg 0) &&& (255 : Int32))), .val (.int (ix + (2 : Int32)))] [])
                              refine own_aloadN X0 hx (hb hby d4_231) rfl rfl ?_
                              refine own_iload X0 hx (hb hby d4_232) rfl ?_
                              refine own_baload X0 hx hZ e0 hV (v := .int (xs.getD (ix + (2 : Int32)).toNatClampNeg 0)) (pl_at2 ix en (3 : Int32) h0' hlt h8 (by decide) hc185) (pl_gd _ _) (hb hby d4_234) ?_
                              show own_R p e below s _ _ _ s₁ (mkF m 235 #[.val (.ref a1), .val (.int fr), .val (.int en), .val (.int ix), .val (.int ((xs.getD ix.toNatClampNeg 0) &&& (255 : Int32))), .val (.int (3 : Int32)), .val (.int (160 : Int32)), .val (.int (159 : Int32)), .val (.int ((xs.getD (ix + (1 : Int32)).toNatClampNeg 0) &&& (255 : Int32))), .val (.int (ix + (2 : Int32)))] [(.int (xs.getD (ix + (2 : Int32)).toNatClampNeg 0))])
                              refine own_sipush X0 hx (192 : Int32) (hb hby d4_235) rfl ?_
                              refine own_iand X0 hx (hb hby d4_238) ?_
                              refine own_sipush X0 hx (128 : Int32) (hb hby d4_239) rfl ?_
                              refine own_icmp X0 hx (hb hby d4_242) (pc' := 247) (by decide) (by decide) (fun hc => ?_) (fun hc => ?_)
                              · have hc242_2 : ((xs.getD (ix + (2 : Int32)).toNatClampNeg 0) &&& (192 : Int32)) = (128 : Int32) := own_eq1 hc
                                clear hc
                                show own_R p e below s _ _ _ s₁ (mkF m 247 #[.val (.ref a1), .val (.int fr), .val (.int en), .val (.int ix), .val (.int ((xs.getD ix.toNatClampNeg 0) &&& (255 : Int32))), .val (.int (3 : Int32)), .val (.int (160 : Int32)), .val (.int (159 : Int32)), .val (.int ((xs.getD (ix + (1 : Int32)).toNatClampNeg 0) &&& (255 : Int32))), .val (.int (ix + (2 : Int32)))] [])
                                refine own_iinc X0 hx (1 : Int32) (hb hby d4_247) rfl rfl (l' := #[.val (.ref a1), .val (.int fr), .val (.int en), .val (.int ix), .val (.int ((xs.getD ix.toNatClampNeg 0) &&& (255 : Int32))), .val (.int (3 : Int32)), .val (.int (160 : Int32)), .val (.int (159 : Int32)), .val (.int ((xs.getD (ix + (1 : Int32)).toNatClampNeg 0) &&& (255 : Int32))), .val (.int ((ix + (2 : Int32)) + (1 : Int32)))]) rfl ?_
                                refine own_goto X0 hx (hb hby d4_250) (pc' := 222) (by decide) (by decide) ?_
                                show own_R p e below s _ _ _ s₁ (mkF m 222 #[.val (.ref a1), .val (.int fr), .val (.int en), .val (.int ix), .val (.int ((xs.getD ix.toNatClampNeg 0) &&& (255 : Int32))), .val (.int (3 : Int32)), .val (.int (160 : Int32)), .val (.int (159 : Int32)), .val (.int ((xs.getD (ix + (1 : Int32)).toNatClampNeg 0) &&& (255 : Int32))), .val (.int ((ix + (2 : Int32)) + (1 : Int32)))] [])
                                refine own_iload X0 hx (hb hby d4_222) rfl ?_
                                refine own_iloadN X0 hx (hb hby d4_224) rfl ?_
                                refine own_iload X0 hx (hb hby d4_225) rfl ?_
                                refine own_iadd X0 hx (hb hby d4_227) ?_
                                refine own_icmp X0 hx (hb hby d4_228) (pc' := 253) (by decide) (by decide) (fun hc => ?_) (fun hc => ?_)
                                · have hl3 : ¬ ((ix + (2 : Int32)) + (1 : Int32)) < (ix + (3 : Int32)) := own_ge1 hc
                                  clear hc
                                  show own_R p e below s _ _ _ s₁ (mkF m 253 #[.val (.ref a1), .val (.int fr), .val (.int en), .val (.int ix), .val (.int ((xs.getD ix.toNatClampNeg 0) &&& (255 : Int32))), .val (.int (3 : Int32)), .val (.int (160 : Int32)), .val (.int (159 : Int32)), .val (.int ((xs.getD (ix + (1 : Int32)).toNatClampNeg 0) &&& (255 : Int32))), .val (.int ((ix + (2 : Int32)) + (1 : Int32)))] [])
                                  refine own_iloadN X0 hx (hb hby d4_253) rfl ?_
                                  refine own_iload X0 hx (hb hby d4_254) rfl ?_
                                  refine own_iadd X0 hx (hb hby d4_256) ?_
                                  refine own_istoreN X0 hx (hb hby d4_257) (l' := #[.val (.ref a1), .val (.int fr), .val (.int en), .val (.int (ix + (3 : Int32))), .val (.int ((xs.getD ix.toNatClampNeg 0) &&& (255 : Int32))), .val (.int (3 : Int32)), .val (.int (160 : Int32)), .val (.int (159 : Int32)), .val (.int ((xs.getD (ix + (1 : Int32)).toNatClampNeg 0) &&& (255 : Int32))), .val (.int ((ix + (2 : Int32)) + (1 : Int32)))]) rfl ?_
                                  refine own_goto X0 hx (hb hby d4_258) (pc' := 2) (by decide) (by decide) ?_
                                  show own_R p e below s _ _ _ s₁ (mkF m 2 #[.val (.ref a1), .val (.int fr), .val (.int en), .val (.int (ix + (3 : Int32))), .val (.int ((xs.getD ix.toNatClampNeg 0) &&& (255 : Int32))), .val (.int (3 : Int32)), .val (.int (160 : Int32)), .val (.int (159 : Int32)), .val (.int ((xs.getD (ix + (1 : Int32)).toNatClampNeg 0) &&& (255 : Int32))), .val (.int ((ix + (2 : Int32)) + (1 : Int32)))] [])
                                  have hnl : pl_nl ((xs.getD ix.toNatClampNeg 0) &&& (255 : Int32)) ((xs.getD (ix + (1 : Int32)).toNatClampNeg 0) &&& (255 : Int32)) (xs.getD (ix + (2 : Int32)).toNatClampNeg 0) (xs.getD (ix + (3 : Int32)).toNatClampNeg 0) (en - ix) = (3 : Int32) := by rw [pl_nl, if_neg hc21, if_neg hc45, if_pos hc53, if_neg hc67, if_neg hc75, if_pos hc86, if_pos hc104, if_neg hc185, if_neg hc205, if_neg hc212, if_pos hc242_2]
                                  obtain ⟨u0, uk⟩ := pl_adv ix en (3 : Int32) k h0' hlt h8 hk' (by decide)
                                  exact ih _ _ _ _ _ _ _ (One.val rfl) (One.val rfl) (One.val rfl) (One.val rfl) (One.val rfl) (One.val rfl) u0 uk (by rw [← hr]; conv => rhs; rw [pl_nu, if_pos hlt, hnl, if_neg (by decide)])
                                · have hl3 : ((ix + (2 : Int32)) + (1 : Int32)) < (ix + (3 : Int32)) := own_ge0 hc
                                  exfalso; obtain ⟨d1, d2⟩ := pl_d ix en h0' hlt h8; obtain ⟨a1, a2, a3, a4, a5, a6⟩ := pl_off ix h0' d2; rw [Int32.lt_iff_toInt_lt] at hl3; omega
                              · have hc242_2 : ¬ ((xs.getD (ix + (2 : Int32)).toNatClampNeg 0) &&& (192 : Int32)) = (128 : Int32) := own_eq0 hc
                                clear hc
                                show own_R p e below s _ _ _ s₁ (mkF m 245 #[.val (.ref a1), .val (.int fr), .val (.int en), .val (.int ix), .val (.int ((xs.getD ix.toNatClampNeg 0) &&& (255 : Int32))), .val (.int (3 : Int32)), .val (.int (160 : Int32)), .val (.int (159 : Int32)), .val (.int ((xs.getD (ix + (1 : Int32)).toNatClampNeg 0) &&& (255 : Int32))), .val (.int (ix + (2 : Int32)))] [])
                                refine own_iloadN X0 hx (hb hby d4_245) rfl ?_
                                have hnl : pl_nl ((xs.getD ix.toNatClampNeg 0) &&& (255 : Int32)) ((xs.getD (ix + (1 : Int32)).toNatClampNeg 0) &&& (255 : Int32)) (xs.getD (ix + (2 : Int32)).toNatClampNeg 0) (xs.getD (ix + (3 : Int32)).toNatClampNeg 0) (en - ix) = 0 := by rw [pl_nl, if_neg hc21, if_neg hc45, if_pos hc53, if_neg hc67, if_neg hc75, if_pos hc86, if_pos hc104, if_neg hc185, if_neg hc205, if_neg hc212, if_neg hc242_2]
                                refine own_retI X0 hx Bd.returns hlk (hb hby d4_246) ?_ (by decide) (by decide)
                                refine ⟨?_, N0, e0⟩
                                show some (Value.int _) = some (Value.int (pl_nu xs en 8 fr))
                                rw [← hr, pl_nu, if_pos hlt, if_pos hnl]
                          · have hc212 : (159 : Int32) < ((xs.getD (ix + (1 : Int32)).toNatClampNeg 0) &&& (255 : Int32)) := own_le0 hc
                            clear hc
                            show own_R p e below s _ _ _ s₁ (mkF m 215 #[.val (.ref a1), .val (.int fr), .val (.int en), .val (.int ix), .val (.int ((xs.getD ix.toNatClampNeg 0) &&& (255 : Int32))), .val (.int (3 : Int32)), .val (.int (160 : Int32)), .val (.int (159 : Int32)), .val (.int ((xs.getD (ix + (1 : Int32)).toNatClampNeg 0) &&& (255 : Int32))), s9] [])
                            refine own_iloadN X0 hx (hb hby d4_215) rfl ?_
                            have hnl : pl_nl ((xs.getD ix.toNatClampNeg 0) &&& (255 : Int32)) ((xs.getD (ix + (1 : Int32)).toNatClampNeg 0) &&& (255 : Int32)) (xs.getD (ix + (2 : Int32)).toNatClampNeg 0) (xs.getD (ix + (3 : Int32)).toNatClampNeg 0) (en - ix) = 0 := by rw [pl_nl, if_neg hc21, if_neg hc45, if_pos hc53, if_neg hc67, if_neg hc75, if_pos hc86, if_pos hc104, if_neg hc185, if_neg hc205, if_pos hc212]
                            refine own_retI X0 hx Bd.returns hlk (hb hby d4_216) ?_ (by decide) (by decide)
                            refine ⟨?_, N0, e0⟩
                            show some (Value.int _) = some (Value.int (pl_nu xs en 8 fr))
                            rw [← hr, pl_nu, if_pos hlt, if_pos hnl]
                      · have hc185 : (en - ix) < (3 : Int32) := own_ge0 hc
                        clear hc
                        show own_R p e below s _ _ _ s₁ (mkF m 188 #[.val (.ref a1), .val (.int fr), .val (.int en), .val (.int ix), .val (.int ((xs.getD ix.toNatClampNeg 0) &&& (255 : Int32))), .val (.int (3 : Int32)), .val (.int (160 : Int32)), .val (.int (159 : Int32)), s8, s9] [])
                        refine own_iloadN X0 hx (hb hby d4_188) rfl ?_
                        have hnl : pl_nl ((xs.getD ix.toNatClampNeg 0) &&& (255 : Int32)) ((xs.getD (ix + (1 : Int32)).toNatClampNeg 0) &&& (255 : Int32)) (xs.getD (ix + (2 : Int32)).toNatClampNeg 0) (xs.getD (ix + (3 : Int32)).toNatClampNeg 0) (en - ix) = 0 := by rw [pl_nl, if_neg hc21, if_neg hc45, if_pos hc53, if_neg hc67, if_neg hc75, if_pos hc86, if_pos hc104, if_pos hc185]
                        refine own_retI X0 hx Bd.returns hlk (hb hby d4_189) ?_ (by decide) (by decide)
                        refine ⟨?_, N0, e0⟩
                        show some (Value.int _) = some (Value.int (pl_nu xs en 8 fr))
                        rw [← hr, pl_nu, if_pos hlt, if_pos hnl]
            · have hc53 : ¬ (223 : Int32) < ((xs.getD ix.toNatClampNeg 0) &&& (255 : Int32)) := own_gt0 hc
              clear hc
              show own_R p e below s _ _ _ s₁ (mkF m 56 #[.val (.ref a1), .val (.int fr), .val (.int en), .val (.int ix), .val (.int ((xs.getD ix.toNatClampNeg 0) &&& (255 : Int32))), s5, .val (.int (128 : Int32)), .val (.int (191 : Int32)), s8, s9] [])
              refine own_iconst X0 hx (2 : Int32) (hb hby d4_56) rfl ?_
              refine own_istore X0 hx (hb hby d4_57) (l' := #[.val (.ref a1), .val (.int fr), .val (.int en), .val (.int ix), .val (.int ((xs.getD ix.toNatClampNeg 0) &&& (255 : Int32))), .val (.int (2 : Int32)), .val (.int (128 : Int32)), .val (.int (191 : Int32)), s8, s9]) (by rcases hs5 with rfl | ⟨w, rfl, hw'⟩ <;> first | rfl | (cases w <;> first | rfl | (simp [Value.category] at hw'))) ?_
              refine own_goto X0 hx (hb hby d4_59) (pc' := 180) (by decide) (by decide) ?_
              show own_R p e below s _ _ _ s₁ (mkF m 180 #[.val (.ref a1), .val (.int fr), .val (.int en), .val (.int ix), .val (.int ((xs.getD ix.toNatClampNeg 0) &&& (255 : Int32))), .val (.int (2 : Int32)), .val (.int (128 : Int32)), .val (.int (191 : Int32)), s8, s9] [])
              refine own_iloadN X0 hx (hb hby d4_180) rfl ?_
              refine own_iloadN X0 hx (hb hby d4_181) rfl ?_
              refine own_isub X0 hx (hb hby d4_182) ?_
              refine own_iload X0 hx (hb hby d4_183) rfl ?_
              refine own_icmp X0 hx (hb hby d4_185) (pc' := 190) (by decide) (by decide) (fun hc => ?_) (fun hc => ?_)
              · have hc185 : ¬ (en - ix) < (2 : Int32) := own_ge1 hc
                clear hc
                show own_R p e below s _ _ _ s₁ (mkF m 190 #[.val (.ref a1), .val (.int fr), .val (.int en), .val (.int ix), .val (.int ((xs.getD ix.toNatClampNeg 0) &&& (255 : Int32))), .val (.int (2 : Int32)), .val (.int (128 : Int32)), .val (.int (191 : Int32)), s8, s9] [])
                refine own_aloadN X0 hx (hb hby d4_190) rfl rfl ?_
                refine own_iloadN X0 hx (hb hby d4_191) rfl ?_
                refine own_iconst X0 hx (1 : Int32) (hb hby d4_192) rfl ?_
                refine own_iadd X0 hx (hb hby d4_193) ?_
                refine own_baload X0 hx hZ e0 hV (v := .int (xs.getD (ix + (1 : Int32)).toNatClampNeg 0)) (pl_at1 ix en (2 : Int32) h0' hlt h8 (by decide) hc185) (pl_gd _ _) (hb hby d4_194) ?_
                show own_R p e below s _ _ _ s₁ (mkF m 195 #[.val (.ref a1), .val (.int fr), .val (.int en), .val (.int ix), .val (.int ((xs.getD ix.toNatClampNeg 0) &&& (255 : Int32))), .val (.int (2 : Int32)), .val (.int (128 : Int32)), .val (.int (191 : Int32)), s8, s9] [(.int (xs.getD (ix + (1 : Int32)).toNatClampNeg 0))])
                refine own_sipush X0 hx (255 : Int32) (hb hby d4_195) rfl ?_
                refine own_iand X0 hx (hb hby d4_198) ?_
                refine own_istore X0 hx (hb hby d4_199) (l' := #[.val (.ref a1), .val (.int fr), .val (.int en), .val (.int ix), .val (.int ((xs.getD ix.toNatClampNeg 0) &&& (255 : Int32))), .val (.int (2 : Int32)), .val (.int (128 : Int32)), .val (.int (191 : Int32)), .val (.int ((xs.getD (ix + (1 : Int32)).toNatClampNeg 0) &&& (255 : Int32))), s9]) (by rcases hs8 with rfl | ⟨w, rfl, hw'⟩ <;> first | rfl | (cases w <;> first | rfl | (simp [Value.category] at hw'))) ?_
                refine own_iload X0 hx (hb hby d4_201) rfl ?_
                refine own_iload X0 hx (hb hby d4_203) rfl ?_
                refine own_icmp X0 hx (hb hby d4_205) (pc' := 215) (by decide) (by decide) (fun hc => ?_) (fun hc => ?_)
                · have hc205 : ((xs.getD (ix + (1 : Int32)).toNatClampNeg 0) &&& (255 : Int32)) < (128 : Int32) := own_lt1 hc
                  clear hc
                  show own_R p e below s _ _ _ s₁ (mkF m 215 #[.val (.ref a1), .val (.int fr), .val (.int en), .val (.int ix), .val (.int ((xs.getD ix.toNatClampNeg 0) &&& (255 : Int32))), .val (.int (2 : Int32)), .val (.int (128 : Int32)), .val (.int (191 : Int32)), .val (.int ((xs.getD (ix + (1 : Int32)).toNatClampNeg 0) &&& (255 : Int32))), s9] [])
                  refine own_iloadN X0 hx (hb hby d4_215) rfl ?_
                  have hnl : pl_nl ((xs.getD ix.toNatClampNeg 0) &&& (255 : Int32)) ((xs.getD (ix + (1 : Int32)).toNatClampNeg 0) &&& (255 : Int32)) (xs.getD (ix + (2 : Int32)).toNatClampNeg 0) (xs.getD (ix + (3 : Int32)).toNatClampNeg 0) (en - ix) = 0 := by rw [pl_nl, if_neg hc21, if_neg hc45, if_neg hc53, if_neg hc185, if_pos hc205]
                  refine own_retI X0 hx Bd.returns hlk (hb hby d4_216) ?_ (by decide) (by decide)
                  refine ⟨?_, N0, e0⟩
                  show some (Value.int _) = some (Value.int (pl_nu xs en 8 fr))
                  rw [← hr, pl_nu, if_pos hlt, if_pos hnl]
                · have hc205 : ¬ ((xs.getD (ix + (1 : Int32)).toNatClampNeg 0) &&& (255 : Int32)) < (128 : Int32) := own_lt0 hc
                  clear hc
                  show own_R p e below s _ _ _ s₁ (mkF m 208 #[.val (.ref a1), .val (.int fr), .val (.int en), .val (.int ix), .val (.int ((xs.getD ix.toNatClampNeg 0) &&& (255 : Int32))), .val (.int (2 : Int32)), .val (.int (128 : Int32)), .val (.int (191 : Int32)), .val (.int ((xs.getD (ix + (1 : Int32)).toNatClampNeg 0) &&& (255 : Int32))), s9] [])
                  refine own_iload X0 hx (hb hby d4_208) rfl ?_
                  refine own_iload X0 hx (hb hby d4_210) rfl ?_
                  refine own_icmp X0 hx (hb hby d4_212) (pc' := 217) (by decide) (by decide) (fun hc => ?_) (fun hc => ?_)
                  · have hc212 : ¬ (191 : Int32) < ((xs.getD (ix + (1 : Int32)).toNatClampNeg 0) &&& (255 : Int32)) := own_le1 hc
                    clear hc
                    show own_R p e below s _ _ _ s₁ (mkF m 217 #[.val (.ref a1), .val (.int fr), .val (.int en), .val (.int ix), .val (.int ((xs.getD ix.toNatClampNeg 0) &&& (255 : Int32))), .val (.int (2 : Int32)), .val (.int (128 : Int32)), .val (.int (191 : Int32)), .val (.int ((xs.getD (ix + (1 : Int32)).toNatClampNeg 0) &&& (255 : Int32))), s9] [])
                    refine own_iloadN X0 hx (hb hby d4_217) rfl ?_
                    refine own_iconst X0 hx (2 : Int32) (hb hby d4_218) rfl ?_
                    refine own_iadd X0 hx (hb hby d4_219) ?_
                    refine own_istore X0 hx (hb hby d4_220) (l' := #[.val (.ref a1), .val (.int fr), .val (.int en), .val (.int ix), .val (.int ((xs.getD ix.toNatClampNeg 0) &&& (255 : Int32))), .val (.int (2 : Int32)), .val (.int (128 : Int32)), .val (.int (191 : Int32)), .val (.int ((xs.getD (ix + (1 : Int32)).toNatClampNeg 0) &&& (255 : Int32))), .val (.int (ix + (2 : Int32)))]) (by rcases hs9 with rfl | ⟨w, rfl, hw'⟩ <;> first | rfl | (cases w <;> first | rfl | (simp [Value.category] at hw'))) ?_
                    refine own_iload X0 hx (hb hby d4_222) rfl ?_
                    refine own_iloadN X0 hx (hb hby d4_224) rfl ?_
                    refine own_iload X0 hx (hb hby d4_225) rfl ?_
                    refine own_iadd X0 hx (hb hby d4_227) ?_
                    refine own_icmp X0 hx (hb hby d4_228) (pc' := 253) (by decide) (by decide) (fun hc => ?_) (fun hc => ?_)
                    · have hl2 : ¬ (ix + (2 : Int32)) < (ix + (2 : Int32)) := own_ge1 hc
                      clear hc
                      show own_R p e below s _ _ _ s₁ (mkF m 253 #[.val (.ref a1), .val (.int fr), .val (.int en), .val (.int ix), .val (.int ((xs.getD ix.toNatClampNeg 0) &&& (255 : Int32))), .val (.int (2 : Int32)), .val (.int (128 : Int32)), .val (.int (191 : Int32)), .val (.int ((xs.getD (ix + (1 : Int32)).toNatClampNeg 0) &&& (255 : Int32))), .val (.int (ix + (2 : Int32)))] [])
                      refine own_iloadN X0 hx (hb hby d4_253) rfl ?_
                      refine own_iload X0 hx (hb hby d4_254) rfl ?_
                      refine own_iadd X0 hx (hb hby d4_256) ?_
                      refine own_istoreN X0 hx (hb hby d4_257) (l' := #[.val (.ref a1), .val (.int fr), .val (.int en), .val (.int (ix + (2 : Int32))), .val (.int ((xs.getD ix.toNatClampNeg 0) &&& (255 : Int32))), .val (.int (2 : Int32)), .val (.int (128 : Int32)), .val (.int (191 : Int32)), .val (.int ((xs.getD (ix + (1 : Int32)).toNatClampNeg 0) &&& (255 : Int32))), .val (.int (ix + (2 : Int32)))]) rfl ?_
                      refine own_goto X0 hx (hb hby d4_258) (pc' := 2) (by decide) (by decide) ?_
                      show own_R p e below s _ _ _ s₁ (mkF m 2 #[.val (.ref a1), .val (.int fr), .val (.int en), .val (.int (ix + (2 : Int32))), .val (.int ((xs.getD ix.toNatClampNeg 0) &&& (255 : Int32))), .val (.int (2 : Int32)), .val (.int (128 : Int32)), .val (.int (191 : Int32)), .val (.int ((xs.getD (ix + (1 : Int32)).toNatClampNeg 0) &&& (255 : Int32))), .val (.int (ix + (2 : Int32)))] [])
                      have hnl : pl_nl ((xs.getD ix.toNatClampNeg 0) &&& (255 : Int32)) ((xs.getD (ix + (1 : Int32)).toNatClampNeg 0) &&& (255 : Int32)) (xs.getD (ix + (2 : Int32)).toNatClampNeg 0) (xs.getD (ix + (3 : Int32)).toNatClampNeg 0) (en - ix) = (2 : Int32) := by rw [pl_nl, if_neg hc21, if_neg hc45, if_neg hc53, if_neg hc185, if_neg hc205, if_neg hc212]
                      obtain ⟨u0, uk⟩ := pl_adv ix en (2 : Int32) k h0' hlt h8 hk' (by decide)
                      exact ih _ _ _ _ _ _ _ (One.val rfl) (One.val rfl) (One.val rfl) (One.val rfl) (One.val rfl) (One.val rfl) u0 uk (by rw [← hr]; conv => rhs; rw [pl_nu, if_pos hlt, hnl, if_neg (by decide)])
                    · have hl2 : (ix + (2 : Int32)) < (ix + (2 : Int32)) := own_ge0 hc
                      exfalso; obtain ⟨d1, d2⟩ := pl_d ix en h0' hlt h8; obtain ⟨a1, a2, a3, a4, a5, a6⟩ := pl_off ix h0' d2; rw [Int32.lt_iff_toInt_lt] at hl2; omega
                  · have hc212 : (191 : Int32) < ((xs.getD (ix + (1 : Int32)).toNatClampNeg 0) &&& (255 : Int32)) := own_le0 hc
                    clear hc
                    show own_R p e below s _ _ _ s₁ (mkF m 215 #[.val (.ref a1), .val (.int fr), .val (.int en), .val (.int ix), .val (.int ((xs.getD ix.toNatClampNeg 0) &&& (255 : Int32))), .val (.int (2 : Int32)), .val (.int (128 : Int32)), .val (.int (191 : Int32)), .val (.int ((xs.getD (ix + (1 : Int32)).toNatClampNeg 0) &&& (255 : Int32))), s9] [])
                    refine own_iloadN X0 hx (hb hby d4_215) rfl ?_
                    have hnl : pl_nl ((xs.getD ix.toNatClampNeg 0) &&& (255 : Int32)) ((xs.getD (ix + (1 : Int32)).toNatClampNeg 0) &&& (255 : Int32)) (xs.getD (ix + (2 : Int32)).toNatClampNeg 0) (xs.getD (ix + (3 : Int32)).toNatClampNeg 0) (en - ix) = 0 := by rw [pl_nl, if_neg hc21, if_neg hc45, if_neg hc53, if_neg hc185, if_neg hc205, if_pos hc212]
                    refine own_retI X0 hx Bd.returns hlk (hb hby d4_216) ?_ (by decide) (by decide)
                    refine ⟨?_, N0, e0⟩
                    show some (Value.int _) = some (Value.int (pl_nu xs en 8 fr))
                    rw [← hr, pl_nu, if_pos hlt, if_pos hnl]
              · have hc185 : (en - ix) < (2 : Int32) := own_ge0 hc
                clear hc
                show own_R p e below s _ _ _ s₁ (mkF m 188 #[.val (.ref a1), .val (.int fr), .val (.int en), .val (.int ix), .val (.int ((xs.getD ix.toNatClampNeg 0) &&& (255 : Int32))), .val (.int (2 : Int32)), .val (.int (128 : Int32)), .val (.int (191 : Int32)), s8, s9] [])
                refine own_iloadN X0 hx (hb hby d4_188) rfl ?_
                have hnl : pl_nl ((xs.getD ix.toNatClampNeg 0) &&& (255 : Int32)) ((xs.getD (ix + (1 : Int32)).toNatClampNeg 0) &&& (255 : Int32)) (xs.getD (ix + (2 : Int32)).toNatClampNeg 0) (xs.getD (ix + (3 : Int32)).toNatClampNeg 0) (en - ix) = 0 := by rw [pl_nl, if_neg hc21, if_neg hc45, if_neg hc53, if_pos hc185]
                refine own_retI X0 hx Bd.returns hlk (hb hby d4_189) ?_ (by decide) (by decide)
                refine ⟨?_, N0, e0⟩
                show some (Value.int _) = some (Value.int (pl_nu xs en 8 fr))
                rw [← hr, pl_nu, if_pos hlt, if_pos hnl]
        · have hc21 : ((xs.getD ix.toNatClampNeg 0) &&& (255 : Int32)) < (128 : Int32) := own_ge0 hc
          clear hc
          show own_R p e below s _ _ _ s₁ (mkF m 24 #[.val (.ref a1), .val (.int fr), .val (.int en), .val (.int ix), .val (.int ((xs.getD ix.toNatClampNeg 0) &&& (255 : Int32))), s5, s6, s7, s8, s9] [])
          refine own_iinc X0 hx (1 : Int32) (hb hby d4_24) rfl rfl (l' := #[.val (.ref a1), .val (.int fr), .val (.int en), .val (.int (ix + (1 : Int32))), .val (.int ((xs.getD ix.toNatClampNeg 0) &&& (255 : Int32))), s5, s6, s7, s8, s9]) rfl ?_
          refine own_goto X0 hx (hb hby d4_27) (pc' := 2) (by decide) (by decide) ?_
          show own_R p e below s _ _ _ s₁ (mkF m 2 #[.val (.ref a1), .val (.int fr), .val (.int en), .val (.int (ix + (1 : Int32))), .val (.int ((xs.getD ix.toNatClampNeg 0) &&& (255 : Int32))), s5, s6, s7, s8, s9] [])
          have hnl : pl_nl ((xs.getD ix.toNatClampNeg 0) &&& (255 : Int32)) ((xs.getD (ix + (1 : Int32)).toNatClampNeg 0) &&& (255 : Int32)) (xs.getD (ix + (2 : Int32)).toNatClampNeg 0) (xs.getD (ix + (3 : Int32)).toNatClampNeg 0) (en - ix) = (1 : Int32) := by rw [pl_nl, if_pos hc21]
          obtain ⟨u0, uk⟩ := pl_adv ix en (1 : Int32) k h0' hlt h8 hk' (by decide)
          exact ih _ _ _ _ _ _ _ (One.val rfl) hs5 hs6 hs7 hs8 hs9 u0 uk (by rw [← hr]; conv => rhs; rw [pl_nu, if_pos hlt, hnl, if_neg (by decide)])
  refine own_iloadN X0 hx (hb hby d4_0) rfl ?_
  refine own_istoreN X0 hx (hb hby d4_1) (l' := #[.val (.ref a1), .val (.int fr), .val (.int en), .val (.int fr), .unset, .unset, .unset, .unset, .unset, .unset]) rfl ?_
  exact lp 8 fr _ _ _ _ _ _ One.u One.u One.u One.u One.u One.u hs0 (by omega) rfl
theorem pl_ft (p3 p4 : Int32) : 0 ≤ (p3 &&& (7 : Int32)).toInt ∧ (pl_min (8 : Int32) ((p3 &&& (7 : Int32)) + (p4 &&& (15 : Int32)))).toInt ≤ 8 := by
  have h1 := c_mask p3 (7 : Int32) 3 (by decide) (by decide)
  refine ⟨by omega, ?_⟩
  unfold pl_min
  split
  · rename_i h
    rw [Int32.lt_iff_toInt_lt, show (8 : Int32).toInt = 8 from by decide] at h
    omega
  · decide
theorem pl_c192 (c : Int32) (h0 : 0 ≤ c.toInt) (h1 : c.toInt ≤ 255) : (c &&& (192 : Int32)).toInt = 128 ↔ (128 ≤ c.toInt ∧ c.toInt ≤ 191) := by
  have key : ∀ k : Fin 256, (Int32.ofInt (k.1 : Int) &&& (192 : Int32)).toInt = 128 ↔ (128 ≤ k.1 ∧ k.1 ≤ 191) := by decide +kernel
  obtain ⟨n, hn⟩ : ∃ n : Nat, c.toInt = n := ⟨c.toInt.toNat, by omega⟩
  have hc : c = Int32.ofInt (n : Int) := by rw [← hn, Int32.ofInt_toInt]
  have q := key ⟨n, by omega⟩
  dsimp only at q
  rw [← hc] at q
  rw [q]
  omega
theorem pl_r192 (r : Int32) : r &&& (192 : Int32) = (r &&& (255 : Int32)) &&& (192 : Int32) := by
  rw [Int32.and_assoc]; rfl
theorem pl_shor (a c : Int32) (h0 : 0 ≤ a.toInt) (h1 : a.toInt < 262144) : ((a <<< ((6 : Int32) &&& 31)) ||| (c &&& (63 : Int32))).toInt = a.toInt * 64 + c.toInt % 64 := by
  have a1 := c_ishl a (6 : Int32) 6 (by decide)
  have a2 := rng32 (a <<< ((6 : Int32) &&& 31))
  have a3 := c_mask c (63 : Int32) 6 (by decide) (by decide)
  have a4 := c_or (a <<< ((6 : Int32) &&& 31)) (c &&& (63 : Int32)) 6 (by decide) 64 (by decide) (by omega) (by omega) (by omega)
  have a5 := rng32 ((a <<< ((6 : Int32) &&& 31)) ||| (c &&& (63 : Int32)))
  omega
theorem pl_rng (x : Int32) : 0 ≤ (x &&& (255 : Int32)).toInt ∧ (x &&& (255 : Int32)).toInt ≤ 255 := by
  have h := c_mask x (255 : Int32) 8 (by decide) (by decide)
  omega
theorem pl_iteL {c : Prop} [Decidable c] {a b : Int32} {y : Int} (h1 : c → a.toInt = y) (h2 : ¬ c → b.toInt = y) : (if c then a else b).toInt = y := by
  by_cases h : c
  · rw [if_pos h]; exact h1 h
  · rw [if_neg h]; exact h2 h
theorem pl_iteR {c : Prop} [Decidable c] {a b : Int32} {y : Int} (h1 : c → y = a.toInt) (h2 : ¬ c → y = b.toInt) : y = (if c then a else b).toInt := by
  by_cases h : c
  · rw [if_pos h]; exact h1 h
  · rw [if_neg h]; exact h2 h
set_option maxHeartbeats 40000000 in
theorem pl_core0 (b0 c1 c2 c3 r2 r3 d : Int32) (B1 : 0 ≤ b0.toInt) (B2 : b0.toInt ≤ 255) (C1 : 0 ≤ c1.toInt) (C2 : c1.toInt ≤ 255) (D1 : 0 ≤ c2.toInt) (D2 : c2.toInt ≤ 255) (E1 : 0 ≤ c3.toInt) (E2 : c3.toInt ≤ 255)
    (hr2 : r2 &&& (192 : Int32) = c2 &&& (192 : Int32)) (hr3 : r3 &&& (192 : Int32) = c3 &&& (192 : Int32)) : pl_wf b0 c1 c2 c3 d = pl_nl b0 c1 r2 r3 d := by
  have m1 := c_mask b0 (31 : Int32) 5 (by decide) (by decide)
  have m2 := c_mask b0 (15 : Int32) 4 (by decide) (by decide)
  have m3 := c_mask b0 (7 : Int32) 3 (by decide) (by decide)
  have k1 := pl_c192 c1 C1 C2
  have k2 := pl_c192 c2 D1 D2
  have k3 := pl_c192 c3 E1 E2
  have v2 := pl_shor (b0 &&& (31 : Int32)) c1 (by omega) (by omega)
  have v3 := pl_shor (b0 &&& (15 : Int32)) c1 (by omega) (by omega)
  have w3 := pl_shor ((b0 &&& (15 : Int32)) <<< ((6 : Int32) &&& 31) ||| (c1 &&& (63 : Int32))) c2 (by omega) (by omega)
  have v4 := pl_shor (b0 &&& (7 : Int32)) c1 (by omega) (by omega)
  have w4 := pl_shor ((b0 &&& (7 : Int32)) <<< ((6 : Int32) &&& 31) ||| (c1 &&& (63 : Int32))) c2 (by omega) (by omega)
  have x4 := pl_shor (((b0 &&& (7 : Int32)) <<< ((6 : Int32) &&& 31) ||| (c1 &&& (63 : Int32))) <<< ((6 : Int32) &&& 31) ||| (c2 &&& (63 : Int32))) c3 (by omega) (by omega)
  rw [m1] at v2
  rw [m2] at v3
  rw [v3] at w3
  rw [m3] at v4
  rw [v4] at w4
  rw [w4] at x4
  clear v3 v4 w4 m1 m2 m3
  have hr2' := congrArg Int32.toInt hr2
  have hr3' := congrArg Int32.toInt hr3
  clear hr2 hr3
  apply Int32.toInt_inj.mp
  unfold pl_wf pl_nl
  simp only [Int32.lt_iff_toInt_lt, ← Int32.toInt_inj, show (0 : Int32).toInt = 0 from by decide, show (1 : Int32).toInt = 1 from by decide, show (2 : Int32).toInt = 2 from by decide, show (3 : Int32).toInt = 3 from by decide, show (4 : Int32).toInt = 4 from by decide, show (128 : Int32).toInt = 128 from by decide, show (191 : Int32).toInt = 191 from by decide, show (192 : Int32).toInt = 192 from by decide, show (194 : Int32).toInt = 194 from by decide, show (223 : Int32).toInt = 223 from by decide, show (224 : Int32).toInt = 224 from by decide, show (237 : Int32).toInt = 237 from by decide, show (239 : Int32).toInt = 239 from by decide, show (240 : Int32).toInt = 240 from by decide, show (244 : Int32).toInt = 244 from by decide, show (248 : Int32).toInt = 248 from by decide, show (143 : Int32).toInt = 143 from by decide, show (144 : Int32).toInt = 144 from by decide, show (159 : Int32).toInt = 159 from by decide, show (160 : Int32).toInt = 160 from by decide, show (65536 : Int32).toInt = 65536 from by decide, show (2048 : Int32).toInt = 2048 from by decide, show (1114111 : Int32).toInt = 1114111 from by decide, show (55296 : Int32).toInt = 55296 from by decide, show (57343 : Int32).toInt = 57343 from by decide]
  rw [v2, w3, x4, hr2', hr3']
  clear v2 w3 x4 hr2' hr3'
  generalize (c1 &&& (192 : Int32)).toInt = q1 at *
  generalize (c2 &&& (192 : Int32)).toInt = q2 at *
  generalize (c3 &&& (192 : Int32)).toInt = q3 at *
  generalize b0.toInt = B at *
  generalize c1.toInt = C at *
  generalize c2.toInt = D at *
  generalize c3.toInt = E at *
  generalize d.toInt = F at *
  repeat' (refine pl_iteL (fun _ => ?_) (fun _ => ?_))
  all_goals (repeat' (first | (exfalso; omega) | refine pl_iteR (fun _ => ?_) (fun _ => ?_)))
  all_goals rfl
theorem pl_iteP {c : Prop} [Decidable c] {a b : Int32} (h1 : 0 ≤ a.toInt ∧ a.toInt ≤ 4) (h2 : 0 ≤ b.toInt ∧ b.toInt ≤ 4) : 0 ≤ (if c then a else b).toInt ∧ (if c then a else b).toInt ≤ 4 := by
  by_cases h : c
  · rw [if_pos h]; exact h1
  · rw [if_neg h]; exact h2
theorem pl_wfr (b0 c1 c2 c3 d : Int32) : 0 ≤ (pl_wf b0 c1 c2 c3 d).toInt ∧ (pl_wf b0 c1 c2 c3 d).toInt ≤ 4 := by
  unfold pl_wf
  repeat' (first | exact (by decide) | refine pl_iteP ?_ ?_)
theorem pl_same (xs : List Int32) (ix en : Int32) : pl_wf ((xs.getD ix.toNatClampNeg 0) &&& (255 : Int32)) ((xs.getD (ix + (1 : Int32)).toNatClampNeg 0) &&& (255 : Int32)) ((xs.getD (ix + (2 : Int32)).toNatClampNeg 0) &&& (255 : Int32)) ((xs.getD (ix + (3 : Int32)).toNatClampNeg 0) &&& (255 : Int32)) (en - ix) = pl_nl ((xs.getD ix.toNatClampNeg 0) &&& (255 : Int32)) ((xs.getD (ix + (1 : Int32)).toNatClampNeg 0) &&& (255 : Int32)) (xs.getD (ix + (2 : Int32)).toNatClampNeg 0) (xs.getD (ix + (3 : Int32)).toNatClampNeg 0) (en - ix) :=
  pl_core0 _ _ _ _ _ _ _ (pl_rng _).1 (pl_rng _).2 (pl_rng _).1 (pl_rng _).2 (pl_rng _).1 (pl_rng _).2 (pl_rng _).1 (pl_rng _).2 (pl_r192 _) (pl_r192 _)
def pl_it (xs : List Int32) (en : Int32) : Nat → Int32 → Int32
  | 0, u => u
  | k + 1, u => pl_it xs en k (pl_st u en xs)
def pl_E (u : Int32) : Int32 := if u < 0 then (-2 : Int32) - u else -1
theorem pl_neg (xs : List Int32) (en : Int32) (k : Nat) : ∀ u : Int32, u < 0 → pl_it xs en k u = u := by
  induction k with
  | zero => intro u h; rfl
  | succ k ih => intro u h; rw [pl_it, pl_st, if_pos h]; exact ih u h
theorem pl_stay (xs : List Int32) (en : Int32) (k : Nat) : ∀ u : Int32, ¬ u < 0 → ¬ u < en → pl_it xs en k u = u := by
  induction k with
  | zero => intro u h h2; rfl
  | succ k ih => intro u h h2; rw [pl_it, pl_st, if_neg h, if_neg h2]; exact ih u h h2
theorem pl_run (xs : List Int32) (en : Int32) (h8 : en.toInt ≤ 8) (k : Nat) : ∀ ix : Int32, 0 ≤ ix.toInt → en.toInt - ix.toInt ≤ (k : Int) → pl_E (pl_it xs en k ix) = pl_nu xs en k ix := by
  induction k with
  | zero =>
    intro ix h0 hk
    have hn : ¬ ix < 0 := by rw [Int32.lt_iff_toInt_lt, show (0 : Int32).toInt = 0 from by decide]; omega
    rw [pl_it, pl_E, if_neg hn, pl_nu]
  | succ k ih =>
    intro ix h0 hk
    have hk' : en.toInt - ix.toInt ≤ (k : Int) + 1 := by omega
    have hn : ¬ ix < 0 := by rw [Int32.lt_iff_toInt_lt, show (0 : Int32).toInt = 0 from by decide]; omega
    by_cases hlt : ix < en
    · have hs := pl_same xs ix en
      have hr := pl_wfr ((xs.getD ix.toNatClampNeg 0) &&& (255 : Int32)) ((xs.getD (ix + (1 : Int32)).toNatClampNeg 0) &&& (255 : Int32)) ((xs.getD (ix + (2 : Int32)).toNatClampNeg 0) &&& (255 : Int32)) ((xs.getD (ix + (3 : Int32)).toNatClampNeg 0) &&& (255 : Int32)) (en - ix)
      rw [pl_it, pl_st, if_neg hn, if_pos hlt, pl_nu, if_pos hlt, ← hs]
      generalize pl_wf ((xs.getD ix.toNatClampNeg 0) &&& (255 : Int32)) ((xs.getD (ix + (1 : Int32)).toNatClampNeg 0) &&& (255 : Int32)) ((xs.getD (ix + (2 : Int32)).toNatClampNeg 0) &&& (255 : Int32)) ((xs.getD (ix + (3 : Int32)).toNatClampNeg 0) &&& (255 : Int32)) (en - ix) = w at *
      by_cases hw : w = 0
      · rw [if_pos hw, if_pos hw]
        have a1 := c_isub (-2 : Int32) ix
        have a2 := rng32 ((-2 : Int32) - ix)
        have a3 := (pl_d ix en h0 hlt h8).2
        rw [show (-2 : Int32).toInt = -2 from by decide] at a1
        have hneg : (-2 : Int32) - ix < 0 := by rw [Int32.lt_iff_toInt_lt, show (0 : Int32).toInt = 0 from by decide]; omega
        rw [pl_neg _ _ _ _ hneg, pl_E, if_pos hneg]
        have a4 := c_isub (-2 : Int32) ((-2 : Int32) - ix)
        have a5 := rng32 ((-2 : Int32) - ((-2 : Int32) - ix))
        rw [show (-2 : Int32).toInt = -2 from by decide] at a4
        apply Int32.toInt_inj.mp
        omega
      · rw [if_neg hw, if_neg hw]
        have hw0 : ¬ w.toInt = 0 := fun q => hw (Int32.toInt_inj.mp q)
        obtain ⟨u0, uk⟩ := pl_adv ix en w k h0 hlt h8 hk' (by omega)
        exact ih _ u0 uk
    · rw [pl_stay _ _ _ _ hn hlt, pl_E, if_neg hn, pl_nu, if_neg hlt]
theorem pl_fin (xs : List Int32) (en fr u0 u1 u2 u3 u4 u5 u6 u7 : Int32) (f1 : 0 ≤ fr.toInt) (f2 : en.toInt ≤ 8) (h0 : u0 = pl_st fr en xs) (h1 : u1 = pl_st u0 en xs) (h2 : u2 = pl_st u1 en xs) (h3 : u3 = pl_st u2 en xs) (h4 : u4 = pl_st u3 en xs) (h5 : u5 = pl_st u4 en xs) (h6 : u6 = pl_st u5 en xs) (h7 : u7 = pl_st u6 en xs) :
    (u7 < 0 → pl_nu xs en 8 fr = (-2 : Int32) - u7) ∧ (¬ u7 < 0 → pl_nu xs en 8 fr = -1) := by
  have hr := pl_run xs en f2 8 fr f1 (by omega)
  have e : pl_it xs en 8 fr = u7 := by
    rw [pl_it, pl_it, pl_it, pl_it, pl_it, pl_it, pl_it, pl_it, pl_it, ← h0, ← h1, ← h2, ← h3, ← h4, ← h5, ← h6, ← h7]
  rw [e, pl_E] at hr
  exact ⟨fun h => by rw [← hr, if_pos h], fun h => by rw [← hr, if_neg h]⟩
theorem pn_0 : plainFor (⟨"com/example/termweave/termweave/release/RrfReaderNotUtf8PinLaw", "law", "(JIII)Z"⟩ : MethodName) = true := by decide +kernel
theorem ef_0 (m : MethodId) (q0 : Int64) (p2 : Int32) (p3 : Int32) (p4 : Int32) : entryFrame m #[(.long q0), (.int p2), (.int p3), (.int p4)] maxLocals = mkF m 0 #[.val (.long q0), .second, .val (.int p2), .val (.int p3), .val (.int p4), .unset, .unset, .unset, .unset, .unset] [] := by first | (simp [entryFrame, mkF, argsToLocals, Value.category, maxLocals]; done) | rfl
def Q0 (Z : State) (q0 : Int64) (p2 : Int32) (p3 : Int32) (p4 : Int32) (h0 : Heap) (n0 : Nat) (v : Option Value) (h : Heap) (L : List Loc) : Prop := v = some (.int 1) ∧ Fr n0 L
set_option maxRecDepth 65536 in
set_option maxHeartbeats 40000000 in
theorem rm0 (l : Launch) (Z : State) (a0 : Array Value) (hw : ∀ d ∈ tables_1, d.before a0 Z = true) (ws : List Jvm.Cond) (q0 : Int64) (p2 : Int32) (p3 : Int32) (p4 : Int32) (h0 : Heap) (n0 : Nat) (Z0 : n0 ≤ h0.size) :
    MetFree l x (head1 (Jvm.Cond.code x code maxLocals ret :: ws) room_1) (fun a U => a = #[(.long q0), (.int p2), (.int p3), (.int p4)] ∧ Z.Warmed39 U.vm ∧ U.heap = h0) (fun _ _ _ _ _ => True) (fun _ U o U' => ∃ v L, o = .returned v ∧ Q0 Z q0 p2 p3 p4 h0 n0 v U'.heap L ∧ FrameEnd U o U' L room_1.cells room_1.slots) := by
  refine MetFree.of_bodySF pn_0 hisR ?_
  intro p e s m args below meth c s₁ Bd hml0 hP hK
  obtain ⟨rfl, hZ, hh⟩ := hP
  have hx := Bd.exec
  have hby := Bd.bytes
  have hml : c.maxLocals = 10 := hml0
  have hown : s.vm.findClass "com/example/termweave/termweave/release/RrfReaderNotUtf8PinLaw" = some m.cls := findClass_of_methodNamed Bd.named
  have hnm := (name_of_methodNamed Bd.named Bd.method).1
  have hlk := BodyLoose.notSynchronized Bd
  have X0 : Stand p l e room_1 s m #[(.long q0), (.int p2), (.int p3), (.int p4)] below meth c s₁ [] 0 0 := Stand.of_body Bd
  have e0 : s₁.heap = h0 := by rw [← hh, Bd.state]; rfl
  have N0 := Fr.nil n0
  show own_R p e below s (Q0 Z q0 p2 p3 p4 h0 n0) room_1.cells room_1.slots s₁ (entryFrame m #[(.long q0), (.int p2), (.int p3), (.int p4)] maxLocals)
  refine own_cast (ef_0 m q0 p2 p3 p4) ?_
  show own_R p e below s _ _ _ s₁ (mkF m 0 #[.val (.long q0), .second, .val (.int p2), .val (.int p3), .val (.int p4), .unset, .unset, .unset, .unset, .unset] [])
  have K0 := Keep.refl h0 ([] : List Addr)
  refine own_bipush X0 hx (8 : Int32) (hb hby at_0) rfl ?_
  refine own_newA X0 hx hZ (hw _ (List.mem_of_getElem? (i := 0) rfl)) e0 (hb hby at_2) (by decide) 8 (by decide) (by decide) (by decide) (by decide) (ad := "[B") (by decide) 8 ?_
  intro T2 h2 b2 k2 g2 X2 e2 E2 V2 A2
  have sz_b2 : h0.size ≤ b2 := Nat.le_trans K0.1 (Nat.le_of_eq g2.symm)
  have n0_b2 : n0 ≤ b2 := Nat.le_trans Z0 sz_b2
  have K2 := K0.ext E2
  have V_b2 : Arv Z h2 b2 k2 .byte (8 : Int32) [(.int (0 : Int32)), (.int (0 : Int32)), (.int (0 : Int32)), (.int (0 : Int32)), (.int (0 : Int32)), (.int (0 : Int32)), (.int (0 : Int32)), (.int (0 : Int32))] (.int (0 : Int32)) := V2
  show own_R p e below s _ _ _ T2 (mkF m 4 #[.val (.long q0), .second, .val (.int p2), .val (.int p3), .val (.int p4), .unset, .unset, .unset, .unset, .unset] [(.ref b2)])
  refine own_astore X2 hx (hb hby at_4) rfl (l' := #[.val (.long q0), .second, .val (.int p2), .val (.int p3), .val (.int p4), .val (.ref b2), .unset, .unset, .unset, .unset]) rfl ?_
  refine own_aload X2 hx (hb hby at_6) rfl rfl ?_
  refine own_iconst X2 hx (0 : Int32) (hb hby at_8) rfl ?_
  refine own_lloadN X2 hx (hb hby at_9) rfl ?_
  refine own_iloadN X2 hx (hb hby at_10) rfl ?_
  refine own_iconst X2 hx (0 : Int32) (hb hby at_11) rfl ?_
  refine own_callS X2 hx hZ (y := (⟨"com/example/termweave/termweave/release/RrfReaderNotUtf8PinLaw", "pick", "(JII)B"⟩ : MethodName)) hown (hw _ (List.mem_of_getElem? (i := 1) rfl)) (hw _ (List.mem_of_getElem? (i := 2) rfl)) (hw _ (List.mem_of_getElem? (i := 3) rfl)) (hw _ (List.mem_of_getElem? (i := 4) rfl)) (by decide) (rm1 l Z a0 hw [] q0 p2 (0 : Int32) h2 n0 (Nat.le_trans Z0 K2.1)) 2 (by decide) (by decide) e2 (by rw [hml]; rfl) [(.long q0), (.int p2), (.int (0 : Int32))] [(.int (0 : Int32)), (.ref b2)] rfl (lenOf pd_1 rfl) rfl (Nat.le_of_eq rfl) (hb hby at_12) (by decide) (by decide) ?_
  rintro T3 _ L3 X3 ⟨rfl, N3q, e3⟩
  have N3 := Fr.app N0 N3q
  show own_R p e below s _ _ _ T3 (mkF m 15 #[.val (.long q0), .second, .val (.int p2), .val (.int p3), .val (.int p4), .val (.ref b2), .unset, .unset, .unset, .unset] [(.int (pl_pick q0 p2 (0 : Int32))), (.int (0 : Int32)), (.ref b2)])
  obtain ⟨x0, hx0⟩ : ∃ z, z = nar .byte (pl_pick q0 p2 (0 : Int32)) := ⟨_, rfl⟩
  refine own_bastore X3 hx hZ e3 V_b2 (x' := x0) hx0.symm ⟨by decide, by decide⟩ 0 rfl (Nat.le_of_ble_eq_true rfl) (hb hby at_15) ?_
  intro T4 h4 X4 e4 W4 V4
  have K4 := K2.wr W4 (Or.inr sz_b2)
  have N4 := Fr.snoc X4 N3 n0_b2
  have V_b2_4 : Arv Z h4 b2 k2 .byte (8 : Int32) [(.int x0), (.int (0 : Int32)), (.int (0 : Int32)), (.int (0 : Int32)), (.int (0 : Int32)), (.int (0 : Int32)), (.int (0 : Int32)), (.int (0 : Int32))] (.int (0 : Int32)) := V4
  show own_R p e below s _ _ _ T4 (mkF m 16 #[.val (.long q0), .second, .val (.int p2), .val (.int p3), .val (.int p4), .val (.ref b2), .unset, .unset, .unset, .unset] [])
  refine own_aload X4 hx (hb hby at_16) rfl rfl ?_
  refine own_iconst X4 hx (1 : Int32) (hb hby at_18) rfl ?_
  refine own_lloadN X4 hx (hb hby at_19) rfl ?_
  refine own_iloadN X4 hx (hb hby at_20) rfl ?_
  refine own_iconst X4 hx (1 : Int32) (hb hby at_21) rfl ?_
  refine own_callS X4 hx hZ (y := (⟨"com/example/termweave/termweave/release/RrfReaderNotUtf8PinLaw", "pick", "(JII)B"⟩ : MethodName)) hown (hw _ (List.mem_of_getElem? (i := 1) rfl)) (hw _ (List.mem_of_getElem? (i := 2) rfl)) (hw _ (List.mem_of_getElem? (i := 3) rfl)) (hw _ (List.mem_of_getElem? (i := 4) rfl)) (by decide) (rm1 l Z a0 hw [] q0 p2 (1 : Int32) h4 n0 (Nat.le_trans Z0 K4.1)) 2 (by decide) (by decide) e4 (by rw [hml]; rfl) [(.long q0), (.int p2), (.int (1 : Int32))] [(.int (1 : Int32)), (.ref b2)] rfl (lenOf pd_1 rfl) rfl (Nat.le_of_eq rfl) (hb hby at_22) (by decide) (by decide) ?_
  rintro T5 _ L5 X5 ⟨rfl, N5q, e5⟩
  have N5 := Fr.app N4 N5q
  show own_R p e below s _ _ _ T5 (mkF m 25 #[.val (.long q0), .second, .val (.int p2), .val (.int p3), .val (.int p4), .val (.ref b2), .unset, .unset, .unset, .unset] [(.int (pl_pick q0 p2 (1 : Int32))), (.int (1 : Int32)), (.ref b2)])
  obtain ⟨x1, hx1⟩ : ∃ z, z = nar .byte (pl_pick q0 p2 (1 : Int32)) := ⟨_, rfl⟩
  refine own_bastore X5 hx hZ e5 V_b2_4 (x' := x1) hx1.symm ⟨by decide, by decide⟩ 1 rfl (Nat.le_of_ble_eq_true rfl) (hb hby at_25) ?_
  intro T6 h6 X6 e6 W6 V6
  have K6 := K4.wr W6 (Or.inr sz_b2)
  have N6 := Fr.snoc X6 N5 n0_b2
  have V_b2_6 : Arv Z h6 b2 k2 .byte (8 : Int32) [(.int x0), (.int x1), (.int (0 : Int32)), (.int (0 : Int32)), (.int (0 : Int32)), (.int (0 : Int32)), (.int (0 : Int32)), (.int (0 : Int32))] (.int (0 : Int32)) := V6
  show own_R p e below s _ _ _ T6 (mkF m 26 #[.val (.long q0), .second, .val (.int p2), .val (.int p3), .val (.int p4), .val (.ref b2), .unset, .unset, .unset, .unset] [])
  refine own_aload X6 hx (hb hby at_26) rfl rfl ?_
  refine own_iconst X6 hx (2 : Int32) (hb hby at_28) rfl ?_
  refine own_lloadN X6 hx (hb hby at_29) rfl ?_
  refine own_iloadN X6 hx (hb hby at_30) rfl ?_
  refine own_iconst X6 hx (2 : Int32) (hb hby at_31) rfl ?_
  refine own_callS X6 hx hZ (y := (⟨"com/example/termweave/termweave/release/RrfReaderNotUtf8PinLaw", "pick", "(JII)B"⟩ : MethodName)) hown (hw _ (List.mem_of_getElem? (i := 1) rfl)) (hw _ (List.mem_of_getElem? (i := 2) rfl)) (hw _ (List.mem_of_getElem? (i := 3) rfl)) (hw _ (List.mem_of_getElem? (i := 4) rfl)) (by decide) (rm1 l Z a0 hw [] q0 p2 (2 : Int32) h6 n0 (Nat.le_trans Z0 K6.1)) 2 (by decide) (by decide) e6 (by rw [hml]; rfl) [(.long q0), (.int p2), (.int (2 : Int32))] [(.int (2 : Int32)), (.ref b2)] rfl (lenOf pd_1 rfl) rfl (Nat.le_of_eq rfl) (hb hby at_32) (by decide) (by decide) ?_
  rintro T7 _ L7 X7 ⟨rfl, N7q, e7⟩
  have N7 := Fr.app N6 N7q
  show own_R p e below s _ _ _ T7 (mkF m 35 #[.val (.long q0), .second, .val (.int p2), .val (.int p3), .val (.int p4), .val (.ref b2), .unset, .unset, .unset, .unset] [(.int (pl_pick q0 p2 (2 : Int32))), (.int (2 : Int32)), (.ref b2)])
  obtain ⟨x2, hx2⟩ : ∃ z, z = nar .byte (pl_pick q0 p2 (2 : Int32)) := ⟨_, rfl⟩
  refine own_bastore X7 hx hZ e7 V_b2_6 (x' := x2) hx2.symm ⟨by decide, by decide⟩ 2 rfl (Nat.le_of_ble_eq_true rfl) (hb hby at_35) ?_
  intro T8 h8 X8 e8 W8 V8
  have K8 := K6.wr W8 (Or.inr sz_b2)
  have N8 := Fr.snoc X8 N7 n0_b2
  have V_b2_8 : Arv Z h8 b2 k2 .byte (8 : Int32) [(.int x0), (.int x1), (.int x2), (.int (0 : Int32)), (.int (0 : Int32)), (.int (0 : Int32)), (.int (0 : Int32)), (.int (0 : Int32))] (.int (0 : Int32)) := V8
  show own_R p e below s _ _ _ T8 (mkF m 36 #[.val (.long q0), .second, .val (.int p2), .val (.int p3), .val (.int p4), .val (.ref b2), .unset, .unset, .unset, .unset] [])
  refine own_aload X8 hx (hb hby at_36) rfl rfl ?_
  refine own_iconst X8 hx (3 : Int32) (hb hby at_38) rfl ?_
  refine own_lloadN X8 hx (hb hby at_39) rfl ?_
  refine own_iloadN X8 hx (hb hby at_40) rfl ?_
  refine own_iconst X8 hx (3 : Int32) (hb hby at_41) rfl ?_
  refine own_callS X8 hx hZ (y := (⟨"com/example/termweave/termweave/release/RrfReaderNotUtf8PinLaw", "pick", "(JII)B"⟩ : MethodName)) hown (hw _ (List.mem_of_getElem? (i := 1) rfl)) (hw _ (List.mem_of_getElem? (i := 2) rfl)) (hw _ (List.mem_of_getElem? (i := 3) rfl)) (hw _ (List.mem_of_getElem? (i := 4) rfl)) (by decide) (rm1 l Z a0 hw [] q0 p2 (3 : Int32) h8 n0 (Nat.le_trans Z0 K8.1)) 2 (by decide) (by decide) e8 (by rw [hml]; rfl) [(.long q0), (.int p2), (.int (3 : Int32))] [(.int (3 : Int32)), (.ref b2)] rfl (lenOf pd_1 rfl) rfl (Nat.le_of_eq rfl) (hb hby at_42) (by decide) (by decide) ?_
  rintro T9 _ L9 X9 ⟨rfl, N9q, e9⟩
  have N9 := Fr.app N8 N9q
  show own_R p e below s _ _ _ T9 (mkF m 45 #[.val (.long q0), .second, .val (.int p2), .val (.int p3), .val (.int p4), .val (.ref b2), .unset, .unset, .unset, .unset] [(.int (pl_pick q0 p2 (3 : Int32))), (.int (3 : Int32)), (.ref b2)])
  obtain ⟨x3, hx3⟩ : ∃ z, z = nar .byte (pl_pick q0 p2 (3 : Int32)) := ⟨_, rfl⟩
  refine own_bastore X9 hx hZ e9 V_b2_8 (x' := x3) hx3.symm ⟨by decide, by decide⟩ 3 rfl (Nat.le_of_ble_eq_true rfl) (hb hby at_45) ?_
  intro T10 h10 X10 e10 W10 V10
  have K10 := K8.wr W10 (Or.inr sz_b2)
  have N10 := Fr.snoc X10 N9 n0_b2
  have V_b2_10 : Arv Z h10 b2 k2 .byte (8 : Int32) [(.int x0), (.int x1), (.int x2), (.int x3), (.int (0 : Int32)), (.int (0 : Int32)), (.int (0 : Int32)), (.int (0 : Int32))] (.int (0 : Int32)) := V10
  show own_R p e below s _ _ _ T10 (mkF m 46 #[.val (.long q0), .second, .val (.int p2), .val (.int p3), .val (.int p4), .val (.ref b2), .unset, .unset, .unset, .unset] [])
  refine own_aload X10 hx (hb hby at_46) rfl rfl ?_
  refine own_iconst X10 hx (4 : Int32) (hb hby at_48) rfl ?_
  refine own_lloadN X10 hx (hb hby at_49) rfl ?_
  refine own_iloadN X10 hx (hb hby at_50) rfl ?_
  refine own_iconst X10 hx (4 : Int32) (hb hby at_51) rfl ?_
  refine own_callS X10 hx hZ (y := (⟨"com/example/termweave/termweave/release/RrfReaderNotUtf8PinLaw", "pick", "(JII)B"⟩ : MethodName)) hown (hw _ (List.mem_of_getElem? (i := 1) rfl)) (hw _ (List.mem_of_getElem? (i := 2) rfl)) (hw _ (List.mem_of_getElem? (i := 3) rfl)) (hw _ (List.mem_of_getElem? (i := 4) rfl)) (by decide) (rm1 l Z a0 hw [] q0 p2 (4 : Int32) h10 n0 (Nat.le_trans Z0 K10.1)) 2 (by decide) (by decide) e10 (by rw [hml]; rfl) [(.long q0), (.int p2), (.int (4 : Int32))] [(.int (4 : Int32)), (.ref b2)] rfl (lenOf pd_1 rfl) rfl (Nat.le_of_eq rfl) (hb hby at_52) (by decide) (by decide) ?_
  rintro T11 _ L11 X11 ⟨rfl, N11q, e11⟩
  have N11 := Fr.app N10 N11q
  show own_R p e below s _ _ _ T11 (mkF m 55 #[.val (.long q0), .second, .val (.int p2), .val (.int p3), .val (.int p4), .val (.ref b2), .unset, .unset, .unset, .unset] [(.int (pl_pick q0 p2 (4 : Int32))), (.int (4 : Int32)), (.ref b2)])
  obtain ⟨x4, hx4⟩ : ∃ z, z = nar .byte (pl_pick q0 p2 (4 : Int32)) := ⟨_, rfl⟩
  refine own_bastore X11 hx hZ e11 V_b2_10 (x' := x4) hx4.symm ⟨by decide, by decide⟩ 4 rfl (Nat.le_of_ble_eq_true rfl) (hb hby at_55) ?_
  intro T12 h12 X12 e12 W12 V12
  have K12 := K10.wr W12 (Or.inr sz_b2)
  have N12 := Fr.snoc X12 N11 n0_b2
  have V_b2_12 : Arv Z h12 b2 k2 .byte (8 : Int32) [(.int x0), (.int x1), (.int x2), (.int x3), (.int x4), (.int (0 : Int32)), (.int (0 : Int32)), (.int (0 : Int32))] (.int (0 : Int32)) := V12
  show own_R p e below s _ _ _ T12 (mkF m 56 #[.val (.long q0), .second, .val (.int p2), .val (.int p3), .val (.int p4), .val (.ref b2), .unset, .unset, .unset, .unset] [])
  refine own_aload X12 hx (hb hby at_56) rfl rfl ?_
  refine own_iconst X12 hx (5 : Int32) (hb hby at_58) rfl ?_
  refine own_lloadN X12 hx (hb hby at_59) rfl ?_
  refine own_iloadN X12 hx (hb hby at_60) rfl ?_
  refine own_iconst X12 hx (5 : Int32) (hb hby at_61) rfl ?_
  refine own_callS X12 hx hZ (y := (⟨"com/example/termweave/termweave/release/RrfReaderNotUtf8PinLaw", "pick", "(JII)B"⟩ : MethodName)) hown (hw _ (List.mem_of_getElem? (i := 1) rfl)) (hw _ (List.mem_of_getElem? (i := 2) rfl)) (hw _ (List.mem_of_getElem? (i := 3) rfl)) (hw _ (List.mem_of_getElem? (i := 4) rfl)) (by decide) (rm1 l Z a0 hw [] q0 p2 (5 : Int32) h12 n0 (Nat.le_trans Z0 K12.1)) 2 (by decide) (by decide) e12 (by rw [hml]; rfl) [(.long q0), (.int p2), (.int (5 : Int32))] [(.int (5 : Int32)), (.ref b2)] rfl (lenOf pd_1 rfl) rfl (Nat.le_of_eq rfl) (hb hby at_62) (by decide) (by decide) ?_
  rintro T13 _ L13 X13 ⟨rfl, N13q, e13⟩
  have N13 := Fr.app N12 N13q
  show own_R p e below s _ _ _ T13 (mkF m 65 #[.val (.long q0), .second, .val (.int p2), .val (.int p3), .val (.int p4), .val (.ref b2), .unset, .unset, .unset, .unset] [(.int (pl_pick q0 p2 (5 : Int32))), (.int (5 : Int32)), (.ref b2)])
  obtain ⟨x5, hx5⟩ : ∃ z, z = nar .byte (pl_pick q0 p2 (5 : Int32)) := ⟨_, rfl⟩
  refine own_bastore X13 hx hZ e13 V_b2_12 (x' := x5) hx5.symm ⟨by decide, by decide⟩ 5 rfl (Nat.le_of_ble_eq_true rfl) (hb hby at_65) ?_
  intro T14 h14 X14 e14 W14 V14
  have K14 := K12.wr W14 (Or.inr sz_b2)
  have N14 := Fr.snoc X14 N13 n0_b2
  have V_b2_14 : Arv Z h14 b2 k2 .byte (8 : Int32) [(.int x0), (.int x1), (.int x2), (.int x3), (.int x4), (.int x5), (.int (0 : Int32)), (.int (0 : Int32))] (.int (0 : Int32)) := V14
  show own_R p e below s _ _ _ T14 (mkF m 66 #[.val (.long q0), .second, .val (.int p2), .val (.int p3), .val (.int p4), .val (.ref b2), .unset, .unset, .unset, .unset] [])
  refine own_aload X14 hx (hb hby at_66) rfl rfl ?_
  refine own_bipush X14 hx (6 : Int32) (hb hby at_68) rfl ?_
  refine own_lloadN X14 hx (hb hby at_70) rfl ?_
  refine own_iloadN X14 hx (hb hby at_71) rfl ?_
  refine own_bipush X14 hx (6 : Int32) (hb hby at_72) rfl ?_
  refine own_callS X14 hx hZ (y := (⟨"com/example/termweave/termweave/release/RrfReaderNotUtf8PinLaw", "pick", "(JII)B"⟩ : MethodName)) hown (hw _ (List.mem_of_getElem? (i := 1) rfl)) (hw _ (List.mem_of_getElem? (i := 2) rfl)) (hw _ (List.mem_of_getElem? (i := 3) rfl)) (hw _ (List.mem_of_getElem? (i := 4) rfl)) (by decide) (rm1 l Z a0 hw [] q0 p2 (6 : Int32) h14 n0 (Nat.le_trans Z0 K14.1)) 2 (by decide) (by decide) e14 (by rw [hml]; rfl) [(.long q0), (.int p2), (.int (6 : Int32))] [(.int (6 : Int32)), (.ref b2)] rfl (lenOf pd_1 rfl) rfl (Nat.le_of_eq rfl) (hb hby at_74) (by decide) (by decide) ?_
  rintro T15 _ L15 X15 ⟨rfl, N15q, e15⟩
  have N15 := Fr.app N14 N15q
  show own_R p e below s _ _ _ T15 (mkF m 77 #[.val (.long q0), .second, .val (.int p2), .val (.int p3), .val (.int p4), .val (.ref b2), .unset, .unset, .unset, .unset] [(.int (pl_pick q0 p2 (6 : Int32))), (.int (6 : Int32)), (.ref b2)])
  obtain ⟨x6, hx6⟩ : ∃ z, z = nar .byte (pl_pick q0 p2 (6 : Int32)) := ⟨_, rfl⟩
  refine own_bastore X15 hx hZ e15 V_b2_14 (x' := x6) hx6.symm ⟨by decide, by decide⟩ 6 rfl (Nat.le_of_ble_eq_true rfl) (hb hby at_77) ?_
  intro T16 h16 X16 e16 W16 V16
  have K16 := K14.wr W16 (Or.inr sz_b2)
  have N16 := Fr.snoc X16 N15 n0_b2
  have V_b2_16 : Arv Z h16 b2 k2 .byte (8 : Int32) [(.int x0), (.int x1), (.int x2), (.int x3), (.int x4), (.int x5), (.int x6), (.int (0 : Int32))] (.int (0 : Int32)) := V16
  show own_R p e below s _ _ _ T16 (mkF m 78 #[.val (.long q0), .second, .val (.int p2), .val (.int p3), .val (.int p4), .val (.ref b2), .unset, .unset, .unset, .unset] [])
  refine own_aload X16 hx (hb hby at_78) rfl rfl ?_
  refine own_bipush X16 hx (7 : Int32) (hb hby at_80) rfl ?_
  refine own_lloadN X16 hx (hb hby at_82) rfl ?_
  refine own_iloadN X16 hx (hb hby at_83) rfl ?_
  refine own_bipush X16 hx (7 : Int32) (hb hby at_84) rfl ?_
  refine own_callS X16 hx hZ (y := (⟨"com/example/termweave/termweave/release/RrfReaderNotUtf8PinLaw", "pick", "(JII)B"⟩ : MethodName)) hown (hw _ (List.mem_of_getElem? (i := 1) rfl)) (hw _ (List.mem_of_getElem? (i := 2) rfl)) (hw _ (List.mem_of_getElem? (i := 3) rfl)) (hw _ (List.mem_of_getElem? (i := 4) rfl)) (by decide) (rm1 l Z a0 hw [] q0 p2 (7 : Int32) h16 n0 (Nat.le_trans Z0 K16.1)) 2 (by decide) (by decide) e16 (by rw [hml]; rfl) [(.long q0), (.int p2), (.int (7 : Int32))] [(.int (7 : Int32)), (.ref b2)] rfl (lenOf pd_1 rfl) rfl (Nat.le_of_eq rfl) (hb hby at_86) (by decide) (by decide) ?_
  rintro T17 _ L17 X17 ⟨rfl, N17q, e17⟩
  have N17 := Fr.app N16 N17q
  show own_R p e below s _ _ _ T17 (mkF m 89 #[.val (.long q0), .second, .val (.int p2), .val (.int p3), .val (.int p4), .val (.ref b2), .unset, .unset, .unset, .unset] [(.int (pl_pick q0 p2 (7 : Int32))), (.int (7 : Int32)), (.ref b2)])
  obtain ⟨x7, hx7⟩ : ∃ z, z = nar .byte (pl_pick q0 p2 (7 : Int32)) := ⟨_, rfl⟩
  refine own_bastore X17 hx hZ e17 V_b2_16 (x' := x7) hx7.symm ⟨by decide, by decide⟩ 7 rfl (Nat.le_of_ble_eq_true rfl) (hb hby at_89) ?_
  intro T18 h18 X18 e18 W18 V18
  have K18 := K16.wr W18 (Or.inr sz_b2)
  have N18 := Fr.snoc X18 N17 n0_b2
  have V_b2_18 : Arv Z h18 b2 k2 .byte (8 : Int32) [(.int x0), (.int x1), (.int x2), (.int x3), (.int x4), (.int x5), (.int x6), (.int x7)] (.int (0 : Int32)) := V18
  show own_R p e below s _ _ _ T18 (mkF m 90 #[.val (.long q0), .second, .val (.int p2), .val (.int p3), .val (.int p4), .val (.ref b2), .unset, .unset, .unset, .unset] [])
  refine own_iloadN X18 hx (hb hby at_90) rfl ?_
  refine own_bipush X18 hx (7 : Int32) (hb hby at_91) rfl ?_
  refine own_iand X18 hx (hb hby at_93) ?_
  refine own_istore X18 hx (hb hby at_94) (l' := #[.val (.long q0), .second, .val (.int p2), .val (.int p3), .val (.int p4), .val (.ref b2), .val (.int (p3 &&& (7 : Int32))), .unset, .unset, .unset]) rfl ?_
  refine own_bipush X18 hx (8 : Int32) (hb hby at_96) rfl ?_
  refine own_iload X18 hx (hb hby at_98) rfl ?_
  refine own_iload X18 hx (hb hby at_100) rfl ?_
  refine own_bipush X18 hx (15 : Int32) (hb hby at_102) rfl ?_
  refine own_iand X18 hx (hb hby at_104) ?_
  refine own_iadd X18 hx (hb hby at_105) ?_
  refine own_callS X18 hx hZ (y := (⟨"java/lang/Math", "min", "(II)I"⟩ : MethodName)) hown (hw _ (List.mem_of_getElem? (i := 5) rfl)) (hw _ (List.mem_of_getElem? (i := 6) rfl)) (hw _ (List.mem_of_getElem? (i := 7) rfl)) (hw _ (List.mem_of_getElem? (i := 8) rfl)) (by decide) (rm2 l Z a0 hw [] (8 : Int32) ((p3 &&& (7 : Int32)) + (p4 &&& (15 : Int32))) h18 n0 (Nat.le_trans Z0 K18.1)) 0 (by decide) (by decide) e18 (by rw [hml]; rfl) [(.int (8 : Int32)), (.int ((p3 &&& (7 : Int32)) + (p4 &&& (15 : Int32))))] [] rfl (lenOf pd_2 rfl) rfl (Nat.le_of_eq rfl) (hb hby at_106) (by decide) (by decide) ?_
  rintro T19 _ L19 X19 ⟨rfl, N19q, e19⟩
  have N19 := Fr.app N18 N19q
  show own_R p e below s _ _ _ T19 (mkF m 109 #[.val (.long q0), .second, .val (.int p2), .val (.int p3), .val (.int p4), .val (.ref b2), .val (.int (p3 &&& (7 : Int32))), .unset, .unset, .unset] [(.int (pl_min (8 : Int32) ((p3 &&& (7 : Int32)) + (p4 &&& (15 : Int32)))))])
  obtain ⟨f1, f2⟩ := pl_ft p3 p4
  obtain ⟨en, hen⟩ : ∃ z, z = pl_min (8 : Int32) ((p3 &&& (7 : Int32)) + (p4 &&& (15 : Int32))) := ⟨_, rfl⟩
  simp only [← hen] at f2 ⊢
  obtain ⟨fr, hfr⟩ : ∃ z, z = (p3 &&& (7 : Int32)) := ⟨_, rfl⟩
  simp only [← hfr] at f1 ⊢
  show own_R p e below s _ _ _ T19 (mkF m 109 #[.val (.long q0), .second, .val (.int p2), .val (.int p3), .val (.int p4), .val (.ref b2), .val (.int fr), .unset, .unset, .unset] [(.int en)])
  refine own_istore X19 hx (hb hby at_109) (l' := #[.val (.long q0), .second, .val (.int p2), .val (.int p3), .val (.int p4), .val (.ref b2), .val (.int fr), .val (.int en), .unset, .unset]) rfl ?_
  refine own_iload X19 hx (hb hby at_111) rfl ?_
  refine own_istore X19 hx (hb hby at_113) (l' := #[.val (.long q0), .second, .val (.int p2), .val (.int p3), .val (.int p4), .val (.ref b2), .val (.int fr), .val (.int en), .val (.int fr), .unset]) rfl ?_
  refine own_aload X19 hx (hb hby at_115) rfl rfl ?_
  refine own_iload X19 hx (hb hby at_117) rfl ?_
  refine own_iload X19 hx (hb hby at_119) rfl ?_
  refine own_callS X19 hx hZ (y := (⟨"com/example/termweave/termweave/release/RrfReaderNotUtf8PinLaw", "step", "([BII)I"⟩ : MethodName)) hown (hw _ (List.mem_of_getElem? (i := 9) rfl)) (hw _ (List.mem_of_getElem? (i := 10) rfl)) (hw _ (List.mem_of_getElem? (i := 3) rfl)) (hw _ (List.mem_of_getElem? (i := 11) rfl)) (by decide) (rm3 l Z a0 hw [] b2 fr en k2 [x0, x1, x2, x3, x4, x5, x6, x7] h18 n0 (Nat.le_trans Z0 K18.1) V_b2_18 f2) 0 (by decide) (by decide) e19 (by rw [hml]; rfl) [(.ref b2), (.int fr), (.int en)] [] rfl (lenOf pd_0 rfl) rfl (Nat.le_of_eq rfl) (hb hby at_121) (by decide) (by decide) ?_
  rintro T20 _ L20 X20 ⟨rfl, N20q, e20⟩
  have N20 := Fr.app N19 N20q
  show own_R p e below s _ _ _ T20 (mkF m 124 #[.val (.long q0), .second, .val (.int p2), .val (.int p3), .val (.int p4), .val (.ref b2), .val (.int fr), .val (.int en), .val (.int fr), .unset] [(.int (pl_st fr en [x0, x1, x2, x3, x4, x5, x6, x7]))])
  obtain ⟨u0, hu0⟩ : ∃ z, z = pl_st fr en [x0, x1, x2, x3, x4, x5, x6, x7] := ⟨_, rfl⟩
  rw [← hu0]
  show own_R p e below s _ _ _ T20 (mkF m 124 #[.val (.long q0), .second, .val (.int p2), .val (.int p3), .val (.int p4), .val (.ref b2), .val (.int fr), .val (.int en), .val (.int fr), .unset] [(.int u0)])
  refine own_istore X20 hx (hb hby at_124) (l' := #[.val (.long q0), .second, .val (.int p2), .val (.int p3), .val (.int p4), .val (.ref b2), .val (.int fr), .val (.int en), .val (.int u0), .unset]) rfl ?_
  refine own_aload X20 hx (hb hby at_126) rfl rfl ?_
  refine own_iload X20 hx (hb hby at_128) rfl ?_
  refine own_iload X20 hx (hb hby at_130) rfl ?_
  refine own_callS X20 hx hZ (y := (⟨"com/example/termweave/termweave/release/RrfReaderNotUtf8PinLaw", "step", "([BII)I"⟩ : MethodName)) hown (hw _ (List.mem_of_getElem? (i := 9) rfl)) (hw _ (List.mem_of_getElem? (i := 10) rfl)) (hw _ (List.mem_of_getElem? (i := 3) rfl)) (hw _ (List.mem_of_getElem? (i := 11) rfl)) (by decide) (rm3 l Z a0 hw [] b2 u0 en k2 [x0, x1, x2, x3, x4, x5, x6, x7] h18 n0 (Nat.le_trans Z0 K18.1) V_b2_18 f2) 0 (by decide) (by decide) e20 (by rw [hml]; rfl) [(.ref b2), (.int u0), (.int en)] [] rfl (lenOf pd_0 rfl) rfl (Nat.le_of_eq rfl) (hb hby at_132) (by decide) (by decide) ?_
  rintro T21 _ L21 X21 ⟨rfl, N21q, e21⟩
  have N21 := Fr.app N20 N21q
  show own_R p e below s _ _ _ T21 (mkF m 135 #[.val (.long q0), .second, .val (.int p2), .val (.int p3), .val (.int p4), .val (.ref b2), .val (.int fr), .val (.int en), .val (.int u0), .unset] [(.int (pl_st u0 en [x0, x1, x2, x3, x4, x5, x6, x7]))])
  obtain ⟨u1, hu1⟩ : ∃ z, z = pl_st u0 en [x0, x1, x2, x3, x4, x5, x6, x7] := ⟨_, rfl⟩
  rw [← hu1]
  show own_R p e below s _ _ _ T21 (mkF m 135 #[.val (.long q0), .second, .val (.int p2), .val (.int p3), .val (.int p4), .val (.ref b2), .val (.int fr), .val (.int en), .val (.int u0), .unset] [(.int u1)])
  refine own_istore X21 hx (hb hby at_135) (l' := #[.val (.long q0), .second, .val (.int p2), .val (.int p3), .val (.int p4), .val (.ref b2), .val (.int fr), .val (.int en), .val (.int u1), .unset]) rfl ?_
  refine own_aload X21 hx (hb hby at_137) rfl rfl ?_
  refine own_iload X21 hx (hb hby at_139) rfl ?_
  refine own_iload X21 hx (hb hby at_141) rfl ?_
  refine own_callS X21 hx hZ (y := (⟨"com/example/termweave/termweave/release/RrfReaderNotUtf8PinLaw", "step", "([BII)I"⟩ : MethodName)) hown (hw _ (List.mem_of_getElem? (i := 9) rfl)) (hw _ (List.mem_of_getElem? (i := 10) rfl)) (hw _ (List.mem_of_getElem? (i := 3) rfl)) (hw _ (List.mem_of_getElem? (i := 11) rfl)) (by decide) (rm3 l Z a0 hw [] b2 u1 en k2 [x0, x1, x2, x3, x4, x5, x6, x7] h18 n0 (Nat.le_trans Z0 K18.1) V_b2_18 f2) 0 (by decide) (by decide) e21 (by rw [hml]; rfl) [(.ref b2), (.int u1), (.int en)] [] rfl (lenOf pd_0 rfl) rfl (Nat.le_of_eq rfl) (hb hby at_143) (by decide) (by decide) ?_
  rintro T22 _ L22 X22 ⟨rfl, N22q, e22⟩
  have N22 := Fr.app N21 N22q
  show own_R p e below s _ _ _ T22 (mkF m 146 #[.val (.long q0), .second, .val (.int p2), .val (.int p3), .val (.int p4), .val (.ref b2), .val (.int fr), .val (.int en), .val (.int u1), .unset] [(.int (pl_st u1 en [x0, x1, x2, x3, x4, x5, x6, x7]))])
  obtain ⟨u2, hu2⟩ : ∃ z, z = pl_st u1 en [x0, x1, x2, x3, x4, x5, x6, x7] := ⟨_, rfl⟩
  rw [← hu2]
  show own_R p e below s _ _ _ T22 (mkF m 146 #[.val (.long q0), .second, .val (.int p2), .val (.int p3), .val (.int p4), .val (.ref b2), .val (.int fr), .val (.int en), .val (.int u1), .unset] [(.int u2)])
  refine own_istore X22 hx (hb hby at_146) (l' := #[.val (.long q0), .second, .val (.int p2), .val (.int p3), .val (.int p4), .val (.ref b2), .val (.int fr), .val (.int en), .val (.int u2), .unset]) rfl ?_
  refine own_aload X22 hx (hb hby at_148) rfl rfl ?_
  refine own_iload X22 hx (hb hby at_150) rfl ?_
  refine own_iload X22 hx (hb hby at_152) rfl ?_
  refine own_callS X22 hx hZ (y := (⟨"com/example/termweave/termweave/release/RrfReaderNotUtf8PinLaw", "step", "([BII)I"⟩ : MethodName)) hown (hw _ (List.mem_of_getElem? (i := 9) rfl)) (hw _ (List.mem_of_getElem? (i := 10) rfl)) (hw _ (List.mem_of_getElem? (i := 3) rfl)) (hw _ (List.mem_of_getElem? (i := 11) rfl)) (by decide) (rm3 l Z a0 hw [] b2 u2 en k2 [x0, x1, x2, x3, x4, x5, x6, x7] h18 n0 (Nat.le_trans Z0 K18.1) V_b2_18 f2) 0 (by decide) (by decide) e22 (by rw [hml]; rfl) [(.ref b2), (.int u2), (.int en)] [] rfl (lenOf pd_0 rfl) rfl (Nat.le_of_eq rfl) (hb hby at_154) (by decide) (by decide) ?_
  rintro T23 _ L23 X23 ⟨rfl, N23q, e23⟩
  have N23 := Fr.app N22 N23q
  show own_R p e below s _ _ _ T23 (mkF m 157 #[.val (.long q0), .second, .val (.int p2), .val (.int p3), .val (.int p4), .val (.ref b2), .val (.int fr), .val (.int en), .val (.int u2), .unset] [(.int (pl_st u2 en [x0, x1, x2, x3, x4, x5, x6, x7]))])
  obtain ⟨u3, hu3⟩ : ∃ z, z = pl_st u2 en [x0, x1, x2, x3, x4, x5, x6, x7] := ⟨_, rfl⟩
  rw [← hu3]
  show own_R p e below s _ _ _ T23 (mkF m 157 #[.val (.long q0), .second, .val (.int p2), .val (.int p3), .val (.int p4), .val (.ref b2), .val (.int fr), .val (.int en), .val (.int u2), .unset] [(.int u3)])
  refine own_istore X23 hx (hb hby at_157) (l' := #[.val (.long q0), .second, .val (.int p2), .val (.int p3), .val (.int p4), .val (.ref b2), .val (.int fr), .val (.int en), .val (.int u3), .unset]) rfl ?_
  refine own_aload X23 hx (hb hby at_159) rfl rfl ?_
  refine own_iload X23 hx (hb hby at_161) rfl ?_
  refine own_iload X23 hx (hb hby at_163) rfl ?_
  refine own_callS X23 hx hZ (y := (⟨"com/example/termweave/termweave/release/RrfReaderNotUtf8PinLaw", "step", "([BII)I"⟩ : MethodName)) hown (hw _ (List.mem_of_getElem? (i := 9) rfl)) (hw _ (List.mem_of_getElem? (i := 10) rfl)) (hw _ (List.mem_of_getElem? (i := 3) rfl)) (hw _ (List.mem_of_getElem? (i := 11) rfl)) (by decide) (rm3 l Z a0 hw [] b2 u3 en k2 [x0, x1, x2, x3, x4, x5, x6, x7] h18 n0 (Nat.le_trans Z0 K18.1) V_b2_18 f2) 0 (by decide) (by decide) e23 (by rw [hml]; rfl) [(.ref b2), (.int u3), (.int en)] [] rfl (lenOf pd_0 rfl) rfl (Nat.le_of_eq rfl) (hb hby at_165) (by decide) (by decide) ?_
  rintro T24 _ L24 X24 ⟨rfl, N24q, e24⟩
  have N24 := Fr.app N23 N24q
  show own_R p e below s _ _ _ T24 (mkF m 168 #[.val (.long q0), .second, .val (.int p2), .val (.int p3), .val (.int p4), .val (.ref b2), .val (.int fr), .val (.int en), .val (.int u3), .unset] [(.int (pl_st u3 en [x0, x1, x2, x3, x4, x5, x6, x7]))])
  obtain ⟨u4, hu4⟩ : ∃ z, z = pl_st u3 en [x0, x1, x2, x3, x4, x5, x6, x7] := ⟨_, rfl⟩
  rw [← hu4]
  show own_R p e below s _ _ _ T24 (mkF m 168 #[.val (.long q0), .second, .val (.int p2), .val (.int p3), .val (.int p4), .val (.ref b2), .val (.int fr), .val (.int en), .val (.int u3), .unset] [(.int u4)])
  refine own_istore X24 hx (hb hby at_168) (l' := #[.val (.long q0), .second, .val (.int p2), .val (.int p3), .val (.int p4), .val (.ref b2), .val (.int fr), .val (.int en), .val (.int u4), .unset]) rfl ?_
  refine own_aload X24 hx (hb hby at_170) rfl rfl ?_
  refine own_iload X24 hx (hb hby at_172) rfl ?_
  refine own_iload X24 hx (hb hby at_174) rfl ?_
  refine own_callS X24 hx hZ (y := (⟨"com/example/termweave/termweave/release/RrfReaderNotUtf8PinLaw", "step", "([BII)I"⟩ : MethodName)) hown (hw _ (List.mem_of_getElem? (i := 9) rfl)) (hw _ (List.mem_of_getElem? (i := 10) rfl)) (hw _ (List.mem_of_getElem? (i := 3) rfl)) (hw _ (List.mem_of_getElem? (i := 11) rfl)) (by decide) (rm3 l Z a0 hw [] b2 u4 en k2 [x0, x1, x2, x3, x4, x5, x6, x7] h18 n0 (Nat.le_trans Z0 K18.1) V_b2_18 f2) 0 (by decide) (by decide) e24 (by rw [hml]; rfl) [(.ref b2), (.int u4), (.int en)] [] rfl (lenOf pd_0 rfl) rfl (Nat.le_of_eq rfl) (hb hby at_176) (by decide) (by decide) ?_
  rintro T25 _ L25 X25 ⟨rfl, N25q, e25⟩
  have N25 := Fr.app N24 N25q
  show own_R p e below s _ _ _ T25 (mkF m 179 #[.val (.long q0), .second, .val (.int p2), .val (.int p3), .val (.int p4), .val (.ref b2), .val (.int fr), .val (.int en), .val (.int u4), .unset] [(.int (pl_st u4 en [x0, x1, x2, x3, x4, x5, x6, x7]))])
  obtain ⟨u5, hu5⟩ : ∃ z, z = pl_st u4 en [x0, x1, x2, x3, x4, x5, x6, x7] := ⟨_, rfl⟩
  rw [← hu5]
  show own_R p e below s _ _ _ T25 (mkF m 179 #[.val (.long q0), .second, .val (.int p2), .val (.int p3), .val (.int p4), .val (.ref b2), .val (.int fr), .val (.int en), .val (.int u4), .unset] [(.int u5)])
  refine own_istore X25 hx (hb hby at_179) (l' := #[.val (.long q0), .second, .val (.int p2), .val (.int p3), .val (.int p4), .val (.ref b2), .val (.int fr), .val (.int en), .val (.int u5), .unset]) rfl ?_
  refine own_aload X25 hx (hb hby at_181) rfl rfl ?_
  refine own_iload X25 hx (hb hby at_183) rfl ?_
  refine own_iload X25 hx (hb hby at_185) rfl ?_
  refine own_callS X25 hx hZ (y := (⟨"com/example/termweave/termweave/release/RrfReaderNotUtf8PinLaw", "step", "([BII)I"⟩ : MethodName)) hown (hw _ (List.mem_of_getElem? (i := 9) rfl)) (hw _ (List.mem_of_getElem? (i := 10) rfl)) (hw _ (List.mem_of_getElem? (i := 3) rfl)) (hw _ (List.mem_of_getElem? (i := 11) rfl)) (by decide) (rm3 l Z a0 hw [] b2 u5 en k2 [x0, x1, x2, x3, x4, x5, x6, x7] h18 n0 (Nat.le_trans Z0 K18.1) V_b2_18 f2) 0 (by decide) (by decide) e25 (by rw [hml]; rfl) [(.ref b2), (.int u5), (.int en)] [] rfl (lenOf pd_0 rfl) rfl (Nat.le_of_eq rfl) (hb hby at_187) (by decide) (by decide) ?_
  rintro T26 _ L26 X26 ⟨rfl, N26q, e26⟩
  have N26 := Fr.app N25 N26q
  show own_R p e below s _ _ _ T26 (mkF m 190 #[.val (.long q0), .second, .val (.int p2), .val (.int p3), .val (.int p4), .val (.ref b2), .val (.int fr), .val (.int en), .val (.int u5), .unset] [(.int (pl_st u5 en [x0, x1, x2, x3, x4, x5, x6, x7]))])
  obtain ⟨u6, hu6⟩ : ∃ z, z = pl_st u5 en [x0, x1, x2, x3, x4, x5, x6, x7] := ⟨_, rfl⟩
  rw [← hu6]
  show own_R p e below s _ _ _ T26 (mkF m 190 #[.val (.long q0), .second, .val (.int p2), .val (.int p3), .val (.int p4), .val (.ref b2), .val (.int fr), .val (.int en), .val (.int u5), .unset] [(.int u6)])
  refine own_istore X26 hx (hb hby at_190) (l' := #[.val (.long q0), .second, .val (.int p2), .val (.int p3), .val (.int p4), .val (.ref b2), .val (.int fr), .val (.int en), .val (.int u6), .unset]) rfl ?_
  refine own_aload X26 hx (hb hby at_192) rfl rfl ?_
  refine own_iload X26 hx (hb hby at_194) rfl ?_
  refine own_iload X26 hx (hb hby at_196) rfl ?_
  refine own_callS X26 hx hZ (y := (⟨"com/example/termweave/termweave/release/RrfReaderNotUtf8PinLaw", "step", "([BII)I"⟩ : MethodName)) hown (hw _ (List.mem_of_getElem? (i := 9) rfl)) (hw _ (List.mem_of_getElem? (i := 10) rfl)) (hw _ (List.mem_of_getElem? (i := 3) rfl)) (hw _ (List.mem_of_getElem? (i := 11) rfl)) (by decide) (rm3 l Z a0 hw [] b2 u6 en k2 [x0, x1, x2, x3, x4, x5, x6, x7] h18 n0 (Nat.le_trans Z0 K18.1) V_b2_18 f2) 0 (by decide) (by decide) e26 (by rw [hml]; rfl) [(.ref b2), (.int u6), (.int en)] [] rfl (lenOf pd_0 rfl) rfl (Nat.le_of_eq rfl) (hb hby at_198) (by decide) (by decide) ?_
  rintro T27 _ L27 X27 ⟨rfl, N27q, e27⟩
  have N27 := Fr.app N26 N27q
  show own_R p e below s _ _ _ T27 (mkF m 201 #[.val (.long q0), .second, .val (.int p2), .val (.int p3), .val (.int p4), .val (.ref b2), .val (.int fr), .val (.int en), .val (.int u6), .unset] [(.int (pl_st u6 en [x0, x1, x2, x3, x4, x5, x6, x7]))])
  obtain ⟨u7, hu7⟩ : ∃ z, z = pl_st u6 en [x0, x1, x2, x3, x4, x5, x6, x7] := ⟨_, rfl⟩
  rw [← hu7]
  show own_R p e below s _ _ _ T27 (mkF m 201 #[.val (.long q0), .second, .val (.int p2), .val (.int p3), .val (.int p4), .val (.ref b2), .val (.int fr), .val (.int en), .val (.int u6), .unset] [(.int u7)])
  have hfin := pl_fin [x0, x1, x2, x3, x4, x5, x6, x7] en fr u0 u1 u2 u3 u4 u5 u6 u7 f1 f2 hu0 hu1 hu2 hu3 hu4 hu5 hu6 hu7
  refine own_istore X27 hx (hb hby at_201) (l' := #[.val (.long q0), .second, .val (.int p2), .val (.int p3), .val (.int p4), .val (.ref b2), .val (.int fr), .val (.int en), .val (.int u7), .unset]) rfl ?_
  refine own_iload X27 hx (hb hby at_203) rfl ?_
  have J219 : ∀ (ex : Int32) (hex : pl_nu [x0, x1, x2, x3, x4, x5, x6, x7] en 8 fr = ex), own_R p e below s (Q0 Z q0 p2 p3 p4 h0 n0) room_1.cells room_1.slots T27 (mkF m 219 #[.val (.long q0), .second, .val (.int p2), .val (.int p3), .val (.int p4), .val (.ref b2), .val (.int fr), .val (.int en), .val (.int u7), .val (.int ex)] []) := by
    intro ex hex
    refine own_aload X27 hx (hb hby at_219) rfl rfl ?_
    refine own_iload X27 hx (hb hby at_221) rfl ?_
    refine own_iload X27 hx (hb hby at_223) rfl ?_
    refine own_callS X27 hx hZ (y := (⟨"com/example/termweave/termweave/release/RrfReader", "notUtf8", "([BII)I"⟩ : MethodName)) hown (hw _ (List.mem_of_getElem? (i := 12) rfl)) (hw _ (List.mem_of_getElem? (i := 13) rfl)) (hw _ (List.mem_of_getElem? (i := 14) rfl)) (hw _ (List.mem_of_getElem? (i := 15) rfl)) (by decide) (rm4 l Z a0 hw [] b2 fr en k2 [x0, x1, x2, x3, x4, x5, x6, x7] h18 n0 (Nat.le_trans Z0 K18.1) V_b2_18 f1 f2) 0 (by decide) (by decide) e27 (by rw [hml]; rfl) [(.ref b2), (.int fr), (.int en)] [] rfl (lenOf pd_0 rfl) rfl (Nat.le_of_eq rfl) (hb hby at_225) (by decide) (by decide) ?_
    rintro T28 _ L28 X28 ⟨rfl, N28q, e28⟩
    have N28 := Fr.app N27 N28q
    show own_R p e below s _ _ _ T28 (mkF m 228 #[.val (.long q0), .second, .val (.int p2), .val (.int p3), .val (.int p4), .val (.ref b2), .val (.int fr), .val (.int en), .val (.int u7), .val (.int ex)] [(.int (pl_nu [x0, x1, x2, x3, x4, x5, x6, x7] en 8 fr))])
    refine own_iload X28 hx (hb hby at_228) rfl ?_
    refine own_icmp X28 hx (hb hby at_230) (pc' := 237) (by decide) (by decide) (fun hc => ?_) (fun hc => ?_)
    · have hc230 : ¬ (pl_nu [x0, x1, x2, x3, x4, x5, x6, x7] en 8 fr) = ex := own_ne1 hc
      exact absurd hex hc230
    · have hc230 : (pl_nu [x0, x1, x2, x3, x4, x5, x6, x7] en 8 fr) = ex := own_ne0 hc
      clear hc
      show own_R p e below s _ _ _ T28 (mkF m 233 #[.val (.long q0), .second, .val (.int p2), .val (.int p3), .val (.int p4), .val (.ref b2), .val (.int fr), .val (.int en), .val (.int u7), .val (.int ex)] [])
      refine own_iconst X28 hx (1 : Int32) (hb hby at_233) rfl ?_
      refine own_goto X28 hx (hb hby at_234) (pc' := 238) (by decide) (by decide) ?_
      show own_R p e below s _ _ _ T28 (mkF m 238 #[.val (.long q0), .second, .val (.int p2), .val (.int p3), .val (.int p4), .val (.ref b2), .val (.int fr), .val (.int en), .val (.int u7), .val (.int ex)] [(.int (1 : Int32))])
      refine own_retN X28 hx (t := .boolean) Bd.returns (by simp) hlk (hb hby at_238) ?_ (by decide) (by decide)
      exact ⟨rfl, N28⟩
  refine own_if X27 hx (hb hby at_205) (pc' := 216) (by decide) (by decide) (fun hc => ?_) (fun hc => ?_)
  · have hc205 : ¬ u7 < (0 : Int32) := own_ge1 hc
    clear hc
    show own_R p e below s _ _ _ T27 (mkF m 216 #[.val (.long q0), .second, .val (.int p2), .val (.int p3), .val (.int p4), .val (.ref b2), .val (.int fr), .val (.int en), .val (.int u7), .unset] [])
    refine own_iconst X27 hx (-1 : Int32) (hb hby at_216) rfl ?_
    refine own_istore X27 hx (hb hby at_217) (l' := #[.val (.long q0), .second, .val (.int p2), .val (.int p3), .val (.int p4), .val (.ref b2), .val (.int fr), .val (.int en), .val (.int u7), .val (.int (-1 : Int32))]) rfl ?_
    exact J219 _ (hfin.2 hc205)
  · have hc205 : u7 < (0 : Int32) := own_ge0 hc
    clear hc
    show own_R p e below s _ _ _ T27 (mkF m 208 #[.val (.long q0), .second, .val (.int p2), .val (.int p3), .val (.int p4), .val (.ref b2), .val (.int fr), .val (.int en), .val (.int u7), .unset] [])
    refine own_bipush X27 hx (-2 : Int32) (hb hby at_208) rfl ?_
    refine own_iload X27 hx (hb hby at_210) rfl ?_
    refine own_isub X27 hx (hb hby at_212) ?_
    refine own_goto X27 hx (hb hby at_213) (pc' := 217) (by decide) (by decide) ?_
    show own_R p e below s _ _ _ T27 (mkF m 217 #[.val (.long q0), .second, .val (.int p2), .val (.int p3), .val (.int p4), .val (.ref b2), .val (.int fr), .val (.int en), .val (.int u7), .unset] [(.int ((-2 : Int32) - u7))])
    refine own_istore X27 hx (hb hby at_217) (l' := #[.val (.long q0), .second, .val (.int p2), .val (.int p3), .val (.int p4), .val (.ref b2), .val (.int fr), .val (.int en), .val (.int u7), .val (.int ((-2 : Int32) - u7))]) rfl ?_
    exact J219 _ (hfin.1 hc205)
set_option maxRecDepth 65536 in
set_option maxHeartbeats 40000000 in
theorem comes_1 {Post : Tables → Env → Array Value → State → Outcome → State → Prop} (hpost : ∀ tb e args s v u, (limb_1_1.after args s (.returned v) u = true ∧ limb_1_2.after args s (.returned v) u = true) → FrameEnd s (.returned v) u (Jvm.fieldLocs frame_1_writes args s ++ Jvm.arrayLocs frame_1_arrays args s ++ Jvm.staticLocs frame_1_statics s) 16 128 → Post tb e args s (.returned v) u) :
    ArmFor flags0 classFile x code maxLocals ret World_1 tables_1 room_1 Calls_1 rest_1 Pre_1 Post := by
  intro l hfl _ _ p e ha hc hk s m args below hf hA hF happ hP
  obtain ⟨hcalls, hrest, hpre⟩ := hP
  obtain ⟨-, -, -, hnamed, -, -, -, hat⟩ := (Spec.applies_iff hf).mp happ
  obtain ⟨hg, hn⟩ := and_e (Cond.before_iff.mp (show (Jvm.Cond.and given_1 narrow_1).before args s = true from hpre))
  obtain ⟨g1, g2⟩ := and_e hg
  obtain ⟨g3, g4⟩ := and_e g2
  obtain ⟨g5, g6⟩ := and_e g4
  obtain ⟨g7, g8⟩ := and_e g6
  obtain ⟨w0, w1, w2, w3, rfl⟩ : ∃ w0 w1 w2 w3 : Value, args = #[w0, w1, w2, w3] := by
    have hs : args.size = 4 := by simpa [Cond.value, given_1] using g1
    obtain ⟨L⟩ := args
    match L, hs with
    | [w0, w1, w2, w3], _ => exact ⟨w0, w1, w2, w3, rfl⟩
  have hw := fun d (hd : d ∈ tables_1) => atoms_spec (ws := Jvm.Cond.code x code maxLocals ret :: tables_1) hat d (List.mem_cons_of_mem _ hd)
  obtain ⟨i0, ei0⟩ := isL_v g3
  obtain rfl : w0 = (.long i0) := Option.some.inj ei0
  obtain ⟨i1, ei1⟩ := is_v g5
  obtain rfl : w1 = (.int i1) := Option.some.inj ei1
  obtain ⟨i2, ei2⟩ := is_v g7
  obtain rfl : w2 = (.int i2) := Option.some.inj ei2
  obtain ⟨i3, ei3⟩ := is_v g8
  obtain rfl : w3 = (.int i3) := Option.some.inj ei3
  obtain ⟨n, o, h1, h2, h3, _, L, rfl, ⟨rfl, N⟩, hq⟩ := rm0 l s _ hw tables_1 i0 i1 i2 i3 s.heap s.heap.size (Nat.le_refl _) p e ha hc hk s m _ below hf ((Spec.applies_iff_loose hf).mp happ).1 ⟨rfl, State.Warmed39.refl s, rfl⟩ trivial
  refine ⟨n, _, h1, h2, h3, hpost _ _ _ _ _ _ ⟨Cond.after_iff.mpr rfl, Cond.after_iff.mpr (eq_i res_at (Term.int_eval (1)) rfl)⟩ ⟨hq.1, hq.2.1, (hq.2.2.sift fun y hy => Or.inr (N y hy)).mono (by decide) (by decide)⟩⟩
theorem main_1_1 : Claimed_1_1 := comes_1 fun _ _ _ _ _ _ h hF => ⟨h.1, hF⟩
theorem main_1_2 : Claimed_1_2 := comes_1 fun _ _ _ _ _ _ h hF => ⟨h.2, hF⟩
end Jvm.Pilot.@@N@@
namespace Jvm.Pilot.@@N@@
open Jvm Jvm.ClassFile Sem Op Lib Jvm.Free Jvm.Stand Jvm.Pilot.@@N@@.Jvm.D
/-! MADE BY PROGRAM (witnessworld.py) out of the Statement's table words and the real class files: 12 classes; the members and pool entries that the words name. The judged class is class 1, her method 1. -/
namespace start1
open Jvm.ClassFile
def u (s : String) : CpInfo := .utf8 (stringToUtf16 s)
/-- a pool by its gaps: so many unusable entries, then the entry; so many at the end -/
def gap : Nat → List CpInfo → List CpInfo
  | 0, r => r
  | n + 1, r => .unusable :: gap n r
def poolList (es : List (Nat × CpInfo)) (last : Nat) : List CpInfo := es.foldr (fun e r => gap e.1 (e.2 :: r)) (gap last [])
def pool (es : List (Nat × CpInfo)) (last : Nat) : Array CpInfo := ⟨poolList es last⟩
def fileOf (pool : Array CpInfo) (this : Nat) (attrs : Array Attribute := #[]) (ms : Array MethodInfo := #[]) (fl : Nat := 33) (sup : Nat := 0) (ifs : Array Nat := #[]) (fds : Array FieldInfo := #[]) : ClassFile where
  minorVersion := 0
  majorVersion := 65
  constantPool := pool
  accessFlags := fl
  thisClass := this
  superClass := sup
  interfaces := ifs
  fields := fds
  methods := ms
  attributes := attrs
def plain (name : String) (sup : Option ClassId) : Class where
  name := name
  kind := .ordinary
  loader := none
  accessFlags := 33
  super := sup
  interfaces := #[]
  cf := none
  fields := #[]
  methods := #[]
  instanceTypes := #[]
  staticTypes := #[]
  resolved := #[]
  callSites := []
  init := .initialized
  statics := none
  mirror := none

def pool0 : Array CpInfo := pool [(5, u "<init>"), (0, u "()V"), (1, .class_ 10), (1, u "java/lang/Object")] 113

def k0m0 : Method := { name := "<init>", desc := "()V", sig := { parameters := [], returnType := none }, accessFlags := 1, code := none }
/-- java/lang/Object -/
def k0 : Class := { plain "java/lang/Object" none with
  accessFlags := 33
  interfaces := #[]
  cf := some (fileOf pool0 8 #[] #[{ accessFlags := 1, nameIndex := 5, descriptorIndex := 6, attributes := #[] }] 33 0 #[] #[])
  fields := #[]
  methods := #[k0m0]
  instanceTypes := #[]
  staticTypes := #[]
  resolved := Array.replicate 124 none
  statics := none }

def pool1 : Array CpInfo := pool [(2, .class_ 4), (1, u "java/lang/Object"), (0, u "<init>"), (0, u "()V"), (0, .methodref 8 9), (0, .class_ 10), (0, .nameAndType 11 12), (0, u "com/example/termweave/termweave/release/RrfReaderNotUtf8PinLaw"), (0, u "pick"), (0, u "(JII)B"), (0, .methodref 14 15), (0, .class_ 16), (0, .nameAndType 17 18), (0, u "java/lang/Math"), (0, u "min"), (0, u "(II)I"), (0, .methodref 8 20), (0, .nameAndType 21 22), (0, u "step"), (0, u "([BII)I"), (0, .methodref 24 25), (0, .class_ 26), (0, .nameAndType 27 22), (0, u "com/example/termweave/termweave/release/RrfReader"), (0, u "notUtf8"), (0, .methodref 8 29), (0, .nameAndType 30 22), (0, u "wellFormed"), (0, .integer 65536), (0, .integer 1114111), (0, .integer 55296), (0, .integer 57343), (2, u "law"), (0, u "(JIII)Z")] 5

def k1m0 : Method := { name := "<init>", desc := "()V", sig := { parameters := [], returnType := none }, accessFlags := 1, code := none }
def k1c1 : Code := { maxStack := 6, maxLocals := 10, code := code, exceptionTable := #[], attributes := #[] }
def k1m1 : Method := { name := "law", desc := "(JIII)Z", sig := { parameters := [.long, .int, .int, .int], returnType := some .boolean }, accessFlags := 9, code := some k1c1 }
def k1c2 : Code := { maxStack := 4, maxLocals := 5, code := method_3_code, exceptionTable := #[], attributes := #[] }
def k1m2 : Method := { name := "pick", desc := "(JII)B", sig := { parameters := [.long, .int, .int], returnType := some .byte }, accessFlags := 10, code := some k1c2 }
def k1c3 : Code := { maxStack := 3, maxLocals := 4, code := method_4_code, exceptionTable := #[], attributes := #[] }
def k1m3 : Method := { name := "step", desc := "([BII)I", sig := { parameters := [(.array .byte), .int, .int], returnType := some .int }, accessFlags := 10, code := some k1c3 }
def k1c4 : Code := { maxStack := 3, maxLocals := 8, code := method_5_code, exceptionTable := #[], attributes := #[] }
def k1m4 : Method := { name := "wellFormed", desc := "([BII)I", sig := { parameters := [(.array .byte), .int, .int], returnType := some .int }, accessFlags := 10, code := some k1c4 }
/-- com/example/termweave/termweave/release/RrfReaderNotUtf8PinLaw -/
def k1 : Class := { plain "com/example/termweave/termweave/release/RrfReaderNotUtf8PinLaw" (some 0) with
  accessFlags := 49
  interfaces := #[]
  cf := some (fileOf pool1 8 #[] #[{ accessFlags := 1, nameIndex := 5, descriptorIndex := 6, attributes := #[] }, { accessFlags := 9, nameIndex := 37, descriptorIndex := 38, attributes := #[] }, { accessFlags := 10, nameIndex := 11, descriptorIndex := 12, attributes := #[] }, { accessFlags := 10, nameIndex := 21, descriptorIndex := 22, attributes := #[] }, { accessFlags := 10, nameIndex := 30, descriptorIndex := 22, attributes := #[] }] 49 2 #[] #[])
  fields := #[]
  methods := #[k1m0, k1m1, k1m2, k1m3, k1m4]
  instanceTypes := #[]
  staticTypes := #[]
  resolved := Array.replicate 44 none
  statics := none }

def pool2 : Array CpInfo := pool [(1, .class_ 2), (0, u "java/lang/Math"), (1, .class_ 6), (1, u "java/lang/Object"), (0, u "<init>"), (0, u "()V"), (89, .class_ 100), (1, u "java/lang/Math$RandomNumberGeneratorHolder"), (71, u "negativeZeroFloatBits"), (0, u "J"), (2, u "negativeZeroDoubleBits"), (24, u "min"), (43, u "$assertionsDisabled"), (0, u "Z"), (88, u "(II)I"), (2, u "twoToTheDoubleScaleDown"), (0, u "D"), (4, u "twoToTheDoubleScaleUp"), (9, u "E"), (3, u "PI"), (2, u "TAU"), (2, u "DEGREES_TO_RADIANS"), (0, u "RADIANS_TO_DEGREES")] 94

def k2m0 : Method := { name := "<init>", desc := "()V", sig := { parameters := [], returnType := none }, accessFlags := 2, code := none }
def k2c1 : Code := { maxStack := 2, maxLocals := 2, code := jdk_29_method_69_code, exceptionTable := #[], attributes := #[] }
def k2m1 : Method := { name := "min", desc := "(II)I", sig := { parameters := [.int, .int], returnType := some .int }, accessFlags := 9, code := some k2c1 }
/-- java/lang/Math -/
def k2 : Class := { plain "java/lang/Math" (some 0) with
  accessFlags := 49
  interfaces := #[]
  cf := some (fileOf pool2 1 #[.nestMembers #[98]] #[{ accessFlags := 2, nameIndex := 7, descriptorIndex := 8, attributes := #[] }, { accessFlags := 9, nameIndex := 201, descriptorIndex := 335, attributes := #[] }] 49 4 #[] #[{ accessFlags := 25, nameIndex := 354, descriptorIndex := 339, attributes := #[] }, { accessFlags := 25, nameIndex := 358, descriptorIndex := 339, attributes := #[] }, { accessFlags := 25, nameIndex := 361, descriptorIndex := 339, attributes := #[] }, { accessFlags := 26, nameIndex := 364, descriptorIndex := 339, attributes := #[] }, { accessFlags := 26, nameIndex := 365, descriptorIndex := 339, attributes := #[] }, { accessFlags := 26, nameIndex := 172, descriptorIndex := 173, attributes := #[] }, { accessFlags := 26, nameIndex := 176, descriptorIndex := 173, attributes := #[] }, { accessFlags := 8, nameIndex := 344, descriptorIndex := 339, attributes := #[] }, { accessFlags := 8, nameIndex := 338, descriptorIndex := 339, attributes := #[] }, { accessFlags := 4120, nameIndex := 245, descriptorIndex := 246, attributes := #[] }])
  fields := #[{ name := "E", type := .double, accessFlags := 25, slot := 0, constantValue := 0 }, { name := "PI", type := .double, accessFlags := 25, slot := 1, constantValue := 0 }, { name := "TAU", type := .double, accessFlags := 25, slot := 2, constantValue := 0 }, { name := "DEGREES_TO_RADIANS", type := .double, accessFlags := 26, slot := 3, constantValue := 0 }, { name := "RADIANS_TO_DEGREES", type := .double, accessFlags := 26, slot := 4, constantValue := 0 }, { name := "negativeZeroFloatBits", type := .long, accessFlags := 26, slot := 5, constantValue := 0 }, { name := "negativeZeroDoubleBits", type := .long, accessFlags := 26, slot := 6, constantValue := 0 }, { name := "twoToTheDoubleScaleUp", type := .double, accessFlags := 8, slot := 7, constantValue := 0 }, { name := "twoToTheDoubleScaleDown", type := .double, accessFlags := 8, slot := 8, constantValue := 0 }, { name := "$assertionsDisabled", type := .boolean, accessFlags := 4120, slot := 9, constantValue := 0 }]
  methods := #[k2m0, k2m1]
  instanceTypes := #[]
  staticTypes := #[.double, .double, .double, .double, .double, .long, .long, .double, .double, .boolean]
  resolved := Array.replicate 460 none
  statics := none }

def pool3 : Array CpInfo := pool [(2, .class_ 4), (1, u "java/lang/Object"), (3, .class_ 10), (1, u "com/example/termweave/termweave/release/RrfRow"), (0, u "rowEnd"), (0, u "I"), (2, u "bytes"), (0, u "[B"), (2, u "fieldEnds"), (0, u "[I"), (2, u "rowStart"), (2, u "ascii"), (0, u "Z"), (32, u "BYTE_ORDER"), (0, u "Ljava/util/Comparator;")] 38

/-- com/example/termweave/termweave/release/RrfRow -/
def k3 : Class := { plain "com/example/termweave/termweave/release/RrfRow" (some 0) with
  accessFlags := 1057
  interfaces := #[]
  cf := some (fileOf pool3 8 #[] #[] 1057 2 #[] #[{ accessFlags := 25, nameIndex := 60, descriptorIndex := 61, attributes := #[] }, { accessFlags := 0, nameIndex := 15, descriptorIndex := 16, attributes := #[] }, { accessFlags := 0, nameIndex := 23, descriptorIndex := 12, attributes := #[] }, { accessFlags := 0, nameIndex := 11, descriptorIndex := 12, attributes := #[] }, { accessFlags := 16, nameIndex := 19, descriptorIndex := 20, attributes := #[] }, { accessFlags := 0, nameIndex := 26, descriptorIndex := 27, attributes := #[] }])
  fields := #[{ name := "BYTE_ORDER", type := (.object "java/util/Comparator"), accessFlags := 25, slot := 0, constantValue := 0 }, { name := "bytes", type := (.array .byte), accessFlags := 0, slot := 0, constantValue := 0 }, { name := "rowStart", type := .int, accessFlags := 0, slot := 1, constantValue := 0 }, { name := "rowEnd", type := .int, accessFlags := 0, slot := 2, constantValue := 0 }, { name := "fieldEnds", type := (.array .int), accessFlags := 16, slot := 3, constantValue := 0 }, { name := "ascii", type := .boolean, accessFlags := 0, slot := 4, constantValue := 0 }]
  methods := #[]
  instanceTypes := #[(.array .byte), .int, .int, (.array .int), .boolean]
  staticTypes := #[(.object "java/util/Comparator")]
  resolved := Array.replicate 100 none
  statics := none }

def pool4 : Array CpInfo := pool [(1, .class_ 2), (0, u "java/lang/AutoCloseable"), (0, .class_ 4), (0, u "java/lang/Object")] 7

/-- java/lang/AutoCloseable -/
def k4 : Class := { plain "java/lang/AutoCloseable" (some 0) with
  accessFlags := 1537
  interfaces := #[]
  cf := some (fileOf pool4 1 #[] #[] 1537 3 #[] #[])
  fields := #[]
  methods := #[]
  instanceTypes := #[]
  staticTypes := #[]
  resolved := Array.replicate 12 none
  statics := none }

def pool5 : Array CpInfo := pool [(2, .class_ 4), (1, u "com/example/termweave/termweave/release/RrfReader$Part"), (3, .class_ 10), (1, u "com/example/termweave/termweave/release/RrfReader"), (4, u "start"), (8, .class_ 26), (1, u "com/example/termweave/termweave/release/RrfReader$LineEnd"), (1, u "Lcom/example/termweave/termweave/release/RrfReader$LineEnd;"), (15, .class_ 46), (1, u "com/example/termweave/termweave/release/RrfRow"), (5, u "next"), (0, u "J"), (2, u "decoded"), (0, u "[I"), (2, u "letters"), (0, u "[C"), (2, u "codes"), (2, u "file"), (0, u "Ljava/nio/file/Path;"), (6, u "columns"), (0, u "Ljava/util/List;"), (4, u "lineEnd"), (2, u "remaining"), (2, u "in"), (0, u "Ljava/nio/channels/FileChannel;"), (153, u "I"), (5, u "limit"), (4, u "LONGS"), (0, u "Ljava/lang/invoke/VarHandle;"), (34, u "line"), (69, u "notUtf8"), (0, u "([BII)I"), (38, u "bytesRead"), (43, .class_ 444), (0, u "java/lang/AutoCloseable"), (0, u "INITIAL_BUFFER_SIZE"), (1, u "SCAN_SIZE"), (1, u "PIPES"), (0, u "LINE_FEEDS")] 64

def k5c0 : Code := { maxStack := 3, maxLocals := 10, code := prog_43_method_27_code, exceptionTable := #[], attributes := #[] }
def k5m0 : Method := { name := "notUtf8", desc := "([BII)I", sig := { parameters := [(.array .byte), .int, .int], returnType := some .int }, accessFlags := 9, code := some k5c0 }
/-- com/example/termweave/termweave/release/RrfReader -/
def k5 : Class := { plain "com/example/termweave/termweave/release/RrfReader" (some 3) with
  accessFlags := 49
  interfaces := #[4]
  cf := some (fileOf pool5 8 #[.nestMembers #[24, 2]] #[{ accessFlags := 9, nameIndex := 359, descriptorIndex := 360, attributes := #[] }] 49 44 #[443] #[{ accessFlags := 26, nameIndex := 445, descriptorIndex := 242, attributes := #[] }, { accessFlags := 26, nameIndex := 447, descriptorIndex := 242, attributes := #[] }, { accessFlags := 26, nameIndex := 253, descriptorIndex := 254, attributes := #[] }, { accessFlags := 26, nameIndex := 449, descriptorIndex := 53, attributes := #[] }, { accessFlags := 26, nameIndex := 450, descriptorIndex := 53, attributes := #[] }, { accessFlags := 18, nameIndex := 67, descriptorIndex := 68, attributes := #[] }, { accessFlags := 18, nameIndex := 75, descriptorIndex := 76, attributes := #[] }, { accessFlags := 18, nameIndex := 15, descriptorIndex := 53, attributes := #[] }, { accessFlags := 18, nameIndex := 81, descriptorIndex := 28, attributes := #[] }, { accessFlags := 18, nameIndex := 87, descriptorIndex := 88, attributes := #[] }, { accessFlags := 2, nameIndex := 52, descriptorIndex := 53, attributes := #[] }, { accessFlags := 2, nameIndex := 84, descriptorIndex := 53, attributes := #[] }, { accessFlags := 2, nameIndex := 399, descriptorIndex := 53, attributes := #[] }, { accessFlags := 2, nameIndex := 248, descriptorIndex := 242, attributes := #[] }, { accessFlags := 2, nameIndex := 289, descriptorIndex := 53, attributes := #[] }, { accessFlags := 2, nameIndex := 56, descriptorIndex := 57, attributes := #[] }, { accessFlags := 18, nameIndex := 60, descriptorIndex := 61, attributes := #[] }, { accessFlags := 18, nameIndex := 64, descriptorIndex := 57, attributes := #[] }])
  fields := #[{ name := "INITIAL_BUFFER_SIZE", type := .int, accessFlags := 26, slot := 0, constantValue := 0 }, { name := "SCAN_SIZE", type := .int, accessFlags := 26, slot := 1, constantValue := 0 }, { name := "LONGS", type := (.object "java/lang/invoke/VarHandle"), accessFlags := 26, slot := 2, constantValue := 0 }, { name := "PIPES", type := .long, accessFlags := 26, slot := 3, constantValue := 0 }, { name := "LINE_FEEDS", type := .long, accessFlags := 26, slot := 4, constantValue := 0 }, { name := "file", type := (.object "java/nio/file/Path"), accessFlags := 18, slot := 5, constantValue := 0 }, { name := "columns", type := (.object "java/util/List"), accessFlags := 18, slot := 6, constantValue := 0 }, { name := "start", type := .long, accessFlags := 18, slot := 7, constantValue := 0 }, { name := "lineEnd", type := (.object "com/example/termweave/termweave/release/RrfReader$LineEnd"), accessFlags := 18, slot := 8, constantValue := 0 }, { name := "in", type := (.object "java/nio/channels/FileChannel"), accessFlags := 18, slot := 9, constantValue := 0 }, { name := "next", type := .long, accessFlags := 2, slot := 10, constantValue := 0 }, { name := "remaining", type := .long, accessFlags := 2, slot := 11, constantValue := 0 }, { name := "bytesRead", type := .long, accessFlags := 2, slot := 12, constantValue := 0 }, { name := "limit", type := .int, accessFlags := 2, slot := 13, constantValue := 0 }, { name := "line", type := .long, accessFlags := 2, slot := 14, constantValue := 0 }, { name := "decoded", type := (.array .int), accessFlags := 2, slot := 15, constantValue := 0 }, { name := "letters", type := (.array .char), accessFlags := 18, slot := 16, constantValue := 0 }, { name := "codes", type := (.array .int), accessFlags := 18, slot := 17, constantValue := 0 }]
  methods := #[k5m0]
  instanceTypes := #[(.array .byte), .int, .int, (.array .int), .boolean, (.object "java/nio/file/Path"), (.object "java/util/List"), .long, (.object "com/example/termweave/termweave/release/RrfReader$LineEnd"), (.object "java/nio/channels/FileChannel"), .long, .long, .long, .int, .long, (.array .int), (.array .char), (.array .int)]
  staticTypes := #[.int, .int, (.object "java/lang/invoke/VarHandle"), .long, .long]
  resolved := Array.replicate 515 none
  statics := none }

def pool6 : Array CpInfo := pool [(1, u "java/lang/Cloneable"), (0, .class_ 1), (0, u "java/lang/Object"), (0, .class_ 3)] 3

/-- java/lang/Cloneable -/
def k6 : Class := { plain "java/lang/Cloneable" (some 0) with
  accessFlags := 1537
  interfaces := #[]
  cf := some (fileOf pool6 2 #[] #[] 1537 4 #[] #[])
  fields := #[]
  methods := #[]
  instanceTypes := #[]
  staticTypes := #[]
  resolved := Array.replicate 8 none
  statics := none }

def pool7 : Array CpInfo := pool [(1, u "java/io/Serializable"), (0, .class_ 1), (0, u "java/lang/Object"), (0, .class_ 3)] 3

/-- java/io/Serializable -/
def k7 : Class := { plain "java/io/Serializable" (some 0) with
  accessFlags := 1537
  interfaces := #[]
  cf := some (fileOf pool7 2 #[] #[] 1537 4 #[] #[])
  fields := #[]
  methods := #[]
  instanceTypes := #[]
  staticTypes := #[]
  resolved := Array.replicate 8 none
  statics := none }

/-- the primitive byte -/
def k8 : Class := { plain "byte" none with kind := .primitive 'B', accessFlags := 0x411 }
/-- [B -/
def k9 : Class := { plain "[B" (some 0) with kind := .array 8 .byte, interfaces := #[6, 7], accessFlags := 1041 }

/-- the primitive int -/
def k10 : Class := { plain "int" none with kind := .primitive 'I', accessFlags := 0x411 }
/-- [I -/
def k11 : Class := { plain "[I" (some 0) with kind := .array 10 .int, interfaces := #[6, 7], accessFlags := 1041 }

def heap : Heap := #[]
def classes : Array Class := #[k0, k1, k2, k3, k4, k5, k6, k7, k8, k9, k10, k11]
def interned : List (Array UInt16 × Addr) := []
def slotsUsed : Nat := 0
def theMethod : MethodId := ⟨1, 1⟩
def args0 : Array Value := #[.long 5, .int 7, .int 1, .int 3]
def aboutOver (below : List Frame) : State where
  vm := { classes := classes, interned := interned.toArray }
  heap := heap
  slotsUsed := slotsUsed
  threads := #[{ frames := .invoking theMethod args0 :: below }]
def below0 : List Frame := [.native { method := ⟨0, 0⟩, args := #[] }]
def about1 : State := aboutOver below0
def p0 : Program := .bare "" "" ""
def e0 : Env := launch0.env 0 0 0
theorem w_frames : about1.frames = Frame.invoking theMethod args0 :: below0 := rfl
set_option maxRecDepth 65536 in
theorem w_args : argsFit about1.vm theMethod args0 = true := by decide +kernel
set_option maxRecDepth 65536 in
theorem w_heap : heapFits about1 = true := by decide +kernel
set_option maxRecDepth 65536 in
theorem w_runnable : about1.curStatus? = some .runnable := by decide +kernel
set_option maxRecDepth 65536 in
theorem w_alone : about1.alone = true := by decide +kernel
set_option maxRecDepth 65536 in
theorem w_named : about1.methodNamed? x = some theMethod := by decide +kernel
set_option maxRecDepth 65536 in
theorem w_hears : about1.hears theMethod below0 = true := by decide +kernel
set_option maxRecDepth 65536 in
theorem w_ripe : about1.ripe theMethod args0 below0 = true := by decide +kernel
theorem w_running : about1.status = .running := rfl
set_option maxRecDepth 65536 in
theorem w_room : about1.hasRoom e0.platform room_1 = true :=
  launch0.hasRoom_least _ room_1 (by decide +kernel) (by decide +kernel) (by decide +kernel) (by decide +kernel) (by decide +kernel) (by decide +kernel)
theorem allAtoms_all (ts : List Jvm.Cond) (a : Array Jvm.Value) (st : Jvm.State) : (allAtoms ts).before a st = ts.all (fun c => c.before a st) := by
  induction ts with
  | nil => rfl
  | cons c t ih =>
    show (Jvm.Cond.and c (allAtoms t)).before a st = _
    rw [Jvm.Cond.before_and, ih, List.all_cons]
def words1 : List Jvm.Cond := Jvm.Cond.code x code maxLocals ret :: tables_1
/-- a 'code' word, met by the world's own term for the bytes: nothing is compared byte by byte -/
theorem code_word {y : MethodName} {bytes : ByteArray} {mx : Nat} {rt : Option FieldType} {a : Array Value} {s : State} {m : MethodId} {meth : Method} {c : Code} (h1 : s.methodNamed? y = some m) (h2 : s.vm.method? m = some meth) (h3 : meth.code = some c) (h4 : c.code = bytes)
    (h5 : (c.maxLocals == mx && c.exceptionTable.isEmpty && decide (c.maxStack ≤ mostOperands) && decide (meth.sig.returnType = rt) && !meth.locks && decide (parseMethodDescriptor y.desc = some meth.sig)) = true) : (Jvm.Cond.code y bytes mx rt).before a s = true := by
  simp only [Bool.and_eq_true, beq_iff_eq, Bool.not_eq_true', decide_eq_true_eq] at h5
  obtain ⟨⟨⟨⟨⟨g1, g2⟩, g3⟩, g4⟩, g5⟩, g6⟩ := h5
  simp [Cond.before, Cond.holds, Cond.value, h1, h2, h3, h4, g1, g2, g3, g4, g5, g6]
def isCode : Jvm.Cond → Bool
  | .code _ _ _ _ => true
  | _ => false
theorem all_split {L : List Jvm.Cond} {P : Jvm.Cond → Bool} (h1 : L.all (fun c => isCode c || P c) = true) (h2 : ∀ c ∈ L.filter isCode, P c = true) : L.all P = true := by
  refine List.all_eq_true.mpr fun c hc => ?_
  have h := List.all_eq_true.mp h1 c hc
  rcases Bool.eq_false_or_eq_true (isCode c) with hi | hi
  · exact h2 c (List.mem_filter.mpr ⟨hc, hi⟩)
  · simpa [hi] using h
set_option maxRecDepth 65536 in
theorem w_c0 : (Jvm.Cond.code x code maxLocals ret).before args0 about1 = true := code_word (m := ⟨1, 1⟩) (meth := k1m1) (c := k1c1) (by decide +kernel) rfl rfl rfl (by decide +kernel)
set_option maxRecDepth 65536 in
theorem w_c1 : (Jvm.Cond.code ({ cls := "com/example/termweave/termweave/release/RrfReaderNotUtf8PinLaw", name := "pick", desc := "(JII)B" } : Jvm.MethodName) method_3_code (5 : Nat) (Option.some Jvm.ClassFile.FieldType.byte)).before args0 about1 = true := code_word (m := ⟨1, 2⟩) (meth := k1m2) (c := k1c2) (by decide +kernel) rfl rfl rfl (by decide +kernel)
set_option maxRecDepth 65536 in
theorem w_c2 : (Jvm.Cond.code ({ cls := "java/lang/Math", name := "min", desc := "(II)I" } : Jvm.MethodName) jdk_29_method_69_code (2 : Nat) (Option.some Jvm.ClassFile.FieldType.int)).before args0 about1 = true := code_word (m := ⟨2, 1⟩) (meth := k2m1) (c := k2c1) (by decide +kernel) rfl rfl rfl (by decide +kernel)
set_option maxRecDepth 65536 in
theorem w_c3 : (Jvm.Cond.code ({ cls := "com/example/termweave/termweave/release/RrfReaderNotUtf8PinLaw", name := "step", desc := "([BII)I" } : Jvm.MethodName) method_4_code (4 : Nat) (Option.some Jvm.ClassFile.FieldType.int)).before args0 about1 = true := code_word (m := ⟨1, 3⟩) (meth := k1m3) (c := k1c3) (by decide +kernel) rfl rfl rfl (by decide +kernel)
set_option maxRecDepth 65536 in
theorem w_c4 : (Jvm.Cond.code ({ cls := "com/example/termweave/termweave/release/RrfReader", name := "notUtf8", desc := "([BII)I" } : Jvm.MethodName) prog_43_method_27_code (10 : Nat) (Option.some Jvm.ClassFile.FieldType.int)).before args0 about1 = true := code_word (m := ⟨5, 0⟩) (meth := k5m0) (c := k5c0) (by decide +kernel) rfl rfl rfl (by decide +kernel)
set_option maxRecDepth 65536 in
theorem w_c5 : (Jvm.Cond.code ({ cls := "com/example/termweave/termweave/release/RrfReaderNotUtf8PinLaw", name := "wellFormed", desc := "([BII)I" } : Jvm.MethodName) method_5_code (8 : Nat) (Option.some Jvm.ClassFile.FieldType.int)).before args0 about1 = true := code_word (m := ⟨1, 4⟩) (meth := k1m4) (c := k1c4) (by decide +kernel) rfl rfl rfl (by decide +kernel)
def codes1 : List Jvm.Cond := [Jvm.Cond.code x code maxLocals ret, Jvm.Cond.code ({ cls := "com/example/termweave/termweave/release/RrfReaderNotUtf8PinLaw", name := "pick", desc := "(JII)B" } : Jvm.MethodName) method_3_code (5 : Nat) (Option.some Jvm.ClassFile.FieldType.byte), Jvm.Cond.code ({ cls := "java/lang/Math", name := "min", desc := "(II)I" } : Jvm.MethodName) jdk_29_method_69_code (2 : Nat) (Option.some Jvm.ClassFile.FieldType.int), Jvm.Cond.code ({ cls := "com/example/termweave/termweave/release/RrfReaderNotUtf8PinLaw", name := "step", desc := "([BII)I" } : Jvm.MethodName) method_4_code (4 : Nat) (Option.some Jvm.ClassFile.FieldType.int), Jvm.Cond.code ({ cls := "com/example/termweave/termweave/release/RrfReader", name := "notUtf8", desc := "([BII)I" } : Jvm.MethodName) prog_43_method_27_code (10 : Nat) (Option.some Jvm.ClassFile.FieldType.int), Jvm.Cond.code ({ cls := "com/example/termweave/termweave/release/RrfReaderNotUtf8PinLaw", name := "wellFormed", desc := "([BII)I" } : Jvm.MethodName) method_5_code (8 : Nat) (Option.some Jvm.ClassFile.FieldType.int)]
set_option maxRecDepth 65536 in
theorem codes_eq : words1.filter isCode = codes1 := rfl
theorem w_codes : ∀ c ∈ words1.filter isCode, c.before args0 about1 = true := by
  rw [codes_eq]
  intro c hc
  simp only [codes1, List.mem_cons, List.not_mem_nil, or_false] at hc
  rcases hc with rfl | rfl | rfl | rfl | rfl | rfl
  · exact w_c0
  · exact w_c1
  · exact w_c2
  · exact w_c3
  · exact w_c4
  · exact w_c5
set_option maxRecDepth 65536 in
theorem w_t1 : words1.all (fun c => isCode c || c.before args0 about1) = true := by decide +kernel
theorem w_tables : (allAtoms (Jvm.Cond.code x code maxLocals ret :: tables_1)).before args0 about1 = true := by
  rw [allAtoms_all]
  show words1.all (fun c => c.before args0 about1) = true
  refine all_split ?_ w_codes
  rw [w_t1]
set_option maxRecDepth 65536 in
theorem w_case : (Jvm.Cond.and given_1 narrow_1).before args0 about1 = true := by decide +kernel
theorem w_applies : (headSpec (Jvm.Cond.code x code maxLocals ret :: tables_1) room_1).applies x e0.platform about1 = true :=
  (Spec.applies_iff w_frames).mpr ⟨w_running, w_runnable, w_alone, w_named, w_hears, w_ripe, w_room, w_tables⟩
theorem atStart : AtStart classFile x code maxLocals ret World_1 tables_1 room_1 Calls_1 rest_1 Pre_1 launch0 p0 e0 about1 theMethod args0 below0 :=
  ⟨lists_1, trivial, launch0.admits_env _ _ _, launch0.least_env, fairChoices_fair.cas, fairChoices_fair.clock, w_frames, w_args, w_heap, w_applies, trivial, trivial, w_case⟩
end start1
theorem witness_1 : WitnessClaimed_1 := ⟨start1.p0, start1.e0, start1.about1, start1.theMethod, start1.args0, start1.below0, start1.atStart⟩
end Jvm.Pilot.@@N@@
