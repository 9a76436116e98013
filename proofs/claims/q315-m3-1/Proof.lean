import JvmDerived
import JvmDerived.Pilot.@@N@@Statement
import JvmDerived.Pilot.@@N@@Code
set_option linter.unusedVariables false
set_option linter.unusedSimpArgs false
namespace Jvm.Pilot.@@N@@
open Jvm Jvm.ClassFile Sem Op Lib Jvm.Free Jvm.Stand Jvm.LawKit Jvm.RoadKit Bundle Jvm.Pilot.@@N@@.Jvm.D
section OwnKit
variable {p : Program} {l : Launch} {e : Env} {R : Room} {s : State} {m : MethodId} {args : Array Value} {below : List Frame} {meth : Method} {c : Code} {T : State} {locs : List Loc} {cells slots : Nat} {Z : State} {a0 : Array Value} {h : Heap} {Q : Option Value → Heap → List Loc → Prop} {ck sk : Nat}
/-- from the state T with the frame g on top the run comes to a return that answers Q -/
def own_R (p : Program) (e : Env) (below : List Frame) (s : State) (Q : Option Value → Heap → List Loc → Prop) (ck sk : Nat) (T : State) (g : JFrame) : Prop :=
  ∃ (t : State) (o : Outcome), Steps p.tables e below (T.setTop g) t ∧ t.status = .running ∧ Ended t below o ∧ ∃ v L, o = .returned v ∧ Q v t.heap L ∧ FrameEnd s o t L ck sk
theorem own_lift {T' : State} {g g' : JFrame} (h : ∀ target, Steps p.tables e below (T'.setTop g') target → Steps p.tables e below (T.setTop g) target) (k : own_R p e below s Q ck sk T' g') : own_R p e below s Q ck sk T g := by
  obtain ⟨t, o, h1, h2⟩ := k
  exact ⟨t, o, h _ h1, h2⟩
theorem own_cast {g g' : JFrame} (q : g = g') (k : own_R p e below s Q ck sk T g') : own_R p e below s Q ck sk T g := q ▸ k
theorem own_iadd (X : Stand p l e R s m args below meth c T locs cells slots) (hx : p.tables.exec = Jvm.exec) {pc : Nat} {Ls : Array Slot} {St : List Value} {x y : Int32} (hd : decode c.code pc = .ok (.iadd, 1)) (k : own_R p e below s Q ck sk T (mkF m (pc + 1) Ls (.int (x + y) :: St))) : own_R p e below s Q ck sk T (mkF m pc Ls (.int y :: .int x :: St)) :=
  own_lift (fun _ q => XS.iadd X.here hx rfl hd rfl q) k
theorem own_isub (X : Stand p l e R s m args below meth c T locs cells slots) (hx : p.tables.exec = Jvm.exec) {pc : Nat} {Ls : Array Slot} {St : List Value} {x y : Int32} (hd : decode c.code pc = .ok (.isub, 1)) (k : own_R p e below s Q ck sk T (mkF m (pc + 1) Ls (.int (x - y) :: St))) : own_R p e below s Q ck sk T (mkF m pc Ls (.int y :: .int x :: St)) :=
  own_lift (fun _ q => XS.isub X.here hx rfl hd rfl q) k
theorem own_imul (X : Stand p l e R s m args below meth c T locs cells slots) (hx : p.tables.exec = Jvm.exec) {pc : Nat} {Ls : Array Slot} {St : List Value} {x y : Int32} (hd : decode c.code pc = .ok (.imul, 1)) (k : own_R p e below s Q ck sk T (mkF m (pc + 1) Ls (.int (x * y) :: St))) : own_R p e below s Q ck sk T (mkF m pc Ls (.int y :: .int x :: St)) :=
  own_lift (fun _ q => XS.imul X.here hx rfl hd rfl q) k
theorem own_iand (X : Stand p l e R s m args below meth c T locs cells slots) (hx : p.tables.exec = Jvm.exec) {pc : Nat} {Ls : Array Slot} {St : List Value} {x y : Int32} (hd : decode c.code pc = .ok (.iand, 1)) (k : own_R p e below s Q ck sk T (mkF m (pc + 1) Ls (.int (x &&& y) :: St))) : own_R p e below s Q ck sk T (mkF m pc Ls (.int y :: .int x :: St)) :=
  own_lift (fun _ q => XS.iand X.here hx rfl hd rfl q) k
theorem own_ior (X : Stand p l e R s m args below meth c T locs cells slots) (hx : p.tables.exec = Jvm.exec) {pc : Nat} {Ls : Array Slot} {St : List Value} {x y : Int32} (hd : decode c.code pc = .ok (.ior, 1)) (k : own_R p e below s Q ck sk T (mkF m (pc + 1) Ls (.int (x ||| y) :: St))) : own_R p e below s Q ck sk T (mkF m pc Ls (.int y :: .int x :: St)) :=
  own_lift (fun _ q => XS.ior X.here hx rfl hd rfl q) k
theorem own_ixor (X : Stand p l e R s m args below meth c T locs cells slots) (hx : p.tables.exec = Jvm.exec) {pc : Nat} {Ls : Array Slot} {St : List Value} {x y : Int32} (hd : decode c.code pc = .ok (.ixor, 1)) (k : own_R p e below s Q ck sk T (mkF m (pc + 1) Ls (.int (x ^^^ y) :: St))) : own_R p e below s Q ck sk T (mkF m pc Ls (.int y :: .int x :: St)) :=
  own_lift (fun _ q => XS.ixor X.here hx rfl hd rfl q) k
theorem own_ishl (X : Stand p l e R s m args below meth c T locs cells slots) (hx : p.tables.exec = Jvm.exec) {pc : Nat} {Ls : Array Slot} {St : List Value} {x y : Int32} (hd : decode c.code pc = .ok (.ishl, 1)) (k : own_R p e below s Q ck sk T (mkF m (pc + 1) Ls (.int (x <<< (y &&& 31)) :: St))) : own_R p e below s Q ck sk T (mkF m pc Ls (.int y :: .int x :: St)) :=
  own_lift (fun _ q => XS.ishl X.here hx rfl hd rfl q) k
theorem own_ishr (X : Stand p l e R s m args below meth c T locs cells slots) (hx : p.tables.exec = Jvm.exec) {pc : Nat} {Ls : Array Slot} {St : List Value} {x y : Int32} (hd : decode c.code pc = .ok (.ishr, 1)) (k : own_R p e below s Q ck sk T (mkF m (pc + 1) Ls (.int (x >>> (y &&& 31)) :: St))) : own_R p e below s Q ck sk T (mkF m pc Ls (.int y :: .int x :: St)) :=
  own_lift (fun _ q => XS.ishr X.here hx rfl hd rfl q) k
theorem own_iushr (X : Stand p l e R s m args below meth c T locs cells slots) (hx : p.tables.exec = Jvm.exec) {pc : Nat} {Ls : Array Slot} {St : List Value} {x y : Int32} (hd : decode c.code pc = .ok (.iushr, 1)) (k : own_R p e below s Q ck sk T (mkF m (pc + 1) Ls (.int ((x.toUInt32 >>> (y &&& 31).toUInt32).toInt32) :: St))) : own_R p e below s Q ck sk T (mkF m pc Ls (.int y :: .int x :: St)) :=
  own_lift (fun _ q => XS.iushr X.here hx rfl hd rfl q) k
theorem own_ladd (X : Stand p l e R s m args below meth c T locs cells slots) (hx : p.tables.exec = Jvm.exec) {pc : Nat} {Ls : Array Slot} {St : List Value} {x y : Int64} (hd : decode c.code pc = .ok (.ladd, 1)) (k : own_R p e below s Q ck sk T (mkF m (pc + 1) Ls (.long (x + y) :: St))) : own_R p e below s Q ck sk T (mkF m pc Ls (.long y :: .long x :: St)) :=
  own_lift (fun _ q => XS.ladd X.here hx rfl hd rfl q) k
theorem own_lsub (X : Stand p l e R s m args below meth c T locs cells slots) (hx : p.tables.exec = Jvm.exec) {pc : Nat} {Ls : Array Slot} {St : List Value} {x y : Int64} (hd : decode c.code pc = .ok (.lsub, 1)) (k : own_R p e below s Q ck sk T (mkF m (pc + 1) Ls (.long (x - y) :: St))) : own_R p e below s Q ck sk T (mkF m pc Ls (.long y :: .long x :: St)) :=
  own_lift (fun _ q => XS.lsub X.here hx rfl hd rfl q) k
theorem own_lmul (X : Stand p l e R s m args below meth c T locs cells slots) (hx : p.tables.exec = Jvm.exec) {pc : Nat} {Ls : Array Slot} {St : List Value} {x y : Int64} (hd : decode c.code pc = .ok (.lmul, 1)) (k : own_R p e below s Q ck sk T (mkF m (pc + 1) Ls (.long (x * y) :: St))) : own_R p e below s Q ck sk T (mkF m pc Ls (.long y :: .long x :: St)) :=
  own_lift (fun _ q => XS.lmul X.here hx rfl hd rfl q) k
theorem own_land (X : Stand p l e R s m args below meth c T locs cells slots) (hx : p.tables.exec = Jvm.exec) {pc : Nat} {Ls : Array Slot} {St : List Value} {x y : Int64} (hd : decode c.code pc = .ok (.land, 1)) (k : own_R p e below s Q ck sk T (mkF m (pc + 1) Ls (.long (x &&& y) :: St))) : own_R p e below s Q ck sk T (mkF m pc Ls (.long y :: .long x :: St)) :=
  own_lift (fun _ q => XS.land X.here hx rfl hd rfl q) k
theorem own_lor (X : Stand p l e R s m args below meth c T locs cells slots) (hx : p.tables.exec = Jvm.exec) {pc : Nat} {Ls : Array Slot} {St : List Value} {x y : Int64} (hd : decode c.code pc = .ok (.lor, 1)) (k : own_R p e below s Q ck sk T (mkF m (pc + 1) Ls (.long (x ||| y) :: St))) : own_R p e below s Q ck sk T (mkF m pc Ls (.long y :: .long x :: St)) :=
  own_lift (fun _ q => XS.lor X.here hx rfl hd rfl q) k
theorem own_lshl (X : Stand p l e R s m args below meth c T locs cells slots) (hx : p.tables.exec = Jvm.exec) {pc : Nat} {Ls : Array Slot} {St : List Value} {x : Int64} {y : Int32} (hd : decode c.code pc = .ok (.lshl, 1)) (k : own_R p e below s Q ck sk T (mkF m (pc + 1) Ls (.long (x <<< (y &&& 0x3f).toInt64) :: St))) : own_R p e below s Q ck sk T (mkF m pc Ls (.int y :: .long x :: St)) :=
  own_lift (fun _ q => XS.lshl X.here hx rfl hd rfl q) k
theorem own_lshr (X : Stand p l e R s m args below meth c T locs cells slots) (hx : p.tables.exec = Jvm.exec) {pc : Nat} {Ls : Array Slot} {St : List Value} {x : Int64} {y : Int32} (hd : decode c.code pc = .ok (.lshr, 1)) (k : own_R p e below s Q ck sk T (mkF m (pc + 1) Ls (.long (x >>> (y &&& 0x3f).toInt64) :: St))) : own_R p e below s Q ck sk T (mkF m pc Ls (.int y :: .long x :: St)) :=
  own_lift (fun _ q => XS.lshr X.here hx rfl hd rfl q) k
theorem own_lushr (X : Stand p l e R s m args below meth c T locs cells slots) (hx : p.tables.exec = Jvm.exec) {pc : Nat} {Ls : Array Slot} {St : List Value} {x : Int64} {y : Int32} (hd : decode c.code pc = .ok (.lushr, 1)) (k : own_R p e below s Q ck sk T (mkF m (pc + 1) Ls (.long ((x.toUInt64 >>> (y &&& 0x3f).toInt64.toUInt64).toInt64) :: St))) : own_R p e below s Q ck sk T (mkF m pc Ls (.int y :: .long x :: St)) :=
  own_lift (fun _ q => XS.lushr X.here hx rfl hd rfl q) k
theorem own_i2b (X : Stand p l e R s m args below meth c T locs cells slots) (hx : p.tables.exec = Jvm.exec) {pc : Nat} {Ls : Array Slot} {St : List Value} {x : Int32} (hd : decode c.code pc = .ok (.i2b, 1)) (k : own_R p e below s Q ck sk T (mkF m (pc + 1) Ls (.int x.toInt8.toInt32 :: St))) : own_R p e below s Q ck sk T (mkF m pc Ls (.int x :: St)) :=
  own_lift (fun _ q => XS.i2b X.here hx rfl hd rfl q) k
theorem own_i2s (X : Stand p l e R s m args below meth c T locs cells slots) (hx : p.tables.exec = Jvm.exec) {pc : Nat} {Ls : Array Slot} {St : List Value} {x : Int32} (hd : decode c.code pc = .ok (.i2s, 1)) (k : own_R p e below s Q ck sk T (mkF m (pc + 1) Ls (.int x.toInt16.toInt32 :: St))) : own_R p e below s Q ck sk T (mkF m pc Ls (.int x :: St)) :=
  own_lift (fun _ q => XS.i2s X.here hx rfl hd rfl q) k
theorem own_i2c (X : Stand p l e R s m args below meth c T locs cells slots) (hx : p.tables.exec = Jvm.exec) {pc : Nat} {Ls : Array Slot} {St : List Value} {x : Int32} (hd : decode c.code pc = .ok (.i2c, 1)) (k : own_R p e below s Q ck sk T (mkF m (pc + 1) Ls (.int x.toUInt32.toUInt16.toUInt32.toInt32 :: St))) : own_R p e below s Q ck sk T (mkF m pc Ls (.int x :: St)) :=
  own_lift (fun _ q => XS.i2c X.here hx rfl hd rfl q) k
theorem own_i2l (X : Stand p l e R s m args below meth c T locs cells slots) (hx : p.tables.exec = Jvm.exec) {pc : Nat} {Ls : Array Slot} {St : List Value} {x : Int32} (hd : decode c.code pc = .ok (.i2l, 1)) (k : own_R p e below s Q ck sk T (mkF m (pc + 1) Ls (.long x.toInt64 :: St))) : own_R p e below s Q ck sk T (mkF m pc Ls (.int x :: St)) :=
  own_lift (fun _ q => XS.i2l X.here hx rfl hd rfl q) k
theorem own_l2i (X : Stand p l e R s m args below meth c T locs cells slots) (hx : p.tables.exec = Jvm.exec) {pc : Nat} {Ls : Array Slot} {St : List Value} {x : Int64} (hd : decode c.code pc = .ok (.l2i, 1)) (k : own_R p e below s Q ck sk T (mkF m (pc + 1) Ls (.int x.toInt32 :: St))) : own_R p e below s Q ck sk T (mkF m pc Ls (.long x :: St)) :=
  own_lift (fun _ q => XS.l2i X.here hx rfl hd rfl q) k
theorem own_ineg (X : Stand p l e R s m args below meth c T locs cells slots) (hx : p.tables.exec = Jvm.exec) {pc : Nat} {Ls : Array Slot} {St : List Value} {x : Int32} (hd : decode c.code pc = .ok (.ineg, 1)) (k : own_R p e below s Q ck sk T (mkF m (pc + 1) Ls (.int (-x) :: St))) : own_R p e below s Q ck sk T (mkF m pc Ls (.int x :: St)) :=
  own_lift (fun _ q => XS.ineg X.here hx rfl hd rfl q) k
theorem own_lneg (X : Stand p l e R s m args below meth c T locs cells slots) (hx : p.tables.exec = Jvm.exec) {pc : Nat} {Ls : Array Slot} {St : List Value} {x : Int64} (hd : decode c.code pc = .ok (.lneg, 1)) (k : own_R p e below s Q ck sk T (mkF m (pc + 1) Ls (.long (-x) :: St))) : own_R p e below s Q ck sk T (mkF m pc Ls (.long x :: St)) :=
  own_lift (fun _ q => XS.lneg X.here hx rfl hd rfl q) k
theorem own_iloadN (X : Stand p l e R s m args below meth c T locs cells slots) (hx : p.tables.exec = Jvm.exec) {pc : Nat} {Ls : Array Slot} {St : List Value} {i : Fin 4} {v : Int32} (hd : decode c.code pc = .ok (.iload_n i, 1)) (hl : Ls[i.val]? = some (.val (.int v))) (k : own_R p e below s Q ck sk T (mkF m (pc + 1) Ls (.int v :: St))) : own_R p e below s Q ck sk T (mkF m pc Ls St) :=
  own_lift (fun _ q => XS.iloadN X.here hx rfl hd hl q) k
theorem own_iload (X : Stand p l e R s m args below meth c T locs cells slots) (hx : p.tables.exec = Jvm.exec) {pc : Nat} {Ls : Array Slot} {St : List Value} {i : Nat} {v : Int32} (hd : decode c.code pc = .ok (.iload i, 2)) (hl : Ls[i]? = some (.val (.int v))) (k : own_R p e below s Q ck sk T (mkF m (pc + 2) Ls (.int v :: St))) : own_R p e below s Q ck sk T (mkF m pc Ls St) :=
  own_lift (fun _ q => XS.iload X.here hx rfl hd hl q) k
theorem own_istoreN (X : Stand p l e R s m args below meth c T locs cells slots) (hx : p.tables.exec = Jvm.exec) {pc : Nat} {Ls : Array Slot} {St : List Value} {i : Fin 4} {v : Int32} {l' : Array Slot} (hd : decode c.code pc = .ok (.istore_n i, 1)) (hl : storeLocals Ls i.val (.int v) = some l') (k : own_R p e below s Q ck sk T (mkF m (pc + 1) l' St)) : own_R p e below s Q ck sk T (mkF m pc Ls (.int v :: St)) :=
  own_lift (fun _ q => XS.istoreN X.here hx rfl hd rfl hl q) k
theorem own_istore (X : Stand p l e R s m args below meth c T locs cells slots) (hx : p.tables.exec = Jvm.exec) {pc : Nat} {Ls : Array Slot} {St : List Value} {i : Nat} {v : Int32} {l' : Array Slot} (hd : decode c.code pc = .ok (.istore i, 2)) (hl : storeLocals Ls i (.int v) = some l') (k : own_R p e below s Q ck sk T (mkF m (pc + 2) l' St)) : own_R p e below s Q ck sk T (mkF m pc Ls (.int v :: St)) :=
  own_lift (fun _ q => XS.istore X.here hx rfl hd rfl hl q) k
theorem own_lloadN (X : Stand p l e R s m args below meth c T locs cells slots) (hx : p.tables.exec = Jvm.exec) {pc : Nat} {Ls : Array Slot} {St : List Value} {i : Fin 4} {v : Int64} (hd : decode c.code pc = .ok (.lload_n i, 1)) (hl : Ls[i.val]? = some (.val (.long v))) (k : own_R p e below s Q ck sk T (mkF m (pc + 1) Ls (.long v :: St))) : own_R p e below s Q ck sk T (mkF m pc Ls St) :=
  own_lift (fun _ q => XS.lloadN X.here hx rfl hd hl q) k
theorem own_lload (X : Stand p l e R s m args below meth c T locs cells slots) (hx : p.tables.exec = Jvm.exec) {pc : Nat} {Ls : Array Slot} {St : List Value} {i : Nat} {v : Int64} (hd : decode c.code pc = .ok (.lload i, 2)) (hl : Ls[i]? = some (.val (.long v))) (k : own_R p e below s Q ck sk T (mkF m (pc + 2) Ls (.long v :: St))) : own_R p e below s Q ck sk T (mkF m pc Ls St) :=
  own_lift (fun _ q => XS.lload X.here hx rfl hd hl q) k
theorem own_lstoreN (X : Stand p l e R s m args below meth c T locs cells slots) (hx : p.tables.exec = Jvm.exec) {pc : Nat} {Ls : Array Slot} {St : List Value} {i : Fin 4} {v : Int64} {l' : Array Slot} (hd : decode c.code pc = .ok (.lstore_n i, 1)) (hl : storeLocals Ls i.val (.long v) = some l') (k : own_R p e below s Q ck sk T (mkF m (pc + 1) l' St)) : own_R p e below s Q ck sk T (mkF m pc Ls (.long v :: St)) :=
  own_lift (fun _ q => XS.lstoreN X.here hx rfl hd rfl hl q) k
theorem own_lstore (X : Stand p l e R s m args below meth c T locs cells slots) (hx : p.tables.exec = Jvm.exec) {pc : Nat} {Ls : Array Slot} {St : List Value} {i : Nat} {v : Int64} {l' : Array Slot} (hd : decode c.code pc = .ok (.lstore i, 2)) (hl : storeLocals Ls i (.long v) = some l') (k : own_R p e below s Q ck sk T (mkF m (pc + 2) l' St)) : own_R p e below s Q ck sk T (mkF m pc Ls (.long v :: St)) :=
  own_lift (fun _ q => XS.lstore X.here hx rfl hd rfl hl q) k
theorem own_aloadN (X : Stand p l e R s m args below meth c T locs cells slots) (hx : p.tables.exec = Jvm.exec) {pc : Nat} {Ls : Array Slot} {St : List Value} {i : Fin 4} {v : Value} (hd : decode c.code pc = .ok (.aload_n i, 1)) (hl : Ls[i.val]? = some (.val v)) (hv : v.isRef = true) (k : own_R p e below s Q ck sk T (mkF m (pc + 1) Ls (v :: St))) : own_R p e below s Q ck sk T (mkF m pc Ls St) :=
  own_lift (fun _ q => XS.aloadN X.here hx rfl hd hl hv q) k
theorem own_aload (X : Stand p l e R s m args below meth c T locs cells slots) (hx : p.tables.exec = Jvm.exec) {pc : Nat} {Ls : Array Slot} {St : List Value} {i : Nat} {v : Value} (hd : decode c.code pc = .ok (.aload i, 2)) (hl : Ls[i]? = some (.val v)) (hv : v.isRef = true) (k : own_R p e below s Q ck sk T (mkF m (pc + 2) Ls (v :: St))) : own_R p e below s Q ck sk T (mkF m pc Ls St) :=
  own_lift (fun _ q => XS.aload X.here hx rfl hd hl hv q) k
theorem own_astoreN (X : Stand p l e R s m args below meth c T locs cells slots) (hx : p.tables.exec = Jvm.exec) {pc : Nat} {Ls : Array Slot} {St : List Value} {i : Fin 4} {v : Value} {l' : Array Slot} (hd : decode c.code pc = .ok (.astore_n i, 1)) (hv : v.isRef = true) (hl : storeLocals Ls i.val v = some l') (k : own_R p e below s Q ck sk T (mkF m (pc + 1) l' St)) : own_R p e below s Q ck sk T (mkF m pc Ls (v :: St)) :=
  own_lift (fun _ q => XS.astoreN X.here hx rfl hd rfl hv hl q) k
theorem own_astore (X : Stand p l e R s m args below meth c T locs cells slots) (hx : p.tables.exec = Jvm.exec) {pc : Nat} {Ls : Array Slot} {St : List Value} {i : Nat} {v : Value} {l' : Array Slot} (hd : decode c.code pc = .ok (.astore i, 2)) (hv : v.isRef = true) (hl : storeLocals Ls i v = some l') (k : own_R p e below s Q ck sk T (mkF m (pc + 2) l' St)) : own_R p e below s Q ck sk T (mkF m pc Ls (v :: St)) :=
  own_lift (fun _ q => XS.astore X.here hx rfl hd rfl hv hl q) k
theorem own_iconst (X : Stand p l e R s m args below meth c T locs cells slots) (hx : p.tables.exec = Jvm.exec) {pc : Nat} {Ls : Array Slot} {St : List Value} {i : Int} (v : Int32) (hd : decode c.code pc = .ok (.iconst i, 1)) (hv : Int32.ofInt i = v) (k : own_R p e below s Q ck sk T (mkF m (pc + 1) Ls (.int v :: St))) : own_R p e below s Q ck sk T (mkF m pc Ls St) :=
  own_lift (fun _ q => XS.iconst X.here hx rfl hd (hv ▸ q)) k
theorem own_bipush (X : Stand p l e R s m args below meth c T locs cells slots) (hx : p.tables.exec = Jvm.exec) {pc : Nat} {Ls : Array Slot} {St : List Value} {i : Int} (v : Int32) (hd : decode c.code pc = .ok (.bipush i, 2)) (hv : (Int8.ofInt i).toInt32 = v) (k : own_R p e below s Q ck sk T (mkF m (pc + 2) Ls (.int v :: St))) : own_R p e below s Q ck sk T (mkF m pc Ls St) :=
  own_lift (fun _ q => XS.bipush X.here hx rfl hd (hv ▸ q)) k
theorem own_sipush (X : Stand p l e R s m args below meth c T locs cells slots) (hx : p.tables.exec = Jvm.exec) {pc : Nat} {Ls : Array Slot} {St : List Value} {i : Int} (v : Int32) (hd : decode c.code pc = .ok (.sipush i, 3)) (hv : (Int16.ofInt i).toInt32 = v) (k : own_R p e below s Q ck sk T (mkF m (pc + 3) Ls (.int v :: St))) : own_R p e below s Q ck sk T (mkF m pc Ls St) :=
  own_lift (fun _ q => XS.sipush X.here hx rfl hd (hv ▸ q)) k
theorem own_lconst (X : Stand p l e R s m args below meth c T locs cells slots) (hx : p.tables.exec = Jvm.exec) {pc : Nat} {Ls : Array Slot} {St : List Value} {i : Fin 2} (v : Int64) (hd : decode c.code pc = .ok (.lconst i, 1)) (hv : Int64.ofNat i = v) (k : own_R p e below s Q ck sk T (mkF m (pc + 1) Ls (.long v :: St))) : own_R p e below s Q ck sk T (mkF m pc Ls St) :=
  own_lift (fun _ q => XS.lconst X.here hx rfl hd (hv ▸ q)) k
theorem own_iinc (X : Stand p l e R s m args below meth c T locs cells slots) (hx : p.tables.exec = Jvm.exec) {pc : Nat} {Ls : Array Slot} {St : List Value} {i : Nat} {cst : Int} {x : Int32} (v : Int32) {l' : Array Slot} (hd : decode c.code pc = .ok (.iinc i cst, 3)) (hv : Int32.ofInt cst = v) (hl : Ls[i]? = some (.val (.int x))) (hl' : storeLocals Ls i (.int (x + v)) = some l') (k : own_R p e below s Q ck sk T (mkF m (pc + 3) l' St)) : own_R p e below s Q ck sk T (mkF m pc Ls St) :=
  own_lift (fun _ q => XS.iinc X.here hx rfl hd hl (hv ▸ hl') q) k
theorem own_aconst_null (X : Stand p l e R s m args below meth c T locs cells slots) (hx : p.tables.exec = Jvm.exec) {pc : Nat} {Ls : Array Slot} {St : List Value}  (hd : decode c.code pc = .ok (.aconst_null, 1)) (k : own_R p e below s Q ck sk T (mkF m (pc + 1) Ls (.null :: St))) : own_R p e below s Q ck sk T (mkF m pc Ls St) :=
  own_lift (fun _ q => XS.aconstNull X.here hx rfl hd q) k
theorem own_dup (X : Stand p l e R s m args below meth c T locs cells slots) (hx : p.tables.exec = Jvm.exec) {pc : Nat} {Ls : Array Slot} {St : List Value} {x : Value} (hd : decode c.code pc = .ok (.dup, 1)) (hc : x.category = 1) (k : own_R p e below s Q ck sk T (mkF m (pc + 1) Ls (x :: x :: St))) : own_R p e below s Q ck sk T (mkF m pc Ls (x :: St)) :=
  own_lift (fun _ q => XS.dup X.here hx rfl hd rfl hc q) k
theorem own_dup_x1 (X : Stand p l e R s m args below meth c T locs cells slots) (hx : p.tables.exec = Jvm.exec) {pc : Nat} {Ls : Array Slot} {St : List Value} {x y : Value} (hd : decode c.code pc = .ok (.dup_x1, 1)) (hc : x.category = 1) (hc2 : y.category = 1) (k : own_R p e below s Q ck sk T (mkF m (pc + 1) Ls (x :: y :: x :: St))) : own_R p e below s Q ck sk T (mkF m pc Ls (x :: y :: St)) :=
  own_lift (fun _ q => XS.dupX1 X.here hx rfl hd rfl hc hc2 q) k
theorem own_pop (X : Stand p l e R s m args below meth c T locs cells slots) (hx : p.tables.exec = Jvm.exec) {pc : Nat} {Ls : Array Slot} {St : List Value} {x : Value} (hd : decode c.code pc = .ok (.pop, 1)) (hc : x.category = 1) (k : own_R p e below s Q ck sk T (mkF m (pc + 1) Ls St)) : own_R p e below s Q ck sk T (mkF m pc Ls (x :: St)) :=
  own_lift (fun _ q => XS.pop X.here hx rfl hd rfl hc q) k
theorem own_goto (X : Stand p l e R s m args below meth c T locs cells slots) (hx : p.tables.exec = Jvm.exec) {pc : Nat} {Ls : Array Slot} {St : List Value} {o : Int} {pc' : Nat} (hd : decode c.code pc = .ok (.goto o, 3)) (ho : 0 ≤ (pc : Int) + o) (hp : ((pc : Int) + o).toNat = pc') (k : own_R p e below s Q ck sk T (mkF m pc' Ls St)) : own_R p e below s Q ck sk T (mkF m pc Ls St) :=
  own_lift (fun _ q => XS.goto X.here hx rfl (pc0 := pc) rfl hd ho hp q) k
theorem own_ifnullY (X : Stand p l e R s m args below meth c T locs cells slots) (hx : p.tables.exec = Jvm.exec) {pc : Nat} {Ls : Array Slot} {St : List Value} {o : Int} {pc' : Nat} (hd : decode c.code pc = .ok (.ifnull o, 3)) (ho : 0 ≤ (pc : Int) + o) (hp : ((pc : Int) + o).toNat = pc') (k : own_R p e below s Q ck sk T (mkF m pc' Ls St)) : own_R p e below s Q ck sk T (mkF m pc Ls (.null :: St)) :=
  own_lift (fun _ q => XS.ifnullYes X.here hx rfl (pc0 := pc) rfl hd rfl ho hp q) k
theorem own_ifnullN (X : Stand p l e R s m args below meth c T locs cells slots) (hx : p.tables.exec = Jvm.exec) {pc : Nat} {Ls : Array Slot} {St : List Value} {o : Int} {b : Addr} (hd : decode c.code pc = .ok (.ifnull o, 3)) (k : own_R p e below s Q ck sk T (mkF m (pc + 3) Ls St)) : own_R p e below s Q ck sk T (mkF m pc Ls (.ref b :: St)) :=
  own_lift (fun _ q => XS.ifnullNo X.here hx rfl hd rfl q) k
theorem own_ifnonnullY (X : Stand p l e R s m args below meth c T locs cells slots) (hx : p.tables.exec = Jvm.exec) {pc : Nat} {Ls : Array Slot} {St : List Value} {o : Int} {pc' : Nat} {b : Addr} (hd : decode c.code pc = .ok (.ifnonnull o, 3)) (ho : 0 ≤ (pc : Int) + o) (hp : ((pc : Int) + o).toNat = pc') (k : own_R p e below s Q ck sk T (mkF m pc' Ls St)) : own_R p e below s Q ck sk T (mkF m pc Ls (.ref b :: St)) :=
  own_lift (fun _ q => XS.ifnonnullYes X.here hx rfl (pc0 := pc) rfl hd rfl ho hp q) k
theorem own_ifnonnullN (X : Stand p l e R s m args below meth c T locs cells slots) (hx : p.tables.exec = Jvm.exec) {pc : Nat} {Ls : Array Slot} {St : List Value} {o : Int} (hd : decode c.code pc = .ok (.ifnonnull o, 3)) (k : own_R p e below s Q ck sk T (mkF m (pc + 3) Ls St)) : own_R p e below s Q ck sk T (mkF m pc Ls (.null :: St)) :=
  own_lift (fun _ q => XS.ifnonnullNo X.here hx rfl hd rfl q) k
theorem own_irem (X : Stand p l e R s m args below meth c T locs cells slots) (hx : p.tables.exec = Jvm.exec) {pc : Nat} {Ls : Array Slot} {St : List Value} {x y : Int32} (hd : decode c.code pc = .ok (.irem, 1)) (hy : y ≠ 0) (k : own_R p e below s Q ck sk T (mkF m (pc + 1) Ls (.int (x % y) :: St))) : own_R p e below s Q ck sk T (mkF m pc Ls (.int y :: .int x :: St)) :=
  own_lift (fun _ q => iremM X hx rfl hd rfl hy q) k
theorem own_ldc (X : Stand p l e R s m args below meth c T locs cells slots) (hx : p.tables.exec = Jvm.exec) (hZ : Z.Warmed39 s.vm) {own : String} {index : Nat} {v : Int32} (hown : s.vm.findClass own = some m.cls) (w : (Cond.constant own index v).before a0 Z = true) {pc : Nat} {Ls : Array Slot} {St : List Value} (hd : decode c.code pc = .ok (.ldc index, 2)) (k : own_R p e below s Q ck sk T (mkF m (pc + 2) Ls (.int v :: St))) : own_R p e below s Q ck sk T (mkF m pc Ls St) :=
  own_lift (fun _ q => X.ldcInt hx hown (mvT hZ w) (g := mkF m pc Ls St) rfl hd _ q) k
theorem own_ldc2 (X : Stand p l e R s m args below meth c T locs cells slots) (hx : p.tables.exec = Jvm.exec) (hZ : Z.Warmed39 s.vm) {own : String} {index : Nat} {v : Int64} (hown : s.vm.findClass own = some m.cls) (w : (Cond.constantLong own index v).before a0 Z = true) {pc : Nat} {Ls : Array Slot} {St : List Value} (hd : decode c.code pc = .ok (.ldc2_w index, 3)) (k : own_R p e below s Q ck sk T (mkF m (pc + 3) Ls (.long v :: St))) : own_R p e below s Q ck sk T (mkF m pc Ls St) :=
  own_lift (fun _ q => X.ldc2Long hx hown (mvT hZ w) (g := mkF m pc Ls St) rfl hd _ q) k
theorem own_dup2 (X : Stand p l e R s m args below meth c T locs cells slots) (hx : p.tables.exec = Jvm.exec) {pc : Nat} {Ls : Array Slot} {St : List Value} {x y : Value} (hd : decode c.code pc = .ok (.dup2, 1)) (h1 : x.category = 1) (h2 : y.category = 1) (k : own_R p e below s Q ck sk T (mkF m (pc + 1) Ls (x :: y :: x :: y :: St))) : own_R p e below s Q ck sk T (mkF m pc Ls (x :: y :: St)) :=
  own_lift (fun _ q => by
    show Steps p.tables e below (T.setTop { method := m, pc := pc, locals := Ls, stack := x :: y :: St, locked := none }) _
    jvm_step X.here [X.here.top, hx, hd, h1, h2]
    exact q) k
theorem own_pop2 (X : Stand p l e R s m args below meth c T locs cells slots) (hx : p.tables.exec = Jvm.exec) {pc : Nat} {Ls : Array Slot} {St : List Value} {x : Int64} (hd : decode c.code pc = .ok (.pop2, 1)) (k : own_R p e below s Q ck sk T (mkF m (pc + 1) Ls St)) : own_R p e below s Q ck sk T (mkF m pc Ls (.long x :: St)) :=
  own_lift (fun _ q => by
    show Steps p.tables e below (T.setTop { method := m, pc := pc, locals := Ls, stack := .long x :: St, locked := none }) _
    jvm_step X.here [X.here.top, hx, hd, Value.category]
    exact q) k
/-! branches: both ways -/
theorem own_icmp (X : Stand p l e R s m args below meth c T locs cells slots) (hx : p.tables.exec = Jvm.exec) {pc pc' : Nat} {Ls : Array Slot} {St : List Value} {x y : Int32} {cd : ClassFile.Cond} {o : Int} (hd : decode c.code pc = .ok (.if_icmp cd o, 3)) (ho : 0 ≤ (pc : Int) + o) (hp : ((pc : Int) + o).toNat = pc')
    (k1 : if_icmp.holds cd x y = true → own_R p e below s Q ck sk T (mkF m pc' Ls St)) (k2 : if_icmp.holds cd x y = false → own_R p e below s Q ck sk T (mkF m (pc + 3) Ls St)) : own_R p e below s Q ck sk T (mkF m pc Ls (.int y :: .int x :: St)) := by
  cases hc : if_icmp.holds cd x y
  · exact own_lift (fun _ q => XS.icmpNo X.here hx rfl hd rfl hc q) (k2 hc)
  · exact own_lift (fun _ q => XS.icmpYes X.here hx rfl (pc0 := pc) rfl hd rfl hc ho hp q) (k1 hc)
theorem own_if (X : Stand p l e R s m args below meth c T locs cells slots) (hx : p.tables.exec = Jvm.exec) {pc pc' : Nat} {Ls : Array Slot} {St : List Value} {x : Int32} {cd : ClassFile.Cond} {o : Int} (hd : decode c.code pc = .ok (.ifCond cd o, 3)) (ho : 0 ≤ (pc : Int) + o) (hp : ((pc : Int) + o).toNat = pc')
    (k1 : if_icmp.holds cd x 0 = true → own_R p e below s Q ck sk T (mkF m pc' Ls St)) (k2 : if_icmp.holds cd x 0 = false → own_R p e below s Q ck sk T (mkF m (pc + 3) Ls St)) : own_R p e below s Q ck sk T (mkF m pc Ls (.int x :: St)) := by
  cases hc : if_icmp.holds cd x 0
  · exact own_lift (fun _ q => XS.ifNo X.here hx rfl hd rfl ((if0 _ _).trans hc) q) (k2 hc)
  · exact own_lift (fun _ q => XS.ifYes X.here hx rfl (pc0 := pc) rfl hd rfl ((if0 _ _).trans hc) ho hp q) (k1 hc)
theorem own_lt1 {x y : Int32} (q : if_icmp.holds .lt x y = true) : x < y := by simpa [if_icmp.holds] using q
theorem own_lt0 {x y : Int32} (q : if_icmp.holds .lt x y = false) : ¬ x < y := by simpa [if_icmp.holds] using q
theorem own_ge1 {x y : Int32} (q : if_icmp.holds .ge x y = true) : ¬ x < y := by simpa [if_icmp.holds] using q
theorem own_ge0 {x y : Int32} (q : if_icmp.holds .ge x y = false) : x < y := by simpa [if_icmp.holds] using q
theorem own_gt1 {x y : Int32} (q : if_icmp.holds .gt x y = true) : y < x := by simpa [if_icmp.holds] using q
theorem own_gt0 {x y : Int32} (q : if_icmp.holds .gt x y = false) : ¬ y < x := by simpa [if_icmp.holds] using q
theorem own_le1 {x y : Int32} (q : if_icmp.holds .le x y = true) : ¬ y < x := by simpa [if_icmp.holds] using q
theorem own_le0 {x y : Int32} (q : if_icmp.holds .le x y = false) : y < x := by simpa [if_icmp.holds] using q
theorem own_eq1 {x y : Int32} (q : if_icmp.holds .eq x y = true) : x = y := by simpa [if_icmp.holds] using q
theorem own_eq0 {x y : Int32} (q : if_icmp.holds .eq x y = false) : ¬ x = y := by simpa [if_icmp.holds] using q
theorem own_ne1 {x y : Int32} (q : if_icmp.holds .ne x y = true) : ¬ x = y := by simpa [if_icmp.holds] using q
theorem own_ne0 {x y : Int32} (q : if_icmp.holds .ne x y = false) : x = y := by simpa [if_icmp.holds] using q
/-! lcmp and the branch behind it, in one -/
theorem own_lcmp (X : Stand p l e R s m args below meth c T locs cells slots) (hx : p.tables.exec = Jvm.exec) {pc pc' : Nat} {Ls : Array Slot} {St : List Value} {x y : Int64} {cd : ClassFile.Cond} {o : Int} (hd1 : decode c.code pc = .ok (.lcmp, 1)) (hd : decode c.code (pc + 1) = .ok (.ifCond cd o, 3)) (ho : 0 ≤ ((pc + 1 : Nat) : Int) + o) (hp : (((pc + 1 : Nat) : Int) + o).toNat = pc')
    (k1 : if_icmp.holds cd (lcmpW x y) 0 = true → own_R p e below s Q ck sk T (mkF m pc' Ls St)) (k2 : if_icmp.holds cd (lcmpW x y) 0 = false → own_R p e below s Q ck sk T (mkF m (pc + 4) Ls St)) : own_R p e below s Q ck sk T (mkF m pc Ls (.long y :: .long x :: St)) :=
  own_lift (fun _ q => XS.lcmp X.here hx rfl hd1 rfl q) (own_if X hx hd ho hp k1 k2)
theorem own_llt1 {x y : Int64} (q : if_icmp.holds .lt (lcmpW x y) 0 = true) : x < y := (lw_lt x y).mp (own_lt1 q)
theorem own_llt0 {x y : Int64} (q : if_icmp.holds .lt (lcmpW x y) 0 = false) : ¬ x < y := fun z => own_lt0 q ((lw_lt x y).mpr z)
theorem own_lge1 {x y : Int64} (q : if_icmp.holds .ge (lcmpW x y) 0 = true) : ¬ x < y := fun z => own_ge1 q ((lw_lt x y).mpr z)
theorem own_lge0 {x y : Int64} (q : if_icmp.holds .ge (lcmpW x y) 0 = false) : x < y := (lw_lt x y).mp (own_ge0 q)
theorem own_lgt1 {x y : Int64} (q : if_icmp.holds .gt (lcmpW x y) 0 = true) : y < x := (lw_gt x y).mp (own_gt1 q)
theorem own_lgt0 {x y : Int64} (q : if_icmp.holds .gt (lcmpW x y) 0 = false) : ¬ y < x := fun z => own_gt0 q ((lw_gt x y).mpr z)
theorem own_lle1 {x y : Int64} (q : if_icmp.holds .le (lcmpW x y) 0 = true) : ¬ y < x := fun z => own_le1 q ((lw_gt x y).mpr z)
theorem own_lle0 {x y : Int64} (q : if_icmp.holds .le (lcmpW x y) 0 = false) : y < x := (lw_gt x y).mp (own_le0 q)
theorem own_leq1 {x y : Int64} (q : if_icmp.holds .eq (lcmpW x y) 0 = true) : x = y := (lw_eq x y).mp (own_eq1 q)
theorem own_leq0 {x y : Int64} (q : if_icmp.holds .eq (lcmpW x y) 0 = false) : ¬ x = y := fun z => own_eq0 q ((lw_eq x y).mpr z)
theorem own_lne1 {x y : Int64} (q : if_icmp.holds .ne (lcmpW x y) 0 = true) : ¬ x = y := fun z => own_ne1 q ((lw_eq x y).mpr z)
theorem own_lne0 {x y : Int64} (q : if_icmp.holds .ne (lcmpW x y) 0 = false) : x = y := (lw_eq x y).mp (own_ne0 q)
/-! returns -/
theorem own_ret0 (X : Stand p l e R s m args below meth c T locs cells slots) (hx : p.tables.exec = Jvm.exec) {pc : Nat} {Ls : Array Slot} (hret : meth.sig.returnType = none) (hlk : meth.locks = false) (hd : decode c.code pc = .ok (.return_, 1)) (hQ : Q none T.heap locs) (hc : cells ≤ ck) (hs : slots ≤ sk) : own_R p e below s Q ck sk T (mkF m pc Ls []) := by
  obtain ⟨fs, hr, hrun, hended, hW, hsame⟩ := X.leave (v := none) (fun _ => rfl) hlk
  exact ⟨_, _, X.returnOut hx hret hd hr, hrun, hended, _, _, rfl, hQ, ⟨_, rfl⟩, hW, hsame.mono hc hs⟩
theorem own_retN (X : Stand p l e R s m args below meth c T locs cells slots) (hx : p.tables.exec = Jvm.exec) {pc : Nat} {Ls : Array Slot} {St : List Value} {z : Int32} {t : FieldType} (hret : meth.sig.returnType = some t) (ht : t = .boolean ∨ t = .byte ∨ t = .char ∨ t = .short) (hlk : meth.locks = false) (hd : decode c.code pc = .ok (.ireturn, 1)) (hQ : Q (some (.int (nar t z))) T.heap locs) (hc : cells ≤ ck) (hs : slots ≤ sk) : own_R p e below s Q ck sk T (mkF m pc Ls (.int z :: St)) := by
  obtain ⟨fs, hr, hrun, hended, hW, hsame⟩ := X.leave (v := some (.int (nar t z))) (fun h => by rw [hret] at h; cases h) hlk
  exact ⟨_, _, retN X hx hret ht hd hr, hrun, hended, _, _, rfl, hQ, ⟨_, rfl⟩, hW, hsame.mono hc hs⟩
theorem own_retV (X : Stand p l e R s m args below meth c T locs cells slots) (hx : p.tables.exec = Jvm.exec) {pc : Nat} {Ls : Array Slot} {St : List Value} {w : Value} {t : FieldType} {i : Instr} (hret : meth.sig.returnType = some t) (hn : narrow t w = w)
    (hi : (i = .ireturn ∧ (t = .int ∨ t = .boolean ∨ t = .byte ∨ t = .char ∨ t = .short) ∧ ∃ z, w = .int z) ∨ (i = .lreturn ∧ t = .long ∧ ∃ z, w = .long z) ∨ (i = .dreturn ∧ t = .double ∧ ∃ z, w = .double z) ∨ (i = .freturn ∧ t = .float ∧ ∃ z, w = .float z) ∨ (i = .areturn ∧ t.isReference = true ∧ w.isRef = true)) (hlk : meth.locks = false)
    (hd : decode c.code pc = .ok (i, 1)) (hQ : Q (some w) T.heap locs) (hc : cells ≤ ck) (hs : slots ≤ sk) : own_R p e below s Q ck sk T (mkF m pc Ls (w :: St)) := by
  obtain ⟨fs, hr, hrun, hended, hW, hsame⟩ := X.leave (v := some w) (fun h => by rw [hret] at h; cases h) hlk
  exact ⟨_, _, retOut X hx hret hn hi hd hr, hrun, hended, _, _, rfl, hQ, ⟨_, rfl⟩, hW, hsame.mono hc hs⟩
theorem own_retI (X : Stand p l e R s m args below meth c T locs cells slots) (hx : p.tables.exec = Jvm.exec) {pc : Nat} {Ls : Array Slot} {St : List Value} {z : Int32} (hret : meth.sig.returnType = some .int) (hlk : meth.locks = false) (hd : decode c.code pc = .ok (.ireturn, 1)) (hQ : Q (some (.int z)) T.heap locs) (hc : cells ≤ ck) (hs : slots ≤ sk) : own_R p e below s Q ck sk T (mkF m pc Ls (.int z :: St)) :=
  own_retV X hx hret rfl (Or.inl ⟨rfl, Or.inl rfl, _, rfl⟩) hlk hd hQ hc hs
theorem own_retJ (X : Stand p l e R s m args below meth c T locs cells slots) (hx : p.tables.exec = Jvm.exec) {pc : Nat} {Ls : Array Slot} {St : List Value} {z : Int64} (hret : meth.sig.returnType = some .long) (hlk : meth.locks = false) (hd : decode c.code pc = .ok (.lreturn, 1)) (hQ : Q (some (.long z)) T.heap locs) (hc : cells ≤ ck) (hs : slots ≤ sk) : own_R p e below s Q ck sk T (mkF m pc Ls (.long z :: St)) :=
  own_retV X hx hret rfl (Or.inr (Or.inl ⟨rfl, rfl, _, rfl⟩)) hlk hd hQ hc hs
theorem own_retA (X : Stand p l e R s m args below meth c T locs cells slots) (hx : p.tables.exec = Jvm.exec) {pc : Nat} {Ls : Array Slot} {St : List Value} {w : Value} {t : FieldType} (hret : meth.sig.returnType = some t) (ht : t.isReference = true) (hw : w.isRef = true) (hlk : meth.locks = false) (hd : decode c.code pc = .ok (.areturn, 1)) (hQ : Q (some w) T.heap locs) (hc : cells ≤ ck) (hs : slots ≤ sk) : own_R p e below s Q ck sk T (mkF m pc Ls (w :: St)) :=
  own_retV X hx hret (by rcases ref_cases hw with rfl | ⟨a, rfl⟩ <;> cases t <;> first | rfl | (cases ht)) (Or.inr (Or.inr (Or.inr (Or.inr ⟨rfl, ht, hw⟩)))) hlk hd hQ hc hs
/-! the heap -/
theorem own_getF (X : Stand p l e R s m args below meth c T locs cells slots) (hx : p.tables.exec = Jvm.exec) (hZ : Z.Warmed39 s.vm) {own R0 O n d host : String} {index : Nat} (hown : s.vm.findClass own = some m.cls) (w : (Cond.fieldLink own index R0 n d).before a0 Z = true ∨ (Cond.fieldLinkNest own index R0 n d host).before a0 Z = true) (via : Via Z R0 O n d) (eT : T.heap = h) {a : Addr} {v : Value} (F : Fld Z h a O n d v) {pc : Nat} {Ls : Array Slot} {St : List Value} (hd : decode c.code pc = .ok (.getfield index, 3))
    (k : ∀ T', Stand p l e R s m args below meth c T' locs cells slots → T'.heap = h → own_R p e below s Q ck sk T' (mkF m (pc + 3) Ls (v :: St))) : own_R p e below s Q ck sk T (mkF m pc Ls (.ref a :: St)) := by
  obtain ⟨T', X', e', st⟩ := getF X hx hZ hown w via eT F (g := mkF m pc Ls (.ref a :: St)) rfl rfl hd
  exact own_lift st (k T' X' e')
theorem own_putF (X : Stand p l e R s m args below meth c T locs cells slots) (hx : p.tables.exec = Jvm.exec) (hZ : Z.Warmed39 s.vm) {own R0 O n d host C : String} {index kk : Nat} {ty : FieldType} (hown : s.vm.findClass own = some m.cls) (w : (Cond.fieldLink own index R0 n d).before a0 Z = true ∨ (Cond.fieldLinkNest own index R0 n d host).before a0 Z = true) (via : Via Z R0 O n d)
    (eT : T.heap = h) {a : Addr} {v old : Value} (F : Fld Z h a O n d old) (E : Exa Z h a C) (L : (Cond.lays C O n d).before a0 Z = true ∨ ((Cond.laysFinal C O n d).before a0 Z = true ∧ own = O ∧ meth.name = "<init>")) (wi : (Cond.instantiable C kk).before a0 Z = true)
    (hty : parseFieldDescriptor d = some ty) (hn : narrow ty v = v) (hf : fits ty v = true) {pc : Nat} {Ls : Array Slot} {St : List Value} (hd : decode c.code pc = .ok (.putfield index, 3))
    (k : ∀ T' h', Stand p l e R s m args below meth c T' (locs ++ [⟨a, Jvm.RoadKit.slotOf Z O n d⟩]) cells slots → T'.heap = h' → Wr h h' a (Jvm.RoadKit.slotOf Z O n d) v → own_R p e below s Q ck sk T' (mkF m (pc + 3) Ls St)) : own_R p e below s Q ck sk T (mkF m pc Ls (v :: .ref a :: St)) := by
  obtain ⟨T', h', X', e', W, st⟩ := putF X hx hZ hown w via eT F E L wi hty hn hf (g := mkF m pc Ls (v :: .ref a :: St)) rfl rfl hd
  exact own_lift st (k T' h' X' e' W)
theorem own_putFN (X : Stand p l e R s m args below meth c T locs cells slots) (hx : p.tables.exec = Jvm.exec) (hZ : Z.Warmed39 s.vm) {own R0 O n d C : String} {index kk : Nat} {ty : FieldType} (hown : s.vm.findClass own = some m.cls) (w : (Cond.fieldLink own index R0 n d).before a0 Z = true) (via : Via Z R0 O n d)
    (eT : T.heap = h) {a : Addr} {v v' old : Value} (F : Fld Z h a O n d old) (E : Exa Z h a C) (L : (Cond.lays C O n d).before a0 Z = true ∨ ((Cond.laysFinal C O n d).before a0 Z = true ∧ own = O ∧ meth.name = "<init>")) (wi : (Cond.instantiable C kk).before a0 Z = true)
    (hty : parseFieldDescriptor d = some ty) (hn : narrow ty v = v') (hf : fits ty v' = true) {pc : Nat} {Ls : Array Slot} {St : List Value} (hd : decode c.code pc = .ok (.putfield index, 3))
    (k : ∀ T' h', Stand p l e R s m args below meth c T' (locs ++ [⟨a, Jvm.RoadKit.slotOf Z O n d⟩]) cells slots → T'.heap = h' → Wr h h' a (Jvm.RoadKit.slotOf Z O n d) v' → own_R p e below s Q ck sk T' (mkF m (pc + 3) Ls St)) : own_R p e below s Q ck sk T (mkF m pc Ls (v :: .ref a :: St)) := by
  obtain ⟨T', h', X', e', W, st⟩ := putFN X hx hZ hown w via eT F E L wi hty hn hf (g := mkF m pc Ls (v :: .ref a :: St)) rfl rfl hd
  exact own_lift st (k T' h' X' e' W)
theorem own_new (X : Stand p l e R s m args below meth c T locs cells slots) (hx : p.tables.exec = Jvm.exec) (hZ : Z.Warmed39 s.vm) {own C : String} {index n : Nat} (hown : s.vm.findClass own = some m.cls) (w : (Cond.classLink own index C).before a0 Z = true) (wi : (Cond.instantiable C n).before a0 Z = true) (wz : (Cond.initialized C).before a0 Z = true) (eT : T.heap = h) {pc : Nat} {Ls : Array Slot} {St : List Value} (hd : decode c.code pc = .ok (.new index, 3)) (hc : cells + 1 ≤ R.cells) (hl : slots + n ≤ R.slots)
    (k : ∀ T' h' b, b = h.size → Stand p l e R s m args below meth c T' locs (cells + 1) (slots + n) → T'.heap = h' → Ext h h' → Exa Z h' b C → (∀ {O nm d : String} {ty : FieldType}, Laid Z a0 C O nm d → parseFieldDescriptor d = some ty → Fld Z h' b O nm d (defaultValue ty)) → own_R p e below s Q ck sk T' (mkF m (pc + 3) Ls (.ref b :: St))) : own_R p e below s Q ck sk T (mkF m pc Ls St) := by
  obtain ⟨T', h', X', e', E, A, D, -, st⟩ := newO X hx hZ hown w wi wz eT (g := mkF m pc Ls St) rfl hd hc hl
  exact own_lift st (k T' h' _ rfl X' e' E A D)
theorem own_newA (X : Stand p l e R s m args below meth c T locs cells slots) (hx : p.tables.exec = Jvm.exec) (hZ : Z.Warmed39 s.vm) {aty : ArrayType} (w : (Cond.arrayClass (newarray.typeOf aty)).before a0 Z = true) (eT : T.heap = h) {pc : Nat} {Ls : Array Slot} {St : List Value} {n : Int32} (hd : decode c.code pc = .ok (.newarray aty, 2)) (hn : ¬ n < 0) (cap : Nat) (hcap : n.toNatClampNeg ≤ cap) (hb : cap * 8 ≤ 536870912) (hc : cells + 1 ≤ R.cells) (hl : slots + cap ≤ R.slots) {ad : String} (had : "[" ++ (newarray.typeOf aty).toString = ad) (N : Nat)
    (k : ∀ T' h' b kA, b = h.size → Stand p l e R s m args below meth c T' locs (cells + 1) (slots + cap) → T'.heap = h' → Ext h h' → Arv Z h' b kA (newarray.typeOf aty) n (List.replicate N (defaultValue (newarray.typeOf aty))) (defaultValue (newarray.typeOf aty)) → Exa Z h' b ad → own_R p e below s Q ck sk T' (mkF m (pc + 2) Ls (.ref b :: St))) : own_R p e below s Q ck sk T (mkF m pc Ls (.int n :: St)) := by
  obtain ⟨T', h', kA, X', e', E, A, EA, st⟩ := newPE X hx hZ w eT (g := mkF m pc Ls (.int n :: St)) rfl hd rfl hn hcap hb hc hl had
  have V := (Arv.new A hn).pad (vs' := List.replicate N (defaultValue (newarray.typeOf aty))) (fun i => pad_rep [] (defaultValue (newarray.typeOf aty)) N i)
  exact own_lift st (k T' h' _ kA rfl X' e' E V EA)
theorem own_len (X : Stand p l e R s m args below meth c T locs cells slots) (hx : p.tables.exec = Jvm.exec) (hZ : Z.Warmed39 s.vm) (eT : T.heap = h) {a : Addr} {kA : ClassId} {ty : FieldType} {n : Int32} {vs : List Value} {dv : Value} (V : Arv Z h a kA ty n vs dv) {pc : Nat} {Ls : Array Slot} {St : List Value} (hd : decode c.code pc = .ok (.arraylength, 1))
    (k : own_R p e below s Q ck sk T (mkF m (pc + 1) Ls (.int n :: St))) : own_R p e below s Q ck sk T (mkF m pc Ls (.ref a :: St)) := by
  obtain ⟨cl, A, -, S, N, -⟩ := V
  rw [← len_of S N] at k
  exact own_lift (fun _ q => X.arraylength hx (by rw [eT]; exact A.1) (State.isArrayOf_alike hZ.alike A.2.1) (g := mkF m pc Ls (.ref a :: St)) rfl rfl hd _ q) k
theorem own_baload (X : Stand p l e R s m args below meth c T locs cells slots) (hx : p.tables.exec = Jvm.exec) (hZ : Z.Warmed39 s.vm) (eT : T.heap = h) {a : Addr} {kA : ClassId} {n : Int32} {vs : List Value} {dv v : Value} (V : Arv Z h a kA .byte n vs dv) {pc : Nat} {Ls : Array Slot} {St : List Value} {j : Int32} (hj : ¬ j < 0 ∧ j < n) (hv : vs.getD j.toNatClampNeg dv = v) (hd : decode c.code pc = .ok (.baload, 1))
    (k : own_R p e below s Q ck sk T (mkF m (pc + 1) Ls (v :: St))) : own_R p e below s Q ck sk T (mkF m pc Ls (.int j :: .ref a :: St)) := by
  obtain ⟨cl, A, -, S, N, H, -⟩ := V
  have hin := inb_of S hj
  exact own_lift (fun _ q => X.baloadBytes hx (by rw [eT]; exact A.1) (State.isArrayOf_alike hZ.alike A.2.1) A.2.2 hin (H.at hin hv) (g := mkF m pc Ls (.int j :: .ref a :: St)) rfl rfl hd _ q) k
theorem own_zaload (X : Stand p l e R s m args below meth c T locs cells slots) (hx : p.tables.exec = Jvm.exec) (hZ : Z.Warmed39 s.vm) (eT : T.heap = h) {a : Addr} {kA : ClassId} {n : Int32} {vs : List Value} {dv v : Value} (V : Arv Z h a kA .boolean n vs dv) {pc : Nat} {Ls : Array Slot} {St : List Value} {j : Int32} (hj : ¬ j < 0 ∧ j < n) (hv : vs.getD j.toNatClampNeg dv = v) (hd : decode c.code pc = .ok (.baload, 1))
    (k : own_R p e below s Q ck sk T (mkF m (pc + 1) Ls (v :: St))) : own_R p e below s Q ck sk T (mkF m pc Ls (.int j :: .ref a :: St)) := by
  obtain ⟨cl, A, -, S, N, H, -⟩ := V
  have hin := inb_of S hj
  exact own_lift (fun _ q => X.baloadBooleans hx (by rw [eT]; exact A.1) (State.isArrayOf_alike hZ.alike A.2.1) A.2.2 hin (H.at hin hv) (g := mkF m pc Ls (.int j :: .ref a :: St)) rfl rfl hd _ q) k
theorem own_caload (X : Stand p l e R s m args below meth c T locs cells slots) (hx : p.tables.exec = Jvm.exec) (hZ : Z.Warmed39 s.vm) (eT : T.heap = h) {a : Addr} {kA : ClassId} {n : Int32} {vs : List Value} {dv v : Value} (V : Arv Z h a kA .char n vs dv) {pc : Nat} {Ls : Array Slot} {St : List Value} {j : Int32} (hj : ¬ j < 0 ∧ j < n) (hv : vs.getD j.toNatClampNeg dv = v) (hd : decode c.code pc = .ok (.caload, 1))
    (k : own_R p e below s Q ck sk T (mkF m (pc + 1) Ls (v :: St))) : own_R p e below s Q ck sk T (mkF m pc Ls (.int j :: .ref a :: St)) := by
  obtain ⟨cl, A, -, S, N, H, -⟩ := V
  have hin := inb_of S hj
  exact own_lift (fun _ q => X.caload hx (by rw [eT]; exact A.1) (State.isArrayOf_alike hZ.alike A.2.1) A.2.2 hin (H.at hin hv) (g := mkF m pc Ls (.int j :: .ref a :: St)) rfl rfl hd _ q) k
theorem own_iaload (X : Stand p l e R s m args below meth c T locs cells slots) (hx : p.tables.exec = Jvm.exec) (hZ : Z.Warmed39 s.vm) (eT : T.heap = h) {a : Addr} {kA : ClassId} {n : Int32} {vs : List Value} {dv v : Value} (V : Arv Z h a kA .int n vs dv) {pc : Nat} {Ls : Array Slot} {St : List Value} {j : Int32} (hj : ¬ j < 0 ∧ j < n) (hv : vs.getD j.toNatClampNeg dv = v) (hd : decode c.code pc = .ok (.iaload, 1))
    (k : own_R p e below s Q ck sk T (mkF m (pc + 1) Ls (v :: St))) : own_R p e below s Q ck sk T (mkF m pc Ls (.int j :: .ref a :: St)) := by
  obtain ⟨cl, A, -, S, N, H, -⟩ := V
  have hin := inb_of S hj
  exact own_lift (fun _ q => X.iaload hx (by rw [eT]; exact A.1) (State.isArrayOf_alike hZ.alike A.2.1) A.2.2 hin (H.at hin hv) (g := mkF m pc Ls (.int j :: .ref a :: St)) rfl rfl hd _ q) k
theorem own_bastore (X : Stand p l e R s m args below meth c T locs cells slots) (hx : p.tables.exec = Jvm.exec) (hZ : Z.Warmed39 s.vm) (eT : T.heap = h) {a : Addr} {kA : ClassId} {n : Int32} {vs : List Value} {dv : Value} (V : Arv Z h a kA .byte n vs dv) {pc : Nat} {Ls : Array Slot} {St : List Value} {j x x' : Int32} (hn : nar .byte x = x') (hj : ¬ j < 0 ∧ j < n) (i : Nat) (hi : j.toNatClampNeg = i) (hl : i < vs.length) (hd : decode c.code pc = .ok (.bastore, 1))
    (k : ∀ T' h', Stand p l e R s m args below meth c T' (locs ++ [⟨a, j.toNatClampNeg⟩]) cells slots → T'.heap = h' → Wr h h' a j.toNatClampNeg (.int x') → Arv Z h' a kA .byte n (vs.set i (.int x')) dv → own_R p e below s Q ck sk T' (mkF m (pc + 1) Ls St)) : own_R p e below s Q ck sk T (mkF m pc Ls (.int x :: .int j :: .ref a :: St)) := by
  obtain ⟨cl, A, q1, S, N, H, G⟩ := V
  have hin := inb_of S hj
  obtain ⟨T', h', X', e', W, st⟩ := stB X hx hZ eT A hin (g := mkF m pc Ls (.int x :: .int j :: .ref a :: St)) rfl rfl hd
  subst hn
  exact own_lift st (k T' h' X' e' W (Arv.set A q1 S N H G (fits_nar_byte _) W i hi hl))
theorem own_zastore (X : Stand p l e R s m args below meth c T locs cells slots) (hx : p.tables.exec = Jvm.exec) (hZ : Z.Warmed39 s.vm) (eT : T.heap = h) {a : Addr} {kA : ClassId} {n : Int32} {vs : List Value} {dv : Value} (V : Arv Z h a kA .boolean n vs dv) {pc : Nat} {Ls : Array Slot} {St : List Value} {j x x' : Int32} (hn : nar .boolean x = x') (hj : ¬ j < 0 ∧ j < n) (i : Nat) (hi : j.toNatClampNeg = i) (hl : i < vs.length) (hd : decode c.code pc = .ok (.bastore, 1))
    (k : ∀ T' h', Stand p l e R s m args below meth c T' (locs ++ [⟨a, j.toNatClampNeg⟩]) cells slots → T'.heap = h' → Wr h h' a j.toNatClampNeg (.int x') → Arv Z h' a kA .boolean n (vs.set i (.int x')) dv → own_R p e below s Q ck sk T' (mkF m (pc + 1) Ls St)) : own_R p e below s Q ck sk T (mkF m pc Ls (.int x :: .int j :: .ref a :: St)) := by
  obtain ⟨cl, A, q1, S, N, H, G⟩ := V
  have hin := inb_of S hj
  obtain ⟨T', h', X', e', W, st⟩ := stZ X hx hZ eT A hin (g := mkF m pc Ls (.int x :: .int j :: .ref a :: St)) rfl rfl hd
  subst hn
  exact own_lift st (k T' h' X' e' W (Arv.set A q1 S N H G (fits_nar_bool _) W i hi hl))
theorem own_castore (X : Stand p l e R s m args below meth c T locs cells slots) (hx : p.tables.exec = Jvm.exec) (hZ : Z.Warmed39 s.vm) (eT : T.heap = h) {a : Addr} {kA : ClassId} {n : Int32} {vs : List Value} {dv : Value} (V : Arv Z h a kA .char n vs dv) {pc : Nat} {Ls : Array Slot} {St : List Value} {j x x' : Int32} (hn : nar .char x = x') (hj : ¬ j < 0 ∧ j < n) (i : Nat) (hi : j.toNatClampNeg = i) (hl : i < vs.length) (hd : decode c.code pc = .ok (.castore, 1))
    (k : ∀ T' h', Stand p l e R s m args below meth c T' (locs ++ [⟨a, j.toNatClampNeg⟩]) cells slots → T'.heap = h' → Wr h h' a j.toNatClampNeg (.int x') → Arv Z h' a kA .char n (vs.set i (.int x')) dv → own_R p e below s Q ck sk T' (mkF m (pc + 1) Ls St)) : own_R p e below s Q ck sk T (mkF m pc Ls (.int x :: .int j :: .ref a :: St)) := by
  obtain ⟨cl, A, q1, S, N, H, G⟩ := V
  have hin := inb_of S hj
  obtain ⟨T', h', X', e', W, st⟩ := stC X hx hZ eT A hin (g := mkF m pc Ls (.int x :: .int j :: .ref a :: St)) rfl rfl hd
  subst hn
  exact own_lift st (k T' h' X' e' W (Arv.set A q1 S N H G (fits_nar_char _) W i hi hl))
theorem own_iastore (X : Stand p l e R s m args below meth c T locs cells slots) (hx : p.tables.exec = Jvm.exec) (hZ : Z.Warmed39 s.vm) (eT : T.heap = h) {a : Addr} {kA : ClassId} {n : Int32} {vs : List Value} {dv : Value} (V : Arv Z h a kA .int n vs dv) {pc : Nat} {Ls : Array Slot} {St : List Value} {j x x' : Int32} (hn : x = x') (hj : ¬ j < 0 ∧ j < n) (i : Nat) (hi : j.toNatClampNeg = i) (hl : i < vs.length) (hd : decode c.code pc = .ok (.iastore, 1))
    (k : ∀ T' h', Stand p l e R s m args below meth c T' (locs ++ [⟨a, j.toNatClampNeg⟩]) cells slots → T'.heap = h' → Wr h h' a j.toNatClampNeg (.int x') → Arv Z h' a kA .int n (vs.set i (.int x')) dv → own_R p e below s Q ck sk T' (mkF m (pc + 1) Ls St)) : own_R p e below s Q ck sk T (mkF m pc Ls (.int x :: .int j :: .ref a :: St)) := by
  obtain ⟨cl, A, q1, S, N, H, G⟩ := V
  have hin := inb_of S hj
  obtain ⟨T', h', X', e', W, st⟩ := stI X hx hZ eT A hin (g := mkF m pc Ls (.int x :: .int j :: .ref a :: St)) rfl rfl hd
  subst hn
  exact own_lift st (k T' h' X' e' W (Arv.set A q1 S N H G rfl W i hi hl))
theorem own_initO (X : Stand p l e R s m args below meth c T locs cells slots) (hx : p.tables.exec = Jvm.exec) (hZ : Z.Warmed39 s.vm) {own : String} {idx : Nat} (hown : s.vm.findClass own = some m.cls) (w1 : (Cond.methodLink own idx Lib.objectInit).before a0 Z = true) (w2 : (Cond.instanceMethod Lib.objectInit).before a0 Z = true)
    (w3 : (Cond.code Lib.objectInit ⟨#[0xb1]⟩ 1 none).before a0 Z = true) (eT : T.heap = h) {pc : Nat} {Ls : Array Slot} {St : List Value} {a : Addr} (hsize : Ls.size = c.maxLocals) (hd : decode c.code pc = .ok (.invokespecial idx, 3)) (hf : 1 ≤ R.frames) {W : Nat} (hW : (St.map fun v => v.category).sum ≤ W) (hl : W + 12 ≤ R.locals)
    (k : ∀ T', Stand p l e R s m args below meth c T' locs cells slots → T'.heap = h → own_R p e below s Q ck sk T' (mkF m (pc + 3) Ls St)) : own_R p e below s Q ck sk T (mkF m pc Ls (.ref a :: St)) := by
  obtain ⟨T', X', e', st⟩ := initO X hx hZ hown w1 w2 w3 eT (g := mkF m pc Ls (.ref a :: St)) rfl hsize rfl hd hf (W := W) (by show 2 * 0 + _ ≤ _; omega) hl
  exact own_lift st (k T' X' e')
/-! calls by contract -/
theorem own_callS (X : Stand p l e R s m args below meth c T locs cells slots) (hx : p.tables.exec = Jvm.exec) (hZ : Z.Warmed39 s.vm) {own : String} {index : Nat} {y : MethodName} {bytes : ByteArray} {maxL : Nat} {ret : Option FieldType} {rm : Room} {as' : Array Value} {Q' : Option Value → Heap → List Loc → Prop}
    (hown : s.vm.findClass own = some m.cls) (w1 : (Cond.methodLink own index y).before a0 Z = true) (w2 : (Cond.static y).before a0 Z = true) (w3 : (Cond.initialized y.cls).before a0 Z = true) (w4 : (Cond.code y bytes maxL ret).before a0 Z = true) (hy : y.cls ≠ "java/lang/invoke/MethodHandle" ∧ y.cls ≠ "java/lang/invoke/VarHandle")
    (hM : MetFree l y (head1 [Cond.code y bytes maxL ret] rm) (fun a U => a = as' ∧ Z.Warmed39 U.vm ∧ U.heap = h) (fun _ _ _ _ _ => True) (fun _ U o U' => ∃ v L, o = .returned v ∧ Q' v U'.heap L ∧ FrameEnd U o U' L rm.cells rm.slots))
    (W : Nat) (hf : rm.frames + 1 ≤ R.frames) (hl : W + (maxL + 11) + rm.locals ≤ R.locals) (eT : T.heap = h) {pc : Nat} {Ls : Array Slot} {St : List Value} (hsize : Ls.size = c.maxLocals) (argsL rest : List Value) (has : as' = argsL.toArray) (hlen : ∀ sig, parseMethodDescriptor y.desc = some sig → argsL.length = sig.parameters.length) (hst : St = argsL.reverse ++ rest) (hW : (rest.map fun v => v.category).sum ≤ W)
    (hd : decode c.code pc = .ok (.invokestatic index, 3)) (hc : cells + rm.cells ≤ R.cells) (hs : slots + rm.slots ≤ R.slots)
    (k : ∀ T' v L, Stand p l e R s m args below meth c T' (locs ++ L) (cells + rm.cells) (slots + rm.slots) → Q' v T'.heap L → own_R p e below s Q ck sk T' (mkF m (pc + 3) Ls (v.toList ++ rest))) : own_R p e below s Q ck sk T (mkF m pc Ls St) := by
  obtain ⟨v, _, ⟨T', L', k', n'⟩, -, X', ⟨Lc, hQ, l', y', z'⟩, st⟩ := Jvm.LawKit.callS X hx (y := y) hown (mvT hZ w1) (mvT hZ w2) (mvT hZ w3) (mvT hZ w4) hy (backOf (W := W) hM hZ w4 w3 hf hl) (g := mkF m pc Ls St) rfl hsize (argsL := argsL) (rest := rest) hlen hst (by show 2 * 0 + _ ≤ _; omega) hd (fun _ _ => ⟨has.symm, eT, hc, hs⟩)
  dsimp only [Pt.U, Pt.locs, Pt.cells, Pt.slots] at X' l' y' z' st hQ
  subst l' y' z'
  exact own_lift st (k T' v Lc X' hQ)
theorem own_callI (X : Stand p l e R s m args below meth c T locs cells slots) (hx : p.tables.exec = Jvm.exec) (hZ : Z.Warmed39 s.vm) {own : String} {index : Nat} {y : MethodName} {bytes : ByteArray} {maxL : Nat} {rm : Room} {as' : Array Value} {Q' : Option Value → Heap → List Loc → Prop} (hy1 : y.name = "<init>")
    (hown : s.vm.findClass own = some m.cls) (w1 : (Cond.methodLink own index y).before a0 Z = true) (w2 : (Cond.instanceMethod y).before a0 Z = true) (w3 : (Cond.initialized y.cls).before a0 Z = true) (w4 : (Cond.code y bytes maxL none).before a0 Z = true) (hy : y.cls ≠ "java/lang/invoke/MethodHandle" ∧ y.cls ≠ "java/lang/invoke/VarHandle")
    (hM : MetFree l y (head1 [Cond.code y bytes maxL none] rm) (fun a U => a = as' ∧ Z.Warmed39 U.vm ∧ U.heap = h) (fun _ _ _ _ _ => True) (fun _ U o U' => ∃ v L, o = .returned v ∧ Q' v U'.heap L ∧ FrameEnd U o U' L rm.cells rm.slots))
    (W : Nat) (hf : rm.frames + 1 ≤ R.frames) (hl : W + (maxL + 11) + rm.locals ≤ R.locals) (eT : T.heap = h) {pc : Nat} {Ls : Array Slot} {St : List Value} (hsize : Ls.size = c.maxLocals) (a : Addr) (argsL rest : List Value) (has : as' = (.ref a :: argsL).toArray) (hlen : ∀ sig, parseMethodDescriptor y.desc = some sig → argsL.length = sig.parameters.length) (hst : St = argsL.reverse ++ .ref a :: rest) (hW : (rest.map fun v => v.category).sum ≤ W)
    (hd : decode c.code pc = .ok (.invokespecial index, 3)) (hc : cells + rm.cells ≤ R.cells) (hs : slots + rm.slots ≤ R.slots)
    (k : ∀ T' v L, Stand p l e R s m args below meth c T' (locs ++ L) (cells + rm.cells) (slots + rm.slots) → Q' v T'.heap L → own_R p e below s Q ck sk T' (mkF m (pc + 3) Ls (v.toList ++ rest))) : own_R p e below s Q ck sk T (mkF m pc Ls St) := by
  obtain ⟨v, _, ⟨T', L', k', n'⟩, -, X', ⟨Lc, hQ, l', y', z'⟩, st⟩ := X.specialBack hx (y := y) hy1 hown (mvT hZ w1) (mvT hZ w2) (mvT hZ w4) hy (backOf (W := W) hM hZ w4 w3 hf hl) (g := mkF m pc Ls St) rfl hsize (Steps.refl _) (a := a) (argsL := argsL) (rest := rest) hlen hst (by show 2 * 0 + _ ≤ _; omega) hd (fun _ _ => ⟨has.symm, eT, hc, hs⟩)
  dsimp only [Pt.U, Pt.locs, Pt.cells, Pt.slots] at X' l' y' z' st hQ
  subst l' y' z'
  exact own_lift (fun _ q => st.trans q) (k T' v Lc X' hQ)
theorem own_callV (X : Stand p l e R s m args below meth c T locs cells slots) (hx : p.tables.exec = Jvm.exec) (hZ : Z.Warmed39 s.vm) {own C : String} {index : Nat} {y z : MethodName} {bytes : ByteArray} {maxL : Nat} {ret : Option FieldType} {rm : Room} {as' : Array Value} {Q' : Option Value → Heap → List Loc → Prop}
    (hown : s.vm.findClass own = some m.cls) (w1 : (Cond.methodLink own index y).before a0 Z = true) (w2 : (Cond.declares y).before a0 Z = true) (nf : NotFace s y) (w5 : (Cond.selects C y z).before a0 Z = true) (w6 : (Cond.instanceMethod z).before a0 Z = true) (w3 : (Cond.initialized z.cls).before a0 Z = true) (w4 : (Cond.code z bytes maxL ret).before a0 Z = true) (hy : y.cls ≠ "java/lang/invoke/MethodHandle" ∧ y.cls ≠ "java/lang/invoke/VarHandle")
    (hM : MetFree l z (head1 [Cond.code z bytes maxL ret] rm) (fun a U => a = as' ∧ Z.Warmed39 U.vm ∧ U.heap = h) (fun _ _ _ _ _ => True) (fun _ U o U' => ∃ v L, o = .returned v ∧ Q' v U'.heap L ∧ FrameEnd U o U' L rm.cells rm.slots))
    (W : Nat) (hf : rm.frames + 1 ≤ R.frames) (hl : W + (maxL + 11) + rm.locals ≤ R.locals) (eT : T.heap = h) {pc : Nat} {Ls : Array Slot} {St : List Value} (hsize : Ls.size = c.maxLocals) (a : Addr) (E : Exa Z h a C) (argsL rest : List Value) (has : as' = (.ref a :: argsL).toArray) (hlen : ∀ sig, parseMethodDescriptor y.desc = some sig → argsL.length = sig.parameters.length) (hst : St = argsL.reverse ++ .ref a :: rest) (hW : (rest.map fun v => v.category).sum ≤ W)
    (hd : decode c.code pc = .ok (.invokevirtual index, 3)) (hc : cells + rm.cells ≤ R.cells) (hs : slots + rm.slots ≤ R.slots)
    (k : ∀ T' v L, Stand p l e R s m args below meth c T' (locs ++ L) (cells + rm.cells) (slots + rm.slots) → Q' v T'.heap L → own_R p e below s Q ck sk T' (mkF m (pc + 3) Ls (v.toList ++ rest))) : own_R p e below s Q ck sk T (mkF m pc Ls St) := by
  obtain ⟨cq, kq, qa, qb, qc⟩ := isOf hZ eT E
  obtain ⟨v, _, ⟨T', L', k', n'⟩, -, X', ⟨Lc, hQ, l', y', z'⟩, st⟩ := X.virtualBack hx (y := y) (z := z) hown (mvT hZ w1) (mvT hZ w2) nf (mvT hZ w5) (mvT hZ w6) hy (backOf (W := W) hM hZ w4 w3 hf hl) qa qc (g := mkF m pc Ls St) rfl hsize (Steps.refl _) (argsL := argsL) (rest := rest) hlen hst (by show 2 * 0 + _ ≤ _; omega) hd (fun _ _ => ⟨has.symm, eT, hc, hs⟩)
  dsimp only [Pt.U, Pt.locs, Pt.cells, Pt.slots] at X' l' y' z' st hQ
  subst l' y' z'
  exact own_lift (fun _ q => st.trans q) (k T' v Lc X' hQ)
theorem own_self {y : MethodName} {kk : Nat} (hZ : Z.Warmed39 s.vm) (wi : (Cond.instantiable y.cls kk).before a0 Z = true) (wp : (Cond.privateMethod y).before a0 Z = true) (w2 : (Cond.instanceMethod y).before a0 Z = true) (hy : y.cls ≠ "java/lang/invoke/MethodHandle" ∧ y.cls ≠ "java/lang/invoke/VarHandle") : (Cond.selects y.cls y y).before args s = true := by
  have wi' : (Cond.instantiable y.cls kk).before args s = true := mvT hZ wi
  obtain ⟨cc, kc, i1, i2, -, i4, -⟩ := Cond.instantiable_spec wi'
  have i5 : kc.isInterface = false := by
    cases hq : kc.isInterface
    · rfl
    · rw [hq] at i4; cases i4
  exact selects_self_of_private i1 i2 i5 (Cond.privateMethod_at (mvP hZ wp (args := args))) (mvT hZ w2) hy
theorem own_callP (X : Stand p l e R s m args below meth c T locs cells slots) (hx : p.tables.exec = Jvm.exec) (hZ : Z.Warmed39 s.vm) {own : String} {index kk : Nat} {y : MethodName} {bytes : ByteArray} {maxL : Nat} {ret : Option FieldType} {rm : Room} {as' : Array Value} {Q' : Option Value → Heap → List Loc → Prop}
    (hown : s.vm.findClass own = some m.cls) (w1 : (Cond.methodLink own index y).before a0 Z = true) (w2 : (Cond.instanceMethod y).before a0 Z = true) (wi : (Cond.instantiable y.cls kk).before a0 Z = true) (wp : (Cond.privateMethod y).before a0 Z = true) (w3 : (Cond.initialized y.cls).before a0 Z = true) (w4 : (Cond.code y bytes maxL ret).before a0 Z = true) (hy : y.cls ≠ "java/lang/invoke/MethodHandle" ∧ y.cls ≠ "java/lang/invoke/VarHandle")
    (hM : MetFree l y (head1 [Cond.code y bytes maxL ret] rm) (fun a U => a = as' ∧ Z.Warmed39 U.vm ∧ U.heap = h) (fun _ _ _ _ _ => True) (fun _ U o U' => ∃ v L, o = .returned v ∧ Q' v U'.heap L ∧ FrameEnd U o U' L rm.cells rm.slots))
    (W : Nat) (hf : rm.frames + 1 ≤ R.frames) (hl : W + (maxL + 11) + rm.locals ≤ R.locals) (eT : T.heap = h) {pc : Nat} {Ls : Array Slot} {St : List Value} (hsize : Ls.size = c.maxLocals) (a : Addr) {C : String} (E : Exa Z h a C) (argsL rest : List Value) (has : as' = (.ref a :: argsL).toArray) (hlen : ∀ sig, parseMethodDescriptor y.desc = some sig → argsL.length = sig.parameters.length) (hst : St = argsL.reverse ++ .ref a :: rest) (hW : (rest.map fun v => v.category).sum ≤ W)
    (hd : decode c.code pc = .ok (.invokevirtual index, 3)) (hc : cells + rm.cells ≤ R.cells) (hs : slots + rm.slots ≤ R.slots)
    (k : ∀ T' v L, Stand p l e R s m args below meth c T' (locs ++ L) (cells + rm.cells) (slots + rm.slots) → Q' v T'.heap L → own_R p e below s Q ck sk T' (mkF m (pc + 3) Ls (v.toList ++ rest))) : own_R p e below s Q ck sk T (mkF m pc Ls St) := by
  obtain ⟨cq, q1, q2⟩ := E.cell
  obtain ⟨v, _, ⟨T', L', k', n'⟩, -, X', ⟨Lc, hQ, l', y', z'⟩, st⟩ := X.privateBack hx (y := y) hown (mvT hZ w1) (mvT hZ w2) (own_self hZ wi wp w2 hy) (Cond.privateMethod_at (mvP hZ wp (args := #[]))) (mvT hZ w4) hy (backOf (W := W) hM hZ w4 w3 hf hl) (g := mkF m pc Ls St) rfl hsize (Steps.refl _) (a := a) (cell := cq) (by rw [eT]; exact q1) q2 (argsL := argsL) (rest := rest) hlen hst (by show 2 * 0 + _ ≤ _; omega) hd (fun _ _ => ⟨has.symm, eT, hc, hs⟩)
  dsimp only [Pt.U, Pt.locs, Pt.cells, Pt.slots] at X' l' y' z' st hQ
  subst l' y' z'
  exact own_lift (fun _ q => st.trans q) (k T' v Lc X' hQ)
theorem own_neA {a b : Addr} {k k' : ClassId} {ty ty' : FieldType} {z z' : Int32} {vs vs' : List Value} {d d' : Value} (F : Arv Z h a k ty z vs d) (G : Arv Z h b k' ty' z' vs' d') (hn : ty ≠ ty') : a ≠ b := fun q => by
  subst q
  obtain ⟨c1, A, -⟩ := F
  obtain ⟨c2, B, -⟩ := G
  cases A.1.symm.trans B.1
  obtain ⟨-, k1, a1, cp1, a2⟩ := A.2.1
  obtain ⟨-, k2, b1, cp2, b2⟩ := B.2.1
  cases a1.symm.trans b1
  rw [a2] at b2
  injection b2 with _ e
  exact hn e
theorem own_callIR (X : Stand p l e R s m args below meth c T locs cells slots) (hx : p.tables.exec = Jvm.exec) (hZ : Z.Warmed39 s.vm) {own : String} {index : Nat} {y : MethodName} {bytes : ByteArray} {maxL : Nat} {rm : Room} {as' : Array Value} {Q' : Option Value → Heap → List Loc → Prop} (hy1 : y.name = "<init>")
    (hown : s.vm.findClass own = some m.cls) (w1 : (Cond.methodRef own index y).before a0 Z = true) (w2 : (Cond.instanceMethod y).before a0 Z = true) (w3 : (Cond.initialized y.cls).before a0 Z = true) (w4 : (Cond.code y bytes maxL none).before a0 Z = true) (hy : y.cls ≠ "java/lang/invoke/MethodHandle" ∧ y.cls ≠ "java/lang/invoke/VarHandle")
    (hM : MetFree l y (head1 [Cond.code y bytes maxL none] rm) (fun a U => a = as' ∧ Z.Warmed39 U.vm ∧ U.heap = h) (fun _ _ _ _ _ => True) (fun _ U o U' => ∃ v L, o = .returned v ∧ Q' v U'.heap L ∧ FrameEnd U o U' L rm.cells rm.slots))
    (W : Nat) (hf : rm.frames + 1 ≤ R.frames) (hl : W + (maxL + 11) + rm.locals ≤ R.locals) (eT : T.heap = h) {pc : Nat} {Ls : Array Slot} {St : List Value} (hsize : Ls.size = c.maxLocals) (a : Addr) (argsL rest : List Value) (has : as' = (.ref a :: argsL).toArray) (hlen : ∀ sig, parseMethodDescriptor y.desc = some sig → argsL.length = sig.parameters.length) (hst : St = argsL.reverse ++ .ref a :: rest) (hW : (rest.map fun v => v.category).sum ≤ W)
    (hd : decode c.code pc = .ok (.invokespecial index, 3)) (hc : cells + rm.cells ≤ R.cells) (hs : slots + rm.slots ≤ R.slots)
    (k : ∀ T' v L, Stand p l e R s m args below meth c T' (locs ++ L) (cells + rm.cells) (slots + rm.slots) → Q' v T'.heap L → own_R p e below s Q ck sk T' (mkF m (pc + 3) Ls (v.toList ++ rest))) : own_R p e below s Q ck sk T (mkF m pc Ls St) := by
  have hZT : Z.Warmed39 T.vm := wtrans hZ X.warmed
  obtain ⟨mz, methz, hnz, -, -, -⟩ := Cond.instanceMethod_spec w2
  have r := Cond.methodRef_warmed39 hZT hnz hy w1
  have i2 : (Cond.instanceMethod y).before args s = true := mvT hZ w2
  have i4 : (Cond.code y bytes maxL none).before args s = true := mvT hZ w4
  obtain ⟨obj, methO, hnO, hmO, hstO, habO⟩ := Cond.instanceMethod_spec i2
  obtain ⟨methO', cO, hmO', hcO, hbO, hlO, -, hlockO, -, hsigO⟩ := Cond.code_spec hnO i4
  cases hmO.symm.trans hmO'
  obtain ⟨kO, hkO, hnameO⟩ := className_of_methodNamed hnO
  obtain ⟨hnameMO, hdescO⟩ := name_of_methodNamed hnO hmO
  have hnT : T.methodNamed? y = some obj := X.named hnO
  have hcurT : (Z.setVm T.vm).vm.findClass own = some m.cls := (X.warmed.alike.findClass _ _).trans hown
  obtain ⟨m', c', hm', hready, hfind, hnames⟩ := Cond.methodRef_named e hcurT r
  have hnV : (Z.setVm T.vm).methodNamed? y = some obj := hnT
  have e1 := State.methodFound?_of_named hnV hy
  cases hm'.symm.trans e1
  have e2 := findClass_of_methodNamed hnV
  cases hfind.symm.trans e2
  obtain ⟨kT, hkT, -⟩ := X.warmed.alike.2.2 _ _ hkO
  have hmT : T.vm.method? obj = some methO := by rw [X.warmed.alike.method?]; exact hmO
  have hfound : lookupSpecial T.vm obj.cls "<init>" methO.desc = .method obj := by
    rw [X.warmed.alike.lookupSpecial, hdescO, ← hy1]; exact lookupSpecial_of_named hnO hmO hstO
  have hstep : ∀ target, (∀ acts, Steps p.tables e below (doInvoke e (T.setTop { mkF m pc Ls St with stack := rest }) acts obj (.ref a :: argsL).toArray).1 target) → Steps p.tables e below (T.setTop (mkF m pc Ls St)) target := fun target hrest => by
    jvm_step X.here [hx, hd, invokespecial.wp_init (e := e) (s := T) (f := mkF m pc Ls St) (k := kT) (meth := methO) (m := obj) (a := a) (args := argsL) (rest := rest) X.here.top hnames hready hkT hmT (by rw [hnameMO]; exact hy1) hstO habO hfound (hlen _ hsigO) hst]
    exact hrest
  obtain ⟨v, ⟨T', L', k', n'⟩, X', ⟨Lc, hQ, l', y', z'⟩, st⟩ := (backOf (W := W) (p := p) (e := e) (below := below) (R := R) (args := args) (len := 3) hM hZ w4 w3 hf hl) m meth c ⟨T, locs, cells, slots⟩ { mkF m pc Ls St with stack := rest } (.invokespecial index) obj (.ref a :: argsL).toArray X rfl hsize hd (by show 2 * 0 + (rest.map fun v => v.category).sum ≤ _; omega) hnT ⟨has.symm, eT, hc, hs⟩
  dsimp only [Pt.U, Pt.locs, Pt.cells, Pt.slots] at X' l' y' z' st hQ
  subst l' y' z'
  exact own_lift (fun _ q => (hstep _ fun acts => by rw [doInvoke_state]; exact Steps.refl _).trans (st.trans q)) (k T' v Lc X' hQ)
end OwnKit

abbrev my1 : MethodName := (⟨"com/example/termweave/termweave/release/HeldRows", "<init>", "(I)V"⟩ : MethodName)
abbrev my2 : MethodName := (⟨"java/lang/Object", "<init>", "()V"⟩ : MethodName)
abbrev my3 : MethodName := (⟨"com/example/termweave/termweave/release/HeldRows$Sort", "<init>", "(Lcom/example/termweave/termweave/release/HeldRows;)V"⟩ : MethodName)
abbrev my4 : MethodName := (⟨"com/example/termweave/termweave/release/HeldRows$View", "<init>", "(I)V"⟩ : MethodName)
abbrev my5 : MethodName := (⟨"com/example/termweave/termweave/release/RrfRow", "<init>", "([BI)V"⟩ : MethodName)
abbrev my6 : MethodName := (⟨"com/example/termweave/termweave/release/HeldRows", "row", "(I)Lcom/example/termweave/termweave/release/RrfRow;"⟩ : MethodName)
abbrev my7 : MethodName := (⟨"com/example/termweave/termweave/release/HeldRows", "lineFeed", "(I)I"⟩ : MethodName)
abbrev my8 : MethodName := (⟨"com/example/termweave/termweave/release/HeldRowsFieldStartPinLaw", "addRow", "(Lcom/example/termweave/termweave/release/HeldRows;Lcom/example/termweave/termweave/release/RrfRow;[BIII)I"⟩ : MethodName)
abbrev my9 : MethodName := (⟨"com/example/termweave/termweave/release/HeldRowsFieldStartPinLaw", "end", "(II)I"⟩ : MethodName)
abbrev my10 : MethodName := (⟨"com/example/termweave/termweave/release/HeldRows", "add", "(Lcom/example/termweave/termweave/release/RrfRow;)V"⟩ : MethodName)
abbrev my11 : MethodName := (⟨"com/example/termweave/termweave/release/RrfRow", "rowEnd", "()I"⟩ : MethodName)
abbrev my12 : MethodName := (⟨"com/example/termweave/termweave/release/RrfRow", "rowStart", "()I"⟩ : MethodName)
abbrev my13 : MethodName := (⟨"com/example/termweave/termweave/release/RrfRow", "bytes", "()[B"⟩ : MethodName)
abbrev my14 : MethodName := (⟨"com/example/termweave/termweave/release/RrfRow", "fieldEndOffsets", "()[I"⟩ : MethodName)
abbrev my15 : MethodName := (⟨"com/example/termweave/termweave/release/RrfRow", "ascii", "()Z"⟩ : MethodName)
abbrev my16 : MethodName := (⟨"com/example/termweave/termweave/release/HeldRows", "fieldStart", "(II)I"⟩ : MethodName)
abbrev my17 : MethodName := (⟨"com/example/termweave/termweave/release/HeldRows", "clear", "()V"⟩ : MethodName)
abbrev o0 : Value := .int (0 : Int32)
abbrev cH : String := "com/example/termweave/termweave/release/HeldRows"
abbrev cS : String := "com/example/termweave/termweave/release/HeldRows$Sort"
abbrev cV : String := "com/example/termweave/termweave/release/HeldRows$View"
abbrev cR : String := "com/example/termweave/termweave/release/RrfRow"
theorem pl_nt (x : Int32) : x.toNatClampNeg = x.toInt.toNat := rfl
theorem pl_16 (cc : Int32) (hc : 1 ≤ cc.toInt ∧ cc.toInt ≤ 4) : ((16 : Int32) * cc).toInt = 16 * cc.toInt := by
  have h1 := c_imul (16 : Int32) cc
  have h2 := rng32 ((16 : Int32) * cc)
  simp only [show (0 : Int32).toInt = 0 from by decide, show (1 : Int32).toInt = 1 from by decide, show (2 : Int32).toInt = 2 from by decide, show (3 : Int32).toInt = 3 from by decide, show (4 : Int32).toInt = 4 from by decide, show (5 : Int32).toInt = 5 from by decide, show (6 : Int32).toInt = 6 from by decide, show (7 : Int32).toInt = 7 from by decide, show (16 : Int32).toInt = 16 from by decide, show (17 : Int32).toInt = 17 from by decide, show (40 : Int32).toInt = 40 from by decide, show (4096 : Int32).toInt = 4096 from by decide] at h1
  omega
theorem pl_neg16 (cc : Int32) (hc : 1 ≤ cc.toInt ∧ cc.toInt ≤ 4) : ¬ (16 : Int32) * cc < 0 := by
  rw [Int32.lt_iff_toInt_lt, pl_16 cc hc, show (0 : Int32).toInt = 0 from by decide]; omega
theorem pl_cap16 (cc : Int32) (hc : 1 ≤ cc.toInt ∧ cc.toInt ≤ 4) : ((16 : Int32) * cc).toNatClampNeg ≤ 64 := by
  rw [pl_nt, pl_16 cc hc]; omega
theorem pl_negc (cc : Int32) (hc : 1 ≤ cc.toInt ∧ cc.toInt ≤ 4) : ¬ cc < 0 := by
  rw [Int32.lt_iff_toInt_lt, show (0 : Int32).toInt = 0 from by decide]; omega
theorem pl_capc (cc : Int32) (hc : 1 ≤ cc.toInt ∧ cc.toInt ≤ 4) : cc.toNatClampNeg ≤ 4 := by
  rw [pl_nt]; omega
theorem pl_0c (cc : Int32) : (0 : Int32) * cc = 0 := Int32.zero_mul
theorem pl_cle (cc : Int32) (hc : 1 ≤ cc.toInt ∧ cc.toInt ≤ 4) : cc.toNatClampNeg ≤ ((16 : Int32) * cc).toNatClampNeg := by
  rw [pl_nt, pl_nt, pl_16 cc hc]; omega
theorem pl_sc (sz cc : Int32) (hc : 1 ≤ cc.toInt ∧ cc.toInt ≤ 4) (hsz : 0 ≤ sz.toInt ∧ sz.toInt ≤ 3) : 0 ≤ (sz * cc).toInt ∧ (sz * cc).toInt + cc.toInt ≤ 16 * cc.toInt := by
  have h1 := c_imul sz cc
  have h2 := rng32 (sz * cc)
  have h3 : sz.toInt = 0 ∨ sz.toInt = 1 ∨ sz.toInt = 2 ∨ sz.toInt = 3 := by omega
  have h4 : cc.toInt = 1 ∨ cc.toInt = 2 ∨ cc.toInt = 3 ∨ cc.toInt = 4 := by omega
  rcases h3 with h | h | h | h <;> rcases h4 with g | g | g | g <;> rw [h, g] at h1 <;> omega
theorem pl_upl (bs us : List Value) (a n : Nat) (h : a + n ≤ bs.length) (hu : us.length = n) : (bs.take a ++ us ++ bs.drop (a + n)).length = bs.length := by
  rw [List.length_append, List.length_append, List.length_take, List.length_drop, hu]; omega
theorem pl_rl (x y : Int32) : (x + y + 1 - x) + 1 = y + 2 := by grind
theorem pl_off (x : Int32) : 0 ≤ (((x.toUInt32 >>> ((3 : Int32) &&& 31).toUInt32).toInt32) &&& (7 : Int32)).toInt ∧ (((x.toUInt32 >>> ((3 : Int32) &&& 31).toUInt32).toInt32) &&& (7 : Int32)).toInt ≤ 7 := by
  have h := c_mask ((x.toUInt32 >>> ((3 : Int32) &&& 31).toUInt32).toInt32) (7 : Int32) 3 (by decide) (by decide)
  omega
theorem pl_cols (x : Int32) : (1 : Int32) + (x &&& (3 : Int32)) = 1 ∨ (1 : Int32) + (x &&& (3 : Int32)) = 2 ∨ (1 : Int32) + (x &&& (3 : Int32)) = 3 ∨ (1 : Int32) + (x &&& (3 : Int32)) = 4 := by
  have h := c_mask x (3 : Int32) 2 (by decide) (by decide)
  have h1 := c_iadd (1 : Int32) (x &&& (3 : Int32))
  have h2 := rng32 ((1 : Int32) + (x &&& (3 : Int32)))
  simp only [← Int32.toInt_inj, show (0 : Int32).toInt = 0 from by decide, show (1 : Int32).toInt = 1 from by decide, show (2 : Int32).toInt = 2 from by decide, show (3 : Int32).toInt = 3 from by decide, show (4 : Int32).toInt = 4 from by decide, show (5 : Int32).toInt = 5 from by decide, show (6 : Int32).toInt = 6 from by decide, show (7 : Int32).toInt = 7 from by decide, show (16 : Int32).toInt = 16 from by decide, show (17 : Int32).toInt = 17 from by decide, show (40 : Int32).toInt = 40 from by decide, show (4096 : Int32).toInt = 4096 from by decide] at h1 ⊢
  omega
theorem pl_ix (x : Int32) : (x &&& (2147483647 : Int32)) % (3 : Int32) = 0 ∨ (x &&& (2147483647 : Int32)) % (3 : Int32) = 1 ∨ (x &&& (2147483647 : Int32)) % (3 : Int32) = 2 := by
  have h1 := c_mask x (2147483647 : Int32) 31 (by decide) (by decide)
  have h2 := (c_irem (x &&& (2147483647 : Int32)) (3 : Int32) 3 (by decide)).1 (by omega)
  simp only [← Int32.toInt_inj, show (0 : Int32).toInt = 0 from by decide, show (1 : Int32).toInt = 1 from by decide, show (2 : Int32).toInt = 2 from by decide, show (3 : Int32).toInt = 3 from by decide, show (4 : Int32).toInt = 4 from by decide, show (5 : Int32).toInt = 5 from by decide, show (6 : Int32).toInt = 6 from by decide, show (7 : Int32).toInt = 7 from by decide, show (16 : Int32).toInt = 16 from by decide, show (17 : Int32).toInt = 17 from by decide, show (40 : Int32).toInt = 40 from by decide, show (4096 : Int32).toInt = 4096 from by decide]
  omega
theorem pl_l1 (x : Int32) : 0 ≤ (x &&& (3 : Int32)).toInt ∧ (x &&& (3 : Int32)).toInt ≤ 3 := by
  have h := c_mask x (3 : Int32) 2 (by decide) (by decide)
  omega
theorem pl_cl1 (x : Int32) : ((x.toUInt32 >>> ((4 : Int32) &&& 31).toUInt32).toInt32) % (1 : Int32) = 0 := by
  have h0 := c_iushr x (4 : Int32) 4 (by decide) (by decide)
  have h2 := (c_irem ((x.toUInt32 >>> ((4 : Int32) &&& 31).toUInt32).toInt32) (1 : Int32) 1 (by decide)).1 (by rw [h0]; have := rng32 x; omega)
  simp only [← Int32.toInt_inj, show (0 : Int32).toInt = 0 from by decide, show (1 : Int32).toInt = 1 from by decide, show (2 : Int32).toInt = 2 from by decide, show (3 : Int32).toInt = 3 from by decide, show (4 : Int32).toInt = 4 from by decide, show (5 : Int32).toInt = 5 from by decide, show (6 : Int32).toInt = 6 from by decide, show (7 : Int32).toInt = 7 from by decide, show (16 : Int32).toInt = 16 from by decide, show (17 : Int32).toInt = 17 from by decide, show (40 : Int32).toInt = 40 from by decide, show (4096 : Int32).toInt = 4096 from by decide]
  omega
theorem pl_cl2 (x : Int32) : ((x.toUInt32 >>> ((4 : Int32) &&& 31).toUInt32).toInt32) % (2 : Int32) = 0 ∨ ((x.toUInt32 >>> ((4 : Int32) &&& 31).toUInt32).toInt32) % (2 : Int32) = 1 := by
  have h0 := c_iushr x (4 : Int32) 4 (by decide) (by decide)
  have h2 := (c_irem ((x.toUInt32 >>> ((4 : Int32) &&& 31).toUInt32).toInt32) (2 : Int32) 2 (by decide)).1 (by rw [h0]; have := rng32 x; omega)
  simp only [← Int32.toInt_inj, show (0 : Int32).toInt = 0 from by decide, show (1 : Int32).toInt = 1 from by decide, show (2 : Int32).toInt = 2 from by decide, show (3 : Int32).toInt = 3 from by decide, show (4 : Int32).toInt = 4 from by decide, show (5 : Int32).toInt = 5 from by decide, show (6 : Int32).toInt = 6 from by decide, show (7 : Int32).toInt = 7 from by decide, show (16 : Int32).toInt = 16 from by decide, show (17 : Int32).toInt = 17 from by decide, show (40 : Int32).toInt = 40 from by decide, show (4096 : Int32).toInt = 4096 from by decide]
  omega
theorem pl_cl3 (x : Int32) : ((x.toUInt32 >>> ((4 : Int32) &&& 31).toUInt32).toInt32) % (3 : Int32) = 0 ∨ ((x.toUInt32 >>> ((4 : Int32) &&& 31).toUInt32).toInt32) % (3 : Int32) = 1 ∨ ((x.toUInt32 >>> ((4 : Int32) &&& 31).toUInt32).toInt32) % (3 : Int32) = 2 := by
  have h0 := c_iushr x (4 : Int32) 4 (by decide) (by decide)
  have h2 := (c_irem ((x.toUInt32 >>> ((4 : Int32) &&& 31).toUInt32).toInt32) (3 : Int32) 3 (by decide)).1 (by rw [h0]; have := rng32 x; omega)
  simp only [← Int32.toInt_inj, show (0 : Int32).toInt = 0 from by decide, show (1 : Int32).toInt = 1 from by decide, show (2 : Int32).toInt = 2 from by decide, show (3 : Int32).toInt = 3 from by decide, show (4 : Int32).toInt = 4 from by decide, show (5 : Int32).toInt = 5 from by decide, show (6 : Int32).toInt = 6 from by decide, show (7 : Int32).toInt = 7 from by decide, show (16 : Int32).toInt = 16 from by decide, show (17 : Int32).toInt = 17 from by decide, show (40 : Int32).toInt = 40 from by decide, show (4096 : Int32).toInt = 4096 from by decide]
  omega
theorem pl_cl4 (x : Int32) : ((x.toUInt32 >>> ((4 : Int32) &&& 31).toUInt32).toInt32) % (4 : Int32) = 0 ∨ ((x.toUInt32 >>> ((4 : Int32) &&& 31).toUInt32).toInt32) % (4 : Int32) = 1 ∨ ((x.toUInt32 >>> ((4 : Int32) &&& 31).toUInt32).toInt32) % (4 : Int32) = 2 ∨ ((x.toUInt32 >>> ((4 : Int32) &&& 31).toUInt32).toInt32) % (4 : Int32) = 3 := by
  have h0 := c_iushr x (4 : Int32) 4 (by decide) (by decide)
  have h2 := (c_irem ((x.toUInt32 >>> ((4 : Int32) &&& 31).toUInt32).toInt32) (4 : Int32) 4 (by decide)).1 (by rw [h0]; have := rng32 x; omega)
  simp only [← Int32.toInt_inj, show (0 : Int32).toInt = 0 from by decide, show (1 : Int32).toInt = 1 from by decide, show (2 : Int32).toInt = 2 from by decide, show (3 : Int32).toInt = 3 from by decide, show (4 : Int32).toInt = 4 from by decide, show (5 : Int32).toInt = 5 from by decide, show (6 : Int32).toInt = 6 from by decide, show (7 : Int32).toInt = 7 from by decide, show (16 : Int32).toInt = 16 from by decide, show (17 : Int32).toInt = 17 from by decide, show (40 : Int32).toInt = 40 from by decide, show (4096 : Int32).toInt = 4096 from by decide]
  omega

theorem d1_0 : decode prog_30_method_1_code 0 = .ok (.aload_n 0, 1) := by decide +kernel
theorem d1_1 : decode prog_30_method_1_code 1 = .ok (.invokespecial 1, 3) := by decide +kernel
theorem d1_4 : decode prog_30_method_1_code 4 = .ok (.aload_n 0, 1) := by decide +kernel
theorem d1_5 : decode prog_30_method_1_code 5 = .ok (.sipush 4096, 3) := by decide +kernel
theorem d1_8 : decode prog_30_method_1_code 8 = .ok (.newarray .byte, 2) := by decide +kernel
theorem d1_10 : decode prog_30_method_1_code 10 = .ok (.putfield 7, 3) := by decide +kernel
theorem d1_13 : decode prog_30_method_1_code 13 = .ok (.aload_n 0, 1) := by decide +kernel
theorem d1_14 : decode prog_30_method_1_code 14 = .ok (.bipush 16, 2) := by decide +kernel
theorem d1_16 : decode prog_30_method_1_code 16 = .ok (.newarray .int, 2) := by decide +kernel
theorem d1_18 : decode prog_30_method_1_code 18 = .ok (.putfield 13, 3) := by decide +kernel
theorem d1_21 : decode prog_30_method_1_code 21 = .ok (.aload_n 0, 1) := by decide +kernel
theorem d1_22 : decode prog_30_method_1_code 22 = .ok (.bipush 16, 2) := by decide +kernel
theorem d1_24 : decode prog_30_method_1_code 24 = .ok (.newarray .boolean, 2) := by decide +kernel
theorem d1_26 : decode prog_30_method_1_code 26 = .ok (.putfield 17, 3) := by decide +kernel
theorem d1_29 : decode prog_30_method_1_code 29 = .ok (.aload_n 0, 1) := by decide +kernel
theorem d1_30 : decode prog_30_method_1_code 30 = .ok (.new 21, 3) := by decide +kernel
theorem d1_33 : decode prog_30_method_1_code 33 = .ok (.dup, 1) := by decide +kernel
theorem d1_34 : decode prog_30_method_1_code 34 = .ok (.aload_n 0, 1) := by decide +kernel
theorem d1_35 : decode prog_30_method_1_code 35 = .ok (.invokespecial 23, 3) := by decide +kernel
theorem d1_38 : decode prog_30_method_1_code 38 = .ok (.putfield 26, 3) := by decide +kernel
theorem d1_41 : decode prog_30_method_1_code 41 = .ok (.aload_n 0, 1) := by decide +kernel
theorem d1_42 : decode prog_30_method_1_code 42 = .ok (.iload_n 1, 1) := by decide +kernel
theorem d1_43 : decode prog_30_method_1_code 43 = .ok (.putfield 30, 3) := by decide +kernel
theorem d1_46 : decode prog_30_method_1_code 46 = .ok (.aload_n 0, 1) := by decide +kernel
theorem d1_47 : decode prog_30_method_1_code 47 = .ok (.aload_n 0, 1) := by decide +kernel
theorem d1_48 : decode prog_30_method_1_code 48 = .ok (.getfield 13, 3) := by decide +kernel
theorem d1_51 : decode prog_30_method_1_code 51 = .ok (.arraylength, 1) := by decide +kernel
theorem d1_52 : decode prog_30_method_1_code 52 = .ok (.iload_n 1, 1) := by decide +kernel
theorem d1_53 : decode prog_30_method_1_code 53 = .ok (.imul, 1) := by decide +kernel
theorem d1_54 : decode prog_30_method_1_code 54 = .ok (.newarray .int, 2) := by decide +kernel
theorem d1_56 : decode prog_30_method_1_code 56 = .ok (.putfield 34, 3) := by decide +kernel
theorem d1_59 : decode prog_30_method_1_code 59 = .ok (.aload_n 0, 1) := by decide +kernel
theorem d1_60 : decode prog_30_method_1_code 60 = .ok (.new 37, 3) := by decide +kernel
theorem d1_63 : decode prog_30_method_1_code 63 = .ok (.dup, 1) := by decide +kernel
theorem d1_64 : decode prog_30_method_1_code 64 = .ok (.iload_n 1, 1) := by decide +kernel
theorem d1_65 : decode prog_30_method_1_code 65 = .ok (.invokespecial 39, 3) := by decide +kernel
theorem d1_68 : decode prog_30_method_1_code 68 = .ok (.putfield 42, 3) := by decide +kernel
theorem d1_71 : decode prog_30_method_1_code 71 = .ok (.return_, 1) := by decide +kernel
theorem d3_0 : decode prog_31_method_1_code 0 = .ok (.aload_n 0, 1) := by decide +kernel
theorem d3_1 : decode prog_31_method_1_code 1 = .ok (.aload_n 1, 1) := by decide +kernel
theorem d3_2 : decode prog_31_method_1_code 2 = .ok (.putfield 3, 3) := by decide +kernel
theorem d3_5 : decode prog_31_method_1_code 5 = .ok (.aload_n 0, 1) := by decide +kernel
theorem d3_6 : decode prog_31_method_1_code 6 = .ok (.invokespecial 9, 3) := by decide +kernel
theorem d3_9 : decode prog_31_method_1_code 9 = .ok (.aload_n 0, 1) := by decide +kernel
theorem d3_10 : decode prog_31_method_1_code 10 = .ok (.iconst 0, 1) := by decide +kernel
theorem d3_11 : decode prog_31_method_1_code 11 = .ok (.newarray .long, 2) := by decide +kernel
theorem d3_13 : decode prog_31_method_1_code 13 = .ok (.putfield 15, 3) := by decide +kernel
theorem d3_16 : decode prog_31_method_1_code 16 = .ok (.aload_n 0, 1) := by decide +kernel
theorem d3_17 : decode prog_31_method_1_code 17 = .ok (.iconst 0, 1) := by decide +kernel
theorem d3_18 : decode prog_31_method_1_code 18 = .ok (.newarray .int, 2) := by decide +kernel
theorem d3_20 : decode prog_31_method_1_code 20 = .ok (.putfield 19, 3) := by decide +kernel
theorem d3_23 : decode prog_31_method_1_code 23 = .ok (.aload_n 0, 1) := by decide +kernel
theorem d3_24 : decode prog_31_method_1_code 24 = .ok (.iconst 0, 1) := by decide +kernel
theorem d3_25 : decode prog_31_method_1_code 25 = .ok (.newarray .long, 2) := by decide +kernel
theorem d3_27 : decode prog_31_method_1_code 27 = .ok (.putfield 23, 3) := by decide +kernel
theorem d3_30 : decode prog_31_method_1_code 30 = .ok (.aload_n 0, 1) := by decide +kernel
theorem d3_31 : decode prog_31_method_1_code 31 = .ok (.bipush 48, 2) := by decide +kernel
theorem d3_33 : decode prog_31_method_1_code 33 = .ok (.newarray .int, 2) := by decide +kernel
theorem d3_35 : decode prog_31_method_1_code 35 = .ok (.putfield 26, 3) := by decide +kernel
theorem d3_38 : decode prog_31_method_1_code 38 = .ok (.return_, 1) := by decide +kernel
theorem d4_0 : decode prog_32_method_1_code 0 = .ok (.aload_n 0, 1) := by decide +kernel
theorem d4_1 : decode prog_32_method_1_code 1 = .ok (.aconst_null, 1) := by decide +kernel
theorem d4_2 : decode prog_32_method_1_code 2 = .ok (.iload_n 1, 1) := by decide +kernel
theorem d4_3 : decode prog_32_method_1_code 3 = .ok (.invokespecial 1, 3) := by decide +kernel
theorem d4_6 : decode prog_32_method_1_code 6 = .ok (.return_, 1) := by decide +kernel
theorem d5_0 : decode prog_47_method_1_code 0 = .ok (.aload_n 0, 1) := by decide +kernel
theorem d5_1 : decode prog_47_method_1_code 1 = .ok (.invokespecial 1, 3) := by decide +kernel
theorem d5_4 : decode prog_47_method_1_code 4 = .ok (.aload_n 0, 1) := by decide +kernel
theorem d5_5 : decode prog_47_method_1_code 5 = .ok (.iconst (-1), 1) := by decide +kernel
theorem d5_6 : decode prog_47_method_1_code 6 = .ok (.putfield 7, 3) := by decide +kernel
theorem d5_9 : decode prog_47_method_1_code 9 = .ok (.aload_n 0, 1) := by decide +kernel
theorem d5_10 : decode prog_47_method_1_code 10 = .ok (.aload_n 1, 1) := by decide +kernel
theorem d5_11 : decode prog_47_method_1_code 11 = .ok (.putfield 13, 3) := by decide +kernel
theorem d5_14 : decode prog_47_method_1_code 14 = .ok (.aload_n 0, 1) := by decide +kernel
theorem d5_15 : decode prog_47_method_1_code 15 = .ok (.iload_n 2, 1) := by decide +kernel
theorem d5_16 : decode prog_47_method_1_code 16 = .ok (.newarray .int, 2) := by decide +kernel
theorem d5_18 : decode prog_47_method_1_code 18 = .ok (.putfield 17, 3) := by decide +kernel
theorem d5_21 : decode prog_47_method_1_code 21 = .ok (.return_, 1) := by decide +kernel
theorem d6_0 : decode prog_30_method_6_code 0 = .ok (.aload_n 0, 1) := by decide +kernel
theorem d6_1 : decode prog_30_method_6_code 1 = .ok (.getfield 42, 3) := by decide +kernel
theorem d6_4 : decode prog_30_method_6_code 4 = .ok (.aload_n 0, 1) := by decide +kernel
theorem d6_5 : decode prog_30_method_6_code 5 = .ok (.getfield 7, 3) := by decide +kernel
theorem d6_8 : decode prog_30_method_6_code 8 = .ok (.putfield 99, 3) := by decide +kernel
theorem d6_11 : decode prog_30_method_6_code 11 = .ok (.aload_n 0, 1) := by decide +kernel
theorem d6_12 : decode prog_30_method_6_code 12 = .ok (.getfield 42, 3) := by decide +kernel
theorem d6_15 : decode prog_30_method_6_code 15 = .ok (.aload_n 0, 1) := by decide +kernel
theorem d6_16 : decode prog_30_method_6_code 16 = .ok (.getfield 13, 3) := by decide +kernel
theorem d6_19 : decode prog_30_method_6_code 19 = .ok (.iload_n 1, 1) := by decide +kernel
theorem d6_20 : decode prog_30_method_6_code 20 = .ok (.iaload, 1) := by decide +kernel
theorem d6_21 : decode prog_30_method_6_code 21 = .ok (.putfield 100, 3) := by decide +kernel
theorem d6_24 : decode prog_30_method_6_code 24 = .ok (.aload_n 0, 1) := by decide +kernel
theorem d6_25 : decode prog_30_method_6_code 25 = .ok (.getfield 42, 3) := by decide +kernel
theorem d6_28 : decode prog_30_method_6_code 28 = .ok (.aload_n 0, 1) := by decide +kernel
theorem d6_29 : decode prog_30_method_6_code 29 = .ok (.iload_n 1, 1) := by decide +kernel
theorem d6_30 : decode prog_30_method_6_code 30 = .ok (.invokevirtual 102, 3) := by decide +kernel
theorem d6_33 : decode prog_30_method_6_code 33 = .ok (.putfield 106, 3) := by decide +kernel
theorem d6_36 : decode prog_30_method_6_code 36 = .ok (.aload_n 0, 1) := by decide +kernel
theorem d6_37 : decode prog_30_method_6_code 37 = .ok (.getfield 34, 3) := by decide +kernel
theorem d6_40 : decode prog_30_method_6_code 40 = .ok (.iload_n 1, 1) := by decide +kernel
theorem d6_41 : decode prog_30_method_6_code 41 = .ok (.aload_n 0, 1) := by decide +kernel
theorem d6_42 : decode prog_30_method_6_code 42 = .ok (.getfield 30, 3) := by decide +kernel
theorem d6_45 : decode prog_30_method_6_code 45 = .ok (.imul, 1) := by decide +kernel
theorem d6_46 : decode prog_30_method_6_code 46 = .ok (.aload_n 0, 1) := by decide +kernel
theorem d6_47 : decode prog_30_method_6_code 47 = .ok (.getfield 42, 3) := by decide +kernel
theorem d6_50 : decode prog_30_method_6_code 50 = .ok (.getfield 108, 3) := by decide +kernel
theorem d6_53 : decode prog_30_method_6_code 53 = .ok (.iconst 0, 1) := by decide +kernel
theorem d6_54 : decode prog_30_method_6_code 54 = .ok (.aload_n 0, 1) := by decide +kernel
theorem d6_55 : decode prog_30_method_6_code 55 = .ok (.getfield 30, 3) := by decide +kernel
theorem d6_58 : decode prog_30_method_6_code 58 = .ok (.invokestatic 82, 3) := by decide +kernel
theorem d6_61 : decode prog_30_method_6_code 61 = .ok (.aload_n 0, 1) := by decide +kernel
theorem d6_62 : decode prog_30_method_6_code 62 = .ok (.getfield 42, 3) := by decide +kernel
theorem d6_65 : decode prog_30_method_6_code 65 = .ok (.aload_n 0, 1) := by decide +kernel
theorem d6_66 : decode prog_30_method_6_code 66 = .ok (.getfield 17, 3) := by decide +kernel
theorem d6_69 : decode prog_30_method_6_code 69 = .ok (.iload_n 1, 1) := by decide +kernel
theorem d6_70 : decode prog_30_method_6_code 70 = .ok (.baload, 1) := by decide +kernel
theorem d6_71 : decode prog_30_method_6_code 71 = .ok (.putfield 109, 3) := by decide +kernel
theorem d6_74 : decode prog_30_method_6_code 74 = .ok (.aload_n 0, 1) := by decide +kernel
theorem d6_75 : decode prog_30_method_6_code 75 = .ok (.getfield 42, 3) := by decide +kernel
theorem d6_78 : decode prog_30_method_6_code 78 = .ok (.areturn, 1) := by decide +kernel
theorem d7_0 : decode prog_30_method_15_code 0 = .ok (.iload_n 1, 1) := by decide +kernel
theorem d7_1 : decode prog_30_method_15_code 1 = .ok (.iconst 1, 1) := by decide +kernel
theorem d7_2 : decode prog_30_method_15_code 2 = .ok (.iadd, 1) := by decide +kernel
theorem d7_3 : decode prog_30_method_15_code 3 = .ok (.aload_n 0, 1) := by decide +kernel
theorem d7_4 : decode prog_30_method_15_code 4 = .ok (.getfield 46, 3) := by decide +kernel
theorem d7_7 : decode prog_30_method_15_code 7 = .ok (.if_icmp .ge 14, 3) := by decide +kernel
theorem d7_21 : decode prog_30_method_15_code 21 = .ok (.aload_n 0, 1) := by decide +kernel
theorem d7_22 : decode prog_30_method_15_code 22 = .ok (.getfield 67, 3) := by decide +kernel
theorem d7_25 : decode prog_30_method_15_code 25 = .ok (.iconst 1, 1) := by decide +kernel
theorem d7_26 : decode prog_30_method_15_code 26 = .ok (.isub, 1) := by decide +kernel
theorem d7_27 : decode prog_30_method_15_code 27 = .ok (.ireturn, 1) := by decide +kernel
theorem d8_0 : decode method_4_code 0 = .ok (.iload 4, 2) := by decide +kernel
theorem d8_2 : decode method_4_code 2 = .ok (.iload_n 3, 1) := by decide +kernel
theorem d8_3 : decode method_4_code 3 = .ok (.iconst 1, 1) := by decide +kernel
theorem d8_4 : decode method_4_code 4 = .ok (.isub, 1) := by decide +kernel
theorem d8_5 : decode method_4_code 5 = .ok (.invokestatic 26, 3) := by decide +kernel
theorem d8_8 : decode method_4_code 8 = .ok (.istore 6, 2) := by decide +kernel
theorem d8_10 : decode method_4_code 10 = .ok (.aload_n 1, 1) := by decide +kernel
theorem d8_11 : decode method_4_code 11 = .ok (.aload_n 2, 1) := by decide +kernel
theorem d8_12 : decode method_4_code 12 = .ok (.putfield 33, 3) := by decide +kernel
theorem d8_15 : decode method_4_code 15 = .ok (.aload_n 1, 1) := by decide +kernel
theorem d8_16 : decode method_4_code 16 = .ok (.iload 5, 2) := by decide +kernel
theorem d8_18 : decode method_4_code 18 = .ok (.putfield 39, 3) := by decide +kernel
theorem d8_21 : decode method_4_code 21 = .ok (.aload_n 1, 1) := by decide +kernel
theorem d8_22 : decode method_4_code 22 = .ok (.iload 5, 2) := by decide +kernel
theorem d8_24 : decode method_4_code 24 = .ok (.iload 6, 2) := by decide +kernel
theorem d8_26 : decode method_4_code 26 = .ok (.iadd, 1) := by decide +kernel
theorem d8_27 : decode method_4_code 27 = .ok (.iconst 1, 1) := by decide +kernel
theorem d8_28 : decode method_4_code 28 = .ok (.iadd, 1) := by decide +kernel
theorem d8_29 : decode method_4_code 29 = .ok (.putfield 43, 3) := by decide +kernel
theorem d8_32 : decode method_4_code 32 = .ok (.aload_n 1, 1) := by decide +kernel
theorem d8_33 : decode method_4_code 33 = .ok (.getfield 46, 3) := by decide +kernel
theorem d8_36 : decode method_4_code 36 = .ok (.iconst 0, 1) := by decide +kernel
theorem d8_37 : decode method_4_code 37 = .ok (.iload 4, 2) := by decide +kernel
theorem d8_39 : decode method_4_code 39 = .ok (.iconst 0, 1) := by decide +kernel
theorem d8_40 : decode method_4_code 40 = .ok (.invokestatic 26, 3) := by decide +kernel
theorem d8_43 : decode method_4_code 43 = .ok (.iastore, 1) := by decide +kernel
theorem d8_44 : decode method_4_code 44 = .ok (.iload_n 3, 1) := by decide +kernel
theorem d8_45 : decode method_4_code 45 = .ok (.iconst 1, 1) := by decide +kernel
theorem d8_46 : decode method_4_code 46 = .ok (.if_icmp .le 15, 3) := by decide +kernel
theorem d8_49 : decode method_4_code 49 = .ok (.aload_n 1, 1) := by decide +kernel
theorem d8_50 : decode method_4_code 50 = .ok (.getfield 46, 3) := by decide +kernel
theorem d8_53 : decode method_4_code 53 = .ok (.iconst 1, 1) := by decide +kernel
theorem d8_54 : decode method_4_code 54 = .ok (.iload 4, 2) := by decide +kernel
theorem d8_56 : decode method_4_code 56 = .ok (.iconst 1, 1) := by decide +kernel
theorem d8_57 : decode method_4_code 57 = .ok (.invokestatic 26, 3) := by decide +kernel
theorem d8_60 : decode method_4_code 60 = .ok (.iastore, 1) := by decide +kernel
theorem d8_61 : decode method_4_code 61 = .ok (.iload_n 3, 1) := by decide +kernel
theorem d8_62 : decode method_4_code 62 = .ok (.iconst 2, 1) := by decide +kernel
theorem d8_63 : decode method_4_code 63 = .ok (.if_icmp .le 15, 3) := by decide +kernel
theorem d8_66 : decode method_4_code 66 = .ok (.aload_n 1, 1) := by decide +kernel
theorem d8_67 : decode method_4_code 67 = .ok (.getfield 46, 3) := by decide +kernel
theorem d8_70 : decode method_4_code 70 = .ok (.iconst 2, 1) := by decide +kernel
theorem d8_71 : decode method_4_code 71 = .ok (.iload 4, 2) := by decide +kernel
theorem d8_73 : decode method_4_code 73 = .ok (.iconst 2, 1) := by decide +kernel
theorem d8_74 : decode method_4_code 74 = .ok (.invokestatic 26, 3) := by decide +kernel
theorem d8_77 : decode method_4_code 77 = .ok (.iastore, 1) := by decide +kernel
theorem d8_78 : decode method_4_code 78 = .ok (.iload_n 3, 1) := by decide +kernel
theorem d8_79 : decode method_4_code 79 = .ok (.iconst 3, 1) := by decide +kernel
theorem d8_80 : decode method_4_code 80 = .ok (.if_icmp .le 15, 3) := by decide +kernel
theorem d8_83 : decode method_4_code 83 = .ok (.aload_n 1, 1) := by decide +kernel
theorem d8_84 : decode method_4_code 84 = .ok (.getfield 46, 3) := by decide +kernel
theorem d8_87 : decode method_4_code 87 = .ok (.iconst 3, 1) := by decide +kernel
theorem d8_88 : decode method_4_code 88 = .ok (.iload 4, 2) := by decide +kernel
theorem d8_90 : decode method_4_code 90 = .ok (.iconst 3, 1) := by decide +kernel
theorem d8_91 : decode method_4_code 91 = .ok (.invokestatic 26, 3) := by decide +kernel
theorem d8_94 : decode method_4_code 94 = .ok (.iastore, 1) := by decide +kernel
theorem d8_95 : decode method_4_code 95 = .ok (.aload_n 1, 1) := by decide +kernel
theorem d8_96 : decode method_4_code 96 = .ok (.iconst 1, 1) := by decide +kernel
theorem d8_97 : decode method_4_code 97 = .ok (.putfield 50, 3) := by decide +kernel
theorem d8_100 : decode method_4_code 100 = .ok (.aload_n 0, 1) := by decide +kernel
theorem d8_101 : decode method_4_code 101 = .ok (.aload_n 1, 1) := by decide +kernel
theorem d8_102 : decode method_4_code 102 = .ok (.invokevirtual 54, 3) := by decide +kernel
theorem d8_105 : decode method_4_code 105 = .ok (.iload 6, 2) := by decide +kernel
theorem d8_107 : decode method_4_code 107 = .ok (.iconst 2, 1) := by decide +kernel
theorem d8_108 : decode method_4_code 108 = .ok (.iadd, 1) := by decide +kernel
theorem d8_109 : decode method_4_code 109 = .ok (.ireturn, 1) := by decide +kernel
theorem d9_0 : decode method_3_code 0 = .ok (.iload_n 0, 1) := by decide +kernel
theorem d9_1 : decode method_3_code 1 = .ok (.iconst 3, 1) := by decide +kernel
theorem d9_2 : decode method_3_code 2 = .ok (.iand, 1) := by decide +kernel
theorem d9_3 : decode method_3_code 3 = .ok (.istore_n 2, 1) := by decide +kernel
theorem d9_4 : decode method_3_code 4 = .ok (.iload_n 0, 1) := by decide +kernel
theorem d9_5 : decode method_3_code 5 = .ok (.iconst 2, 1) := by decide +kernel
theorem d9_6 : decode method_3_code 6 = .ok (.iushr, 1) := by decide +kernel
theorem d9_7 : decode method_3_code 7 = .ok (.iconst 3, 1) := by decide +kernel
theorem d9_8 : decode method_3_code 8 = .ok (.iand, 1) := by decide +kernel
theorem d9_9 : decode method_3_code 9 = .ok (.istore_n 3, 1) := by decide +kernel
theorem d9_10 : decode method_3_code 10 = .ok (.iload_n 0, 1) := by decide +kernel
theorem d9_11 : decode method_3_code 11 = .ok (.iconst 4, 1) := by decide +kernel
theorem d9_12 : decode method_3_code 12 = .ok (.iushr, 1) := by decide +kernel
theorem d9_13 : decode method_3_code 13 = .ok (.iconst 3, 1) := by decide +kernel
theorem d9_14 : decode method_3_code 14 = .ok (.iand, 1) := by decide +kernel
theorem d9_15 : decode method_3_code 15 = .ok (.istore 4, 2) := by decide +kernel
theorem d9_17 : decode method_3_code 17 = .ok (.iload_n 0, 1) := by decide +kernel
theorem d9_18 : decode method_3_code 18 = .ok (.bipush 6, 2) := by decide +kernel
theorem d9_20 : decode method_3_code 20 = .ok (.iushr, 1) := by decide +kernel
theorem d9_21 : decode method_3_code 21 = .ok (.iconst 3, 1) := by decide +kernel
theorem d9_22 : decode method_3_code 22 = .ok (.iand, 1) := by decide +kernel
theorem d9_23 : decode method_3_code 23 = .ok (.istore 5, 2) := by decide +kernel
theorem d9_25 : decode method_3_code 25 = .ok (.iload_n 2, 1) := by decide +kernel
theorem d9_26 : decode method_3_code 26 = .ok (.istore 6, 2) := by decide +kernel
theorem d9_28 : decode method_3_code 28 = .ok (.iload 6, 2) := by decide +kernel
theorem d9_30 : decode method_3_code 30 = .ok (.iconst 1, 1) := by decide +kernel
theorem d9_31 : decode method_3_code 31 = .ok (.iadd, 1) := by decide +kernel
theorem d9_32 : decode method_3_code 32 = .ok (.iload_n 3, 1) := by decide +kernel
theorem d9_33 : decode method_3_code 33 = .ok (.iadd, 1) := by decide +kernel
theorem d9_34 : decode method_3_code 34 = .ok (.istore 7, 2) := by decide +kernel
theorem d9_36 : decode method_3_code 36 = .ok (.iload 7, 2) := by decide +kernel
theorem d9_38 : decode method_3_code 38 = .ok (.iconst 1, 1) := by decide +kernel
theorem d9_39 : decode method_3_code 39 = .ok (.iadd, 1) := by decide +kernel
theorem d9_40 : decode method_3_code 40 = .ok (.iload 4, 2) := by decide +kernel
theorem d9_42 : decode method_3_code 42 = .ok (.iadd, 1) := by decide +kernel
theorem d9_43 : decode method_3_code 43 = .ok (.istore 8, 2) := by decide +kernel
theorem d9_45 : decode method_3_code 45 = .ok (.iload 8, 2) := by decide +kernel
theorem d9_47 : decode method_3_code 47 = .ok (.iconst 1, 1) := by decide +kernel
theorem d9_48 : decode method_3_code 48 = .ok (.iadd, 1) := by decide +kernel
theorem d9_49 : decode method_3_code 49 = .ok (.iload 5, 2) := by decide +kernel
theorem d9_51 : decode method_3_code 51 = .ok (.iadd, 1) := by decide +kernel
theorem d9_52 : decode method_3_code 52 = .ok (.istore 9, 2) := by decide +kernel
theorem d9_54 : decode method_3_code 54 = .ok (.iload_n 1, 1) := by decide +kernel
theorem d9_55 : decode method_3_code 55 = .ok (.ifCond .ne 6, 3) := by decide +kernel
theorem d9_58 : decode method_3_code 58 = .ok (.iload 6, 2) := by decide +kernel
theorem d9_60 : decode method_3_code 60 = .ok (.ireturn, 1) := by decide +kernel
theorem d9_61 : decode method_3_code 61 = .ok (.iload_n 1, 1) := by decide +kernel
theorem d9_62 : decode method_3_code 62 = .ok (.iconst 1, 1) := by decide +kernel
theorem d9_63 : decode method_3_code 63 = .ok (.if_icmp .ne 6, 3) := by decide +kernel
theorem d9_66 : decode method_3_code 66 = .ok (.iload 7, 2) := by decide +kernel
theorem d9_68 : decode method_3_code 68 = .ok (.ireturn, 1) := by decide +kernel
theorem d9_69 : decode method_3_code 69 = .ok (.iload_n 1, 1) := by decide +kernel
theorem d9_70 : decode method_3_code 70 = .ok (.iconst 2, 1) := by decide +kernel
theorem d9_71 : decode method_3_code 71 = .ok (.if_icmp .ne 6, 3) := by decide +kernel
theorem d9_74 : decode method_3_code 74 = .ok (.iload 8, 2) := by decide +kernel
theorem d9_76 : decode method_3_code 76 = .ok (.ireturn, 1) := by decide +kernel
theorem d9_77 : decode method_3_code 77 = .ok (.iload 9, 2) := by decide +kernel
theorem d9_79 : decode method_3_code 79 = .ok (.ireturn, 1) := by decide +kernel
theorem d10_0 : decode prog_30_method_2_code 0 = .ok (.aload_n 0, 1) := by decide +kernel
theorem d10_1 : decode prog_30_method_2_code 1 = .ok (.getfield 46, 3) := by decide +kernel
theorem d10_4 : decode prog_30_method_2_code 4 = .ok (.aload_n 0, 1) := by decide +kernel
theorem d10_5 : decode prog_30_method_2_code 5 = .ok (.getfield 13, 3) := by decide +kernel
theorem d10_8 : decode prog_30_method_2_code 8 = .ok (.arraylength, 1) := by decide +kernel
theorem d10_9 : decode prog_30_method_2_code 9 = .ok (.if_icmp .ne 59, 3) := by decide +kernel
theorem d10_68 : decode prog_30_method_2_code 68 = .ok (.aload_n 1, 1) := by decide +kernel
theorem d10_69 : decode prog_30_method_2_code 69 = .ok (.invokevirtual 58, 3) := by decide +kernel
theorem d10_72 : decode prog_30_method_2_code 72 = .ok (.aload_n 1, 1) := by decide +kernel
theorem d10_73 : decode prog_30_method_2_code 73 = .ok (.invokevirtual 64, 3) := by decide +kernel
theorem d10_76 : decode prog_30_method_2_code 76 = .ok (.isub, 1) := by decide +kernel
theorem d10_77 : decode prog_30_method_2_code 77 = .ok (.iconst 1, 1) := by decide +kernel
theorem d10_78 : decode prog_30_method_2_code 78 = .ok (.iadd, 1) := by decide +kernel
theorem d10_79 : decode prog_30_method_2_code 79 = .ok (.istore_n 2, 1) := by decide +kernel
theorem d10_80 : decode prog_30_method_2_code 80 = .ok (.aload_n 0, 1) := by decide +kernel
theorem d10_81 : decode prog_30_method_2_code 81 = .ok (.getfield 67, 3) := by decide +kernel
theorem d10_84 : decode prog_30_method_2_code 84 = .ok (.iload_n 2, 1) := by decide +kernel
theorem d10_85 : decode prog_30_method_2_code 85 = .ok (.iadd, 1) := by decide +kernel
theorem d10_86 : decode prog_30_method_2_code 86 = .ok (.aload_n 0, 1) := by decide +kernel
theorem d10_87 : decode prog_30_method_2_code 87 = .ok (.getfield 7, 3) := by decide +kernel
theorem d10_90 : decode prog_30_method_2_code 90 = .ok (.arraylength, 1) := by decide +kernel
theorem d10_91 : decode prog_30_method_2_code 91 = .ok (.if_icmp .le 30, 3) := by decide +kernel
theorem d10_121 : decode prog_30_method_2_code 121 = .ok (.aload_n 1, 1) := by decide +kernel
theorem d10_122 : decode prog_30_method_2_code 122 = .ok (.invokevirtual 79, 3) := by decide +kernel
theorem d10_125 : decode prog_30_method_2_code 125 = .ok (.aload_n 1, 1) := by decide +kernel
theorem d10_126 : decode prog_30_method_2_code 126 = .ok (.invokevirtual 64, 3) := by decide +kernel
theorem d10_129 : decode prog_30_method_2_code 129 = .ok (.aload_n 0, 1) := by decide +kernel
theorem d10_130 : decode prog_30_method_2_code 130 = .ok (.getfield 7, 3) := by decide +kernel
theorem d10_133 : decode prog_30_method_2_code 133 = .ok (.aload_n 0, 1) := by decide +kernel
theorem d10_134 : decode prog_30_method_2_code 134 = .ok (.getfield 67, 3) := by decide +kernel
theorem d10_137 : decode prog_30_method_2_code 137 = .ok (.iload_n 2, 1) := by decide +kernel
theorem d10_138 : decode prog_30_method_2_code 138 = .ok (.invokestatic 82, 3) := by decide +kernel
theorem d10_141 : decode prog_30_method_2_code 141 = .ok (.aload_n 1, 1) := by decide +kernel
theorem d10_142 : decode prog_30_method_2_code 142 = .ok (.invokevirtual 88, 3) := by decide +kernel
theorem d10_145 : decode prog_30_method_2_code 145 = .ok (.iconst 0, 1) := by decide +kernel
theorem d10_146 : decode prog_30_method_2_code 146 = .ok (.aload_n 0, 1) := by decide +kernel
theorem d10_147 : decode prog_30_method_2_code 147 = .ok (.getfield 34, 3) := by decide +kernel
theorem d10_150 : decode prog_30_method_2_code 150 = .ok (.aload_n 0, 1) := by decide +kernel
theorem d10_151 : decode prog_30_method_2_code 151 = .ok (.getfield 46, 3) := by decide +kernel
theorem d10_154 : decode prog_30_method_2_code 154 = .ok (.aload_n 0, 1) := by decide +kernel
theorem d10_155 : decode prog_30_method_2_code 155 = .ok (.getfield 30, 3) := by decide +kernel
theorem d10_158 : decode prog_30_method_2_code 158 = .ok (.imul, 1) := by decide +kernel
theorem d10_159 : decode prog_30_method_2_code 159 = .ok (.aload_n 0, 1) := by decide +kernel
theorem d10_160 : decode prog_30_method_2_code 160 = .ok (.getfield 30, 3) := by decide +kernel
theorem d10_163 : decode prog_30_method_2_code 163 = .ok (.invokestatic 82, 3) := by decide +kernel
theorem d10_166 : decode prog_30_method_2_code 166 = .ok (.aload_n 0, 1) := by decide +kernel
theorem d10_167 : decode prog_30_method_2_code 167 = .ok (.getfield 13, 3) := by decide +kernel
theorem d10_170 : decode prog_30_method_2_code 170 = .ok (.aload_n 0, 1) := by decide +kernel
theorem d10_171 : decode prog_30_method_2_code 171 = .ok (.getfield 46, 3) := by decide +kernel
theorem d10_174 : decode prog_30_method_2_code 174 = .ok (.aload_n 0, 1) := by decide +kernel
theorem d10_175 : decode prog_30_method_2_code 175 = .ok (.getfield 67, 3) := by decide +kernel
theorem d10_178 : decode prog_30_method_2_code 178 = .ok (.iastore, 1) := by decide +kernel
theorem d10_179 : decode prog_30_method_2_code 179 = .ok (.aload_n 0, 1) := by decide +kernel
theorem d10_180 : decode prog_30_method_2_code 180 = .ok (.getfield 17, 3) := by decide +kernel
theorem d10_183 : decode prog_30_method_2_code 183 = .ok (.aload_n 0, 1) := by decide +kernel
theorem d10_184 : decode prog_30_method_2_code 184 = .ok (.getfield 46, 3) := by decide +kernel
theorem d10_187 : decode prog_30_method_2_code 187 = .ok (.aload_n 1, 1) := by decide +kernel
theorem d10_188 : decode prog_30_method_2_code 188 = .ok (.invokevirtual 92, 3) := by decide +kernel
theorem d10_191 : decode prog_30_method_2_code 191 = .ok (.bastore, 1) := by decide +kernel
theorem d10_192 : decode prog_30_method_2_code 192 = .ok (.aload_n 0, 1) := by decide +kernel
theorem d10_193 : decode prog_30_method_2_code 193 = .ok (.dup, 1) := by decide +kernel
theorem d10_194 : decode prog_30_method_2_code 194 = .ok (.getfield 67, 3) := by decide +kernel
theorem d10_197 : decode prog_30_method_2_code 197 = .ok (.iload_n 2, 1) := by decide +kernel
theorem d10_198 : decode prog_30_method_2_code 198 = .ok (.iadd, 1) := by decide +kernel
theorem d10_199 : decode prog_30_method_2_code 199 = .ok (.putfield 67, 3) := by decide +kernel
theorem d10_202 : decode prog_30_method_2_code 202 = .ok (.aload_n 0, 1) := by decide +kernel
theorem d10_203 : decode prog_30_method_2_code 203 = .ok (.dup, 1) := by decide +kernel
theorem d10_204 : decode prog_30_method_2_code 204 = .ok (.getfield 46, 3) := by decide +kernel
theorem d10_207 : decode prog_30_method_2_code 207 = .ok (.iconst 1, 1) := by decide +kernel
theorem d10_208 : decode prog_30_method_2_code 208 = .ok (.iadd, 1) := by decide +kernel
theorem d10_209 : decode prog_30_method_2_code 209 = .ok (.putfield 46, 3) := by decide +kernel
theorem d10_212 : decode prog_30_method_2_code 212 = .ok (.return_, 1) := by decide +kernel
theorem d11_0 : decode prog_47_method_4_code 0 = .ok (.aload_n 0, 1) := by decide +kernel
theorem d11_1 : decode prog_47_method_4_code 1 = .ok (.getfield 7, 3) := by decide +kernel
theorem d11_4 : decode prog_47_method_4_code 4 = .ok (.ireturn, 1) := by decide +kernel
theorem d12_0 : decode prog_47_method_3_code 0 = .ok (.aload_n 0, 1) := by decide +kernel
theorem d12_1 : decode prog_47_method_3_code 1 = .ok (.getfield 21, 3) := by decide +kernel
theorem d12_4 : decode prog_47_method_3_code 4 = .ok (.ireturn, 1) := by decide +kernel
theorem d13_0 : decode prog_47_method_2_code 0 = .ok (.aload_n 0, 1) := by decide +kernel
theorem d13_1 : decode prog_47_method_2_code 1 = .ok (.getfield 13, 3) := by decide +kernel
theorem d13_4 : decode prog_47_method_2_code 4 = .ok (.areturn, 1) := by decide +kernel
theorem d14_0 : decode prog_47_method_7_code 0 = .ok (.aload_n 0, 1) := by decide +kernel
theorem d14_1 : decode prog_47_method_7_code 1 = .ok (.getfield 17, 3) := by decide +kernel
theorem d14_4 : decode prog_47_method_7_code 4 = .ok (.areturn, 1) := by decide +kernel
theorem d15_0 : decode prog_47_method_8_code 0 = .ok (.aload_n 0, 1) := by decide +kernel
theorem d15_1 : decode prog_47_method_8_code 1 = .ok (.getfield 24, 3) := by decide +kernel
theorem d15_4 : decode prog_47_method_8_code 4 = .ok (.ireturn, 1) := by decide +kernel
theorem d16_0 : decode prog_30_method_13_code 0 = .ok (.aload_n 0, 1) := by decide +kernel
theorem d16_1 : decode prog_30_method_13_code 1 = .ok (.getfield 13, 3) := by decide +kernel
theorem d16_4 : decode prog_30_method_13_code 4 = .ok (.iload_n 1, 1) := by decide +kernel
theorem d16_5 : decode prog_30_method_13_code 5 = .ok (.iaload, 1) := by decide +kernel
theorem d16_6 : decode prog_30_method_13_code 6 = .ok (.iload_n 2, 1) := by decide +kernel
theorem d16_7 : decode prog_30_method_13_code 7 = .ok (.ifCond .ne 7, 3) := by decide +kernel
theorem d16_10 : decode prog_30_method_13_code 10 = .ok (.iconst 0, 1) := by decide +kernel
theorem d16_11 : decode prog_30_method_13_code 11 = .ok (.goto 20, 3) := by decide +kernel
theorem d16_14 : decode prog_30_method_13_code 14 = .ok (.aload_n 0, 1) := by decide +kernel
theorem d16_15 : decode prog_30_method_13_code 15 = .ok (.getfield 34, 3) := by decide +kernel
theorem d16_18 : decode prog_30_method_13_code 18 = .ok (.iload_n 1, 1) := by decide +kernel
theorem d16_19 : decode prog_30_method_13_code 19 = .ok (.aload_n 0, 1) := by decide +kernel
theorem d16_20 : decode prog_30_method_13_code 20 = .ok (.getfield 30, 3) := by decide +kernel
theorem d16_23 : decode prog_30_method_13_code 23 = .ok (.imul, 1) := by decide +kernel
theorem d16_24 : decode prog_30_method_13_code 24 = .ok (.iload_n 2, 1) := by decide +kernel
theorem d16_25 : decode prog_30_method_13_code 25 = .ok (.iadd, 1) := by decide +kernel
theorem d16_26 : decode prog_30_method_13_code 26 = .ok (.iconst 1, 1) := by decide +kernel
theorem d16_27 : decode prog_30_method_13_code 27 = .ok (.isub, 1) := by decide +kernel
theorem d16_28 : decode prog_30_method_13_code 28 = .ok (.iaload, 1) := by decide +kernel
theorem d16_29 : decode prog_30_method_13_code 29 = .ok (.iconst 1, 1) := by decide +kernel
theorem d16_30 : decode prog_30_method_13_code 30 = .ok (.iadd, 1) := by decide +kernel
theorem d16_31 : decode prog_30_method_13_code 31 = .ok (.iadd, 1) := by decide +kernel
theorem d16_32 : decode prog_30_method_13_code 32 = .ok (.ireturn, 1) := by decide +kernel
theorem d17_0 : decode prog_30_method_5_code 0 = .ok (.aload_n 0, 1) := by decide +kernel
theorem d17_1 : decode prog_30_method_5_code 1 = .ok (.iconst 0, 1) := by decide +kernel
theorem d17_2 : decode prog_30_method_5_code 2 = .ok (.putfield 46, 3) := by decide +kernel
theorem d17_5 : decode prog_30_method_5_code 5 = .ok (.aload_n 0, 1) := by decide +kernel
theorem d17_6 : decode prog_30_method_5_code 6 = .ok (.iconst 0, 1) := by decide +kernel
theorem d17_7 : decode prog_30_method_5_code 7 = .ok (.putfield 67, 3) := by decide +kernel
theorem d17_10 : decode prog_30_method_5_code 10 = .ok (.return_, 1) := by decide +kernel
theorem pd_0 : parseMethodDescriptor "([BI)V" = some ⟨[(.array .byte), .int], none⟩ := by decide +kernel
theorem pd_1 : parseMethodDescriptor "(Lcom/example/termweave/termweave/release/HeldRows;)V" = some ⟨[(.object "com/example/termweave/termweave/release/HeldRows")], none⟩ := by decide +kernel
theorem pd_2 : parseMethodDescriptor "(I)V" = some ⟨[.int], none⟩ := by decide +kernel
theorem pd_3 : parseMethodDescriptor "(I)I" = some ⟨[.int], some .int⟩ := by decide +kernel
theorem pd_4 : parseMethodDescriptor "()I" = some ⟨[], some .int⟩ := by decide +kernel
theorem pd_5 : parseMethodDescriptor "()[B" = some ⟨[], some (.array .byte)⟩ := by decide +kernel
theorem pd_6 : parseMethodDescriptor "()[I" = some ⟨[], some (.array .int)⟩ := by decide +kernel
theorem pd_7 : parseMethodDescriptor "()Z" = some ⟨[], some .boolean⟩ := by decide +kernel
theorem pd_8 : parseMethodDescriptor "(II)I" = some ⟨[.int, .int], some .int⟩ := by decide +kernel
theorem pd_9 : parseMethodDescriptor "(Lcom/example/termweave/termweave/release/RrfRow;)V" = some ⟨[(.object "com/example/termweave/termweave/release/RrfRow")], none⟩ := by decide +kernel
theorem pd_10 : parseMethodDescriptor "(I)Lcom/example/termweave/termweave/release/RrfRow;" = some ⟨[.int], some (.object "com/example/termweave/termweave/release/RrfRow")⟩ := by decide +kernel
theorem pd_11 : parseMethodDescriptor "(Lcom/example/termweave/termweave/release/HeldRows;Lcom/example/termweave/termweave/release/RrfRow;[BIII)I" = some ⟨[(.object "com/example/termweave/termweave/release/HeldRows"), (.object "com/example/termweave/termweave/release/RrfRow"), (.array .byte), .int, .int, .int], some .int⟩ := by decide +kernel
theorem pd_12 : parseMethodDescriptor "()V" = some ⟨[], none⟩ := by decide +kernel
def pl_end (fv : Int32) (kq : Int32) : Int32 := (if kq = (0 : Int32) then (fv &&& (3 : Int32)) else (if kq = (1 : Int32) then (((fv &&& (3 : Int32)) + (1 : Int32)) + (((fv.toUInt32 >>> ((2 : Int32) &&& 31).toUInt32).toInt32) &&& (3 : Int32))) else (if kq = (2 : Int32) then (((((fv &&& (3 : Int32)) + (1 : Int32)) + (((fv.toUInt32 >>> ((2 : Int32) &&& 31).toUInt32).toInt32) &&& (3 : Int32))) + (1 : Int32)) + (((fv.toUInt32 >>> ((4 : Int32) &&& 31).toUInt32).toInt32) &&& (3 : Int32))) else (((((((fv &&& (3 : Int32)) + (1 : Int32)) + (((fv.toUInt32 >>> ((2 : Int32) &&& 31).toUInt32).toInt32) &&& (3 : Int32))) + (1 : Int32)) + (((fv.toUInt32 >>> ((4 : Int32) &&& 31).toUInt32).toInt32) &&& (3 : Int32))) + (1 : Int32)) + (((fv.toUInt32 >>> ((6 : Int32) &&& 31).toUInt32).toInt32) &&& (3 : Int32))))))
theorem pn_9 : plainFor (⟨"com/example/termweave/termweave/release/HeldRowsFieldStartPinLaw", "end", "(II)I"⟩ : MethodName) = true := by decide +kernel
theorem ef_9 (m : MethodId) (fv : Int32) (kq : Int32) : entryFrame m #[(.int fv), (.int kq)] 10 = mkF m 0 #[.val (.int fv), .val (.int kq), .unset, .unset, .unset, .unset, .unset, .unset, .unset, .unset] [] := by first | (simp [entryFrame, mkF, argsToLocals, Value.category]; done) | rfl
def Q9 (Z : State) (fv : Int32) (kq : Int32) (h0 : Heap) (n0 : Nat) (v : Option Value) (h : Heap) (L : List Loc) : Prop := v = some (.int (pl_end fv kq)) ∧ Fr n0 L ∧ h = h0
set_option maxRecDepth 65536 in
set_option maxHeartbeats 40000000 in
theorem rm9 (l : Launch) (Z : State) (a0 : Array Value) (hw : ∀ d ∈ tables_1, d.before a0 Z = true) (ws : List Jvm.Cond) (fv : Int32) (kq : Int32) (h0 : Heap) (n0 : Nat) (Z0 : n0 ≤ h0.size) :
    MetFree l (⟨"com/example/termweave/termweave/release/HeldRowsFieldStartPinLaw", "end", "(II)I"⟩ : MethodName) (head1 (Jvm.Cond.code (⟨"com/example/termweave/termweave/release/HeldRowsFieldStartPinLaw", "end", "(II)I"⟩ : MethodName) method_3_code 10 (some .int) :: ws) ({ frames := 0, cells := 0, slots := 0, locals := 0 } : Room)) (fun a U => a = #[(.int fv), (.int kq)] ∧ Z.Warmed39 U.vm ∧ U.heap = h0) (fun _ _ _ _ _ => True) (fun _ U o U' => ∃ v L, o = .returned v ∧ Q9 Z fv kq h0 n0 v U'.heap L ∧ FrameEnd U o U' L ({ frames := 0, cells := 0, slots := 0, locals := 0 } : Room).cells ({ frames := 0, cells := 0, slots := 0, locals := 0 } : Room).slots) := by
  refine MetFree.of_bodySF pn_9 hisR ?_
  intro p e s m args below meth c s₁ Bd hml0 hP hK
  obtain ⟨rfl, hZ, hh⟩ := hP
  have hx := Bd.exec
  have hby := Bd.bytes
  have hml : c.maxLocals = 10 := hml0
  have hown : s.vm.findClass "com/example/termweave/termweave/release/HeldRowsFieldStartPinLaw" = some m.cls := findClass_of_methodNamed Bd.named
  have hnm := (name_of_methodNamed Bd.named Bd.method).1
  have hlk := BodyLoose.notSynchronized Bd
  have X0 : Stand p l e ({ frames := 0, cells := 0, slots := 0, locals := 0 } : Room) s m #[(.int fv), (.int kq)] below meth c s₁ [] 0 0 := Stand.of_body Bd
  have e0 : s₁.heap = h0 := by rw [← hh, Bd.state]; rfl
  have N0 := Fr.nil n0
  show own_R p e below s (Q9 Z fv kq h0 n0) ({ frames := 0, cells := 0, slots := 0, locals := 0 } : Room).cells ({ frames := 0, cells := 0, slots := 0, locals := 0 } : Room).slots s₁ (entryFrame m #[(.int fv), (.int kq)] 10)
  refine own_cast (ef_9 m fv kq) ?_
  show own_R p e below s _ _ _ s₁ (mkF m 0 #[.val (.int fv), .val (.int kq), .unset, .unset, .unset, .unset, .unset, .unset, .unset, .unset] [])
  refine own_iloadN X0 hx (hb hby d9_0) rfl ?_
  refine own_iconst X0 hx (3 : Int32) (hb hby d9_1) rfl ?_
  refine own_iand X0 hx (hb hby d9_2) ?_
  refine own_istoreN X0 hx (hb hby d9_3) (l' := #[.val (.int fv), .val (.int kq), .val (.int (fv &&& (3 : Int32))), .unset, .unset, .unset, .unset, .unset, .unset, .unset]) rfl ?_
  refine own_iloadN X0 hx (hb hby d9_4) rfl ?_
  refine own_iconst X0 hx (2 : Int32) (hb hby d9_5) rfl ?_
  refine own_iushr X0 hx (hb hby d9_6) ?_
  refine own_iconst X0 hx (3 : Int32) (hb hby d9_7) rfl ?_
  refine own_iand X0 hx (hb hby d9_8) ?_
  refine own_istoreN X0 hx (hb hby d9_9) (l' := #[.val (.int fv), .val (.int kq), .val (.int (fv &&& (3 : Int32))), .val (.int (((fv.toUInt32 >>> ((2 : Int32) &&& 31).toUInt32).toInt32) &&& (3 : Int32))), .unset, .unset, .unset, .unset, .unset, .unset]) rfl ?_
  refine own_iloadN X0 hx (hb hby d9_10) rfl ?_
  refine own_iconst X0 hx (4 : Int32) (hb hby d9_11) rfl ?_
  refine own_iushr X0 hx (hb hby d9_12) ?_
  refine own_iconst X0 hx (3 : Int32) (hb hby d9_13) rfl ?_
  refine own_iand X0 hx (hb hby d9_14) ?_
  refine own_istore X0 hx (hb hby d9_15) (l' := #[.val (.int fv), .val (.int kq), .val (.int (fv &&& (3 : Int32))), .val (.int (((fv.toUInt32 >>> ((2 : Int32) &&& 31).toUInt32).toInt32) &&& (3 : Int32))), .val (.int (((fv.toUInt32 >>> ((4 : Int32) &&& 31).toUInt32).toInt32) &&& (3 : Int32))), .unset, .unset, .unset, .unset, .unset]) rfl ?_
  refine own_iloadN X0 hx (hb hby d9_17) rfl ?_
  refine own_bipush X0 hx (6 : Int32) (hb hby d9_18) rfl ?_
  refine own_iushr X0 hx (hb hby d9_20) ?_
  refine own_iconst X0 hx (3 : Int32) (hb hby d9_21) rfl ?_
  refine own_iand X0 hx (hb hby d9_22) ?_
  refine own_istore X0 hx (hb hby d9_23) (l' := #[.val (.int fv), .val (.int kq), .val (.int (fv &&& (3 : Int32))), .val (.int (((fv.toUInt32 >>> ((2 : Int32) &&& 31).toUInt32).toInt32) &&& (3 : Int32))), .val (.int (((fv.toUInt32 >>> ((4 : Int32) &&& 31).toUInt32).toInt32) &&& (3 : Int32))), .val (.int (((fv.toUInt32 >>> ((6 : Int32) &&& 31).toUInt32).toInt32) &&& (3 : Int32))), .unset, .unset, .unset, .unset]) rfl ?_
  refine own_iloadN X0 hx (hb hby d9_25) rfl ?_
  refine own_istore X0 hx (hb hby d9_26) (l' := #[.val (.int fv), .val (.int kq), .val (.int (fv &&& (3 : Int32))), .val (.int (((fv.toUInt32 >>> ((2 : Int32) &&& 31).toUInt32).toInt32) &&& (3 : Int32))), .val (.int (((fv.toUInt32 >>> ((4 : Int32) &&& 31).toUInt32).toInt32) &&& (3 : Int32))), .val (.int (((fv.toUInt32 >>> ((6 : Int32) &&& 31).toUInt32).toInt32) &&& (3 : Int32))), .val (.int (fv &&& (3 : Int32))), .unset, .unset, .unset]) rfl ?_
  refine own_iload X0 hx (hb hby d9_28) rfl ?_
  refine own_iconst X0 hx (1 : Int32) (hb hby d9_30) rfl ?_
  refine own_iadd X0 hx (hb hby d9_31) ?_
  refine own_iloadN X0 hx (hb hby d9_32) rfl ?_
  refine own_iadd X0 hx (hb hby d9_33) ?_
  refine own_istore X0 hx (hb hby d9_34) (l' := #[.val (.int fv), .val (.int kq), .val (.int (fv &&& (3 : Int32))), .val (.int (((fv.toUInt32 >>> ((2 : Int32) &&& 31).toUInt32).toInt32) &&& (3 : Int32))), .val (.int (((fv.toUInt32 >>> ((4 : Int32) &&& 31).toUInt32).toInt32) &&& (3 : Int32))), .val (.int (((fv.toUInt32 >>> ((6 : Int32) &&& 31).toUInt32).toInt32) &&& (3 : Int32))), .val (.int (fv &&& (3 : Int32))), .val (.int (((fv &&& (3 : Int32)) + (1 : Int32)) + (((fv.toUInt32 >>> ((2 : Int32) &&& 31).toUInt32).toInt32) &&& (3 : Int32)))), .unset, .unset]) rfl ?_
  refine own_iload X0 hx (hb hby d9_36) rfl ?_
  refine own_iconst X0 hx (1 : Int32) (hb hby d9_38) rfl ?_
  refine own_iadd X0 hx (hb hby d9_39) ?_
  refine own_iload X0 hx (hb hby d9_40) rfl ?_
  refine own_iadd X0 hx (hb hby d9_42) ?_
  refine own_istore X0 hx (hb hby d9_43) (l' := #[.val (.int fv), .val (.int kq), .val (.int (fv &&& (3 : Int32))), .val (.int (((fv.toUInt32 >>> ((2 : Int32) &&& 31).toUInt32).toInt32) &&& (3 : Int32))), .val (.int (((fv.toUInt32 >>> ((4 : Int32) &&& 31).toUInt32).toInt32) &&& (3 : Int32))), .val (.int (((fv.toUInt32 >>> ((6 : Int32) &&& 31).toUInt32).toInt32) &&& (3 : Int32))), .val (.int (fv &&& (3 : Int32))), .val (.int (((fv &&& (3 : Int32)) + (1 : Int32)) + (((fv.toUInt32 >>> ((2 : Int32) &&& 31).toUInt32).toInt32) &&& (3 : Int32)))), .val (.int (((((fv &&& (3 : Int32)) + (1 : Int32)) + (((fv.toUInt32 >>> ((2 : Int32) &&& 31).toUInt32).toInt32) &&& (3 : Int32))) + (1 : Int32)) + (((fv.toUInt32 >>> ((4 : Int32) &&& 31).toUInt32).toInt32) &&& (3 : Int32)))), .unset]) rfl ?_
  refine own_iload X0 hx (hb hby d9_45) rfl ?_
  refine own_iconst X0 hx (1 : Int32) (hb hby d9_47) rfl ?_
  refine own_iadd X0 hx (hb hby d9_48) ?_
  refine own_iload X0 hx (hb hby d9_49) rfl ?_
  refine own_iadd X0 hx (hb hby d9_51) ?_
  refine own_istore X0 hx (hb hby d9_52) (l' := #[.val (.int fv), .val (.int kq), .val (.int (fv &&& (3 : Int32))), .val (.int (((fv.toUInt32 >>> ((2 : Int32) &&& 31).toUInt32).toInt32) &&& (3 : Int32))), .val (.int (((fv.toUInt32 >>> ((4 : Int32) &&& 31).toUInt32).toInt32) &&& (3 : Int32))), .val (.int (((fv.toUInt32 >>> ((6 : Int32) &&& 31).toUInt32).toInt32) &&& (3 : Int32))), .val (.int (fv &&& (3 : Int32))), .val (.int (((fv &&& (3 : Int32)) + (1 : Int32)) + (((fv.toUInt32 >>> ((2 : Int32) &&& 31).toUInt32).toInt32) &&& (3 : Int32)))), .val (.int (((((fv &&& (3 : Int32)) + (1 : Int32)) + (((fv.toUInt32 >>> ((2 : Int32) &&& 31).toUInt32).toInt32) &&& (3 : Int32))) + (1 : Int32)) + (((fv.toUInt32 >>> ((4 : Int32) &&& 31).toUInt32).toInt32) &&& (3 : Int32)))), .val (.int (((((((fv &&& (3 : Int32)) + (1 : Int32)) + (((fv.toUInt32 >>> ((2 : Int32) &&& 31).toUInt32).toInt32) &&& (3 : Int32))) + (1 : Int32)) + (((fv.toUInt32 >>> ((4 : Int32) &&& 31).toUInt32).toInt32) &&& (3 : Int32))) + (1 : Int32)) + (((fv.toUInt32 >>> ((6 : Int32) &&& 31).toUInt32).toInt32) &&& (3 : Int32))))]) rfl ?_
  refine own_iloadN X0 hx (hb hby d9_54) rfl ?_
  refine own_if X0 hx (hb hby d9_55) (pc' := 61) (by decide) (by decide) (fun hc => ?_) (fun hc => ?_)
  · have hc55 : ¬ kq = (0 : Int32) := own_ne1 hc
    clear hc
    refine own_iloadN X0 hx (hb hby d9_61) rfl ?_
    refine own_iconst X0 hx (1 : Int32) (hb hby d9_62) rfl ?_
    refine own_icmp X0 hx (hb hby d9_63) (pc' := 69) (by decide) (by decide) (fun hc => ?_) (fun hc => ?_)
    · have hc63 : ¬ kq = (1 : Int32) := own_ne1 hc
      clear hc
      refine own_iloadN X0 hx (hb hby d9_69) rfl ?_
      refine own_iconst X0 hx (2 : Int32) (hb hby d9_70) rfl ?_
      refine own_icmp X0 hx (hb hby d9_71) (pc' := 77) (by decide) (by decide) (fun hc => ?_) (fun hc => ?_)
      · have hc71 : ¬ kq = (2 : Int32) := own_ne1 hc
        clear hc
        refine own_iload X0 hx (hb hby d9_77) rfl ?_
        refine own_retI X0 hx Bd.returns hlk (hb hby d9_79) ?_ (by decide) (by decide)
        refine ⟨?_, N0, e0⟩
        show some (Value.int _) = some (Value.int (pl_end fv kq))
        rw [pl_end, if_neg hc55, if_neg hc63, if_neg hc71] <;> first | rfl | decide
      · have hc71 : kq = (2 : Int32) := own_ne0 hc
        clear hc
        refine own_iload X0 hx (hb hby d9_74) rfl ?_
        refine own_retI X0 hx Bd.returns hlk (hb hby d9_76) ?_ (by decide) (by decide)
        refine ⟨?_, N0, e0⟩
        show some (Value.int _) = some (Value.int (pl_end fv kq))
        rw [pl_end, if_neg hc55, if_neg hc63, if_pos hc71] <;> first | rfl | decide
    · have hc63 : kq = (1 : Int32) := own_ne0 hc
      clear hc
      refine own_iload X0 hx (hb hby d9_66) rfl ?_
      refine own_retI X0 hx Bd.returns hlk (hb hby d9_68) ?_ (by decide) (by decide)
      refine ⟨?_, N0, e0⟩
      show some (Value.int _) = some (Value.int (pl_end fv kq))
      rw [pl_end, if_neg hc55, if_pos hc63] <;> first | rfl | decide
  · have hc55 : kq = (0 : Int32) := own_ne0 hc
    clear hc
    refine own_iload X0 hx (hb hby d9_58) rfl ?_
    refine own_retI X0 hx Bd.returns hlk (hb hby d9_60) ?_ (by decide) (by decide)
    refine ⟨?_, N0, e0⟩
    show some (Value.int _) = some (Value.int (pl_end fv kq))
    rw [pl_end, if_pos hc55] <;> first | rfl | decide
theorem pl_endb (fv kq : Int32) : 0 ≤ (pl_end fv kq).toInt ∧ (pl_end fv kq).toInt ≤ 15 := by
  have l0 := pl_l1 fv
  have l1 := pl_l1 ((fv.toUInt32 >>> ((2 : Int32) &&& 31).toUInt32).toInt32)
  have l2 := pl_l1 ((fv.toUInt32 >>> ((4 : Int32) &&& 31).toUInt32).toInt32)
  have l3 := pl_l1 ((fv.toUInt32 >>> ((6 : Int32) &&& 31).toUInt32).toInt32)
  unfold pl_end
  generalize (fv &&& (3 : Int32)) = y0 at *
  generalize ((fv.toUInt32 >>> ((2 : Int32) &&& 31).toUInt32).toInt32 &&& (3 : Int32)) = y1 at *
  generalize ((fv.toUInt32 >>> ((4 : Int32) &&& 31).toUInt32).toInt32 &&& (3 : Int32)) = y2 at *
  generalize ((fv.toUInt32 >>> ((6 : Int32) &&& 31).toUInt32).toInt32 &&& (3 : Int32)) = y3 at *
  have a1 := c_iadd y0 1
  have a2 := c_iadd (y0 + 1) y1
  have a3 := c_iadd (y0 + 1 + y1) 1
  have a4 := c_iadd (y0 + 1 + y1 + 1) y2
  have a5 := c_iadd (y0 + 1 + y1 + 1 + y2) 1
  have a6 := c_iadd (y0 + 1 + y1 + 1 + y2 + 1) y3
  have b1 := rng32 (y0 + 1)
  have b2 := rng32 (y0 + 1 + y1)
  have b3 := rng32 (y0 + 1 + y1 + 1)
  have b4 := rng32 (y0 + 1 + y1 + 1 + y2)
  have b5 := rng32 (y0 + 1 + y1 + 1 + y2 + 1)
  have b6 := rng32 (y0 + 1 + y1 + 1 + y2 + 1 + y3)
  rw [show (1 : Int32).toInt = 1 from by decide] at a1 a3 a5
  by_cases q0 : kq = 0
  · rw [if_pos q0]; omega
  · rw [if_neg q0]
    by_cases q1 : kq = 1
    · rw [if_pos q1]; omega
    · rw [if_neg q1]
      by_cases q2 : kq = 2
      · rw [if_pos q2]; omega
      · rw [if_neg q2]; omega
theorem pl_rlb (x fv kq : Int32) : 0 ≤ ((x + pl_end fv kq + 1 - x) + 1).toInt ∧ ((x + pl_end fv kq + 1 - x) + 1).toInt ≤ 17 := by
  rw [pl_rl]
  have h := pl_endb fv kq
  have h1 := c_iadd (pl_end fv kq) 2
  have h2 := rng32 (pl_end fv kq + 2)
  rw [show (2 : Int32).toInt = 2 from by decide] at h1
  omega
theorem pn_3 : plainFor (⟨"com/example/termweave/termweave/release/HeldRows$Sort", "<init>", "(Lcom/example/termweave/termweave/release/HeldRows;)V"⟩ : MethodName) = true := by decide +kernel
theorem ef_3 (m : MethodId) (a1 : Addr) (a2 : Addr) : entryFrame m #[(.ref a1), (.ref a2)] 2 = mkF m 0 #[.val (.ref a1), .val (.ref a2)] [] := by first | (simp [entryFrame, mkF, argsToLocals, Value.category]; done) | rfl
def Q3 (Z : State) (a1 : Addr) (a2 : Addr) (h0 : Heap) (n0 : Nat) (v : Option Value) (h : Heap) (L : List Loc) : Prop := v = none ∧ Fr n0 L ∧ Keep h0 h [a1]
set_option maxRecDepth 65536 in
set_option maxHeartbeats 40000000 in
theorem rm3 (l : Launch) (Z : State) (a0 : Array Value) (hw : ∀ d ∈ tables_1, d.before a0 Z = true) (ws : List Jvm.Cond) (a1 : Addr) (a2 : Addr) (h0 : Heap) (n0 : Nat) (Z0 : n0 ≤ h0.size) (hE : Exa Z h0 a1 cS) (hn0 : n0 ≤ a1) (hf0 : Fld Z h0 a1 cS "this$0" "Lcom/example/termweave/termweave/release/HeldRows;" .null) (hf1 : Fld Z h0 a1 cS "leads" "[J" .null) (hf2 : Fld Z h0 a1 cS "orderWork" "[I" .null) (hf3 : Fld Z h0 a1 cS "leadWork" "[J" .null) (hf4 : Fld Z h0 a1 cS "pending" "[I" .null) :
    MetFree l (⟨"com/example/termweave/termweave/release/HeldRows$Sort", "<init>", "(Lcom/example/termweave/termweave/release/HeldRows;)V"⟩ : MethodName) (head1 (Jvm.Cond.code (⟨"com/example/termweave/termweave/release/HeldRows$Sort", "<init>", "(Lcom/example/termweave/termweave/release/HeldRows;)V"⟩ : MethodName) prog_31_method_1_code 2 none :: ws) ({ frames := 1, cells := 4, slots := 48, locals := 12 } : Room)) (fun a U => a = #[(.ref a1), (.ref a2)] ∧ Z.Warmed39 U.vm ∧ U.heap = h0) (fun _ _ _ _ _ => True) (fun _ U o U' => ∃ v L, o = .returned v ∧ Q3 Z a1 a2 h0 n0 v U'.heap L ∧ FrameEnd U o U' L ({ frames := 1, cells := 4, slots := 48, locals := 12 } : Room).cells ({ frames := 1, cells := 4, slots := 48, locals := 12 } : Room).slots) := by
  refine MetFree.of_bodySF pn_3 hisR ?_
  intro p e s m args below meth c s₁ Bd hml0 hP hK
  obtain ⟨rfl, hZ, hh⟩ := hP
  have hx := Bd.exec
  have hby := Bd.bytes
  have hml : c.maxLocals = 2 := hml0
  have hown : s.vm.findClass "com/example/termweave/termweave/release/HeldRows$Sort" = some m.cls := findClass_of_methodNamed Bd.named
  have hnm := (name_of_methodNamed Bd.named Bd.method).1
  have hlk := BodyLoose.notSynchronized Bd
  have X0 : Stand p l e ({ frames := 1, cells := 4, slots := 48, locals := 12 } : Room) s m #[(.ref a1), (.ref a2)] below meth c s₁ [] 0 0 := Stand.of_body Bd
  have e0 : s₁.heap = h0 := by rw [← hh, Bd.state]; rfl
  have N0 := Fr.nil n0
  show own_R p e below s (Q3 Z a1 a2 h0 n0) ({ frames := 1, cells := 4, slots := 48, locals := 12 } : Room).cells ({ frames := 1, cells := 4, slots := 48, locals := 12 } : Room).slots s₁ (entryFrame m #[(.ref a1), (.ref a2)] 2)
  refine own_cast (ef_3 m a1 a2) ?_
  show own_R p e below s _ _ _ s₁ (mkF m 0 #[.val (.ref a1), .val (.ref a2)] [])
  have K0 := Keep.refl h0 ([a1] : List Addr)
  have n0_a1 := hn0
  refine own_aloadN X0 hx (hb hby d3_0) rfl rfl ?_
  refine own_aloadN X0 hx (hb hby d3_1) rfl rfl ?_
  refine own_putF X0 hx hZ hown (host := "") (Or.inl (hw _ (List.mem_of_getElem? (i := 24) rfl))) Via.refl e0 hf0 hE (Or.inr ⟨(hw _ (List.mem_of_getElem? (i := 25) rfl)), rfl, hnm⟩) (hw _ (List.mem_of_getElem? (i := 19) rfl)) (ty := (.object "com/example/termweave/termweave/release/HeldRows")) (by decide) rfl rfl (hb hby d3_2) ?_
  intro T1 h1 X1 e1 W1
  have K1 := K0.wr W1 (Or.inl (List.mem_of_getElem? (i := 0) rfl))
  have N1 := Fr.snoc X1 N0 n0_a1
  have Fw1 := Fld.same W1 hf0
  refine own_aloadN X1 hx (hb hby d3_5) rfl rfl ?_
  refine own_initO X1 hx hZ hown (hw _ (List.mem_of_getElem? (i := 26) rfl)) (hw _ (List.mem_of_getElem? (i := 8) rfl)) (hw _ (List.mem_of_getElem? (i := 9) rfl)) e1 (by rw [hml]; rfl) (hb hby d3_6) (by decide) (W := 0) (Nat.le_of_eq rfl) (by decide) ?_
  intro T2 X2 e2
  refine own_aloadN X2 hx (hb hby d3_9) rfl rfl ?_
  refine own_iconst X2 hx (0 : Int32) (hb hby d3_10) rfl ?_
  refine own_newA X2 hx hZ (hw _ (List.mem_of_getElem? (i := 27) rfl)) e2 (hb hby d3_11) (by decide) 0 (by decide) (by decide) (by decide) (by decide) (ad := "[J") (by decide) 0 ?_
  intro T3 h3 b3 k3 g3 X3 e3 E3 V3 A3
  have f4 := (Exa.wr W1 hE)
  have ne_a1_b3 : a1 ≠ b3 := Nat.ne_of_lt (Nat.lt_of_lt_of_le f4.lt (Nat.le_of_eq g3.symm))
  have sz_b3 : h0.size ≤ b3 := Nat.le_trans K1.1 (Nat.le_of_eq g3.symm)
  have n0_b3 : n0 ≤ b3 := Nat.le_trans Z0 sz_b3
  have K3 := K1.ext E3
  have V_b3 : Arv Z h3 b3 k3 .long (0 : Int32) [] (.long (0 : Int64)) := V3
  have f5 := (Fld.ext E3 (Fld.other W1 hf1 (Or.inr (slot_ne (Or.inl (hw _ (List.mem_of_getElem? (i := 29) rfl))) (Or.inr (hw _ (List.mem_of_getElem? (i := 25) rfl))) (by decide) (t := (.array .long)) (t' := (.object "com/example/termweave/termweave/release/HeldRows")) (by decide) (by decide)))))
  have f6 := (Exa.ext E3 f4)
  refine own_putF X3 hx hZ hown (host := "") (Or.inl (hw _ (List.mem_of_getElem? (i := 28) rfl))) Via.refl e3 f5 f6 (Or.inl (hw _ (List.mem_of_getElem? (i := 29) rfl))) (hw _ (List.mem_of_getElem? (i := 19) rfl)) (ty := (.array .long)) (by decide) rfl rfl (hb hby d3_13) ?_
  intro T7 h7 X7 e7 W7
  have K7 := K3.wr W7 (Or.inl (List.mem_of_getElem? (i := 0) rfl))
  have N7 := Fr.snoc X7 N1 n0_a1
  have Fw7 := Fld.same W7 f5
  refine own_aloadN X7 hx (hb hby d3_16) rfl rfl ?_
  refine own_iconst X7 hx (0 : Int32) (hb hby d3_17) rfl ?_
  refine own_newA X7 hx hZ (hw _ (List.mem_of_getElem? (i := 12) rfl)) e7 (hb hby d3_18) (by decide) 0 (by decide) (by decide) (by decide) (by decide) (ad := "[I") (by decide) 0 ?_
  intro T8 h8 b8 k8 g8 X8 e8 E8 V8 A8
  have f9 := (Exa.wr W7 f6)
  have ne_a1_b8 : a1 ≠ b8 := Nat.ne_of_lt (Nat.lt_of_lt_of_le f9.lt (Nat.le_of_eq g8.symm))
  have f10 := (V_b3.other W7 (Ne.symm ne_a1_b3))
  have ne_b3_b8 : b3 ≠ b8 := Nat.ne_of_lt (Nat.lt_of_lt_of_le f10.lt (Nat.le_of_eq g8.symm))
  have sz_b8 : h0.size ≤ b8 := Nat.le_trans K7.1 (Nat.le_of_eq g8.symm)
  have n0_b8 : n0 ≤ b8 := Nat.le_trans Z0 sz_b8
  have K8 := K7.ext E8
  have V_b8 : Arv Z h8 b8 k8 .int (0 : Int32) [] (.int (0 : Int32)) := V8
  have f11 := (Fld.ext E8 (Fld.other W7 (Fld.ext E3 (Fld.other W1 hf2 (Or.inr (slot_ne (Or.inl (hw _ (List.mem_of_getElem? (i := 31) rfl))) (Or.inr (hw _ (List.mem_of_getElem? (i := 25) rfl))) (by decide) (t := (.array .int)) (t' := (.object "com/example/termweave/termweave/release/HeldRows")) (by decide) (by decide))))) (Or.inr (slot_ne (Or.inl (hw _ (List.mem_of_getElem? (i := 31) rfl))) (Or.inl (hw _ (List.mem_of_getElem? (i := 29) rfl))) (by decide) (t := (.array .int)) (t' := (.array .long)) (by decide) (by decide)))))
  have f12 := (Exa.ext E8 f9)
  refine own_putF X8 hx hZ hown (host := "") (Or.inl (hw _ (List.mem_of_getElem? (i := 30) rfl))) Via.refl e8 f11 f12 (Or.inl (hw _ (List.mem_of_getElem? (i := 31) rfl))) (hw _ (List.mem_of_getElem? (i := 19) rfl)) (ty := (.array .int)) (by decide) rfl rfl (hb hby d3_20) ?_
  intro T13 h13 X13 e13 W13
  have K13 := K8.wr W13 (Or.inl (List.mem_of_getElem? (i := 0) rfl))
  have N13 := Fr.snoc X13 N7 n0_a1
  have Fw13 := Fld.same W13 f11
  refine own_aloadN X13 hx (hb hby d3_23) rfl rfl ?_
  refine own_iconst X13 hx (0 : Int32) (hb hby d3_24) rfl ?_
  refine own_newA X13 hx hZ (hw _ (List.mem_of_getElem? (i := 27) rfl)) e13 (hb hby d3_25) (by decide) 0 (by decide) (by decide) (by decide) (by decide) (ad := "[J") (by decide) 0 ?_
  intro T14 h14 b14 k14 g14 X14 e14 E14 V14 A14
  have f15 := (Exa.wr W13 f12)
  have ne_a1_b14 : a1 ≠ b14 := Nat.ne_of_lt (Nat.lt_of_lt_of_le f15.lt (Nat.le_of_eq g14.symm))
  have f16 := ((f10.ext E8).other W13 (Ne.symm ne_a1_b3))
  have ne_b3_b14 : b3 ≠ b14 := Nat.ne_of_lt (Nat.lt_of_lt_of_le f16.lt (Nat.le_of_eq g14.symm))
  have f17 := (V_b8.other W13 (Ne.symm ne_a1_b8))
  have ne_b8_b14 : b8 ≠ b14 := Nat.ne_of_lt (Nat.lt_of_lt_of_le f17.lt (Nat.le_of_eq g14.symm))
  have sz_b14 : h0.size ≤ b14 := Nat.le_trans K13.1 (Nat.le_of_eq g14.symm)
  have n0_b14 : n0 ≤ b14 := Nat.le_trans Z0 sz_b14
  have K14 := K13.ext E14
  have V_b14 : Arv Z h14 b14 k14 .long (0 : Int32) [] (.long (0 : Int64)) := V14
  have f18 := (Fld.ext E14 (Fld.other W13 (Fld.ext E8 (Fld.other W7 (Fld.ext E3 (Fld.other W1 hf3 (Or.inr (slot_ne (Or.inl (hw _ (List.mem_of_getElem? (i := 33) rfl))) (Or.inr (hw _ (List.mem_of_getElem? (i := 25) rfl))) (by decide) (t := (.array .long)) (t' := (.object "com/example/termweave/termweave/release/HeldRows")) (by decide) (by decide))))) (Or.inr (slot_ne (Or.inl (hw _ (List.mem_of_getElem? (i := 33) rfl))) (Or.inl (hw _ (List.mem_of_getElem? (i := 29) rfl))) (by decide) (t := (.array .long)) (t' := (.array .long)) (by decide) (by decide))))) (Or.inr (slot_ne (Or.inl (hw _ (List.mem_of_getElem? (i := 33) rfl))) (Or.inl (hw _ (List.mem_of_getElem? (i := 31) rfl))) (by decide) (t := (.array .long)) (t' := (.array .int)) (by decide) (by decide)))))
  have f19 := (Exa.ext E14 f15)
  refine own_putF X14 hx hZ hown (host := "") (Or.inl (hw _ (List.mem_of_getElem? (i := 32) rfl))) Via.refl e14 f18 f19 (Or.inl (hw _ (List.mem_of_getElem? (i := 33) rfl))) (hw _ (List.mem_of_getElem? (i := 19) rfl)) (ty := (.array .long)) (by decide) rfl rfl (hb hby d3_27) ?_
  intro T20 h20 X20 e20 W20
  have K20 := K14.wr W20 (Or.inl (List.mem_of_getElem? (i := 0) rfl))
  have N20 := Fr.snoc X20 N13 n0_a1
  have Fw20 := Fld.same W20 f18
  refine own_aloadN X20 hx (hb hby d3_30) rfl rfl ?_
  refine own_bipush X20 hx (48 : Int32) (hb hby d3_31) rfl ?_
  refine own_newA X20 hx hZ (hw _ (List.mem_of_getElem? (i := 12) rfl)) e20 (hb hby d3_33) (by decide) 48 (by decide) (by decide) (by decide) (by decide) (ad := "[I") (by decide) 48 ?_
  intro T21 h21 b21 k21 g21 X21 e21 E21 V21 A21
  have f22 := (Exa.wr W20 f19)
  have ne_a1_b21 : a1 ≠ b21 := Nat.ne_of_lt (Nat.lt_of_lt_of_le f22.lt (Nat.le_of_eq g21.symm))
  have f23 := ((f16.ext E14).other W20 (Ne.symm ne_a1_b3))
  have ne_b3_b21 : b3 ≠ b21 := Nat.ne_of_lt (Nat.lt_of_lt_of_le f23.lt (Nat.le_of_eq g21.symm))
  have f24 := ((f17.ext E14).other W20 (Ne.symm ne_a1_b8))
  have ne_b8_b21 : b8 ≠ b21 := Nat.ne_of_lt (Nat.lt_of_lt_of_le f24.lt (Nat.le_of_eq g21.symm))
  have f25 := (V_b14.other W20 (Ne.symm ne_a1_b14))
  have ne_b14_b21 : b14 ≠ b21 := Nat.ne_of_lt (Nat.lt_of_lt_of_le f25.lt (Nat.le_of_eq g21.symm))
  have sz_b21 : h0.size ≤ b21 := Nat.le_trans K20.1 (Nat.le_of_eq g21.symm)
  have n0_b21 : n0 ≤ b21 := Nat.le_trans Z0 sz_b21
  have K21 := K20.ext E21
  have V_b21 : Arv Z h21 b21 k21 .int (48 : Int32) [(.int (0 : Int32)), (.int (0 : Int32)), (.int (0 : Int32)), (.int (0 : Int32)), (.int (0 : Int32)), (.int (0 : Int32)), (.int (0 : Int32)), (.int (0 : Int32)), (.int (0 : Int32)), (.int (0 : Int32)), (.int (0 : Int32)), (.int (0 : Int32)), (.int (0 : Int32)), (.int (0 : Int32)), (.int (0 : Int32)), (.int (0 : Int32)), (.int (0 : Int32)), (.int (0 : Int32)), (.int (0 : Int32)), (.int (0 : Int32)), (.int (0 : Int32)), (.int (0 : Int32)), (.int (0 : Int32)), (.int (0 : Int32)), (.int (0 : Int32)), (.int (0 : Int32)), (.int (0 : Int32)), (.int (0 : Int32)), (.int (0 : Int32)), (.int (0 : Int32)), (.int (0 : Int32)), (.int (0 : Int32)), (.int (0 : Int32)), (.int (0 : Int32)), (.int (0 : Int32)), (.int (0 : Int32)), (.int (0 : Int32)), (.int (0 : Int32)), (.int (0 : Int32)), (.int (0 : Int32)), (.int (0 : Int32)), (.int (0 : Int32)), (.int (0 : Int32)), (.int (0 : Int32)), (.int (0 : Int32)), (.int (0 : Int32)), (.int (0 : Int32)), (.int (0 : Int32))] (.int (0 : Int32)) := V21
  have f26 := (Fld.ext E21 (Fld.other W20 (Fld.ext E14 (Fld.other W13 (Fld.ext E8 (Fld.other W7 (Fld.ext E3 (Fld.other W1 hf4 (Or.inr (slot_ne (Or.inl (hw _ (List.mem_of_getElem? (i := 35) rfl))) (Or.inr (hw _ (List.mem_of_getElem? (i := 25) rfl))) (by decide) (t := (.array .int)) (t' := (.object "com/example/termweave/termweave/release/HeldRows")) (by decide) (by decide))))) (Or.inr (slot_ne (Or.inl (hw _ (List.mem_of_getElem? (i := 35) rfl))) (Or.inl (hw _ (List.mem_of_getElem? (i := 29) rfl))) (by decide) (t := (.array .int)) (t' := (.array .long)) (by decide) (by decide))))) (Or.inr (slot_ne (Or.inl (hw _ (List.mem_of_getElem? (i := 35) rfl))) (Or.inl (hw _ (List.mem_of_getElem? (i := 31) rfl))) (by decide) (t := (.array .int)) (t' := (.array .int)) (by decide) (by decide))))) (Or.inr (slot_ne (Or.inl (hw _ (List.mem_of_getElem? (i := 35) rfl))) (Or.inl (hw _ (List.mem_of_getElem? (i := 33) rfl))) (by decide) (t := (.array .int)) (t' := (.array .long)) (by decide) (by decide)))))
  have f27 := (Exa.ext E21 f22)
  refine own_putF X21 hx hZ hown (host := "") (Or.inl (hw _ (List.mem_of_getElem? (i := 34) rfl))) Via.refl e21 f26 f27 (Or.inl (hw _ (List.mem_of_getElem? (i := 35) rfl))) (hw _ (List.mem_of_getElem? (i := 19) rfl)) (ty := (.array .int)) (by decide) rfl rfl (hb hby d3_35) ?_
  intro T28 h28 X28 e28 W28
  have K28 := K21.wr W28 (Or.inl (List.mem_of_getElem? (i := 0) rfl))
  have N28 := Fr.snoc X28 N20 n0_a1
  have Fw28 := Fld.same W28 f26
  refine own_ret0 X28 hx Bd.returns hlk (hb hby d3_38) ?_ (by decide) (by decide)
  rw [e28]
  exact ⟨rfl, N28, K28⟩
theorem pn_5 : plainFor (⟨"com/example/termweave/termweave/release/RrfRow", "<init>", "([BI)V"⟩ : MethodName) = true := by decide +kernel
theorem ef_5 (m : MethodId) (a1 : Addr) (cc : Int32) : entryFrame m #[(.ref a1), .null, (.int cc)] 3 = mkF m 0 #[.val (.ref a1), .val .null, .val (.int cc)] [] := by first | (simp [entryFrame, mkF, argsToLocals, Value.category]; done) | rfl
def Q5 (Z : State) (a1 : Addr) (cc : Int32) (h0 : Heap) (n0 : Nat) (v : Option Value) (h : Heap) (L : List Loc) : Prop := v = none ∧ Fr n0 L ∧ Keep h0 h [a1] ∧ Exa Z h a1 cV ∧ Fld Z h a1 cR "rowEnd" "I" (.int (-1 : Int32)) ∧ Fld Z h a1 cR "bytes" "[B" .null ∧ Fld Z h a1 cR "rowStart" "I" o0 ∧ Fld Z h a1 cR "ascii" "Z" o0 ∧ ∃ ye ke, h0.size ≤ ye ∧ Fld Z h a1 cR "fieldEnds" "[I" (.ref ye) ∧ Arv Z h ye ke .int cc (List.replicate cc.toNatClampNeg o0) o0
set_option maxRecDepth 65536 in
set_option maxHeartbeats 40000000 in
theorem rm5 (l : Launch) (Z : State) (a0 : Array Value) (hw : ∀ d ∈ tables_1, d.before a0 Z = true) (ws : List Jvm.Cond) (a1 : Addr) (cc : Int32) (h0 : Heap) (n0 : Nat) (Z0 : n0 ≤ h0.size) (hc : 1 ≤ cc.toInt ∧ cc.toInt ≤ 4) (hE : Exa Z h0 a1 cV) (hn0 : n0 ≤ a1) (hf_rowEnd : Fld Z h0 a1 cR "rowEnd" "I" o0) (hf_bytes : Fld Z h0 a1 cR "bytes" "[B" .null) (hf_fieldEnds : Fld Z h0 a1 cR "fieldEnds" "[I" .null) (hf_rowStart : Fld Z h0 a1 cR "rowStart" "I" o0) (hf_ascii : Fld Z h0 a1 cR "ascii" "Z" o0) :
    MetFree l (⟨"com/example/termweave/termweave/release/RrfRow", "<init>", "([BI)V"⟩ : MethodName) (head1 (Jvm.Cond.code (⟨"com/example/termweave/termweave/release/RrfRow", "<init>", "([BI)V"⟩ : MethodName) prog_47_method_1_code 3 none :: ws) ({ frames := 1, cells := 1, slots := 4, locals := 12 } : Room)) (fun a U => a = #[(.ref a1), .null, (.int cc)] ∧ Z.Warmed39 U.vm ∧ U.heap = h0) (fun _ _ _ _ _ => True) (fun _ U o U' => ∃ v L, o = .returned v ∧ Q5 Z a1 cc h0 n0 v U'.heap L ∧ FrameEnd U o U' L ({ frames := 1, cells := 1, slots := 4, locals := 12 } : Room).cells ({ frames := 1, cells := 1, slots := 4, locals := 12 } : Room).slots) := by
  refine MetFree.of_bodySF pn_5 hisR ?_
  intro p e s m args below meth c s₁ Bd hml0 hP hK
  obtain ⟨rfl, hZ, hh⟩ := hP
  have hx := Bd.exec
  have hby := Bd.bytes
  have hml : c.maxLocals = 3 := hml0
  have hown : s.vm.findClass "com/example/termweave/termweave/release/RrfRow" = some m.cls := findClass_of_methodNamed Bd.named
  have hnm := (name_of_methodNamed Bd.named Bd.method).1
  have hlk := BodyLoose.notSynchronized Bd
  have X0 : Stand p l e ({ frames := 1, cells := 1, slots := 4, locals := 12 } : Room) s m #[(.ref a1), .null, (.int cc)] below meth c s₁ [] 0 0 := Stand.of_body Bd
  have e0 : s₁.heap = h0 := by rw [← hh, Bd.state]; rfl
  have N0 := Fr.nil n0
  show own_R p e below s (Q5 Z a1 cc h0 n0) ({ frames := 1, cells := 1, slots := 4, locals := 12 } : Room).cells ({ frames := 1, cells := 1, slots := 4, locals := 12 } : Room).slots s₁ (entryFrame m #[(.ref a1), .null, (.int cc)] 3)
  refine own_cast (ef_5 m a1 cc) ?_
  show own_R p e below s _ _ _ s₁ (mkF m 0 #[.val (.ref a1), .val .null, .val (.int cc)] [])
  have K0 := Keep.refl h0 ([a1] : List Addr)
  have n0_a1 := hn0
  refine own_aloadN X0 hx (hb hby d5_0) rfl rfl ?_
  refine own_initO X0 hx hZ hown (hw _ (List.mem_of_getElem? (i := 53) rfl)) (hw _ (List.mem_of_getElem? (i := 8) rfl)) (hw _ (List.mem_of_getElem? (i := 9) rfl)) e0 (by rw [hml]; rfl) (hb hby d5_1) (by decide) (W := 0) (Nat.le_of_eq rfl) (by decide) ?_
  intro T29 X29 e29
  refine own_aloadN X29 hx (hb hby d5_4) rfl rfl ?_
  refine own_iconst X29 hx (-1 : Int32) (hb hby d5_5) rfl ?_
  refine own_putF X29 hx hZ hown (host := "") (Or.inl (hw _ (List.mem_of_getElem? (i := 54) rfl))) Via.refl e29 hf_rowEnd hE (Or.inl (hw _ (List.mem_of_getElem? (i := 55) rfl))) (hw _ (List.mem_of_getElem? (i := 43) rfl)) (ty := .int) (by decide) rfl rfl (hb hby d5_6) ?_
  intro T30 h30 X30 e30 W30
  have K30 := K0.wr W30 (Or.inl (List.mem_of_getElem? (i := 0) rfl))
  have N30 := Fr.snoc X30 N0 n0_a1
  have Fw30 := Fld.same W30 hf_rowEnd
  refine own_aloadN X30 hx (hb hby d5_9) rfl rfl ?_
  refine own_aloadN X30 hx (hb hby d5_10) rfl rfl ?_
  have f31 := (Fld.other W30 hf_bytes (Or.inr (slot_ne (Or.inl (hw _ (List.mem_of_getElem? (i := 57) rfl))) (Or.inl (hw _ (List.mem_of_getElem? (i := 55) rfl))) (by decide) (t := (.array .byte)) (t' := .int) (by decide) (by decide))))
  have f32 := (Exa.wr W30 hE)
  refine own_putF X30 hx hZ hown (host := "") (Or.inl (hw _ (List.mem_of_getElem? (i := 56) rfl))) Via.refl e30 f31 f32 (Or.inl (hw _ (List.mem_of_getElem? (i := 57) rfl))) (hw _ (List.mem_of_getElem? (i := 43) rfl)) (ty := (.array .byte)) (by decide) rfl rfl (hb hby d5_11) ?_
  intro T33 h33 X33 e33 W33
  have K33 := K30.wr W33 (Or.inl (List.mem_of_getElem? (i := 0) rfl))
  have N33 := Fr.snoc X33 N30 n0_a1
  have Fw33 := Fld.same W33 f31
  refine own_aloadN X33 hx (hb hby d5_14) rfl rfl ?_
  refine own_iloadN X33 hx (hb hby d5_15) rfl ?_
  refine own_newA X33 hx hZ (hw _ (List.mem_of_getElem? (i := 12) rfl)) e33 (hb hby d5_16) (pl_negc cc hc) 4 (pl_capc cc hc) (by decide) (by decide) (by decide) (ad := "[I") (by decide) cc.toNatClampNeg ?_
  intro T34 h34 b34 k34 g34 X34 e34 E34 V34 A34
  have f35 := (Exa.wr W33 f32)
  have ne_a1_b34 : a1 ≠ b34 := Nat.ne_of_lt (Nat.lt_of_lt_of_le f35.lt (Nat.le_of_eq g34.symm))
  have sz_b34 : h0.size ≤ b34 := Nat.le_trans K33.1 (Nat.le_of_eq g34.symm)
  have n0_b34 : n0 ≤ b34 := Nat.le_trans Z0 sz_b34
  have K34 := K33.ext E34
  have V_b34 : Arv Z h34 b34 k34 .int cc (List.replicate cc.toNatClampNeg (.int (0 : Int32))) (.int (0 : Int32)) := V34
  have f36 := (Fld.ext E34 (Fld.other W33 (Fld.other W30 hf_fieldEnds (Or.inr (slot_ne (Or.inr (hw _ (List.mem_of_getElem? (i := 59) rfl))) (Or.inl (hw _ (List.mem_of_getElem? (i := 55) rfl))) (by decide) (t := (.array .int)) (t' := .int) (by decide) (by decide)))) (Or.inr (slot_ne (Or.inr (hw _ (List.mem_of_getElem? (i := 59) rfl))) (Or.inl (hw _ (List.mem_of_getElem? (i := 57) rfl))) (by decide) (t := (.array .int)) (t' := (.array .byte)) (by decide) (by decide)))))
  have f37 := (Exa.ext E34 f35)
  refine own_putF X34 hx hZ hown (host := "") (Or.inl (hw _ (List.mem_of_getElem? (i := 58) rfl))) Via.refl e34 f36 f37 (Or.inr ⟨(hw _ (List.mem_of_getElem? (i := 59) rfl)), rfl, hnm⟩) (hw _ (List.mem_of_getElem? (i := 43) rfl)) (ty := (.array .int)) (by decide) rfl rfl (hb hby d5_18) ?_
  intro T38 h38 X38 e38 W38
  have K38 := K34.wr W38 (Or.inl (List.mem_of_getElem? (i := 0) rfl))
  have N38 := Fr.snoc X38 N33 n0_a1
  have Fw38 := Fld.same W38 f36
  have f39 := (Exa.wr W38 f37)
  have f40 := (Fld.other W38 (Fld.ext E34 (Fld.other W33 Fw30 (Or.inr (slot_ne (Or.inl (hw _ (List.mem_of_getElem? (i := 55) rfl))) (Or.inl (hw _ (List.mem_of_getElem? (i := 57) rfl))) (by decide) (t := .int) (t' := (.array .byte)) (by decide) (by decide))))) (Or.inr (slot_ne (Or.inl (hw _ (List.mem_of_getElem? (i := 55) rfl))) (Or.inr (hw _ (List.mem_of_getElem? (i := 59) rfl))) (by decide) (t := .int) (t' := (.array .int)) (by decide) (by decide))))
  have f41 := (Fld.other W38 (Fld.ext E34 Fw33) (Or.inr (slot_ne (Or.inl (hw _ (List.mem_of_getElem? (i := 57) rfl))) (Or.inr (hw _ (List.mem_of_getElem? (i := 59) rfl))) (by decide) (t := (.array .byte)) (t' := (.array .int)) (by decide) (by decide))))
  have f42 := (Fld.other W38 (Fld.ext E34 (Fld.other W33 (Fld.other W30 hf_rowStart (Or.inr (slot_ne (Or.inl (hw _ (List.mem_of_getElem? (i := 71) rfl))) (Or.inl (hw _ (List.mem_of_getElem? (i := 55) rfl))) (by decide) (t := .int) (t' := .int) (by decide) (by decide)))) (Or.inr (slot_ne (Or.inl (hw _ (List.mem_of_getElem? (i := 71) rfl))) (Or.inl (hw _ (List.mem_of_getElem? (i := 57) rfl))) (by decide) (t := .int) (t' := (.array .byte)) (by decide) (by decide))))) (Or.inr (slot_ne (Or.inl (hw _ (List.mem_of_getElem? (i := 71) rfl))) (Or.inr (hw _ (List.mem_of_getElem? (i := 59) rfl))) (by decide) (t := .int) (t' := (.array .int)) (by decide) (by decide))))
  have f43 := (Fld.other W38 (Fld.ext E34 (Fld.other W33 (Fld.other W30 hf_ascii (Or.inr (slot_ne (Or.inl (hw _ (List.mem_of_getElem? (i := 90) rfl))) (Or.inl (hw _ (List.mem_of_getElem? (i := 55) rfl))) (by decide) (t := .boolean) (t' := .int) (by decide) (by decide)))) (Or.inr (slot_ne (Or.inl (hw _ (List.mem_of_getElem? (i := 90) rfl))) (Or.inl (hw _ (List.mem_of_getElem? (i := 57) rfl))) (by decide) (t := .boolean) (t' := (.array .byte)) (by decide) (by decide))))) (Or.inr (slot_ne (Or.inl (hw _ (List.mem_of_getElem? (i := 90) rfl))) (Or.inr (hw _ (List.mem_of_getElem? (i := 59) rfl))) (by decide) (t := .boolean) (t' := (.array .int)) (by decide) (by decide))))
  have f44 := (V_b34.other W38 (Ne.symm ne_a1_b34))
  refine own_ret0 X38 hx Bd.returns hlk (hb hby d5_21) ?_ (by decide) (by decide)
  rw [e38]
  exact ⟨rfl, N38, K38, f39, f40, f41, f42, f43, _, _, sz_b34, Fw38, f44⟩
theorem pn_4 : plainFor (⟨"com/example/termweave/termweave/release/HeldRows$View", "<init>", "(I)V"⟩ : MethodName) = true := by decide +kernel
theorem ef_4 (m : MethodId) (a1 : Addr) (cc : Int32) : entryFrame m #[(.ref a1), (.int cc)] 2 = mkF m 0 #[.val (.ref a1), .val (.int cc)] [] := by first | (simp [entryFrame, mkF, argsToLocals, Value.category]; done) | rfl
def Q4 (Z : State) (a1 : Addr) (cc : Int32) (h0 : Heap) (n0 : Nat) (v : Option Value) (h : Heap) (L : List Loc) : Prop := v = none ∧ Fr n0 L ∧ Keep h0 h [a1] ∧ Exa Z h a1 cV ∧ Fld Z h a1 cR "rowEnd" "I" (.int (-1 : Int32)) ∧ Fld Z h a1 cR "bytes" "[B" .null ∧ Fld Z h a1 cR "rowStart" "I" o0 ∧ Fld Z h a1 cR "ascii" "Z" o0 ∧ ∃ ye ke, h0.size ≤ ye ∧ Fld Z h a1 cR "fieldEnds" "[I" (.ref ye) ∧ Arv Z h ye ke .int cc (List.replicate cc.toNatClampNeg o0) o0
set_option maxRecDepth 65536 in
set_option maxHeartbeats 40000000 in
theorem rm4 (l : Launch) (Z : State) (a0 : Array Value) (hw : ∀ d ∈ tables_1, d.before a0 Z = true) (ws : List Jvm.Cond) (a1 : Addr) (cc : Int32) (h0 : Heap) (n0 : Nat) (Z0 : n0 ≤ h0.size) (hc : 1 ≤ cc.toInt ∧ cc.toInt ≤ 4) (hE : Exa Z h0 a1 cV) (hn0 : n0 ≤ a1) (hf_rowEnd : Fld Z h0 a1 cR "rowEnd" "I" o0) (hf_bytes : Fld Z h0 a1 cR "bytes" "[B" .null) (hf_fieldEnds : Fld Z h0 a1 cR "fieldEnds" "[I" .null) (hf_rowStart : Fld Z h0 a1 cR "rowStart" "I" o0) (hf_ascii : Fld Z h0 a1 cR "ascii" "Z" o0) :
    MetFree l (⟨"com/example/termweave/termweave/release/HeldRows$View", "<init>", "(I)V"⟩ : MethodName) (head1 (Jvm.Cond.code (⟨"com/example/termweave/termweave/release/HeldRows$View", "<init>", "(I)V"⟩ : MethodName) prog_32_method_1_code 2 none :: ws) ({ frames := 2, cells := 1, slots := 4, locals := 26 } : Room)) (fun a U => a = #[(.ref a1), (.int cc)] ∧ Z.Warmed39 U.vm ∧ U.heap = h0) (fun _ _ _ _ _ => True) (fun _ U o U' => ∃ v L, o = .returned v ∧ Q4 Z a1 cc h0 n0 v U'.heap L ∧ FrameEnd U o U' L ({ frames := 2, cells := 1, slots := 4, locals := 26 } : Room).cells ({ frames := 2, cells := 1, slots := 4, locals := 26 } : Room).slots) := by
  refine MetFree.of_bodySF pn_4 hisR ?_
  intro p e s m args below meth c s₁ Bd hml0 hP hK
  obtain ⟨rfl, hZ, hh⟩ := hP
  have hx := Bd.exec
  have hby := Bd.bytes
  have hml : c.maxLocals = 2 := hml0
  have hown : s.vm.findClass "com/example/termweave/termweave/release/HeldRows$View" = some m.cls := findClass_of_methodNamed Bd.named
  have hnm := (name_of_methodNamed Bd.named Bd.method).1
  have hlk := BodyLoose.notSynchronized Bd
  have X0 : Stand p l e ({ frames := 2, cells := 1, slots := 4, locals := 26 } : Room) s m #[(.ref a1), (.int cc)] below meth c s₁ [] 0 0 := Stand.of_body Bd
  have e0 : s₁.heap = h0 := by rw [← hh, Bd.state]; rfl
  have N0 := Fr.nil n0
  show own_R p e below s (Q4 Z a1 cc h0 n0) ({ frames := 2, cells := 1, slots := 4, locals := 26 } : Room).cells ({ frames := 2, cells := 1, slots := 4, locals := 26 } : Room).slots s₁ (entryFrame m #[(.ref a1), (.int cc)] 2)
  refine own_cast (ef_4 m a1 cc) ?_
  show own_R p e below s _ _ _ s₁ (mkF m 0 #[.val (.ref a1), .val (.int cc)] [])
  have K0 := Keep.refl h0 ([a1] : List Addr)
  have n0_a1 := hn0
  refine own_aloadN X0 hx (hb hby d4_0) rfl rfl ?_
  refine own_aconst_null X0 hx (hb hby d4_1) ?_
  refine own_iloadN X0 hx (hb hby d4_2) rfl ?_
  refine own_callI X0 hx hZ (y := my5) rfl hown (hw _ (List.mem_of_getElem? (i := 48) rfl)) (hw _ (List.mem_of_getElem? (i := 49) rfl)) (hw _ (List.mem_of_getElem? (i := 51) rfl)) (hw _ (List.mem_of_getElem? (i := 52) rfl)) (by decide) (rm5 l Z a0 hw [] a1 cc h0 n0 Z0 hc hE hn0 hf_rowEnd hf_bytes hf_fieldEnds hf_rowStart hf_ascii) 0 (by decide) (by decide) e0 (by rw [hml]; rfl) a1 [.null, (.int cc)] [] rfl (lenOf pd_0 rfl) rfl (Nat.le_of_eq rfl) (hb hby d4_3) (by decide) (by decide) ?_
  rintro T45 _ L45 X45 ⟨rfl, N45q, Kc45, Ec45, F45_rowEnd, F45_bytes, F45_rowStart, F45_ascii, ye45, ke45, nc45, Fe45, Ve45⟩
  have N45 := Fr.app N0 N45q
  have K45 := K0.trans Kc45 (allS (P := fun x => x ∈ ([a1] : List Addr) ∨ h0.size ≤ x) (Or.inl (List.mem_of_getElem? (i := 0) rfl)) all0)
  show own_R p e below s _ _ _ T45 (mkF m 6 #[.val (.ref a1), .val (.int cc)] [])
  refine own_ret0 X45 hx Bd.returns hlk (hb hby d4_6) ?_ (by decide) (by decide)
  exact ⟨rfl, N45, K45, Ec45, F45_rowEnd, F45_bytes, F45_rowStart, F45_ascii, _, _, nc45, Fe45, Ve45⟩
theorem pn_1 : plainFor (⟨"com/example/termweave/termweave/release/HeldRows", "<init>", "(I)V"⟩ : MethodName) = true := by decide +kernel
theorem ef_1 (m : MethodId) (a1 : Addr) (cc : Int32) : entryFrame m #[(.ref a1), (.int cc)] 2 = mkF m 0 #[.val (.ref a1), .val (.int cc)] [] := by first | (simp [entryFrame, mkF, argsToLocals, Value.category]; done) | rfl
def Q1 (Z : State) (a1 : Addr) (cc : Int32) (h0 : Heap) (n0 : Nat) (v : Option Value) (h : Heap) (L : List Loc) : Prop := v = none ∧ Fr n0 L ∧ Keep h0 h [a1] ∧ ∃ yb ys yz yf vw ye kb ks kz kf ke, h0.size ≤ yb ∧ h0.size ≤ ys ∧ h0.size ≤ yz ∧ h0.size ≤ yf ∧ h0.size ≤ vw ∧ h0.size ≤ ye ∧ Exa Z h a1 cH ∧ Fld Z h a1 cH "bytes" "[B" (.ref yb) ∧ Fld Z h a1 cH "starts" "[I" (.ref ys) ∧ Fld Z h a1 cH "ascii" "[Z" (.ref yz) ∧ Fld Z h a1 cH "columns" "I" (.int cc) ∧ Fld Z h a1 cH "fieldEnds" "[I" (.ref yf) ∧ Fld Z h a1 cH "view" "Lcom/example/termweave/termweave/release/HeldRows$View;" (.ref vw) ∧ Fld Z h a1 cH "size" "I" (.int (0 : Int32)) ∧ Fld Z h a1 cH "length" "I" (.int (0 : Int32)) ∧ Exa Z h vw cV ∧ Fld Z h vw cR "rowEnd" "I" (.int (-1 : Int32)) ∧ Fld Z h vw cR "bytes" "[B" .null ∧ Fld Z h vw cR "rowStart" "I" o0 ∧ Fld Z h vw cR "ascii" "Z" o0 ∧ Fld Z h vw cR "fieldEnds" "[I" (.ref ye) ∧ Arv Z h yb kb .byte 4096 (List.replicate 4096 o0) o0 ∧ Arv Z h ys ks .int 16 [o0, o0, o0, o0, o0, o0, o0, o0, o0, o0, o0, o0, o0, o0, o0, o0] o0 ∧ Arv Z h yz kz .boolean 16 [o0, o0, o0, o0, o0, o0, o0, o0, o0, o0, o0, o0, o0, o0, o0, o0] o0 ∧ Arv Z h yf kf .int ((16 : Int32) * cc) (List.replicate ((16 : Int32) * cc).toNatClampNeg o0) o0 ∧ Arv Z h ye ke .int cc (List.replicate cc.toNatClampNeg o0) o0 ∧ ys ≠ yf ∧ ys ≠ ye ∧ yf ≠ ye
set_option maxRecDepth 65536 in
set_option maxHeartbeats 40000000 in
theorem rm1 (l : Launch) (Z : State) (a0 : Array Value) (hw : ∀ d ∈ tables_1, d.before a0 Z = true) (ws : List Jvm.Cond) (a1 : Addr) (cc : Int32) (h0 : Heap) (n0 : Nat) (Z0 : n0 ≤ h0.size) (hc : 1 ≤ cc.toInt ∧ cc.toInt ≤ 4) (hE : Exa Z h0 a1 cH) (hn0 : n0 ≤ a1) (hf_bytes : Fld Z h0 a1 cH "bytes" "[B" .null) (hf_starts : Fld Z h0 a1 cH "starts" "[I" .null) (hf_ascii : Fld Z h0 a1 cH "ascii" "[Z" .null) (hf_sort : Fld Z h0 a1 cH "sort" "Lcom/example/termweave/termweave/release/HeldRows$Sort;" .null) (hf_columns : Fld Z h0 a1 cH "columns" "I" o0) (hf_fieldEnds : Fld Z h0 a1 cH "fieldEnds" "[I" .null) (hf_view : Fld Z h0 a1 cH "view" "Lcom/example/termweave/termweave/release/HeldRows$View;" .null) (hf_size : Fld Z h0 a1 cH "size" "I" o0) (hf_length : Fld Z h0 a1 cH "length" "I" o0) :
    MetFree l (⟨"com/example/termweave/termweave/release/HeldRows", "<init>", "(I)V"⟩ : MethodName) (head1 (Jvm.Cond.code (⟨"com/example/termweave/termweave/release/HeldRows", "<init>", "(I)V"⟩ : MethodName) prog_30_method_1_code 2 none :: ws) ({ frames := 3, cells := 11, slots := 4256, locals := 41 } : Room)) (fun a U => a = #[(.ref a1), (.int cc)] ∧ Z.Warmed39 U.vm ∧ U.heap = h0) (fun _ _ _ _ _ => True) (fun _ U o U' => ∃ v L, o = .returned v ∧ Q1 Z a1 cc h0 n0 v U'.heap L ∧ FrameEnd U o U' L ({ frames := 3, cells := 11, slots := 4256, locals := 41 } : Room).cells ({ frames := 3, cells := 11, slots := 4256, locals := 41 } : Room).slots) := by
  refine MetFree.of_bodySF pn_1 hisR ?_
  intro p e s m args below meth c s₁ Bd hml0 hP hK
  obtain ⟨rfl, hZ, hh⟩ := hP
  have hx := Bd.exec
  have hby := Bd.bytes
  have hml : c.maxLocals = 2 := hml0
  have hown : s.vm.findClass "com/example/termweave/termweave/release/HeldRows" = some m.cls := findClass_of_methodNamed Bd.named
  have hnm := (name_of_methodNamed Bd.named Bd.method).1
  have hlk := BodyLoose.notSynchronized Bd
  have X0 : Stand p l e ({ frames := 3, cells := 11, slots := 4256, locals := 41 } : Room) s m #[(.ref a1), (.int cc)] below meth c s₁ [] 0 0 := Stand.of_body Bd
  have e0 : s₁.heap = h0 := by rw [← hh, Bd.state]; rfl
  have N0 := Fr.nil n0
  show own_R p e below s (Q1 Z a1 cc h0 n0) ({ frames := 3, cells := 11, slots := 4256, locals := 41 } : Room).cells ({ frames := 3, cells := 11, slots := 4256, locals := 41 } : Room).slots s₁ (entryFrame m #[(.ref a1), (.int cc)] 2)
  refine own_cast (ef_1 m a1 cc) ?_
  show own_R p e below s _ _ _ s₁ (mkF m 0 #[.val (.ref a1), .val (.int cc)] [])
  have K0 := Keep.refl h0 ([a1] : List Addr)
  have n0_a1 := hn0
  refine own_aloadN X0 hx (hb hby d1_0) rfl rfl ?_
  refine own_initO X0 hx hZ hown (hw _ (List.mem_of_getElem? (i := 7) rfl)) (hw _ (List.mem_of_getElem? (i := 8) rfl)) (hw _ (List.mem_of_getElem? (i := 9) rfl)) e0 (by rw [hml]; rfl) (hb hby d1_1) (by decide) (W := 0) (Nat.le_of_eq rfl) (by decide) ?_
  intro T46 X46 e46
  refine own_aloadN X46 hx (hb hby d1_4) rfl rfl ?_
  refine own_sipush X46 hx (4096 : Int32) (hb hby d1_5) rfl ?_
  refine own_newA X46 hx hZ (hw _ (List.mem_of_getElem? (i := 0) rfl)) e46 (hb hby d1_8) (by decide) 4096 (by decide) (by decide) (by decide) (by decide) (ad := "[B") (by decide) 4096 ?_
  intro T47 h47 b47 k47 g47 X47 e47 E47 V47 A47
  have ne_a1_b47 : a1 ≠ b47 := Nat.ne_of_lt (Nat.lt_of_lt_of_le hE.lt (Nat.le_of_eq g47.symm))
  have sz_b47 : h0.size ≤ b47 := Nat.le_trans K0.1 (Nat.le_of_eq g47.symm)
  have n0_b47 : n0 ≤ b47 := Nat.le_trans Z0 sz_b47
  have K47 := K0.ext E47
  have V_b47 : Arv Z h47 b47 k47 .byte (4096 : Int32) (List.replicate 4096 (.int (0 : Int32))) (.int (0 : Int32)) := V47
  have f48 := (Fld.ext E47 hf_bytes)
  have f49 := (Exa.ext E47 hE)
  refine own_putF X47 hx hZ hown (host := "") (Or.inl (hw _ (List.mem_of_getElem? (i := 10) rfl))) Via.refl e47 f48 f49 (Or.inl (hw _ (List.mem_of_getElem? (i := 11) rfl))) (hw _ (List.mem_of_getElem? (i := 2) rfl)) (ty := (.array .byte)) (by decide) rfl rfl (hb hby d1_10) ?_
  intro T50 h50 X50 e50 W50
  have K50 := K47.wr W50 (Or.inl (List.mem_of_getElem? (i := 0) rfl))
  have N50 := Fr.snoc X50 N0 n0_a1
  have Fw50 := Fld.same W50 f48
  refine own_aloadN X50 hx (hb hby d1_13) rfl rfl ?_
  refine own_bipush X50 hx (16 : Int32) (hb hby d1_14) rfl ?_
  refine own_newA X50 hx hZ (hw _ (List.mem_of_getElem? (i := 12) rfl)) e50 (hb hby d1_16) (by decide) 16 (by decide) (by decide) (by decide) (by decide) (ad := "[I") (by decide) 16 ?_
  intro T51 h51 b51 k51 g51 X51 e51 E51 V51 A51
  have f52 := (Exa.wr W50 f49)
  have ne_a1_b51 : a1 ≠ b51 := Nat.ne_of_lt (Nat.lt_of_lt_of_le f52.lt (Nat.le_of_eq g51.symm))
  have f53 := (V_b47.other W50 (Ne.symm ne_a1_b47))
  have ne_b47_b51 : b47 ≠ b51 := Nat.ne_of_lt (Nat.lt_of_lt_of_le f53.lt (Nat.le_of_eq g51.symm))
  have sz_b51 : h0.size ≤ b51 := Nat.le_trans K50.1 (Nat.le_of_eq g51.symm)
  have n0_b51 : n0 ≤ b51 := Nat.le_trans Z0 sz_b51
  have K51 := K50.ext E51
  have V_b51 : Arv Z h51 b51 k51 .int (16 : Int32) [(.int (0 : Int32)), (.int (0 : Int32)), (.int (0 : Int32)), (.int (0 : Int32)), (.int (0 : Int32)), (.int (0 : Int32)), (.int (0 : Int32)), (.int (0 : Int32)), (.int (0 : Int32)), (.int (0 : Int32)), (.int (0 : Int32)), (.int (0 : Int32)), (.int (0 : Int32)), (.int (0 : Int32)), (.int (0 : Int32)), (.int (0 : Int32))] (.int (0 : Int32)) := V51
  have f54 := (Fld.ext E51 (Fld.other W50 (Fld.ext E47 hf_starts) (Or.inr (slot_ne (Or.inl (hw _ (List.mem_of_getElem? (i := 14) rfl))) (Or.inl (hw _ (List.mem_of_getElem? (i := 11) rfl))) (by decide) (t := (.array .int)) (t' := (.array .byte)) (by decide) (by decide)))))
  have f55 := (Exa.ext E51 f52)
  refine own_putF X51 hx hZ hown (host := "") (Or.inl (hw _ (List.mem_of_getElem? (i := 13) rfl))) Via.refl e51 f54 f55 (Or.inl (hw _ (List.mem_of_getElem? (i := 14) rfl))) (hw _ (List.mem_of_getElem? (i := 2) rfl)) (ty := (.array .int)) (by decide) rfl rfl (hb hby d1_18) ?_
  intro T56 h56 X56 e56 W56
  have K56 := K51.wr W56 (Or.inl (List.mem_of_getElem? (i := 0) rfl))
  have N56 := Fr.snoc X56 N50 n0_a1
  have Fw56 := Fld.same W56 f54
  refine own_aloadN X56 hx (hb hby d1_21) rfl rfl ?_
  refine own_bipush X56 hx (16 : Int32) (hb hby d1_22) rfl ?_
  refine own_newA X56 hx hZ (hw _ (List.mem_of_getElem? (i := 15) rfl)) e56 (hb hby d1_24) (by decide) 16 (by decide) (by decide) (by decide) (by decide) (ad := "[Z") (by decide) 16 ?_
  intro T57 h57 b57 k57 g57 X57 e57 E57 V57 A57
  have f58 := (Exa.wr W56 f55)
  have ne_a1_b57 : a1 ≠ b57 := Nat.ne_of_lt (Nat.lt_of_lt_of_le f58.lt (Nat.le_of_eq g57.symm))
  have f59 := ((f53.ext E51).other W56 (Ne.symm ne_a1_b47))
  have ne_b47_b57 : b47 ≠ b57 := Nat.ne_of_lt (Nat.lt_of_lt_of_le f59.lt (Nat.le_of_eq g57.symm))
  have f60 := (V_b51.other W56 (Ne.symm ne_a1_b51))
  have ne_b51_b57 : b51 ≠ b57 := Nat.ne_of_lt (Nat.lt_of_lt_of_le f60.lt (Nat.le_of_eq g57.symm))
  have sz_b57 : h0.size ≤ b57 := Nat.le_trans K56.1 (Nat.le_of_eq g57.symm)
  have n0_b57 : n0 ≤ b57 := Nat.le_trans Z0 sz_b57
  have K57 := K56.ext E57
  have V_b57 : Arv Z h57 b57 k57 .boolean (16 : Int32) [(.int (0 : Int32)), (.int (0 : Int32)), (.int (0 : Int32)), (.int (0 : Int32)), (.int (0 : Int32)), (.int (0 : Int32)), (.int (0 : Int32)), (.int (0 : Int32)), (.int (0 : Int32)), (.int (0 : Int32)), (.int (0 : Int32)), (.int (0 : Int32)), (.int (0 : Int32)), (.int (0 : Int32)), (.int (0 : Int32)), (.int (0 : Int32))] (.int (0 : Int32)) := V57
  have f61 := (Fld.ext E57 (Fld.other W56 (Fld.ext E51 (Fld.other W50 (Fld.ext E47 hf_ascii) (Or.inr (slot_ne (Or.inl (hw _ (List.mem_of_getElem? (i := 17) rfl))) (Or.inl (hw _ (List.mem_of_getElem? (i := 11) rfl))) (by decide) (t := (.array .boolean)) (t' := (.array .byte)) (by decide) (by decide))))) (Or.inr (slot_ne (Or.inl (hw _ (List.mem_of_getElem? (i := 17) rfl))) (Or.inl (hw _ (List.mem_of_getElem? (i := 14) rfl))) (by decide) (t := (.array .boolean)) (t' := (.array .int)) (by decide) (by decide)))))
  have f62 := (Exa.ext E57 f58)
  refine own_putF X57 hx hZ hown (host := "") (Or.inl (hw _ (List.mem_of_getElem? (i := 16) rfl))) Via.refl e57 f61 f62 (Or.inl (hw _ (List.mem_of_getElem? (i := 17) rfl))) (hw _ (List.mem_of_getElem? (i := 2) rfl)) (ty := (.array .boolean)) (by decide) rfl rfl (hb hby d1_26) ?_
  intro T63 h63 X63 e63 W63
  have K63 := K57.wr W63 (Or.inl (List.mem_of_getElem? (i := 0) rfl))
  have N63 := Fr.snoc X63 N56 n0_a1
  have Fw63 := Fld.same W63 f61
  refine own_aloadN X63 hx (hb hby d1_29) rfl rfl ?_
  refine own_new X63 hx hZ hown (hw _ (List.mem_of_getElem? (i := 18) rfl)) (hw _ (List.mem_of_getElem? (i := 19) rfl)) (hw _ (List.mem_of_getElem? (i := 20) rfl)) e63 (hb hby d1_30) (by decide) (by decide) ?_
  intro T64 h64 b64 g64 X64 e64 E64 A64 D64
  have f65 := (Exa.wr W63 f62)
  have ne_a1_b64 : a1 ≠ b64 := Nat.ne_of_lt (Nat.lt_of_lt_of_le f65.lt (Nat.le_of_eq g64.symm))
  have f66 := ((f59.ext E57).other W63 (Ne.symm ne_a1_b47))
  have ne_b47_b64 : b47 ≠ b64 := Nat.ne_of_lt (Nat.lt_of_lt_of_le f66.lt (Nat.le_of_eq g64.symm))
  have f67 := ((f60.ext E57).other W63 (Ne.symm ne_a1_b51))
  have ne_b51_b64 : b51 ≠ b64 := Nat.ne_of_lt (Nat.lt_of_lt_of_le f67.lt (Nat.le_of_eq g64.symm))
  have f68 := (V_b57.other W63 (Ne.symm ne_a1_b57))
  have ne_b57_b64 : b57 ≠ b64 := Nat.ne_of_lt (Nat.lt_of_lt_of_le f68.lt (Nat.le_of_eq g64.symm))
  have sz_b64 : h0.size ≤ b64 := Nat.le_trans K63.1 (Nat.le_of_eq g64.symm)
  have n0_b64 : n0 ≤ b64 := Nat.le_trans Z0 sz_b64
  have K64 := K63.ext E64
  have F_this_0_b64 : Fld Z h64 b64 "com/example/termweave/termweave/release/HeldRows$Sort" "this$0" "Lcom/example/termweave/termweave/release/HeldRows;" .null := D64 (Or.inr (hw _ (List.mem_of_getElem? (i := 25) rfl))) (ty := (.object "com/example/termweave/termweave/release/HeldRows")) (by decide)
  have F_leads_b64 : Fld Z h64 b64 "com/example/termweave/termweave/release/HeldRows$Sort" "leads" "[J" .null := D64 (Or.inl (hw _ (List.mem_of_getElem? (i := 29) rfl))) (ty := (.array .long)) (by decide)
  have F_orderWork_b64 : Fld Z h64 b64 "com/example/termweave/termweave/release/HeldRows$Sort" "orderWork" "[I" .null := D64 (Or.inl (hw _ (List.mem_of_getElem? (i := 31) rfl))) (ty := (.array .int)) (by decide)
  have F_leadWork_b64 : Fld Z h64 b64 "com/example/termweave/termweave/release/HeldRows$Sort" "leadWork" "[J" .null := D64 (Or.inl (hw _ (List.mem_of_getElem? (i := 33) rfl))) (ty := (.array .long)) (by decide)
  have F_pending_b64 : Fld Z h64 b64 "com/example/termweave/termweave/release/HeldRows$Sort" "pending" "[I" .null := D64 (Or.inl (hw _ (List.mem_of_getElem? (i := 35) rfl))) (ty := (.array .int)) (by decide)
  refine own_dup X64 hx (hb hby d1_33) rfl ?_
  refine own_aloadN X64 hx (hb hby d1_34) rfl rfl ?_
  refine own_callIR X64 hx hZ (y := my3) rfl hown (hw _ (List.mem_of_getElem? (i := 21) rfl)) (hw _ (List.mem_of_getElem? (i := 22) rfl)) (hw _ (List.mem_of_getElem? (i := 20) rfl)) (hw _ (List.mem_of_getElem? (i := 23) rfl)) (by decide) (rm3 l Z a0 hw [] b64 a1 h64 n0 (Nat.le_trans Z0 K64.1) A64 n0_b64 F_this_0_b64 F_leads_b64 F_orderWork_b64 F_leadWork_b64 F_pending_b64) 2 (by decide) (by decide) e64 (by rw [hml]; rfl) b64 [(.ref a1)] [(.ref b64), (.ref a1)] rfl (lenOf pd_1 rfl) rfl (Nat.le_of_eq rfl) (hb hby d1_35) (by decide) (by decide) ?_
  rintro T69 _ L69 X69 ⟨rfl, N69q, Kc69⟩
  have N69 := Fr.app N63 N69q
  have K69 := K64.trans Kc69 (allS (P := fun x => x ∈ ([a1] : List Addr) ∨ h0.size ≤ x) (Or.inr sz_b64) all0)
  show own_R p e below s _ _ _ T69 (mkF m 38 #[.val (.ref a1), .val (.int cc)] [(.ref b64), (.ref a1)])
  have f70 := ((Fld.ext E64 (Fld.other W63 (Fld.ext E57 (Fld.other W56 (Fld.ext E51 (Fld.other W50 (Fld.ext E47 hf_sort) (Or.inr (slot_ne (Or.inr (hw _ (List.mem_of_getElem? (i := 37) rfl))) (Or.inl (hw _ (List.mem_of_getElem? (i := 11) rfl))) (by decide) (t := (.object "com/example/termweave/termweave/release/HeldRows$Sort")) (t' := (.array .byte)) (by decide) (by decide))))) (Or.inr (slot_ne (Or.inr (hw _ (List.mem_of_getElem? (i := 37) rfl))) (Or.inl (hw _ (List.mem_of_getElem? (i := 14) rfl))) (by decide) (t := (.object "com/example/termweave/termweave/release/HeldRows$Sort")) (t' := (.array .int)) (by decide) (by decide))))) (Or.inr (slot_ne (Or.inr (hw _ (List.mem_of_getElem? (i := 37) rfl))) (Or.inl (hw _ (List.mem_of_getElem? (i := 17) rfl))) (by decide) (t := (.object "com/example/termweave/termweave/release/HeldRows$Sort")) (t' := (.array .boolean)) (by decide) (by decide))))).keep Kc69 (ninS ne_a1_b64 nin0))
  have f71 := (Exa.keep (Exa.ext E64 f65) Kc69)
  refine own_putF X69 hx hZ hown (host := "") (Or.inl (hw _ (List.mem_of_getElem? (i := 36) rfl))) Via.refl rfl f70 f71 (Or.inr ⟨(hw _ (List.mem_of_getElem? (i := 37) rfl)), rfl, hnm⟩) (hw _ (List.mem_of_getElem? (i := 2) rfl)) (ty := (.object "com/example/termweave/termweave/release/HeldRows$Sort")) (by decide) rfl rfl (hb hby d1_38) ?_
  intro T72 h72 X72 e72 W72
  have K72 := K69.wr W72 (Or.inl (List.mem_of_getElem? (i := 0) rfl))
  have N72 := Fr.snoc X72 N69 n0_a1
  have Fw72 := Fld.same W72 f70
  refine own_aloadN X72 hx (hb hby d1_41) rfl rfl ?_
  refine own_iloadN X72 hx (hb hby d1_42) rfl ?_
  have f73 := (Fld.other W72 ((Fld.ext E64 (Fld.other W63 (Fld.ext E57 (Fld.other W56 (Fld.ext E51 (Fld.other W50 (Fld.ext E47 hf_columns) (Or.inr (slot_ne (Or.inr (hw _ (List.mem_of_getElem? (i := 39) rfl))) (Or.inl (hw _ (List.mem_of_getElem? (i := 11) rfl))) (by decide) (t := .int) (t' := (.array .byte)) (by decide) (by decide))))) (Or.inr (slot_ne (Or.inr (hw _ (List.mem_of_getElem? (i := 39) rfl))) (Or.inl (hw _ (List.mem_of_getElem? (i := 14) rfl))) (by decide) (t := .int) (t' := (.array .int)) (by decide) (by decide))))) (Or.inr (slot_ne (Or.inr (hw _ (List.mem_of_getElem? (i := 39) rfl))) (Or.inl (hw _ (List.mem_of_getElem? (i := 17) rfl))) (by decide) (t := .int) (t' := (.array .boolean)) (by decide) (by decide))))).keep Kc69 (ninS ne_a1_b64 nin0)) (Or.inr (slot_ne (Or.inr (hw _ (List.mem_of_getElem? (i := 39) rfl))) (Or.inr (hw _ (List.mem_of_getElem? (i := 37) rfl))) (by decide) (t := .int) (t' := (.object "com/example/termweave/termweave/release/HeldRows$Sort")) (by decide) (by decide))))
  have f74 := (Exa.wr W72 f71)
  refine own_putF X72 hx hZ hown (host := "") (Or.inl (hw _ (List.mem_of_getElem? (i := 38) rfl))) Via.refl e72 f73 f74 (Or.inr ⟨(hw _ (List.mem_of_getElem? (i := 39) rfl)), rfl, hnm⟩) (hw _ (List.mem_of_getElem? (i := 2) rfl)) (ty := .int) (by decide) rfl rfl (hb hby d1_43) ?_
  intro T75 h75 X75 e75 W75
  have K75 := K72.wr W75 (Or.inl (List.mem_of_getElem? (i := 0) rfl))
  have N75 := Fr.snoc X75 N72 n0_a1
  have Fw75 := Fld.same W75 f73
  refine own_aloadN X75 hx (hb hby d1_46) rfl rfl ?_
  refine own_aloadN X75 hx (hb hby d1_47) rfl rfl ?_
  have f76 := (Fld.other W75 (Fld.other W72 ((Fld.ext E64 (Fld.other W63 (Fld.ext E57 Fw56) (Or.inr (slot_ne (Or.inl (hw _ (List.mem_of_getElem? (i := 14) rfl))) (Or.inl (hw _ (List.mem_of_getElem? (i := 17) rfl))) (by decide) (t := (.array .int)) (t' := (.array .boolean)) (by decide) (by decide))))).keep Kc69 (ninS ne_a1_b64 nin0)) (Or.inr (slot_ne (Or.inl (hw _ (List.mem_of_getElem? (i := 14) rfl))) (Or.inr (hw _ (List.mem_of_getElem? (i := 37) rfl))) (by decide) (t := (.array .int)) (t' := (.object "com/example/termweave/termweave/release/HeldRows$Sort")) (by decide) (by decide)))) (Or.inr (slot_ne (Or.inl (hw _ (List.mem_of_getElem? (i := 14) rfl))) (Or.inr (hw _ (List.mem_of_getElem? (i := 39) rfl))) (by decide) (t := (.array .int)) (t' := .int) (by decide) (by decide))))
  refine own_getF X75 hx hZ hown (host := "") (Or.inl (hw _ (List.mem_of_getElem? (i := 13) rfl))) Via.refl e75 f76 (hb hby d1_48) ?_
  intro T77 X77 e77
  have f78 := ((((f67.ext E64).keep Kc69 (ninS ne_b51_b64 nin0)).other W72 (Ne.symm ne_a1_b51)).other W75 (Ne.symm ne_a1_b51))
  refine own_len X77 hx hZ e77 f78 (hb hby d1_51) ?_
  refine own_iloadN X77 hx (hb hby d1_52) rfl ?_
  refine own_imul X77 hx (hb hby d1_53) ?_
  refine own_newA X77 hx hZ (hw _ (List.mem_of_getElem? (i := 12) rfl)) e77 (hb hby d1_54) (pl_neg16 cc hc) 64 (pl_cap16 cc hc) (by decide) (by decide) (by decide) (ad := "[I") (by decide) ((16 : Int32) * cc).toNatClampNeg ?_
  intro T79 h79 b79 k79 g79 X79 e79 E79 V79 A79
  have f80 := (Exa.wr W75 f74)
  have ne_a1_b79 : a1 ≠ b79 := Nat.ne_of_lt (Nat.lt_of_lt_of_le f80.lt (Nat.le_of_eq g79.symm))
  have f81 := ((((f66.ext E64).keep Kc69 (ninS ne_b47_b64 nin0)).other W72 (Ne.symm ne_a1_b47)).other W75 (Ne.symm ne_a1_b47))
  have ne_b47_b79 : b47 ≠ b79 := Nat.ne_of_lt (Nat.lt_of_lt_of_le f81.lt (Nat.le_of_eq g79.symm))
  have ne_b51_b79 : b51 ≠ b79 := Nat.ne_of_lt (Nat.lt_of_lt_of_le f78.lt (Nat.le_of_eq g79.symm))
  have f82 := ((((f68.ext E64).keep Kc69 (ninS ne_b57_b64 nin0)).other W72 (Ne.symm ne_a1_b57)).other W75 (Ne.symm ne_a1_b57))
  have ne_b57_b79 : b57 ≠ b79 := Nat.ne_of_lt (Nat.lt_of_lt_of_le f82.lt (Nat.le_of_eq g79.symm))
  have f83 := (Exa.wr W75 (Exa.wr W72 (Exa.keep A64 Kc69)))
  have ne_b64_b79 : b64 ≠ b79 := Nat.ne_of_lt (Nat.lt_of_lt_of_le f83.lt (Nat.le_of_eq g79.symm))
  have sz_b79 : h0.size ≤ b79 := Nat.le_trans K75.1 (Nat.le_of_eq g79.symm)
  have n0_b79 : n0 ≤ b79 := Nat.le_trans Z0 sz_b79
  have K79 := K75.ext E79
  have V_b79 : Arv Z h79 b79 k79 .int ((16 : Int32) * cc) (List.replicate ((16 : Int32) * cc).toNatClampNeg (.int (0 : Int32))) (.int (0 : Int32)) := V79
  have f84 := (Fld.ext E79 (Fld.other W75 (Fld.other W72 ((Fld.ext E64 (Fld.other W63 (Fld.ext E57 (Fld.other W56 (Fld.ext E51 (Fld.other W50 (Fld.ext E47 hf_fieldEnds) (Or.inr (slot_ne (Or.inl (hw _ (List.mem_of_getElem? (i := 41) rfl))) (Or.inl (hw _ (List.mem_of_getElem? (i := 11) rfl))) (by decide) (t := (.array .int)) (t' := (.array .byte)) (by decide) (by decide))))) (Or.inr (slot_ne (Or.inl (hw _ (List.mem_of_getElem? (i := 41) rfl))) (Or.inl (hw _ (List.mem_of_getElem? (i := 14) rfl))) (by decide) (t := (.array .int)) (t' := (.array .int)) (by decide) (by decide))))) (Or.inr (slot_ne (Or.inl (hw _ (List.mem_of_getElem? (i := 41) rfl))) (Or.inl (hw _ (List.mem_of_getElem? (i := 17) rfl))) (by decide) (t := (.array .int)) (t' := (.array .boolean)) (by decide) (by decide))))).keep Kc69 (ninS ne_a1_b64 nin0)) (Or.inr (slot_ne (Or.inl (hw _ (List.mem_of_getElem? (i := 41) rfl))) (Or.inr (hw _ (List.mem_of_getElem? (i := 37) rfl))) (by decide) (t := (.array .int)) (t' := (.object "com/example/termweave/termweave/release/HeldRows$Sort")) (by decide) (by decide)))) (Or.inr (slot_ne (Or.inl (hw _ (List.mem_of_getElem? (i := 41) rfl))) (Or.inr (hw _ (List.mem_of_getElem? (i := 39) rfl))) (by decide) (t := (.array .int)) (t' := .int) (by decide) (by decide)))))
  have f85 := (Exa.ext E79 f80)
  refine own_putF X79 hx hZ hown (host := "") (Or.inl (hw _ (List.mem_of_getElem? (i := 40) rfl))) Via.refl e79 f84 f85 (Or.inl (hw _ (List.mem_of_getElem? (i := 41) rfl))) (hw _ (List.mem_of_getElem? (i := 2) rfl)) (ty := (.array .int)) (by decide) rfl rfl (hb hby d1_56) ?_
  intro T86 h86 X86 e86 W86
  have K86 := K79.wr W86 (Or.inl (List.mem_of_getElem? (i := 0) rfl))
  have N86 := Fr.snoc X86 N75 n0_a1
  have Fw86 := Fld.same W86 f84
  refine own_aloadN X86 hx (hb hby d1_59) rfl rfl ?_
  refine own_new X86 hx hZ hown (hw _ (List.mem_of_getElem? (i := 42) rfl)) (hw _ (List.mem_of_getElem? (i := 43) rfl)) (hw _ (List.mem_of_getElem? (i := 44) rfl)) e86 (hb hby d1_60) (by decide) (by decide) ?_
  intro T87 h87 b87 g87 X87 e87 E87 A87 D87
  have f88 := (Exa.wr W86 f85)
  have ne_a1_b87 : a1 ≠ b87 := Nat.ne_of_lt (Nat.lt_of_lt_of_le f88.lt (Nat.le_of_eq g87.symm))
  have f89 := ((f81.ext E79).other W86 (Ne.symm ne_a1_b47))
  have ne_b47_b87 : b47 ≠ b87 := Nat.ne_of_lt (Nat.lt_of_lt_of_le f89.lt (Nat.le_of_eq g87.symm))
  have f90 := ((f78.ext E79).other W86 (Ne.symm ne_a1_b51))
  have ne_b51_b87 : b51 ≠ b87 := Nat.ne_of_lt (Nat.lt_of_lt_of_le f90.lt (Nat.le_of_eq g87.symm))
  have f91 := ((f82.ext E79).other W86 (Ne.symm ne_a1_b57))
  have ne_b57_b87 : b57 ≠ b87 := Nat.ne_of_lt (Nat.lt_of_lt_of_le f91.lt (Nat.le_of_eq g87.symm))
  have f92 := (Exa.wr W86 (Exa.ext E79 f83))
  have ne_b64_b87 : b64 ≠ b87 := Nat.ne_of_lt (Nat.lt_of_lt_of_le f92.lt (Nat.le_of_eq g87.symm))
  have f93 := (V_b79.other W86 (Ne.symm ne_a1_b79))
  have ne_b79_b87 : b79 ≠ b87 := Nat.ne_of_lt (Nat.lt_of_lt_of_le f93.lt (Nat.le_of_eq g87.symm))
  have sz_b87 : h0.size ≤ b87 := Nat.le_trans K86.1 (Nat.le_of_eq g87.symm)
  have n0_b87 : n0 ≤ b87 := Nat.le_trans Z0 sz_b87
  have K87 := K86.ext E87
  have F_rowEnd_b87 : Fld Z h87 b87 "com/example/termweave/termweave/release/RrfRow" "rowEnd" "I" (.int (0 : Int32)) := D87 (Or.inl (hw _ (List.mem_of_getElem? (i := 55) rfl))) (ty := .int) (by decide)
  have F_bytes_b87 : Fld Z h87 b87 "com/example/termweave/termweave/release/RrfRow" "bytes" "[B" .null := D87 (Or.inl (hw _ (List.mem_of_getElem? (i := 57) rfl))) (ty := (.array .byte)) (by decide)
  have F_fieldEnds_b87 : Fld Z h87 b87 "com/example/termweave/termweave/release/RrfRow" "fieldEnds" "[I" .null := D87 (Or.inr (hw _ (List.mem_of_getElem? (i := 59) rfl))) (ty := (.array .int)) (by decide)
  have F_rowStart_b87 : Fld Z h87 b87 "com/example/termweave/termweave/release/RrfRow" "rowStart" "I" (.int (0 : Int32)) := D87 (Or.inl (hw _ (List.mem_of_getElem? (i := 71) rfl))) (ty := .int) (by decide)
  have F_ascii_b87 : Fld Z h87 b87 "com/example/termweave/termweave/release/RrfRow" "ascii" "Z" (.int (0 : Int32)) := D87 (Or.inl (hw _ (List.mem_of_getElem? (i := 90) rfl))) (ty := .boolean) (by decide)
  refine own_dup X87 hx (hb hby d1_63) rfl ?_
  refine own_iloadN X87 hx (hb hby d1_64) rfl ?_
  refine own_callI X87 hx hZ (y := my4) rfl hown (hw _ (List.mem_of_getElem? (i := 45) rfl)) (hw _ (List.mem_of_getElem? (i := 46) rfl)) (hw _ (List.mem_of_getElem? (i := 44) rfl)) (hw _ (List.mem_of_getElem? (i := 47) rfl)) (by decide) (rm4 l Z a0 hw [] b87 cc h87 n0 (Nat.le_trans Z0 K87.1) hc A87 n0_b87 F_rowEnd_b87 F_bytes_b87 F_fieldEnds_b87 F_rowStart_b87 F_ascii_b87) 2 (by decide) (by decide) e87 (by rw [hml]; rfl) b87 [(.int cc)] [(.ref b87), (.ref a1)] rfl (lenOf pd_2 rfl) rfl (Nat.le_of_eq rfl) (hb hby d1_65) (by decide) (by decide) ?_
  rintro T94 _ L94 X94 ⟨rfl, N94q, Kc94, Ec94, F94_rowEnd, F94_bytes, F94_rowStart, F94_ascii, ye94, ke94, nc94, Fe94, Ve94⟩
  have N94 := Fr.app N86 N94q
  have K94 := K87.trans Kc94 (allS (P := fun x => x ∈ ([a1] : List Addr) ∨ h0.size ≤ x) (Or.inr sz_b87) all0)
  show own_R p e below s _ _ _ T94 (mkF m 68 #[.val (.ref a1), .val (.int cc)] [(.ref b87), (.ref a1)])
  have sz_ye94 : h0.size ≤ ye94 := Nat.le_trans K87.1 nc94
  have n0_ye94 : n0 ≤ ye94 := Nat.le_trans Z0 sz_ye94
  have ne_a1_ye94 : a1 ≠ ye94 := Nat.ne_of_lt (Nat.lt_of_lt_of_le (Exa.ext E87 f88).lt nc94)
  have ne_b47_ye94 : b47 ≠ ye94 := Nat.ne_of_lt (Nat.lt_of_lt_of_le (f89.ext E87).lt nc94)
  have ne_b51_ye94 : b51 ≠ ye94 := Nat.ne_of_lt (Nat.lt_of_lt_of_le (f90.ext E87).lt nc94)
  have ne_b57_ye94 : b57 ≠ ye94 := Nat.ne_of_lt (Nat.lt_of_lt_of_le (f91.ext E87).lt nc94)
  have ne_b64_ye94 : b64 ≠ ye94 := Nat.ne_of_lt (Nat.lt_of_lt_of_le (Exa.ext E87 f92).lt nc94)
  have ne_b79_ye94 : b79 ≠ ye94 := Nat.ne_of_lt (Nat.lt_of_lt_of_le (f93.ext E87).lt nc94)
  have ne_b87_ye94 : b87 ≠ ye94 := (Exa.neArv Ec94 Ve94 (hw _ (List.mem_of_getElem? (i := 43) rfl)))
  have f95 := ((Fld.ext E87 (Fld.other W86 (Fld.ext E79 (Fld.other W75 (Fld.other W72 ((Fld.ext E64 (Fld.other W63 (Fld.ext E57 (Fld.other W56 (Fld.ext E51 (Fld.other W50 (Fld.ext E47 hf_view) (Or.inr (slot_ne (Or.inr (hw _ (List.mem_of_getElem? (i := 61) rfl))) (Or.inl (hw _ (List.mem_of_getElem? (i := 11) rfl))) (by decide) (t := (.object "com/example/termweave/termweave/release/HeldRows$View")) (t' := (.array .byte)) (by decide) (by decide))))) (Or.inr (slot_ne (Or.inr (hw _ (List.mem_of_getElem? (i := 61) rfl))) (Or.inl (hw _ (List.mem_of_getElem? (i := 14) rfl))) (by decide) (t := (.object "com/example/termweave/termweave/release/HeldRows$View")) (t' := (.array .int)) (by decide) (by decide))))) (Or.inr (slot_ne (Or.inr (hw _ (List.mem_of_getElem? (i := 61) rfl))) (Or.inl (hw _ (List.mem_of_getElem? (i := 17) rfl))) (by decide) (t := (.object "com/example/termweave/termweave/release/HeldRows$View")) (t' := (.array .boolean)) (by decide) (by decide))))).keep Kc69 (ninS ne_a1_b64 nin0)) (Or.inr (slot_ne (Or.inr (hw _ (List.mem_of_getElem? (i := 61) rfl))) (Or.inr (hw _ (List.mem_of_getElem? (i := 37) rfl))) (by decide) (t := (.object "com/example/termweave/termweave/release/HeldRows$View")) (t' := (.object "com/example/termweave/termweave/release/HeldRows$Sort")) (by decide) (by decide)))) (Or.inr (slot_ne (Or.inr (hw _ (List.mem_of_getElem? (i := 61) rfl))) (Or.inr (hw _ (List.mem_of_getElem? (i := 39) rfl))) (by decide) (t := (.object "com/example/termweave/termweave/release/HeldRows$View")) (t' := .int) (by decide) (by decide))))) (Or.inr (slot_ne (Or.inr (hw _ (List.mem_of_getElem? (i := 61) rfl))) (Or.inl (hw _ (List.mem_of_getElem? (i := 41) rfl))) (by decide) (t := (.object "com/example/termweave/termweave/release/HeldRows$View")) (t' := (.array .int)) (by decide) (by decide))))).keep Kc94 (ninS ne_a1_b87 nin0))
  have f96 := (Exa.keep (Exa.ext E87 f88) Kc94)
  refine own_putF X94 hx hZ hown (host := "") (Or.inl (hw _ (List.mem_of_getElem? (i := 60) rfl))) Via.refl rfl f95 f96 (Or.inr ⟨(hw _ (List.mem_of_getElem? (i := 61) rfl)), rfl, hnm⟩) (hw _ (List.mem_of_getElem? (i := 2) rfl)) (ty := (.object "com/example/termweave/termweave/release/HeldRows$View")) (by decide) rfl rfl (hb hby d1_68) ?_
  intro T97 h97 X97 e97 W97
  have K97 := K94.wr W97 (Or.inl (List.mem_of_getElem? (i := 0) rfl))
  have N97 := Fr.snoc X97 N94 n0_a1
  have Fw97 := Fld.same W97 f95
  have f98 := (Exa.wr W97 f96)
  have f99 := (Fld.other W97 ((Fld.ext E87 (Fld.other W86 (Fld.ext E79 (Fld.other W75 (Fld.other W72 ((Fld.ext E64 (Fld.other W63 (Fld.ext E57 (Fld.other W56 (Fld.ext E51 Fw50) (Or.inr (slot_ne (Or.inl (hw _ (List.mem_of_getElem? (i := 11) rfl))) (Or.inl (hw _ (List.mem_of_getElem? (i := 14) rfl))) (by decide) (t := (.array .byte)) (t' := (.array .int)) (by decide) (by decide))))) (Or.inr (slot_ne (Or.inl (hw _ (List.mem_of_getElem? (i := 11) rfl))) (Or.inl (hw _ (List.mem_of_getElem? (i := 17) rfl))) (by decide) (t := (.array .byte)) (t' := (.array .boolean)) (by decide) (by decide))))).keep Kc69 (ninS ne_a1_b64 nin0)) (Or.inr (slot_ne (Or.inl (hw _ (List.mem_of_getElem? (i := 11) rfl))) (Or.inr (hw _ (List.mem_of_getElem? (i := 37) rfl))) (by decide) (t := (.array .byte)) (t' := (.object "com/example/termweave/termweave/release/HeldRows$Sort")) (by decide) (by decide)))) (Or.inr (slot_ne (Or.inl (hw _ (List.mem_of_getElem? (i := 11) rfl))) (Or.inr (hw _ (List.mem_of_getElem? (i := 39) rfl))) (by decide) (t := (.array .byte)) (t' := .int) (by decide) (by decide))))) (Or.inr (slot_ne (Or.inl (hw _ (List.mem_of_getElem? (i := 11) rfl))) (Or.inl (hw _ (List.mem_of_getElem? (i := 41) rfl))) (by decide) (t := (.array .byte)) (t' := (.array .int)) (by decide) (by decide))))).keep Kc94 (ninS ne_a1_b87 nin0)) (Or.inr (slot_ne (Or.inl (hw _ (List.mem_of_getElem? (i := 11) rfl))) (Or.inr (hw _ (List.mem_of_getElem? (i := 61) rfl))) (by decide) (t := (.array .byte)) (t' := (.object "com/example/termweave/termweave/release/HeldRows$View")) (by decide) (by decide))))
  have f100 := (Fld.other W97 ((Fld.ext E87 (Fld.other W86 (Fld.ext E79 f76) (Or.inr (slot_ne (Or.inl (hw _ (List.mem_of_getElem? (i := 14) rfl))) (Or.inl (hw _ (List.mem_of_getElem? (i := 41) rfl))) (by decide) (t := (.array .int)) (t' := (.array .int)) (by decide) (by decide))))).keep Kc94 (ninS ne_a1_b87 nin0)) (Or.inr (slot_ne (Or.inl (hw _ (List.mem_of_getElem? (i := 14) rfl))) (Or.inr (hw _ (List.mem_of_getElem? (i := 61) rfl))) (by decide) (t := (.array .int)) (t' := (.object "com/example/termweave/termweave/release/HeldRows$View")) (by decide) (by decide))))
  have f101 := (Fld.other W97 ((Fld.ext E87 (Fld.other W86 (Fld.ext E79 (Fld.other W75 (Fld.other W72 ((Fld.ext E64 Fw63).keep Kc69 (ninS ne_a1_b64 nin0)) (Or.inr (slot_ne (Or.inl (hw _ (List.mem_of_getElem? (i := 17) rfl))) (Or.inr (hw _ (List.mem_of_getElem? (i := 37) rfl))) (by decide) (t := (.array .boolean)) (t' := (.object "com/example/termweave/termweave/release/HeldRows$Sort")) (by decide) (by decide)))) (Or.inr (slot_ne (Or.inl (hw _ (List.mem_of_getElem? (i := 17) rfl))) (Or.inr (hw _ (List.mem_of_getElem? (i := 39) rfl))) (by decide) (t := (.array .boolean)) (t' := .int) (by decide) (by decide))))) (Or.inr (slot_ne (Or.inl (hw _ (List.mem_of_getElem? (i := 17) rfl))) (Or.inl (hw _ (List.mem_of_getElem? (i := 41) rfl))) (by decide) (t := (.array .boolean)) (t' := (.array .int)) (by decide) (by decide))))).keep Kc94 (ninS ne_a1_b87 nin0)) (Or.inr (slot_ne (Or.inl (hw _ (List.mem_of_getElem? (i := 17) rfl))) (Or.inr (hw _ (List.mem_of_getElem? (i := 61) rfl))) (by decide) (t := (.array .boolean)) (t' := (.object "com/example/termweave/termweave/release/HeldRows$View")) (by decide) (by decide))))
  have f102 := (Fld.other W97 ((Fld.ext E87 (Fld.other W86 (Fld.ext E79 Fw75) (Or.inr (slot_ne (Or.inr (hw _ (List.mem_of_getElem? (i := 39) rfl))) (Or.inl (hw _ (List.mem_of_getElem? (i := 41) rfl))) (by decide) (t := .int) (t' := (.array .int)) (by decide) (by decide))))).keep Kc94 (ninS ne_a1_b87 nin0)) (Or.inr (slot_ne (Or.inr (hw _ (List.mem_of_getElem? (i := 39) rfl))) (Or.inr (hw _ (List.mem_of_getElem? (i := 61) rfl))) (by decide) (t := .int) (t' := (.object "com/example/termweave/termweave/release/HeldRows$View")) (by decide) (by decide))))
  have f103 := (Fld.other W97 ((Fld.ext E87 Fw86).keep Kc94 (ninS ne_a1_b87 nin0)) (Or.inr (slot_ne (Or.inl (hw _ (List.mem_of_getElem? (i := 41) rfl))) (Or.inr (hw _ (List.mem_of_getElem? (i := 61) rfl))) (by decide) (t := (.array .int)) (t' := (.object "com/example/termweave/termweave/release/HeldRows$View")) (by decide) (by decide))))
  have f104 := (Fld.other W97 ((Fld.ext E87 (Fld.other W86 (Fld.ext E79 (Fld.other W75 (Fld.other W72 ((Fld.ext E64 (Fld.other W63 (Fld.ext E57 (Fld.other W56 (Fld.ext E51 (Fld.other W50 (Fld.ext E47 hf_size) (Or.inr (slot_ne (Or.inl (hw _ (List.mem_of_getElem? (i := 77) rfl))) (Or.inl (hw _ (List.mem_of_getElem? (i := 11) rfl))) (by decide) (t := .int) (t' := (.array .byte)) (by decide) (by decide))))) (Or.inr (slot_ne (Or.inl (hw _ (List.mem_of_getElem? (i := 77) rfl))) (Or.inl (hw _ (List.mem_of_getElem? (i := 14) rfl))) (by decide) (t := .int) (t' := (.array .int)) (by decide) (by decide))))) (Or.inr (slot_ne (Or.inl (hw _ (List.mem_of_getElem? (i := 77) rfl))) (Or.inl (hw _ (List.mem_of_getElem? (i := 17) rfl))) (by decide) (t := .int) (t' := (.array .boolean)) (by decide) (by decide))))).keep Kc69 (ninS ne_a1_b64 nin0)) (Or.inr (slot_ne (Or.inl (hw _ (List.mem_of_getElem? (i := 77) rfl))) (Or.inr (hw _ (List.mem_of_getElem? (i := 37) rfl))) (by decide) (t := .int) (t' := (.object "com/example/termweave/termweave/release/HeldRows$Sort")) (by decide) (by decide)))) (Or.inr (slot_ne (Or.inl (hw _ (List.mem_of_getElem? (i := 77) rfl))) (Or.inr (hw _ (List.mem_of_getElem? (i := 39) rfl))) (by decide) (t := .int) (t' := .int) (by decide) (by decide))))) (Or.inr (slot_ne (Or.inl (hw _ (List.mem_of_getElem? (i := 77) rfl))) (Or.inl (hw _ (List.mem_of_getElem? (i := 41) rfl))) (by decide) (t := .int) (t' := (.array .int)) (by decide) (by decide))))).keep Kc94 (ninS ne_a1_b87 nin0)) (Or.inr (slot_ne (Or.inl (hw _ (List.mem_of_getElem? (i := 77) rfl))) (Or.inr (hw _ (List.mem_of_getElem? (i := 61) rfl))) (by decide) (t := .int) (t' := (.object "com/example/termweave/termweave/release/HeldRows$View")) (by decide) (by decide))))
  have f105 := (Fld.other W97 ((Fld.ext E87 (Fld.other W86 (Fld.ext E79 (Fld.other W75 (Fld.other W72 ((Fld.ext E64 (Fld.other W63 (Fld.ext E57 (Fld.other W56 (Fld.ext E51 (Fld.other W50 (Fld.ext E47 hf_length) (Or.inr (slot_ne (Or.inl (hw _ (List.mem_of_getElem? (i := 79) rfl))) (Or.inl (hw _ (List.mem_of_getElem? (i := 11) rfl))) (by decide) (t := .int) (t' := (.array .byte)) (by decide) (by decide))))) (Or.inr (slot_ne (Or.inl (hw _ (List.mem_of_getElem? (i := 79) rfl))) (Or.inl (hw _ (List.mem_of_getElem? (i := 14) rfl))) (by decide) (t := .int) (t' := (.array .int)) (by decide) (by decide))))) (Or.inr (slot_ne (Or.inl (hw _ (List.mem_of_getElem? (i := 79) rfl))) (Or.inl (hw _ (List.mem_of_getElem? (i := 17) rfl))) (by decide) (t := .int) (t' := (.array .boolean)) (by decide) (by decide))))).keep Kc69 (ninS ne_a1_b64 nin0)) (Or.inr (slot_ne (Or.inl (hw _ (List.mem_of_getElem? (i := 79) rfl))) (Or.inr (hw _ (List.mem_of_getElem? (i := 37) rfl))) (by decide) (t := .int) (t' := (.object "com/example/termweave/termweave/release/HeldRows$Sort")) (by decide) (by decide)))) (Or.inr (slot_ne (Or.inl (hw _ (List.mem_of_getElem? (i := 79) rfl))) (Or.inr (hw _ (List.mem_of_getElem? (i := 39) rfl))) (by decide) (t := .int) (t' := .int) (by decide) (by decide))))) (Or.inr (slot_ne (Or.inl (hw _ (List.mem_of_getElem? (i := 79) rfl))) (Or.inl (hw _ (List.mem_of_getElem? (i := 41) rfl))) (by decide) (t := .int) (t' := (.array .int)) (by decide) (by decide))))).keep Kc94 (ninS ne_a1_b87 nin0)) (Or.inr (slot_ne (Or.inl (hw _ (List.mem_of_getElem? (i := 79) rfl))) (Or.inr (hw _ (List.mem_of_getElem? (i := 61) rfl))) (by decide) (t := .int) (t' := (.object "com/example/termweave/termweave/release/HeldRows$View")) (by decide) (by decide))))
  have f106 := (Exa.wr W97 Ec94)
  have f107 := (Fld.other W97 F94_rowEnd (Or.inl (Ne.symm ne_a1_b87)))
  have f108 := (Fld.other W97 F94_bytes (Or.inl (Ne.symm ne_a1_b87)))
  have f109 := (Fld.other W97 F94_rowStart (Or.inl (Ne.symm ne_a1_b87)))
  have f110 := (Fld.other W97 F94_ascii (Or.inl (Ne.symm ne_a1_b87)))
  have f111 := (Fld.other W97 Fe94 (Or.inl (Ne.symm ne_a1_b87)))
  have f112 := (((f89.ext E87).keep Kc94 (ninS ne_b47_b87 nin0)).other W97 (Ne.symm ne_a1_b47))
  have f113 := (((f90.ext E87).keep Kc94 (ninS ne_b51_b87 nin0)).other W97 (Ne.symm ne_a1_b51))
  have f114 := (((f91.ext E87).keep Kc94 (ninS ne_b57_b87 nin0)).other W97 (Ne.symm ne_a1_b57))
  have f115 := (((f93.ext E87).keep Kc94 (ninS ne_b79_b87 nin0)).other W97 (Ne.symm ne_a1_b79))
  have f116 := (Ve94.other W97 (Ne.symm ne_a1_ye94))
  refine own_ret0 X97 hx Bd.returns hlk (hb hby d1_71) ?_ (by decide) (by decide)
  rw [e97]
  exact ⟨rfl, N97, K97, b47, b51, b57, b79, b87, ye94, _, _, _, _, _, sz_b47, sz_b51, sz_b57, sz_b79, sz_b87, sz_ye94, f98, f99, f100, f101, f102, f103, Fw97, f104, f105, f106, f107, f108, f109, f110, f111, f112, f113, f114, f115, f116, ne_b51_b79, ne_b51_ye94, ne_b79_ye94⟩
theorem pn_7 : plainFor (⟨"com/example/termweave/termweave/release/HeldRows", "lineFeed", "(I)I"⟩ : MethodName) = true := by decide +kernel
theorem ef_7 (m : MethodId) (a1 : Addr) : entryFrame m #[(.ref a1), (.int (0 : Int32))] 2 = mkF m 0 #[.val (.ref a1), .val (.int (0 : Int32))] [] := by first | (simp [entryFrame, mkF, argsToLocals, Value.category]; done) | rfl
def Q7 (Z : State) (a1 : Addr) (h0 : Heap) (n0 : Nat) (v : Option Value) (h : Heap) (L : List Loc) : Prop := v = some (.int (-1 : Int32)) ∧ Fr n0 L ∧ h = h0
set_option maxRecDepth 65536 in
set_option maxHeartbeats 40000000 in
theorem rm7 (l : Launch) (Z : State) (a0 : Array Value) (hw : ∀ d ∈ tables_1, d.before a0 Z = true) (ws : List Jvm.Cond) (a1 : Addr) (h0 : Heap) (n0 : Nat) (Z0 : n0 ≤ h0.size) (hs : Fld Z h0 a1 cH "size" "I" o0) (hl : Fld Z h0 a1 cH "length" "I" o0) :
    MetFree l (⟨"com/example/termweave/termweave/release/HeldRows", "lineFeed", "(I)I"⟩ : MethodName) (head1 (Jvm.Cond.code (⟨"com/example/termweave/termweave/release/HeldRows", "lineFeed", "(I)I"⟩ : MethodName) prog_30_method_15_code 2 (some .int) :: ws) ({ frames := 0, cells := 0, slots := 0, locals := 0 } : Room)) (fun a U => a = #[(.ref a1), (.int (0 : Int32))] ∧ Z.Warmed39 U.vm ∧ U.heap = h0) (fun _ _ _ _ _ => True) (fun _ U o U' => ∃ v L, o = .returned v ∧ Q7 Z a1 h0 n0 v U'.heap L ∧ FrameEnd U o U' L ({ frames := 0, cells := 0, slots := 0, locals := 0 } : Room).cells ({ frames := 0, cells := 0, slots := 0, locals := 0 } : Room).slots) := by
  refine MetFree.of_bodySF pn_7 hisR ?_
  intro p e s m args below meth c s₁ Bd hml0 hP hK
  obtain ⟨rfl, hZ, hh⟩ := hP
  have hx := Bd.exec
  have hby := Bd.bytes
  have hml : c.maxLocals = 2 := hml0
  have hown : s.vm.findClass "com/example/termweave/termweave/release/HeldRows" = some m.cls := findClass_of_methodNamed Bd.named
  have hnm := (name_of_methodNamed Bd.named Bd.method).1
  have hlk := BodyLoose.notSynchronized Bd
  have X0 : Stand p l e ({ frames := 0, cells := 0, slots := 0, locals := 0 } : Room) s m #[(.ref a1), (.int (0 : Int32))] below meth c s₁ [] 0 0 := Stand.of_body Bd
  have e0 : s₁.heap = h0 := by rw [← hh, Bd.state]; rfl
  have N0 := Fr.nil n0
  show own_R p e below s (Q7 Z a1 h0 n0) ({ frames := 0, cells := 0, slots := 0, locals := 0 } : Room).cells ({ frames := 0, cells := 0, slots := 0, locals := 0 } : Room).slots s₁ (entryFrame m #[(.ref a1), (.int (0 : Int32))] 2)
  refine own_cast (ef_7 m a1) ?_
  show own_R p e below s _ _ _ s₁ (mkF m 0 #[.val (.ref a1), .val (.int (0 : Int32))] [])
  have K0 := Keep.refl h0 ([] : List Addr)
  refine own_iloadN X0 hx (hb hby d7_0) rfl ?_
  refine own_iconst X0 hx (1 : Int32) (hb hby d7_1) rfl ?_
  refine own_iadd X0 hx (hb hby d7_2) ?_
  refine own_aloadN X0 hx (hb hby d7_3) rfl rfl ?_
  refine own_getF X0 hx hZ hown (host := "") (Or.inl (hw _ (List.mem_of_getElem? (i := 76) rfl))) Via.refl e0 hs (hb hby d7_4) ?_
  intro T117 X117 e117
  refine own_icmp X117 hx (hb hby d7_7) (pc' := 21) (by decide) (by decide) (fun hc => ?_) (fun hc => ?_)
  · have hc7 : ¬ (1 : Int32) < (0 : Int32) := own_ge1 hc
    clear hc
    refine own_aloadN X117 hx (hb hby d7_21) rfl rfl ?_
    refine own_getF X117 hx hZ hown (host := "") (Or.inl (hw _ (List.mem_of_getElem? (i := 78) rfl))) Via.refl e117 hl (hb hby d7_22) ?_
    intro T118 X118 e118
    refine own_iconst X118 hx (1 : Int32) (hb hby d7_25) rfl ?_
    refine own_isub X118 hx (hb hby d7_26) ?_
    refine own_retI X118 hx Bd.returns hlk (hb hby d7_27) ?_ (by decide) (by decide)
    exact ⟨rfl, N0, e118⟩
  · have hc7 : (1 : Int32) < (0 : Int32) := own_ge0 hc
    exact absurd hc7 (by decide)
theorem pn_6 : plainFor (⟨"com/example/termweave/termweave/release/HeldRows", "row", "(I)Lcom/example/termweave/termweave/release/RrfRow;"⟩ : MethodName) = true := by decide +kernel
theorem ef_6 (m : MethodId) (a1 : Addr) : entryFrame m #[(.ref a1), (.int (0 : Int32))] 2 = mkF m 0 #[.val (.ref a1), .val (.int (0 : Int32))] [] := by first | (simp [entryFrame, mkF, argsToLocals, Value.category]; done) | rfl
def Q6 (Z : State) (a1 : Addr) (vw : Addr) (yb : Addr) (ys : Addr) (yz : Addr) (yf : Addr) (ye : Addr) (kb : ClassId) (ks : ClassId) (kz : ClassId) (kf : ClassId) (ke : ClassId) (cc : Int32) (h0 : Heap) (n0 : Nat) (v : Option Value) (h : Heap) (L : List Loc) : Prop := v = some (.ref vw) ∧ Fr n0 L ∧ Keep h0 h [vw, ye] ∧ Exa Z h vw cV ∧ Fld Z h vw cR "rowEnd" "I" (.int (-1 : Int32)) ∧ Fld Z h vw cR "bytes" "[B" (.ref yb) ∧ Fld Z h vw cR "fieldEnds" "[I" (.ref ye) ∧ Fld Z h vw cR "rowStart" "I" o0 ∧ Fld Z h vw cR "ascii" "Z" o0 ∧ Arv Z h ye ke .int cc (List.take (0 : Int32).toNatClampNeg (List.replicate cc.toNatClampNeg o0) ++ ((List.range cc.toNatClampNeg).map fun i => (List.replicate ((16 : Int32) * cc).toNatClampNeg o0).getD ((0 : Int32).toNatClampNeg + i) o0) ++ List.drop ((0 : Int32).toNatClampNeg + cc.toNatClampNeg) (List.replicate cc.toNatClampNeg o0)) o0
set_option maxRecDepth 65536 in
set_option maxHeartbeats 40000000 in
theorem rm6 (l : Launch) (Z : State) (a0 : Array Value) (hw : ∀ d ∈ tables_1, d.before a0 Z = true) (ws : List Jvm.Cond) (a1 : Addr) (vw : Addr) (yb : Addr) (ys : Addr) (yz : Addr) (yf : Addr) (ye : Addr) (kb : ClassId) (ks : ClassId) (kz : ClassId) (kf : ClassId) (ke : ClassId) (cc : Int32) (h0 : Heap) (n0 : Nat) (Z0 : n0 ≤ h0.size) (hc : 1 ≤ cc.toInt ∧ cc.toInt ≤ 4) (hE : Exa Z h0 a1 cH) (hf_bytes : Fld Z h0 a1 cH "bytes" "[B" (.ref yb)) (hf_starts : Fld Z h0 a1 cH "starts" "[I" (.ref ys)) (hf_ascii : Fld Z h0 a1 cH "ascii" "[Z" (.ref yz)) (hf_columns : Fld Z h0 a1 cH "columns" "I" (.int cc)) (hf_fieldEnds : Fld Z h0 a1 cH "fieldEnds" "[I" (.ref yf)) (hf_view : Fld Z h0 a1 cH "view" "Lcom/example/termweave/termweave/release/HeldRows$View;" (.ref vw)) (hf_size : Fld Z h0 a1 cH "size" "I" (.int (0 : Int32))) (hf_length : Fld Z h0 a1 cH "length" "I" (.int (0 : Int32))) (hG : Exa Z h0 vw cV) (hg_rowEnd : Fld Z h0 vw cR "rowEnd" "I" (.int (-1 : Int32))) (hg_bytes : Fld Z h0 vw cR "bytes" "[B" .null) (hg_rowStart : Fld Z h0 vw cR "rowStart" "I" o0) (hg_ascii : Fld Z h0 vw cR "ascii" "Z" o0) (hg_fieldEnds : Fld Z h0 vw cR "fieldEnds" "[I" (.ref ye)) (hV_yb : Arv Z h0 yb kb .byte 4096 (List.replicate 4096 o0) o0) (hV_ys : Arv Z h0 ys ks .int 16 [o0, o0, o0, o0, o0, o0, o0, o0, o0, o0, o0, o0, o0, o0, o0, o0] o0) (hV_yz : Arv Z h0 yz kz .boolean 16 [o0, o0, o0, o0, o0, o0, o0, o0, o0, o0, o0, o0, o0, o0, o0, o0] o0) (hV_yf : Arv Z h0 yf kf .int ((16 : Int32) * cc) (List.replicate ((16 : Int32) * cc).toNatClampNeg o0) o0) (hV_ye : Arv Z h0 ye ke .int cc (List.replicate cc.toNatClampNeg o0) o0) (ne1 : ys ≠ yf) (ne2 : ys ≠ ye) (ne3 : yf ≠ ye) (n0_vw : n0 ≤ vw) (n0_ye : n0 ≤ ye) :
    MetFree l (⟨"com/example/termweave/termweave/release/HeldRows", "row", "(I)Lcom/example/termweave/termweave/release/RrfRow;"⟩ : MethodName) (head1 (Jvm.Cond.code (⟨"com/example/termweave/termweave/release/HeldRows", "row", "(I)Lcom/example/termweave/termweave/release/RrfRow;"⟩ : MethodName) prog_30_method_6_code 2 (some (.object "com/example/termweave/termweave/release/RrfRow")) :: ws) ({ frames := 1, cells := 0, slots := 0, locals := 40 } : Room)) (fun a U => a = #[(.ref a1), (.int (0 : Int32))] ∧ Z.Warmed39 U.vm ∧ U.heap = h0) (fun _ _ _ _ _ => True) (fun _ U o U' => ∃ v L, o = .returned v ∧ Q6 Z a1 vw yb ys yz yf ye kb ks kz kf ke cc h0 n0 v U'.heap L ∧ FrameEnd U o U' L ({ frames := 1, cells := 0, slots := 0, locals := 40 } : Room).cells ({ frames := 1, cells := 0, slots := 0, locals := 40 } : Room).slots) := by
  refine MetFree.of_bodySF pn_6 hisR ?_
  intro p e s m args below meth c s₁ Bd hml0 hP hK
  obtain ⟨rfl, hZ, hh⟩ := hP
  have hx := Bd.exec
  have hby := Bd.bytes
  have hml : c.maxLocals = 2 := hml0
  have hown : s.vm.findClass "com/example/termweave/termweave/release/HeldRows" = some m.cls := findClass_of_methodNamed Bd.named
  have hnm := (name_of_methodNamed Bd.named Bd.method).1
  have hlk := BodyLoose.notSynchronized Bd
  have X0 : Stand p l e ({ frames := 1, cells := 0, slots := 0, locals := 40 } : Room) s m #[(.ref a1), (.int (0 : Int32))] below meth c s₁ [] 0 0 := Stand.of_body Bd
  have e0 : s₁.heap = h0 := by rw [← hh, Bd.state]; rfl
  have N0 := Fr.nil n0
  show own_R p e below s (Q6 Z a1 vw yb ys yz yf ye kb ks kz kf ke cc h0 n0) ({ frames := 1, cells := 0, slots := 0, locals := 40 } : Room).cells ({ frames := 1, cells := 0, slots := 0, locals := 40 } : Room).slots s₁ (entryFrame m #[(.ref a1), (.int (0 : Int32))] 2)
  refine own_cast (ef_6 m a1) ?_
  show own_R p e below s _ _ _ s₁ (mkF m 0 #[.val (.ref a1), .val (.int (0 : Int32))] [])
  have K0 := Keep.refl h0 ([vw, ye] : List Addr)
  have ne_vw_ye : vw ≠ ye := (Exa.neArv hG hV_ye (hw _ (List.mem_of_getElem? (i := 43) rfl)))
  have ne_vw_a1 : vw ≠ a1 := (Exa.ne hG hE (by decide))
  have ne_vw_yb : vw ≠ yb := (Exa.neArv hG hV_yb (hw _ (List.mem_of_getElem? (i := 43) rfl)))
  have ne_vw_ys : vw ≠ ys := (Exa.neArv hG hV_ys (hw _ (List.mem_of_getElem? (i := 43) rfl)))
  have ne_vw_yz : vw ≠ yz := (Exa.neArv hG hV_yz (hw _ (List.mem_of_getElem? (i := 43) rfl)))
  have ne_vw_yf : vw ≠ yf := (Exa.neArv hG hV_yf (hw _ (List.mem_of_getElem? (i := 43) rfl)))
  have ne_ye_a1 : ye ≠ a1 := (Ne.symm (Exa.neArv hE hV_ye (hw _ (List.mem_of_getElem? (i := 2) rfl))))
  have ne_ye_yb : ye ≠ yb := (own_neA hV_ye hV_yb (by decide))
  have ne_ye_yz : ye ≠ yz := (own_neA hV_ye hV_yz (by decide))
  have ne_a1_yb : a1 ≠ yb := (Exa.neArv hE hV_yb (hw _ (List.mem_of_getElem? (i := 2) rfl)))
  have ne_a1_ys : a1 ≠ ys := (Exa.neArv hE hV_ys (hw _ (List.mem_of_getElem? (i := 2) rfl)))
  have ne_a1_yz : a1 ≠ yz := (Exa.neArv hE hV_yz (hw _ (List.mem_of_getElem? (i := 2) rfl)))
  have ne_a1_yf : a1 ≠ yf := (Exa.neArv hE hV_yf (hw _ (List.mem_of_getElem? (i := 2) rfl)))
  have ne_yb_ys : yb ≠ ys := (own_neA hV_yb hV_ys (by decide))
  have ne_yb_yz : yb ≠ yz := (own_neA hV_yb hV_yz (by decide))
  have ne_yb_yf : yb ≠ yf := (own_neA hV_yb hV_yf (by decide))
  have ne_ys_yz : ys ≠ yz := (own_neA hV_ys hV_yz (by decide))
  have ne_yz_yf : yz ≠ yf := (own_neA hV_yz hV_yf (by decide))
  refine own_aloadN X0 hx (hb hby d6_0) rfl rfl ?_
  refine own_getF X0 hx hZ hown (host := "") (Or.inl (hw _ (List.mem_of_getElem? (i := 60) rfl))) Via.refl e0 hf_view (hb hby d6_1) ?_
  intro T119 X119 e119
  refine own_aloadN X119 hx (hb hby d6_4) rfl rfl ?_
  refine own_getF X119 hx hZ hown (host := "") (Or.inl (hw _ (List.mem_of_getElem? (i := 10) rfl))) Via.refl e119 hf_bytes (hb hby d6_5) ?_
  intro T120 X120 e120
  refine own_putF X120 hx hZ hown (host := "") (Or.inl (hw _ (List.mem_of_getElem? (i := 67) rfl))) (Via.of (hw _ (List.mem_of_getElem? (i := 68) rfl))) e120 hg_bytes hG (Or.inl (hw _ (List.mem_of_getElem? (i := 57) rfl))) (hw _ (List.mem_of_getElem? (i := 43) rfl)) (ty := (.array .byte)) (by decide) rfl rfl (hb hby d6_8) ?_
  intro T121 h121 X121 e121 W121
  have K121 := K0.wr W121 (Or.inl (List.mem_of_getElem? (i := 0) rfl))
  have N121 := Fr.snoc X121 N0 n0_vw
  have Fw121 := Fld.same W121 hg_bytes
  refine own_aloadN X121 hx (hb hby d6_11) rfl rfl ?_
  have f122 := (Fld.other W121 hf_view (Or.inl (Ne.symm ne_vw_a1)))
  refine own_getF X121 hx hZ hown (host := "") (Or.inl (hw _ (List.mem_of_getElem? (i := 60) rfl))) Via.refl e121 f122 (hb hby d6_12) ?_
  intro T123 X123 e123
  refine own_aloadN X123 hx (hb hby d6_15) rfl rfl ?_
  have f124 := (Fld.other W121 hf_starts (Or.inl (Ne.symm ne_vw_a1)))
  refine own_getF X123 hx hZ hown (host := "") (Or.inl (hw _ (List.mem_of_getElem? (i := 13) rfl))) Via.refl e123 f124 (hb hby d6_16) ?_
  intro T125 X125 e125
  refine own_iloadN X125 hx (hb hby d6_19) rfl ?_
  have f126 := (hV_ys.other W121 (Ne.symm ne_vw_ys))
  refine own_iaload X125 hx hZ e125 f126 (v := .int (0 : Int32)) ⟨by decide, by decide⟩ rfl (hb hby d6_20) ?_
  have f127 := (Fld.other W121 hg_rowStart (Or.inr (slot_ne (Or.inl (hw _ (List.mem_of_getElem? (i := 71) rfl))) (Or.inl (hw _ (List.mem_of_getElem? (i := 57) rfl))) (by decide) (t := .int) (t' := (.array .byte)) (by decide) (by decide))))
  have f128 := (Exa.wr W121 hG)
  refine own_putF X125 hx hZ hown (host := "") (Or.inl (hw _ (List.mem_of_getElem? (i := 69) rfl))) (Via.of (hw _ (List.mem_of_getElem? (i := 70) rfl))) e125 f127 f128 (Or.inl (hw _ (List.mem_of_getElem? (i := 71) rfl))) (hw _ (List.mem_of_getElem? (i := 43) rfl)) (ty := .int) (by decide) rfl rfl (hb hby d6_21) ?_
  intro T129 h129 X129 e129 W129
  have K129 := K121.wr W129 (Or.inl (List.mem_of_getElem? (i := 0) rfl))
  have N129 := Fr.snoc X129 N121 n0_vw
  have Fw129 := Fld.same W129 f127
  refine own_aloadN X129 hx (hb hby d6_24) rfl rfl ?_
  have f130 := (Fld.other W129 f122 (Or.inl (Ne.symm ne_vw_a1)))
  refine own_getF X129 hx hZ hown (host := "") (Or.inl (hw _ (List.mem_of_getElem? (i := 60) rfl))) Via.refl e129 f130 (hb hby d6_25) ?_
  intro T131 X131 e131
  refine own_aloadN X131 hx (hb hby d6_28) rfl rfl ?_
  refine own_iloadN X131 hx (hb hby d6_29) rfl ?_
  have f132 := (Fld.other W129 (Fld.other W121 hf_size (Or.inl (Ne.symm ne_vw_a1))) (Or.inl (Ne.symm ne_vw_a1)))
  have f133 := (Fld.other W129 (Fld.other W121 hf_length (Or.inl (Ne.symm ne_vw_a1))) (Or.inl (Ne.symm ne_vw_a1)))
  have f135 := (Exa.wr W129 (Exa.wr W121 hE))
  refine own_callP X131 hx hZ (y := my7) hown (hw _ (List.mem_of_getElem? (i := 72) rfl)) (hw _ (List.mem_of_getElem? (i := 73) rfl)) (hw _ (List.mem_of_getElem? (i := 2) rfl)) (hw _ (List.mem_of_getElem? (i := 74) rfl)) (hw _ (List.mem_of_getElem? (i := 3) rfl)) (hw _ (List.mem_of_getElem? (i := 75) rfl)) (by decide) (rm7 l Z a0 hw [] a1 h129 n0 (Nat.le_trans Z0 K129.1) f132 f133) 1 (by decide) (by decide) e131 (by rw [hml]; rfl) a1 f135 [(.int (0 : Int32))] [(.ref vw)] rfl (lenOf pd_3 rfl) rfl (Nat.le_of_eq rfl) (hb hby d6_30) (by decide) (by decide) ?_
  rintro T134 _ L134 X134 ⟨rfl, N134q, e134⟩
  have N134 := Fr.app N129 N134q
  show own_R p e below s _ _ _ T134 (mkF m 33 #[.val (.ref a1), .val (.int (0 : Int32))] [(.int (-1 : Int32)), (.ref vw)])
  have f136 := (Fld.other W129 (Fld.other W121 hg_rowEnd (Or.inr (slot_ne (Or.inl (hw _ (List.mem_of_getElem? (i := 55) rfl))) (Or.inl (hw _ (List.mem_of_getElem? (i := 57) rfl))) (by decide) (t := .int) (t' := (.array .byte)) (by decide) (by decide)))) (Or.inr (slot_ne (Or.inl (hw _ (List.mem_of_getElem? (i := 55) rfl))) (Or.inl (hw _ (List.mem_of_getElem? (i := 71) rfl))) (by decide) (t := .int) (t' := .int) (by decide) (by decide))))
  have f137 := (Exa.wr W129 f128)
  refine own_putF X134 hx hZ hown (host := "") (Or.inl (hw _ (List.mem_of_getElem? (i := 80) rfl))) (Via.of (hw _ (List.mem_of_getElem? (i := 81) rfl))) e134 f136 f137 (Or.inl (hw _ (List.mem_of_getElem? (i := 55) rfl))) (hw _ (List.mem_of_getElem? (i := 43) rfl)) (ty := .int) (by decide) rfl rfl (hb hby d6_33) ?_
  intro T138 h138 X138 e138 W138
  have K138 := K129.wr W138 (Or.inl (List.mem_of_getElem? (i := 0) rfl))
  have N138 := Fr.snoc X138 N134 n0_vw
  have Fw138 := Fld.same W138 f136
  refine own_aloadN X138 hx (hb hby d6_36) rfl rfl ?_
  have f139 := (Fld.other W138 (Fld.other W129 (Fld.other W121 hf_fieldEnds (Or.inl (Ne.symm ne_vw_a1))) (Or.inl (Ne.symm ne_vw_a1))) (Or.inl (Ne.symm ne_vw_a1)))
  refine own_getF X138 hx hZ hown (host := "") (Or.inl (hw _ (List.mem_of_getElem? (i := 40) rfl))) Via.refl e138 f139 (hb hby d6_37) ?_
  intro T140 X140 e140
  refine own_iloadN X140 hx (hb hby d6_40) rfl ?_
  refine own_aloadN X140 hx (hb hby d6_41) rfl rfl ?_
  have f141 := (Fld.other W138 (Fld.other W129 (Fld.other W121 hf_columns (Or.inl (Ne.symm ne_vw_a1))) (Or.inl (Ne.symm ne_vw_a1))) (Or.inl (Ne.symm ne_vw_a1)))
  refine own_getF X140 hx hZ hown (host := "") (Or.inl (hw _ (List.mem_of_getElem? (i := 38) rfl))) Via.refl e140 f141 (hb hby d6_42) ?_
  intro T142 X142 e142
  refine own_imul X142 hx (hb hby d6_45) ?_
  refine own_aloadN X142 hx (hb hby d6_46) rfl rfl ?_
  rw [pl_0c]
  show own_R p e below s _ _ _ T142 (mkF m 47 #[.val (.ref a1), .val (.int (0 : Int32))] [(.ref a1), (.int (0 : Int32)), (.ref yf)])
  have f143 := (Fld.other W138 f130 (Or.inl (Ne.symm ne_vw_a1)))
  refine own_getF X142 hx hZ hown (host := "") (Or.inl (hw _ (List.mem_of_getElem? (i := 60) rfl))) Via.refl e142 f143 (hb hby d6_47) ?_
  intro T144 X144 e144
  have f145 := (Fld.other W138 (Fld.other W129 (Fld.other W121 hg_fieldEnds (Or.inr (slot_ne (Or.inr (hw _ (List.mem_of_getElem? (i := 59) rfl))) (Or.inl (hw _ (List.mem_of_getElem? (i := 57) rfl))) (by decide) (t := (.array .int)) (t' := (.array .byte)) (by decide) (by decide)))) (Or.inr (slot_ne (Or.inr (hw _ (List.mem_of_getElem? (i := 59) rfl))) (Or.inl (hw _ (List.mem_of_getElem? (i := 71) rfl))) (by decide) (t := (.array .int)) (t' := .int) (by decide) (by decide)))) (Or.inr (slot_ne (Or.inr (hw _ (List.mem_of_getElem? (i := 59) rfl))) (Or.inl (hw _ (List.mem_of_getElem? (i := 55) rfl))) (by decide) (t := (.array .int)) (t' := .int) (by decide) (by decide))))
  refine own_getF X144 hx hZ hown (host := "") (Or.inl (hw _ (List.mem_of_getElem? (i := 82) rfl))) (Via.of (hw _ (List.mem_of_getElem? (i := 83) rfl))) e144 f145 (hb hby d6_50) ?_
  intro T146 X146 e146
  refine own_iconst X146 hx (0 : Int32) (hb hby d6_53) rfl ?_
  refine own_aloadN X146 hx (hb hby d6_54) rfl rfl ?_
  refine own_getF X146 hx hZ hown (host := "") (Or.inl (hw _ (List.mem_of_getElem? (i := 38) rfl))) Via.refl e146 f141 (hb hby d6_55) ?_
  intro T147 X147 e147
  have f149 := (((hV_yf.other W121 (Ne.symm ne_vw_yf)).other W129 (Ne.symm ne_vw_yf)).other W138 (Ne.symm ne_vw_yf))
  have f150 := (((hV_ye.other W121 (Ne.symm ne_vw_ye)).other W129 (Ne.symm ne_vw_ye)).other W138 (Ne.symm ne_vw_ye))
  obtain ⟨T148, h148, L148, X148, e148, N148, Kc148, V148, st148⟩ := cpA X147 hx hZ hown (hw _ (List.mem_of_getElem? (i := 84) rfl)) (hw _ (List.mem_of_getElem? (i := 87) rfl)) (hw _ (List.mem_of_getElem? (i := 85) rfl)) (hw _ (List.mem_of_getElem? (i := 86) rfl)) e147 f149 f150 (us := ((List.range cc.toNatClampNeg).map fun i => (List.replicate ((16 : Int32) * cc).toNatClampNeg o0).getD ((0 : Int32).toNatClampNeg + i) o0)) (Or.inl ⟨rfl, rfl⟩) (by decide) (by decide) (pl_negc cc hc) (by rw [show (0 : Int32).toNatClampNeg = 0 from rfl, Nat.zero_add]; exact pl_cle cc hc) (by rw [show (0 : Int32).toNatClampNeg = 0 from rfl, Nat.zero_add]; exact Nat.le_refl _) rfl (by rw [show (0 : Int32).toNatClampNeg = 0 from rfl, Nat.zero_add, List.length_replicate]; exact Nat.le_refl _) N138 n0_ye (g := (mkF m 58 #[.val (.ref a1), .val (.int (0 : Int32))] [(.int cc), (.int (0 : Int32)), (.ref ye), (.int (0 : Int32)), (.ref yf)])) rfl (by rw [hml]; rfl) rfl (hb hby d6_58) (by decide) (W := 0) (Nat.le_of_eq rfl) (by decide)
  refine own_lift st148 ?_
  have K148 := K138.trans Kc148 (allS (P := fun x => x ∈ ([vw, ye] : List Addr) ∨ h0.size ≤ x) (Or.inl (List.mem_of_getElem? (i := 1) rfl)) all0)
  have V_ye_148 : Arv Z h148 ye ke .int cc (List.take (0 : Int32).toNatClampNeg (List.replicate cc.toNatClampNeg o0) ++ ((List.range cc.toNatClampNeg).map fun i => (List.replicate ((16 : Int32) * cc).toNatClampNeg o0).getD ((0 : Int32).toNatClampNeg + i) o0) ++ List.drop ((0 : Int32).toNatClampNeg + cc.toNatClampNeg) (List.replicate cc.toNatClampNeg o0)) o0 := V148
  refine own_aloadN X148 hx (hb hby d6_61) rfl rfl ?_
  have f151 := (f143.keep Kc148 (ninS (Ne.symm ne_ye_a1) nin0))
  refine own_getF X148 hx hZ hown (host := "") (Or.inl (hw _ (List.mem_of_getElem? (i := 60) rfl))) Via.refl e148 f151 (hb hby d6_62) ?_
  intro T152 X152 e152
  refine own_aloadN X152 hx (hb hby d6_65) rfl rfl ?_
  have f153 := ((Fld.other W138 (Fld.other W129 (Fld.other W121 hf_ascii (Or.inl (Ne.symm ne_vw_a1))) (Or.inl (Ne.symm ne_vw_a1))) (Or.inl (Ne.symm ne_vw_a1))).keep Kc148 (ninS (Ne.symm ne_ye_a1) nin0))
  refine own_getF X152 hx hZ hown (host := "") (Or.inl (hw _ (List.mem_of_getElem? (i := 16) rfl))) Via.refl e152 f153 (hb hby d6_66) ?_
  intro T154 X154 e154
  refine own_iloadN X154 hx (hb hby d6_69) rfl ?_
  have f155 := ((((hV_yz.other W121 (Ne.symm ne_vw_yz)).other W129 (Ne.symm ne_vw_yz)).other W138 (Ne.symm ne_vw_yz)).keep Kc148 (ninS (Ne.symm ne_ye_yz) nin0))
  refine own_zaload X154 hx hZ e154 f155 (v := .int (0 : Int32)) ⟨by decide, by decide⟩ rfl (hb hby d6_70) ?_
  have f156 := ((Fld.other W138 (Fld.other W129 (Fld.other W121 hg_ascii (Or.inr (slot_ne (Or.inl (hw _ (List.mem_of_getElem? (i := 90) rfl))) (Or.inl (hw _ (List.mem_of_getElem? (i := 57) rfl))) (by decide) (t := .boolean) (t' := (.array .byte)) (by decide) (by decide)))) (Or.inr (slot_ne (Or.inl (hw _ (List.mem_of_getElem? (i := 90) rfl))) (Or.inl (hw _ (List.mem_of_getElem? (i := 71) rfl))) (by decide) (t := .boolean) (t' := .int) (by decide) (by decide)))) (Or.inr (slot_ne (Or.inl (hw _ (List.mem_of_getElem? (i := 90) rfl))) (Or.inl (hw _ (List.mem_of_getElem? (i := 55) rfl))) (by decide) (t := .boolean) (t' := .int) (by decide) (by decide)))).keep Kc148 (ninS ne_vw_ye nin0))
  have f157 := (Exa.keep (Exa.wr W138 f137) Kc148)
  refine own_putFN X154 hx hZ hown (hw _ (List.mem_of_getElem? (i := 88) rfl)) (Via.of (hw _ (List.mem_of_getElem? (i := 89) rfl))) e154 f156 f157 (Or.inl (hw _ (List.mem_of_getElem? (i := 90) rfl))) (hw _ (List.mem_of_getElem? (i := 43) rfl)) (ty := .boolean) (v' := .int (0 : Int32)) (by decide) rfl (by decide) (hb hby d6_71) ?_
  intro T158 h158 X158 e158 W158
  have K158 := K148.wr W158 (Or.inl (List.mem_of_getElem? (i := 0) rfl))
  have N158 := Fr.snoc X158 N148 n0_vw
  have Fw158 := Fld.same W158 f156
  refine own_aloadN X158 hx (hb hby d6_74) rfl rfl ?_
  have f159 := (Fld.other W158 f151 (Or.inl (Ne.symm ne_vw_a1)))
  refine own_getF X158 hx hZ hown (host := "") (Or.inl (hw _ (List.mem_of_getElem? (i := 60) rfl))) Via.refl e158 f159 (hb hby d6_75) ?_
  intro T160 X160 e160
  have f161 := (Exa.wr W158 f157)
  have f162 := (Fld.other W158 (Fw138.keep Kc148 (ninS ne_vw_ye nin0)) (Or.inr (slot_ne (Or.inl (hw _ (List.mem_of_getElem? (i := 55) rfl))) (Or.inl (hw _ (List.mem_of_getElem? (i := 90) rfl))) (by decide) (t := .int) (t' := .boolean) (by decide) (by decide))))
  have f163 := (Fld.other W158 ((Fld.other W138 (Fld.other W129 Fw121 (Or.inr (slot_ne (Or.inl (hw _ (List.mem_of_getElem? (i := 57) rfl))) (Or.inl (hw _ (List.mem_of_getElem? (i := 71) rfl))) (by decide) (t := (.array .byte)) (t' := .int) (by decide) (by decide)))) (Or.inr (slot_ne (Or.inl (hw _ (List.mem_of_getElem? (i := 57) rfl))) (Or.inl (hw _ (List.mem_of_getElem? (i := 55) rfl))) (by decide) (t := (.array .byte)) (t' := .int) (by decide) (by decide)))).keep Kc148 (ninS ne_vw_ye nin0)) (Or.inr (slot_ne (Or.inl (hw _ (List.mem_of_getElem? (i := 57) rfl))) (Or.inl (hw _ (List.mem_of_getElem? (i := 90) rfl))) (by decide) (t := (.array .byte)) (t' := .boolean) (by decide) (by decide))))
  have f164 := (Fld.other W158 (f145.keep Kc148 (ninS ne_vw_ye nin0)) (Or.inr (slot_ne (Or.inr (hw _ (List.mem_of_getElem? (i := 59) rfl))) (Or.inl (hw _ (List.mem_of_getElem? (i := 90) rfl))) (by decide) (t := (.array .int)) (t' := .boolean) (by decide) (by decide))))
  have f165 := (Fld.other W158 ((Fld.other W138 Fw129 (Or.inr (slot_ne (Or.inl (hw _ (List.mem_of_getElem? (i := 71) rfl))) (Or.inl (hw _ (List.mem_of_getElem? (i := 55) rfl))) (by decide) (t := .int) (t' := .int) (by decide) (by decide)))).keep Kc148 (ninS ne_vw_ye nin0)) (Or.inr (slot_ne (Or.inl (hw _ (List.mem_of_getElem? (i := 71) rfl))) (Or.inl (hw _ (List.mem_of_getElem? (i := 90) rfl))) (by decide) (t := .int) (t' := .boolean) (by decide) (by decide))))
  have f166 := (V_ye_148.other W158 (Ne.symm ne_vw_ye))
  refine own_retA X160 hx Bd.returns rfl rfl hlk (hb hby d6_78) ?_ (by decide) (by decide)
  rw [e160]
  exact ⟨rfl, N158, K158, f161, f162, f163, f164, f165, Fw158, f166⟩
theorem pn_11 : plainFor (⟨"com/example/termweave/termweave/release/RrfRow", "rowEnd", "()I"⟩ : MethodName) = true := by decide +kernel
theorem ef_11 (m : MethodId) (a1 : Addr) : entryFrame m #[(.ref a1)] 1 = mkF m 0 #[.val (.ref a1)] [] := by first | (simp [entryFrame, mkF, argsToLocals, Value.category]; done) | rfl
def Q11 (Z : State) (a1 : Addr) (x1 : Int32) (h0 : Heap) (n0 : Nat) (v : Option Value) (h : Heap) (L : List Loc) : Prop := v = some (.int x1) ∧ Fr n0 L ∧ h = h0
set_option maxRecDepth 65536 in
set_option maxHeartbeats 40000000 in
theorem rm11 (l : Launch) (Z : State) (a0 : Array Value) (hw : ∀ d ∈ tables_1, d.before a0 Z = true) (ws : List Jvm.Cond) (a1 : Addr) (x1 : Int32) (h0 : Heap) (n0 : Nat) (Z0 : n0 ≤ h0.size) (hF : Fld Z h0 a1 cR "rowEnd" "I" (.int x1)) :
    MetFree l (⟨"com/example/termweave/termweave/release/RrfRow", "rowEnd", "()I"⟩ : MethodName) (head1 (Jvm.Cond.code (⟨"com/example/termweave/termweave/release/RrfRow", "rowEnd", "()I"⟩ : MethodName) prog_47_method_4_code 1 (some .int) :: ws) ({ frames := 0, cells := 0, slots := 0, locals := 0 } : Room)) (fun a U => a = #[(.ref a1)] ∧ Z.Warmed39 U.vm ∧ U.heap = h0) (fun _ _ _ _ _ => True) (fun _ U o U' => ∃ v L, o = .returned v ∧ Q11 Z a1 x1 h0 n0 v U'.heap L ∧ FrameEnd U o U' L ({ frames := 0, cells := 0, slots := 0, locals := 0 } : Room).cells ({ frames := 0, cells := 0, slots := 0, locals := 0 } : Room).slots) := by
  refine MetFree.of_bodySF pn_11 hisR ?_
  intro p e s m args below meth c s₁ Bd hml0 hP hK
  obtain ⟨rfl, hZ, hh⟩ := hP
  have hx := Bd.exec
  have hby := Bd.bytes
  have hml : c.maxLocals = 1 := hml0
  have hown : s.vm.findClass "com/example/termweave/termweave/release/RrfRow" = some m.cls := findClass_of_methodNamed Bd.named
  have hnm := (name_of_methodNamed Bd.named Bd.method).1
  have hlk := BodyLoose.notSynchronized Bd
  have X0 : Stand p l e ({ frames := 0, cells := 0, slots := 0, locals := 0 } : Room) s m #[(.ref a1)] below meth c s₁ [] 0 0 := Stand.of_body Bd
  have e0 : s₁.heap = h0 := by rw [← hh, Bd.state]; rfl
  have N0 := Fr.nil n0
  show own_R p e below s (Q11 Z a1 x1 h0 n0) ({ frames := 0, cells := 0, slots := 0, locals := 0 } : Room).cells ({ frames := 0, cells := 0, slots := 0, locals := 0 } : Room).slots s₁ (entryFrame m #[(.ref a1)] 1)
  refine own_cast (ef_11 m a1) ?_
  show own_R p e below s _ _ _ s₁ (mkF m 0 #[.val (.ref a1)] [])
  have K0 := Keep.refl h0 ([] : List Addr)
  refine own_aloadN X0 hx (hb hby d11_0) rfl rfl ?_
  refine own_getF X0 hx hZ hown (host := "") (Or.inl (hw _ (List.mem_of_getElem? (i := 54) rfl))) Via.refl e0 hF (hb hby d11_1) ?_
  intro T167 X167 e167
  refine own_retI X167 hx Bd.returns hlk (hb hby d11_4) ?_ (by decide) (by decide)
  exact ⟨rfl, N0, e167⟩
theorem pn_12 : plainFor (⟨"com/example/termweave/termweave/release/RrfRow", "rowStart", "()I"⟩ : MethodName) = true := by decide +kernel
theorem ef_12 (m : MethodId) (a1 : Addr) : entryFrame m #[(.ref a1)] 1 = mkF m 0 #[.val (.ref a1)] [] := by first | (simp [entryFrame, mkF, argsToLocals, Value.category]; done) | rfl
def Q12 (Z : State) (a1 : Addr) (x1 : Int32) (h0 : Heap) (n0 : Nat) (v : Option Value) (h : Heap) (L : List Loc) : Prop := v = some (.int x1) ∧ Fr n0 L ∧ h = h0
set_option maxRecDepth 65536 in
set_option maxHeartbeats 40000000 in
theorem rm12 (l : Launch) (Z : State) (a0 : Array Value) (hw : ∀ d ∈ tables_1, d.before a0 Z = true) (ws : List Jvm.Cond) (a1 : Addr) (x1 : Int32) (h0 : Heap) (n0 : Nat) (Z0 : n0 ≤ h0.size) (hF : Fld Z h0 a1 cR "rowStart" "I" (.int x1)) :
    MetFree l (⟨"com/example/termweave/termweave/release/RrfRow", "rowStart", "()I"⟩ : MethodName) (head1 (Jvm.Cond.code (⟨"com/example/termweave/termweave/release/RrfRow", "rowStart", "()I"⟩ : MethodName) prog_47_method_3_code 1 (some .int) :: ws) ({ frames := 0, cells := 0, slots := 0, locals := 0 } : Room)) (fun a U => a = #[(.ref a1)] ∧ Z.Warmed39 U.vm ∧ U.heap = h0) (fun _ _ _ _ _ => True) (fun _ U o U' => ∃ v L, o = .returned v ∧ Q12 Z a1 x1 h0 n0 v U'.heap L ∧ FrameEnd U o U' L ({ frames := 0, cells := 0, slots := 0, locals := 0 } : Room).cells ({ frames := 0, cells := 0, slots := 0, locals := 0 } : Room).slots) := by
  refine MetFree.of_bodySF pn_12 hisR ?_
  intro p e s m args below meth c s₁ Bd hml0 hP hK
  obtain ⟨rfl, hZ, hh⟩ := hP
  have hx := Bd.exec
  have hby := Bd.bytes
  have hml : c.maxLocals = 1 := hml0
  have hown : s.vm.findClass "com/example/termweave/termweave/release/RrfRow" = some m.cls := findClass_of_methodNamed Bd.named
  have hnm := (name_of_methodNamed Bd.named Bd.method).1
  have hlk := BodyLoose.notSynchronized Bd
  have X0 : Stand p l e ({ frames := 0, cells := 0, slots := 0, locals := 0 } : Room) s m #[(.ref a1)] below meth c s₁ [] 0 0 := Stand.of_body Bd
  have e0 : s₁.heap = h0 := by rw [← hh, Bd.state]; rfl
  have N0 := Fr.nil n0
  show own_R p e below s (Q12 Z a1 x1 h0 n0) ({ frames := 0, cells := 0, slots := 0, locals := 0 } : Room).cells ({ frames := 0, cells := 0, slots := 0, locals := 0 } : Room).slots s₁ (entryFrame m #[(.ref a1)] 1)
  refine own_cast (ef_12 m a1) ?_
  show own_R p e below s _ _ _ s₁ (mkF m 0 #[.val (.ref a1)] [])
  have K0 := Keep.refl h0 ([] : List Addr)
  refine own_aloadN X0 hx (hb hby d12_0) rfl rfl ?_
  refine own_getF X0 hx hZ hown (host := "") (Or.inl (hw _ (List.mem_of_getElem? (i := 118) rfl))) Via.refl e0 hF (hb hby d12_1) ?_
  intro T168 X168 e168
  refine own_retI X168 hx Bd.returns hlk (hb hby d12_4) ?_ (by decide) (by decide)
  exact ⟨rfl, N0, e168⟩
theorem pn_13 : plainFor (⟨"com/example/termweave/termweave/release/RrfRow", "bytes", "()[B"⟩ : MethodName) = true := by decide +kernel
theorem ef_13 (m : MethodId) (a1 : Addr) : entryFrame m #[(.ref a1)] 1 = mkF m 0 #[.val (.ref a1)] [] := by first | (simp [entryFrame, mkF, argsToLocals, Value.category]; done) | rfl
def Q13 (Z : State) (a1 : Addr) (x1 : Addr) (h0 : Heap) (n0 : Nat) (v : Option Value) (h : Heap) (L : List Loc) : Prop := v = some (.ref x1) ∧ Fr n0 L ∧ h = h0
set_option maxRecDepth 65536 in
set_option maxHeartbeats 40000000 in
theorem rm13 (l : Launch) (Z : State) (a0 : Array Value) (hw : ∀ d ∈ tables_1, d.before a0 Z = true) (ws : List Jvm.Cond) (a1 : Addr) (x1 : Addr) (h0 : Heap) (n0 : Nat) (Z0 : n0 ≤ h0.size) (hF : Fld Z h0 a1 cR "bytes" "[B" (.ref x1)) :
    MetFree l (⟨"com/example/termweave/termweave/release/RrfRow", "bytes", "()[B"⟩ : MethodName) (head1 (Jvm.Cond.code (⟨"com/example/termweave/termweave/release/RrfRow", "bytes", "()[B"⟩ : MethodName) prog_47_method_2_code 1 (some (.array .byte)) :: ws) ({ frames := 0, cells := 0, slots := 0, locals := 0 } : Room)) (fun a U => a = #[(.ref a1)] ∧ Z.Warmed39 U.vm ∧ U.heap = h0) (fun _ _ _ _ _ => True) (fun _ U o U' => ∃ v L, o = .returned v ∧ Q13 Z a1 x1 h0 n0 v U'.heap L ∧ FrameEnd U o U' L ({ frames := 0, cells := 0, slots := 0, locals := 0 } : Room).cells ({ frames := 0, cells := 0, slots := 0, locals := 0 } : Room).slots) := by
  refine MetFree.of_bodySF pn_13 hisR ?_
  intro p e s m args below meth c s₁ Bd hml0 hP hK
  obtain ⟨rfl, hZ, hh⟩ := hP
  have hx := Bd.exec
  have hby := Bd.bytes
  have hml : c.maxLocals = 1 := hml0
  have hown : s.vm.findClass "com/example/termweave/termweave/release/RrfRow" = some m.cls := findClass_of_methodNamed Bd.named
  have hnm := (name_of_methodNamed Bd.named Bd.method).1
  have hlk := BodyLoose.notSynchronized Bd
  have X0 : Stand p l e ({ frames := 0, cells := 0, slots := 0, locals := 0 } : Room) s m #[(.ref a1)] below meth c s₁ [] 0 0 := Stand.of_body Bd
  have e0 : s₁.heap = h0 := by rw [← hh, Bd.state]; rfl
  have N0 := Fr.nil n0
  show own_R p e below s (Q13 Z a1 x1 h0 n0) ({ frames := 0, cells := 0, slots := 0, locals := 0 } : Room).cells ({ frames := 0, cells := 0, slots := 0, locals := 0 } : Room).slots s₁ (entryFrame m #[(.ref a1)] 1)
  refine own_cast (ef_13 m a1) ?_
  show own_R p e below s _ _ _ s₁ (mkF m 0 #[.val (.ref a1)] [])
  have K0 := Keep.refl h0 ([] : List Addr)
  refine own_aloadN X0 hx (hb hby d13_0) rfl rfl ?_
  refine own_getF X0 hx hZ hown (host := "") (Or.inl (hw _ (List.mem_of_getElem? (i := 56) rfl))) Via.refl e0 hF (hb hby d13_1) ?_
  intro T169 X169 e169
  refine own_retA X169 hx Bd.returns rfl rfl hlk (hb hby d13_4) ?_ (by decide) (by decide)
  exact ⟨rfl, N0, e169⟩
theorem pn_14 : plainFor (⟨"com/example/termweave/termweave/release/RrfRow", "fieldEndOffsets", "()[I"⟩ : MethodName) = true := by decide +kernel
theorem ef_14 (m : MethodId) (a1 : Addr) : entryFrame m #[(.ref a1)] 1 = mkF m 0 #[.val (.ref a1)] [] := by first | (simp [entryFrame, mkF, argsToLocals, Value.category]; done) | rfl
def Q14 (Z : State) (a1 : Addr) (x1 : Addr) (h0 : Heap) (n0 : Nat) (v : Option Value) (h : Heap) (L : List Loc) : Prop := v = some (.ref x1) ∧ Fr n0 L ∧ h = h0
set_option maxRecDepth 65536 in
set_option maxHeartbeats 40000000 in
theorem rm14 (l : Launch) (Z : State) (a0 : Array Value) (hw : ∀ d ∈ tables_1, d.before a0 Z = true) (ws : List Jvm.Cond) (a1 : Addr) (x1 : Addr) (h0 : Heap) (n0 : Nat) (Z0 : n0 ≤ h0.size) (hF : Fld Z h0 a1 cR "fieldEnds" "[I" (.ref x1)) :
    MetFree l (⟨"com/example/termweave/termweave/release/RrfRow", "fieldEndOffsets", "()[I"⟩ : MethodName) (head1 (Jvm.Cond.code (⟨"com/example/termweave/termweave/release/RrfRow", "fieldEndOffsets", "()[I"⟩ : MethodName) prog_47_method_7_code 1 (some (.array .int)) :: ws) ({ frames := 0, cells := 0, slots := 0, locals := 0 } : Room)) (fun a U => a = #[(.ref a1)] ∧ Z.Warmed39 U.vm ∧ U.heap = h0) (fun _ _ _ _ _ => True) (fun _ U o U' => ∃ v L, o = .returned v ∧ Q14 Z a1 x1 h0 n0 v U'.heap L ∧ FrameEnd U o U' L ({ frames := 0, cells := 0, slots := 0, locals := 0 } : Room).cells ({ frames := 0, cells := 0, slots := 0, locals := 0 } : Room).slots) := by
  refine MetFree.of_bodySF pn_14 hisR ?_
  intro p e s m args below meth c s₁ Bd hml0 hP hK
  obtain ⟨rfl, hZ, hh⟩ := hP
  have hx := Bd.exec
  have hby := Bd.bytes
  have hml : c.maxLocals = 1 := hml0
  have hown : s.vm.findClass "com/example/termweave/termweave/release/RrfRow" = some m.cls := findClass_of_methodNamed Bd.named
  have hnm := (name_of_methodNamed Bd.named Bd.method).1
  have hlk := BodyLoose.notSynchronized Bd
  have X0 : Stand p l e ({ frames := 0, cells := 0, slots := 0, locals := 0 } : Room) s m #[(.ref a1)] below meth c s₁ [] 0 0 := Stand.of_body Bd
  have e0 : s₁.heap = h0 := by rw [← hh, Bd.state]; rfl
  have N0 := Fr.nil n0
  show own_R p e below s (Q14 Z a1 x1 h0 n0) ({ frames := 0, cells := 0, slots := 0, locals := 0 } : Room).cells ({ frames := 0, cells := 0, slots := 0, locals := 0 } : Room).slots s₁ (entryFrame m #[(.ref a1)] 1)
  refine own_cast (ef_14 m a1) ?_
  show own_R p e below s _ _ _ s₁ (mkF m 0 #[.val (.ref a1)] [])
  have K0 := Keep.refl h0 ([] : List Addr)
  refine own_aloadN X0 hx (hb hby d14_0) rfl rfl ?_
  refine own_getF X0 hx hZ hown (host := "") (Or.inl (hw _ (List.mem_of_getElem? (i := 58) rfl))) Via.refl e0 hF (hb hby d14_1) ?_
  intro T170 X170 e170
  refine own_retA X170 hx Bd.returns rfl rfl hlk (hb hby d14_4) ?_ (by decide) (by decide)
  exact ⟨rfl, N0, e170⟩
theorem pn_15 : plainFor (⟨"com/example/termweave/termweave/release/RrfRow", "ascii", "()Z"⟩ : MethodName) = true := by decide +kernel
theorem ef_15 (m : MethodId) (a1 : Addr) : entryFrame m #[(.ref a1)] 1 = mkF m 0 #[.val (.ref a1)] [] := by first | (simp [entryFrame, mkF, argsToLocals, Value.category]; done) | rfl
def Q15 (Z : State) (a1 : Addr) (h0 : Heap) (n0 : Nat) (v : Option Value) (h : Heap) (L : List Loc) : Prop := v = some (.int (1 : Int32)) ∧ Fr n0 L ∧ h = h0
set_option maxRecDepth 65536 in
set_option maxHeartbeats 40000000 in
theorem rm15 (l : Launch) (Z : State) (a0 : Array Value) (hw : ∀ d ∈ tables_1, d.before a0 Z = true) (ws : List Jvm.Cond) (a1 : Addr) (h0 : Heap) (n0 : Nat) (Z0 : n0 ≤ h0.size) (hF : Fld Z h0 a1 cR "ascii" "Z" (.int (1 : Int32))) :
    MetFree l (⟨"com/example/termweave/termweave/release/RrfRow", "ascii", "()Z"⟩ : MethodName) (head1 (Jvm.Cond.code (⟨"com/example/termweave/termweave/release/RrfRow", "ascii", "()Z"⟩ : MethodName) prog_47_method_8_code 1 (some .boolean) :: ws) ({ frames := 0, cells := 0, slots := 0, locals := 0 } : Room)) (fun a U => a = #[(.ref a1)] ∧ Z.Warmed39 U.vm ∧ U.heap = h0) (fun _ _ _ _ _ => True) (fun _ U o U' => ∃ v L, o = .returned v ∧ Q15 Z a1 h0 n0 v U'.heap L ∧ FrameEnd U o U' L ({ frames := 0, cells := 0, slots := 0, locals := 0 } : Room).cells ({ frames := 0, cells := 0, slots := 0, locals := 0 } : Room).slots) := by
  refine MetFree.of_bodySF pn_15 hisR ?_
  intro p e s m args below meth c s₁ Bd hml0 hP hK
  obtain ⟨rfl, hZ, hh⟩ := hP
  have hx := Bd.exec
  have hby := Bd.bytes
  have hml : c.maxLocals = 1 := hml0
  have hown : s.vm.findClass "com/example/termweave/termweave/release/RrfRow" = some m.cls := findClass_of_methodNamed Bd.named
  have hnm := (name_of_methodNamed Bd.named Bd.method).1
  have hlk := BodyLoose.notSynchronized Bd
  have X0 : Stand p l e ({ frames := 0, cells := 0, slots := 0, locals := 0 } : Room) s m #[(.ref a1)] below meth c s₁ [] 0 0 := Stand.of_body Bd
  have e0 : s₁.heap = h0 := by rw [← hh, Bd.state]; rfl
  have N0 := Fr.nil n0
  show own_R p e below s (Q15 Z a1 h0 n0) ({ frames := 0, cells := 0, slots := 0, locals := 0 } : Room).cells ({ frames := 0, cells := 0, slots := 0, locals := 0 } : Room).slots s₁ (entryFrame m #[(.ref a1)] 1)
  refine own_cast (ef_15 m a1) ?_
  show own_R p e below s _ _ _ s₁ (mkF m 0 #[.val (.ref a1)] [])
  have K0 := Keep.refl h0 ([] : List Addr)
  refine own_aloadN X0 hx (hb hby d15_0) rfl rfl ?_
  refine own_getF X0 hx hZ hown (host := "") (Or.inl (hw _ (List.mem_of_getElem? (i := 134) rfl))) Via.refl e0 hF (hb hby d15_1) ?_
  intro T171 X171 e171
  refine own_retN X171 hx (t := .boolean) Bd.returns (by simp) hlk (hb hby d15_4) ?_ (by decide) (by decide)
  exact ⟨rfl, N0, e171⟩
theorem pl_add (sz cc ln rs rl : Int32) (hc : 1 ≤ cc.toInt ∧ cc.toInt ≤ 4) (hsz : 0 ≤ sz.toInt ∧ sz.toInt ≤ 3) (hln : 0 ≤ ln.toInt ∧ ln.toInt ≤ 100) (hrs : 0 ≤ rs.toInt ∧ rs.toInt ≤ 7) (hrl : 0 ≤ rl.toInt ∧ rl.toInt ≤ 17) :
    ¬ sz = 16 ∧ ¬ (4096 : Int32) < ln + rl ∧ ¬ rs < 0 ∧ ¬ ln < 0 ∧ ¬ rl < 0 ∧ rs.toNatClampNeg + rl.toNatClampNeg ≤ (40 : Int32).toNatClampNeg ∧ ln.toNatClampNeg + rl.toNatClampNeg ≤ (4096 : Int32).toNatClampNeg ∧ ln.toNatClampNeg + rl.toNatClampNeg ≤ 4096 ∧ ¬ sz * cc < 0 ∧ (0 : Int32).toNatClampNeg + cc.toNatClampNeg ≤ cc.toNatClampNeg ∧ (sz * cc).toNatClampNeg + cc.toNatClampNeg ≤ ((16 : Int32) * cc).toNatClampNeg ∧ (¬ sz < 0 ∧ sz < 16) ∧ sz.toNatClampNeg < 16 := by
  have h1 := c_iadd ln rl
  have h2 := rng32 (ln + rl)
  have h3 := pl_sc sz cc hc hsz
  have h4 := pl_16 cc hc
  simp only [pl_nt, Int32.lt_iff_toInt_lt, ← Int32.toInt_inj, h4, show (0 : Int32).toInt = 0 from by decide, show (1 : Int32).toInt = 1 from by decide, show (2 : Int32).toInt = 2 from by decide, show (3 : Int32).toInt = 3 from by decide, show (4 : Int32).toInt = 4 from by decide, show (5 : Int32).toInt = 5 from by decide, show (6 : Int32).toInt = 6 from by decide, show (7 : Int32).toInt = 7 from by decide, show (16 : Int32).toInt = 16 from by decide, show (17 : Int32).toInt = 17 from by decide, show (40 : Int32).toInt = 40 from by decide, show (4096 : Int32).toInt = 4096 from by decide]
  omega
theorem pn_10 : plainFor (⟨"com/example/termweave/termweave/release/HeldRows", "add", "(Lcom/example/termweave/termweave/release/RrfRow;)V"⟩ : MethodName) = true := by decide +kernel
theorem ef_10 (m : MethodId) (a1 : Addr) (vw : Addr) : entryFrame m #[(.ref a1), (.ref vw)] 3 = mkF m 0 #[.val (.ref a1), .val (.ref vw), .unset] [] := by first | (simp [entryFrame, mkF, argsToLocals, Value.category]; done) | rfl
def Q10 (Z : State) (a1 : Addr) (vw : Addr) (yb : Addr) (ys : Addr) (yz : Addr) (yf : Addr) (ye : Addr) (yr : Addr) (kb : ClassId) (ks : ClassId) (kz : ClassId) (kf : ClassId) (ke : ClassId) (kr : ClassId) (cc : Int32) (sz : Int32) (ln : Int32) (rs : Int32) (re : Int32) (bs : List Value) (ss : List Value) (zs : List Value) (fe : List Value) (us : List Value) (rr : List Value) (h0 : Heap) (n0 : Nat) (v : Option Value) (h : Heap) (L : List Loc) : Prop := v = none ∧ Fr n0 L ∧ Keep h0 h [a1, yb, yf, ys, yz] ∧ Exa Z h a1 cH ∧ Fld Z h a1 cH "bytes" "[B" (.ref yb) ∧ Fld Z h a1 cH "starts" "[I" (.ref ys) ∧ Fld Z h a1 cH "ascii" "[Z" (.ref yz) ∧ Fld Z h a1 cH "columns" "I" (.int cc) ∧ Fld Z h a1 cH "fieldEnds" "[I" (.ref yf) ∧ Fld Z h a1 cH "view" "Lcom/example/termweave/termweave/release/HeldRows$View;" (.ref vw) ∧ Fld Z h a1 cH "size" "I" (.int (sz + (1 : Int32))) ∧ Fld Z h a1 cH "length" "I" (.int (ln + ((re - rs) + (1 : Int32)))) ∧ (∃ bs', bs'.length = 4096 ∧ Arv Z h yb kb .byte 4096 bs' o0) ∧ Arv Z h yf kf .int ((16 : Int32) * cc) (List.take (sz * cc).toNatClampNeg fe ++ ((List.range cc.toNatClampNeg).map fun i => us.getD ((0 : Int32).toNatClampNeg + i) o0) ++ List.drop ((sz * cc).toNatClampNeg + cc.toNatClampNeg) fe) o0 ∧ Arv Z h ys ks .int 16 (ss.set sz.toNatClampNeg (.int ln)) o0 ∧ (∃ zs', zs'.length = 16 ∧ Arv Z h yz kz .boolean 16 zs' o0)
set_option maxRecDepth 65536 in
set_option maxHeartbeats 40000000 in
theorem rm10 (l : Launch) (Z : State) (a0 : Array Value) (hw : ∀ d ∈ tables_1, d.before a0 Z = true) (ws : List Jvm.Cond) (a1 : Addr) (vw : Addr) (yb : Addr) (ys : Addr) (yz : Addr) (yf : Addr) (ye : Addr) (yr : Addr) (kb : ClassId) (ks : ClassId) (kz : ClassId) (kf : ClassId) (ke : ClassId) (kr : ClassId) (cc : Int32) (sz : Int32) (ln : Int32) (rs : Int32) (re : Int32) (bs : List Value) (ss : List Value) (zs : List Value) (fe : List Value) (us : List Value) (rr : List Value) (h0 : Heap) (n0 : Nat) (Z0 : n0 ≤ h0.size) (hc : 1 ≤ cc.toInt ∧ cc.toInt ≤ 4) (hE : Exa Z h0 a1 cH) (hf_bytes : Fld Z h0 a1 cH "bytes" "[B" (.ref yb)) (hf_starts : Fld Z h0 a1 cH "starts" "[I" (.ref ys)) (hf_ascii : Fld Z h0 a1 cH "ascii" "[Z" (.ref yz)) (hf_columns : Fld Z h0 a1 cH "columns" "I" (.int cc)) (hf_fieldEnds : Fld Z h0 a1 cH "fieldEnds" "[I" (.ref yf)) (hf_view : Fld Z h0 a1 cH "view" "Lcom/example/termweave/termweave/release/HeldRows$View;" (.ref vw)) (hf_size : Fld Z h0 a1 cH "size" "I" (.int sz)) (hf_length : Fld Z h0 a1 cH "length" "I" (.int ln)) (hG : Exa Z h0 vw cV) (hg_rowEnd : Fld Z h0 vw cR "rowEnd" "I" (.int re)) (hg_bytes : Fld Z h0 vw cR "bytes" "[B" (.ref yr)) (hg_fieldEnds : Fld Z h0 vw cR "fieldEnds" "[I" (.ref ye)) (hg_rowStart : Fld Z h0 vw cR "rowStart" "I" (.int rs)) (hg_ascii : Fld Z h0 vw cR "ascii" "Z" (.int (1 : Int32))) (hV_yb : Arv Z h0 yb kb .byte 4096 bs o0) (hV_ys : Arv Z h0 ys ks .int 16 ss o0) (hV_yz : Arv Z h0 yz kz .boolean 16 zs o0) (hV_yf : Arv Z h0 yf kf .int ((16 : Int32) * cc) fe o0) (hV_ye : Arv Z h0 ye ke .int cc us o0) (hV_yr : Arv Z h0 yr kr .byte 40 rr o0) (ne1 : ys ≠ yf) (ne2 : ys ≠ ye) (ne3 : yf ≠ ye) (ne4 : yb ≠ yr) (n0_a1 : n0 ≤ a1) (n0_yb : n0 ≤ yb) (n0_yf : n0 ≤ yf) (n0_ys : n0 ≤ ys) (n0_yz : n0 ≤ yz) (hsz : 0 ≤ sz.toInt ∧ sz.toInt ≤ 3) (hln : 0 ≤ ln.toInt ∧ ln.toInt ≤ 100) (hrs : 0 ≤ rs.toInt ∧ rs.toInt ≤ 7) (hrl : 0 ≤ ((re - rs) + (1 : Int32)).toInt ∧ ((re - rs) + (1 : Int32)).toInt ≤ 17) (lss : ss.length = 16) (lfe : fe.length = ((16 : Int32) * cc).toNatClampNeg) (lbs : bs.length = 4096) (lzs : zs.length = 16) (lus : us.length = cc.toNatClampNeg) :
    MetFree l (⟨"com/example/termweave/termweave/release/HeldRows", "add", "(Lcom/example/termweave/termweave/release/RrfRow;)V"⟩ : MethodName) (head1 (Jvm.Cond.code (⟨"com/example/termweave/termweave/release/HeldRows", "add", "(Lcom/example/termweave/termweave/release/RrfRow;)V"⟩ : MethodName) prog_30_method_2_code 3 none :: ws) ({ frames := 1, cells := 0, slots := 0, locals := 40 } : Room)) (fun a U => a = #[(.ref a1), (.ref vw)] ∧ Z.Warmed39 U.vm ∧ U.heap = h0) (fun _ _ _ _ _ => True) (fun _ U o U' => ∃ v L, o = .returned v ∧ Q10 Z a1 vw yb ys yz yf ye yr kb ks kz kf ke kr cc sz ln rs re bs ss zs fe us rr h0 n0 v U'.heap L ∧ FrameEnd U o U' L ({ frames := 1, cells := 0, slots := 0, locals := 40 } : Room).cells ({ frames := 1, cells := 0, slots := 0, locals := 40 } : Room).slots) := by
  refine MetFree.of_bodySF pn_10 hisR ?_
  intro p e s m args below meth c s₁ Bd hml0 hP hK
  obtain ⟨rfl, hZ, hh⟩ := hP
  have hx := Bd.exec
  have hby := Bd.bytes
  have hml : c.maxLocals = 3 := hml0
  have hown : s.vm.findClass "com/example/termweave/termweave/release/HeldRows" = some m.cls := findClass_of_methodNamed Bd.named
  have hnm := (name_of_methodNamed Bd.named Bd.method).1
  have hlk := BodyLoose.notSynchronized Bd
  have X0 : Stand p l e ({ frames := 1, cells := 0, slots := 0, locals := 40 } : Room) s m #[(.ref a1), (.ref vw)] below meth c s₁ [] 0 0 := Stand.of_body Bd
  have e0 : s₁.heap = h0 := by rw [← hh, Bd.state]; rfl
  have N0 := Fr.nil n0
  show own_R p e below s (Q10 Z a1 vw yb ys yz yf ye yr kb ks kz kf ke kr cc sz ln rs re bs ss zs fe us rr h0 n0) ({ frames := 1, cells := 0, slots := 0, locals := 40 } : Room).cells ({ frames := 1, cells := 0, slots := 0, locals := 40 } : Room).slots s₁ (entryFrame m #[(.ref a1), (.ref vw)] 3)
  refine own_cast (ef_10 m a1 vw) ?_
  show own_R p e below s _ _ _ s₁ (mkF m 0 #[.val (.ref a1), .val (.ref vw), .unset] [])
  have K0 := Keep.refl h0 ([a1, yb, yf, ys, yz] : List Addr)
  have ne_a1_yb : a1 ≠ yb := (Exa.neArv hE hV_yb (hw _ (List.mem_of_getElem? (i := 2) rfl)))
  have ne_a1_yf : a1 ≠ yf := (Exa.neArv hE hV_yf (hw _ (List.mem_of_getElem? (i := 2) rfl)))
  have ne_a1_ys : a1 ≠ ys := (Exa.neArv hE hV_ys (hw _ (List.mem_of_getElem? (i := 2) rfl)))
  have ne_a1_yz : a1 ≠ yz := (Exa.neArv hE hV_yz (hw _ (List.mem_of_getElem? (i := 2) rfl)))
  have ne_a1_vw : a1 ≠ vw := (Exa.ne hE hG (by decide))
  have ne_a1_ye : a1 ≠ ye := (Exa.neArv hE hV_ye (hw _ (List.mem_of_getElem? (i := 2) rfl)))
  have ne_a1_yr : a1 ≠ yr := (Exa.neArv hE hV_yr (hw _ (List.mem_of_getElem? (i := 2) rfl)))
  have ne_yb_yf : yb ≠ yf := (own_neA hV_yb hV_yf (by decide))
  have ne_yb_ys : yb ≠ ys := (own_neA hV_yb hV_ys (by decide))
  have ne_yb_yz : yb ≠ yz := (own_neA hV_yb hV_yz (by decide))
  have ne_yb_vw : yb ≠ vw := (Ne.symm (Exa.neArv hG hV_yb (hw _ (List.mem_of_getElem? (i := 43) rfl))))
  have ne_yb_ye : yb ≠ ye := (own_neA hV_yb hV_ye (by decide))
  have ne_yf_yz : yf ≠ yz := (own_neA hV_yf hV_yz (by decide))
  have ne_yf_vw : yf ≠ vw := (Ne.symm (Exa.neArv hG hV_yf (hw _ (List.mem_of_getElem? (i := 43) rfl))))
  have ne_yf_yr : yf ≠ yr := (own_neA hV_yf hV_yr (by decide))
  have ne_ys_yz : ys ≠ yz := (own_neA hV_ys hV_yz (by decide))
  have ne_ys_vw : ys ≠ vw := (Ne.symm (Exa.neArv hG hV_ys (hw _ (List.mem_of_getElem? (i := 43) rfl))))
  have ne_ys_yr : ys ≠ yr := (own_neA hV_ys hV_yr (by decide))
  have ne_yz_vw : yz ≠ vw := (Ne.symm (Exa.neArv hG hV_yz (hw _ (List.mem_of_getElem? (i := 43) rfl))))
  have ne_yz_ye : yz ≠ ye := (own_neA hV_yz hV_ye (by decide))
  have ne_yz_yr : yz ≠ yr := (own_neA hV_yz hV_yr (by decide))
  have ne_vw_ye : vw ≠ ye := (Exa.neArv hG hV_ye (hw _ (List.mem_of_getElem? (i := 43) rfl)))
  have ne_vw_yr : vw ≠ yr := (Exa.neArv hG hV_yr (hw _ (List.mem_of_getElem? (i := 43) rfl)))
  have ne_ye_yr : ye ≠ yr := (own_neA hV_ye hV_yr (by decide))
  obtain ⟨q1, q2, q3, q4, q5, q6, q7, q8, q9, q10, q11, q12, q13⟩ := pl_add sz cc ln rs ((re - rs) + (1 : Int32)) hc hsz hln hrs hrl
  refine own_aloadN X0 hx (hb hby d10_0) rfl rfl ?_
  refine own_getF X0 hx hZ hown (host := "") (Or.inl (hw _ (List.mem_of_getElem? (i := 76) rfl))) Via.refl e0 hf_size (hb hby d10_1) ?_
  intro T172 X172 e172
  refine own_aloadN X172 hx (hb hby d10_4) rfl rfl ?_
  refine own_getF X172 hx hZ hown (host := "") (Or.inl (hw _ (List.mem_of_getElem? (i := 13) rfl))) Via.refl e172 hf_starts (hb hby d10_5) ?_
  intro T173 X173 e173
  refine own_len X173 hx hZ e173 hV_ys (hb hby d10_8) ?_
  refine own_icmp X173 hx (hb hby d10_9) (pc' := 68) (by decide) (by decide) (fun hc => ?_) (fun hc => ?_)
  · have hc9 : ¬ sz = (16 : Int32) := own_ne1 hc
    clear hc
    refine own_aloadN X173 hx (hb hby d10_68) rfl rfl ?_
    refine own_callV X173 hx hZ (y := my11) (z := my11) hown (hw _ (List.mem_of_getElem? (i := 108) rfl)) (hw _ (List.mem_of_getElem? (i := 109) rfl)) (notFace_of_selects (args := #[]) (mvT hZ (hw _ (List.mem_of_getElem? (i := 111) rfl)))) (hw _ (List.mem_of_getElem? (i := 111) rfl)) (hw _ (List.mem_of_getElem? (i := 110) rfl)) (hw _ (List.mem_of_getElem? (i := 51) rfl)) (hw _ (List.mem_of_getElem? (i := 112) rfl)) (by decide) (rm11 l Z a0 hw [] vw re h0 n0 (Nat.le_trans Z0 K0.1) hg_rowEnd) 0 (by decide) (by decide) e173 (by rw [hml]; rfl) vw hG [] [] rfl (lenOf pd_4 rfl) rfl (Nat.le_of_eq rfl) (hb hby d10_69) (by decide) (by decide) ?_
    rintro T174 _ L174 X174 ⟨rfl, N174q, e174⟩
    have N174 := Fr.app N0 N174q
    show own_R p e below s _ _ _ T174 (mkF m 72 #[.val (.ref a1), .val (.ref vw), .unset] [(.int re)])
    refine own_aloadN X174 hx (hb hby d10_72) rfl rfl ?_
    refine own_callV X174 hx hZ (y := my12) (z := my12) hown (hw _ (List.mem_of_getElem? (i := 113) rfl)) (hw _ (List.mem_of_getElem? (i := 114) rfl)) (notFace_of_selects (args := #[]) (mvT hZ (hw _ (List.mem_of_getElem? (i := 116) rfl)))) (hw _ (List.mem_of_getElem? (i := 116) rfl)) (hw _ (List.mem_of_getElem? (i := 115) rfl)) (hw _ (List.mem_of_getElem? (i := 51) rfl)) (hw _ (List.mem_of_getElem? (i := 117) rfl)) (by decide) (rm12 l Z a0 hw [] vw rs h0 n0 (Nat.le_trans Z0 K0.1) hg_rowStart) 1 (by decide) (by decide) e174 (by rw [hml]; rfl) vw hG [] [(.int re)] rfl (lenOf pd_4 rfl) rfl (Nat.le_of_eq rfl) (hb hby d10_73) (by decide) (by decide) ?_
    rintro T175 _ L175 X175 ⟨rfl, N175q, e175⟩
    have N175 := Fr.app N174 N175q
    show own_R p e below s _ _ _ T175 (mkF m 76 #[.val (.ref a1), .val (.ref vw), .unset] [(.int rs), (.int re)])
    refine own_isub X175 hx (hb hby d10_76) ?_
    refine own_iconst X175 hx (1 : Int32) (hb hby d10_77) rfl ?_
    refine own_iadd X175 hx (hb hby d10_78) ?_
    refine own_istoreN X175 hx (hb hby d10_79) (l' := #[.val (.ref a1), .val (.ref vw), .val (.int ((re - rs) + (1 : Int32)))]) rfl ?_
    refine own_aloadN X175 hx (hb hby d10_80) rfl rfl ?_
    refine own_getF X175 hx hZ hown (host := "") (Or.inl (hw _ (List.mem_of_getElem? (i := 78) rfl))) Via.refl e175 hf_length (hb hby d10_81) ?_
    intro T176 X176 e176
    refine own_iloadN X176 hx (hb hby d10_84) rfl ?_
    refine own_iadd X176 hx (hb hby d10_85) ?_
    refine own_aloadN X176 hx (hb hby d10_86) rfl rfl ?_
    refine own_getF X176 hx hZ hown (host := "") (Or.inl (hw _ (List.mem_of_getElem? (i := 10) rfl))) Via.refl e176 hf_bytes (hb hby d10_87) ?_
    intro T177 X177 e177
    refine own_len X177 hx hZ e177 hV_yb (hb hby d10_90) ?_
    refine own_icmp X177 hx (hb hby d10_91) (pc' := 121) (by decide) (by decide) (fun hc => ?_) (fun hc => ?_)
    · have hc91 : ¬ (4096 : Int32) < (ln + ((re - rs) + (1 : Int32))) := own_le1 hc
      clear hc
      refine own_aloadN X177 hx (hb hby d10_121) rfl rfl ?_
      refine own_callV X177 hx hZ (y := my13) (z := my13) hown (hw _ (List.mem_of_getElem? (i := 119) rfl)) (hw _ (List.mem_of_getElem? (i := 120) rfl)) (notFace_of_selects (args := #[]) (mvT hZ (hw _ (List.mem_of_getElem? (i := 122) rfl)))) (hw _ (List.mem_of_getElem? (i := 122) rfl)) (hw _ (List.mem_of_getElem? (i := 121) rfl)) (hw _ (List.mem_of_getElem? (i := 51) rfl)) (hw _ (List.mem_of_getElem? (i := 123) rfl)) (by decide) (rm13 l Z a0 hw [] vw yr h0 n0 (Nat.le_trans Z0 K0.1) hg_bytes) 0 (by decide) (by decide) e177 (by rw [hml]; rfl) vw hG [] [] rfl (lenOf pd_5 rfl) rfl (Nat.le_of_eq rfl) (hb hby d10_122) (by decide) (by decide) ?_
      rintro T178 _ L178 X178 ⟨rfl, N178q, e178⟩
      have N178 := Fr.app N175 N178q
      show own_R p e below s _ _ _ T178 (mkF m 125 #[.val (.ref a1), .val (.ref vw), .val (.int ((re - rs) + (1 : Int32)))] [(.ref yr)])
      refine own_aloadN X178 hx (hb hby d10_125) rfl rfl ?_
      refine own_callV X178 hx hZ (y := my12) (z := my12) hown (hw _ (List.mem_of_getElem? (i := 113) rfl)) (hw _ (List.mem_of_getElem? (i := 114) rfl)) (notFace_of_selects (args := #[]) (mvT hZ (hw _ (List.mem_of_getElem? (i := 116) rfl)))) (hw _ (List.mem_of_getElem? (i := 116) rfl)) (hw _ (List.mem_of_getElem? (i := 115) rfl)) (hw _ (List.mem_of_getElem? (i := 51) rfl)) (hw _ (List.mem_of_getElem? (i := 117) rfl)) (by decide) (rm12 l Z a0 hw [] vw rs h0 n0 (Nat.le_trans Z0 K0.1) hg_rowStart) 1 (by decide) (by decide) e178 (by rw [hml]; rfl) vw hG [] [(.ref yr)] rfl (lenOf pd_4 rfl) rfl (Nat.le_of_eq rfl) (hb hby d10_126) (by decide) (by decide) ?_
      rintro T179 _ L179 X179 ⟨rfl, N179q, e179⟩
      have N179 := Fr.app N178 N179q
      show own_R p e below s _ _ _ T179 (mkF m 129 #[.val (.ref a1), .val (.ref vw), .val (.int ((re - rs) + (1 : Int32)))] [(.int rs), (.ref yr)])
      refine own_aloadN X179 hx (hb hby d10_129) rfl rfl ?_
      refine own_getF X179 hx hZ hown (host := "") (Or.inl (hw _ (List.mem_of_getElem? (i := 10) rfl))) Via.refl e179 hf_bytes (hb hby d10_130) ?_
      intro T180 X180 e180
      refine own_aloadN X180 hx (hb hby d10_133) rfl rfl ?_
      refine own_getF X180 hx hZ hown (host := "") (Or.inl (hw _ (List.mem_of_getElem? (i := 78) rfl))) Via.refl e180 hf_length (hb hby d10_134) ?_
      intro T181 X181 e181
      refine own_iloadN X181 hx (hb hby d10_137) rfl ?_
      obtain ⟨T182, h182, L182, X182, e182, N182, Kc182, V182, st182⟩ := cpA X181 hx hZ hown (hw _ (List.mem_of_getElem? (i := 84) rfl)) (hw _ (List.mem_of_getElem? (i := 87) rfl)) (hw _ (List.mem_of_getElem? (i := 85) rfl)) (hw _ (List.mem_of_getElem? (i := 86) rfl)) e181 hV_yr hV_yb (us := ((List.range ((re - rs) + (1 : Int32)).toNatClampNeg).map fun i => rr.getD (rs.toNatClampNeg + i) o0)) (Or.inl ⟨rfl, rfl⟩) q3 q4 q5 q6 q7 rfl (by rw [lbs]; exact q8) N179 n0_yb (g := (mkF m 138 #[.val (.ref a1), .val (.ref vw), .val (.int ((re - rs) + (1 : Int32)))] [(.int ((re - rs) + (1 : Int32))), (.int ln), (.ref yb), (.int rs), (.ref yr)])) rfl (by rw [hml]; rfl) rfl (hb hby d10_138) (by decide) (W := 0) (Nat.le_of_eq rfl) (by decide)
      refine own_lift st182 ?_
      have K182 := K0.trans Kc182 (allS (P := fun x => x ∈ ([a1, yb, yf, ys, yz] : List Addr) ∨ h0.size ≤ x) (Or.inl (List.mem_of_getElem? (i := 1) rfl)) all0)
      have V_yb_182 : Arv Z h182 yb kb .byte (4096 : Int32) (List.take ln.toNatClampNeg bs ++ ((List.range ((re - rs) + (1 : Int32)).toNatClampNeg).map fun i => rr.getD (rs.toNatClampNeg + i) o0) ++ List.drop (ln.toNatClampNeg + ((re - rs) + (1 : Int32)).toNatClampNeg) bs) o0 := V182
      refine own_aloadN X182 hx (hb hby d10_141) rfl rfl ?_
      have f183 := (hg_fieldEnds.keep Kc182 (ninS (Ne.symm ne_yb_vw) nin0))
      have f185 := (Exa.keep hG Kc182)
      refine own_callV X182 hx hZ (y := my14) (z := my14) hown (hw _ (List.mem_of_getElem? (i := 124) rfl)) (hw _ (List.mem_of_getElem? (i := 125) rfl)) (notFace_of_selects (args := #[]) (mvT hZ (hw _ (List.mem_of_getElem? (i := 127) rfl)))) (hw _ (List.mem_of_getElem? (i := 127) rfl)) (hw _ (List.mem_of_getElem? (i := 126) rfl)) (hw _ (List.mem_of_getElem? (i := 51) rfl)) (hw _ (List.mem_of_getElem? (i := 128) rfl)) (by decide) (rm14 l Z a0 hw [] vw ye h182 n0 (Nat.le_trans Z0 K182.1) f183) 0 (by decide) (by decide) e182 (by rw [hml]; rfl) vw f185 [] [] rfl (lenOf pd_6 rfl) rfl (Nat.le_of_eq rfl) (hb hby d10_142) (by decide) (by decide) ?_
      rintro T184 _ L184 X184 ⟨rfl, N184q, e184⟩
      have N184 := Fr.app N182 N184q
      show own_R p e below s _ _ _ T184 (mkF m 145 #[.val (.ref a1), .val (.ref vw), .val (.int ((re - rs) + (1 : Int32)))] [(.ref ye)])
      refine own_iconst X184 hx (0 : Int32) (hb hby d10_145) rfl ?_
      refine own_aloadN X184 hx (hb hby d10_146) rfl rfl ?_
      have f186 := (hf_fieldEnds.keep Kc182 (ninS ne_a1_yb nin0))
      refine own_getF X184 hx hZ hown (host := "") (Or.inl (hw _ (List.mem_of_getElem? (i := 40) rfl))) Via.refl e184 f186 (hb hby d10_147) ?_
      intro T187 X187 e187
      refine own_aloadN X187 hx (hb hby d10_150) rfl rfl ?_
      have f188 := (hf_size.keep Kc182 (ninS ne_a1_yb nin0))
      refine own_getF X187 hx hZ hown (host := "") (Or.inl (hw _ (List.mem_of_getElem? (i := 76) rfl))) Via.refl e187 f188 (hb hby d10_151) ?_
      intro T189 X189 e189
      refine own_aloadN X189 hx (hb hby d10_154) rfl rfl ?_
      have f190 := (hf_columns.keep Kc182 (ninS ne_a1_yb nin0))
      refine own_getF X189 hx hZ hown (host := "") (Or.inl (hw _ (List.mem_of_getElem? (i := 38) rfl))) Via.refl e189 f190 (hb hby d10_155) ?_
      intro T191 X191 e191
      refine own_imul X191 hx (hb hby d10_158) ?_
      refine own_aloadN X191 hx (hb hby d10_159) rfl rfl ?_
      refine own_getF X191 hx hZ hown (host := "") (Or.inl (hw _ (List.mem_of_getElem? (i := 38) rfl))) Via.refl e191 f190 (hb hby d10_160) ?_
      intro T192 X192 e192
      have f194 := (hV_ye.keep Kc182 (ninS (Ne.symm ne_yb_ye) nin0))
      have f195 := (hV_yf.keep Kc182 (ninS (Ne.symm ne_yb_yf) nin0))
      obtain ⟨T193, h193, L193, X193, e193, N193, Kc193, V193, st193⟩ := cpA X192 hx hZ hown (hw _ (List.mem_of_getElem? (i := 84) rfl)) (hw _ (List.mem_of_getElem? (i := 87) rfl)) (hw _ (List.mem_of_getElem? (i := 85) rfl)) (hw _ (List.mem_of_getElem? (i := 86) rfl)) e192 f194 f195 (us := ((List.range cc.toNatClampNeg).map fun i => us.getD ((0 : Int32).toNatClampNeg + i) o0)) (Or.inl ⟨rfl, rfl⟩) (by decide) q9 (pl_negc cc hc) q10 q11 rfl (by rw [lfe]; exact q11) N184 n0_yf (g := (mkF m 163 #[.val (.ref a1), .val (.ref vw), .val (.int ((re - rs) + (1 : Int32)))] [(.int cc), (.int (sz * cc)), (.ref yf), (.int (0 : Int32)), (.ref ye)])) rfl (by rw [hml]; rfl) rfl (hb hby d10_163) (by decide) (W := 0) (Nat.le_of_eq rfl) (by decide)
      refine own_lift st193 ?_
      have K193 := K182.trans Kc193 (allS (P := fun x => x ∈ ([a1, yb, yf, ys, yz] : List Addr) ∨ h0.size ≤ x) (Or.inl (List.mem_of_getElem? (i := 2) rfl)) all0)
      have V_yf_193 : Arv Z h193 yf kf .int ((16 : Int32) * cc) (List.take (sz * cc).toNatClampNeg fe ++ ((List.range cc.toNatClampNeg).map fun i => us.getD ((0 : Int32).toNatClampNeg + i) o0) ++ List.drop ((sz * cc).toNatClampNeg + cc.toNatClampNeg) fe) o0 := V193
      refine own_aloadN X193 hx (hb hby d10_166) rfl rfl ?_
      have f196 := ((hf_starts.keep Kc182 (ninS ne_a1_yb nin0)).keep Kc193 (ninS ne_a1_yf nin0))
      refine own_getF X193 hx hZ hown (host := "") (Or.inl (hw _ (List.mem_of_getElem? (i := 13) rfl))) Via.refl e193 f196 (hb hby d10_167) ?_
      intro T197 X197 e197
      refine own_aloadN X197 hx (hb hby d10_170) rfl rfl ?_
      have f198 := (f188.keep Kc193 (ninS ne_a1_yf nin0))
      refine own_getF X197 hx hZ hown (host := "") (Or.inl (hw _ (List.mem_of_getElem? (i := 76) rfl))) Via.refl e197 f198 (hb hby d10_171) ?_
      intro T199 X199 e199
      refine own_aloadN X199 hx (hb hby d10_174) rfl rfl ?_
      have f200 := ((hf_length.keep Kc182 (ninS ne_a1_yb nin0)).keep Kc193 (ninS ne_a1_yf nin0))
      refine own_getF X199 hx hZ hown (host := "") (Or.inl (hw _ (List.mem_of_getElem? (i := 78) rfl))) Via.refl e199 f200 (hb hby d10_175) ?_
      intro T201 X201 e201
      have f202 := ((hV_ys.keep Kc182 (ninS (Ne.symm ne_yb_ys) nin0)).keep Kc193 (ninS ne1 nin0))
      refine own_iastore X201 hx hZ e201 f202 (x' := ln) rfl q12 sz.toNatClampNeg rfl (by rw [lss]; exact q13) (hb hby d10_178) ?_
      intro T203 h203 X203 e203 W203 V203
      have K203 := K193.wr W203 (Or.inl (List.mem_of_getElem? (i := 3) rfl))
      have N203 := Fr.snoc X203 N193 n0_ys
      have V_ys_203 : Arv Z h203 ys ks .int (16 : Int32) (ss.set sz.toNatClampNeg (.int ln)) o0 := V203
      refine own_aloadN X203 hx (hb hby d10_179) rfl rfl ?_
      have f204 := (Fld.other W203 ((hf_ascii.keep Kc182 (ninS ne_a1_yb nin0)).keep Kc193 (ninS ne_a1_yf nin0)) (Or.inl ne_a1_ys))
      refine own_getF X203 hx hZ hown (host := "") (Or.inl (hw _ (List.mem_of_getElem? (i := 16) rfl))) Via.refl e203 f204 (hb hby d10_180) ?_
      intro T205 X205 e205
      refine own_aloadN X205 hx (hb hby d10_183) rfl rfl ?_
      have f206 := (Fld.other W203 f198 (Or.inl ne_a1_ys))
      refine own_getF X205 hx hZ hown (host := "") (Or.inl (hw _ (List.mem_of_getElem? (i := 76) rfl))) Via.refl e205 f206 (hb hby d10_184) ?_
      intro T207 X207 e207
      refine own_aloadN X207 hx (hb hby d10_187) rfl rfl ?_
      have f208 := (Fld.other W203 ((hg_ascii.keep Kc182 (ninS (Ne.symm ne_yb_vw) nin0)).keep Kc193 (ninS (Ne.symm ne_yf_vw) nin0)) (Or.inl (Ne.symm ne_ys_vw)))
      have f210 := (Exa.wr W203 (Exa.keep f185 Kc193))
      refine own_callV X207 hx hZ (y := my15) (z := my15) hown (hw _ (List.mem_of_getElem? (i := 129) rfl)) (hw _ (List.mem_of_getElem? (i := 130) rfl)) (notFace_of_selects (args := #[]) (mvT hZ (hw _ (List.mem_of_getElem? (i := 132) rfl)))) (hw _ (List.mem_of_getElem? (i := 132) rfl)) (hw _ (List.mem_of_getElem? (i := 131) rfl)) (hw _ (List.mem_of_getElem? (i := 51) rfl)) (hw _ (List.mem_of_getElem? (i := 133) rfl)) (by decide) (rm15 l Z a0 hw [] vw h203 n0 (Nat.le_trans Z0 K203.1) f208) 2 (by decide) (by decide) e207 (by rw [hml]; rfl) vw f210 [] [(.int sz), (.ref yz)] rfl (lenOf pd_7 rfl) rfl (Nat.le_of_eq rfl) (hb hby d10_188) (by decide) (by decide) ?_
      rintro T209 _ L209 X209 ⟨rfl, N209q, e209⟩
      have N209 := Fr.app N203 N209q
      show own_R p e below s _ _ _ T209 (mkF m 191 #[.val (.ref a1), .val (.ref vw), .val (.int ((re - rs) + (1 : Int32)))] [(.int (1 : Int32)), (.int sz), (.ref yz)])
      have f211 := (((hV_yz.keep Kc182 (ninS (Ne.symm ne_yb_yz) nin0)).keep Kc193 (ninS (Ne.symm ne_yf_yz) nin0)).other W203 (Ne.symm ne_ys_yz))
      refine own_zastore X209 hx hZ e209 f211 (x' := (1 : Int32)) (by decide) q12 sz.toNatClampNeg rfl (by rw [lzs]; exact q13) (hb hby d10_191) ?_
      intro T212 h212 X212 e212 W212 V212
      have K212 := K203.wr W212 (Or.inl (List.mem_of_getElem? (i := 4) rfl))
      have N212 := Fr.snoc X212 N209 n0_yz
      have V_yz_212 : Arv Z h212 yz kz .boolean (16 : Int32) (zs.set sz.toNatClampNeg (.int (1 : Int32))) o0 := V212
      refine own_aloadN X212 hx (hb hby d10_192) rfl rfl ?_
      refine own_dup X212 hx (hb hby d10_193) rfl ?_
      have f213 := (Fld.other W212 (Fld.other W203 f200 (Or.inl ne_a1_ys)) (Or.inl ne_a1_yz))
      refine own_getF X212 hx hZ hown (host := "") (Or.inl (hw _ (List.mem_of_getElem? (i := 78) rfl))) Via.refl e212 f213 (hb hby d10_194) ?_
      intro T214 X214 e214
      refine own_iloadN X214 hx (hb hby d10_197) rfl ?_
      refine own_iadd X214 hx (hb hby d10_198) ?_
      have f215 := (Exa.wr W212 (Exa.wr W203 (Exa.keep (Exa.keep hE Kc182) Kc193)))
      refine own_putF X214 hx hZ hown (host := "") (Or.inl (hw _ (List.mem_of_getElem? (i := 78) rfl))) Via.refl e214 f213 f215 (Or.inl (hw _ (List.mem_of_getElem? (i := 79) rfl))) (hw _ (List.mem_of_getElem? (i := 2) rfl)) (ty := .int) (by decide) rfl rfl (hb hby d10_199) ?_
      intro T216 h216 X216 e216 W216
      have K216 := K212.wr W216 (Or.inl (List.mem_of_getElem? (i := 0) rfl))
      have N216 := Fr.snoc X216 N212 n0_a1
      have Fw216 := Fld.same W216 f213
      refine own_aloadN X216 hx (hb hby d10_202) rfl rfl ?_
      refine own_dup X216 hx (hb hby d10_203) rfl ?_
      have f217 := (Fld.other W216 (Fld.other W212 f206 (Or.inl ne_a1_yz)) (Or.inr (slot_ne (Or.inl (hw _ (List.mem_of_getElem? (i := 77) rfl))) (Or.inl (hw _ (List.mem_of_getElem? (i := 79) rfl))) (by decide) (t := .int) (t' := .int) (by decide) (by decide))))
      refine own_getF X216 hx hZ hown (host := "") (Or.inl (hw _ (List.mem_of_getElem? (i := 76) rfl))) Via.refl e216 f217 (hb hby d10_204) ?_
      intro T218 X218 e218
      refine own_iconst X218 hx (1 : Int32) (hb hby d10_207) rfl ?_
      refine own_iadd X218 hx (hb hby d10_208) ?_
      have f219 := (Exa.wr W216 f215)
      refine own_putF X218 hx hZ hown (host := "") (Or.inl (hw _ (List.mem_of_getElem? (i := 76) rfl))) Via.refl e218 f217 f219 (Or.inl (hw _ (List.mem_of_getElem? (i := 77) rfl))) (hw _ (List.mem_of_getElem? (i := 2) rfl)) (ty := .int) (by decide) rfl rfl (hb hby d10_209) ?_
      intro T220 h220 X220 e220 W220
      have K220 := K216.wr W220 (Or.inl (List.mem_of_getElem? (i := 0) rfl))
      have N220 := Fr.snoc X220 N216 n0_a1
      have Fw220 := Fld.same W220 f217
      have f221 := (Exa.wr W220 f219)
      have f222 := (Fld.other W220 (Fld.other W216 (Fld.other W212 (Fld.other W203 ((hf_bytes.keep Kc182 (ninS ne_a1_yb nin0)).keep Kc193 (ninS ne_a1_yf nin0)) (Or.inl ne_a1_ys)) (Or.inl ne_a1_yz)) (Or.inr (slot_ne (Or.inl (hw _ (List.mem_of_getElem? (i := 11) rfl))) (Or.inl (hw _ (List.mem_of_getElem? (i := 79) rfl))) (by decide) (t := (.array .byte)) (t' := .int) (by decide) (by decide)))) (Or.inr (slot_ne (Or.inl (hw _ (List.mem_of_getElem? (i := 11) rfl))) (Or.inl (hw _ (List.mem_of_getElem? (i := 77) rfl))) (by decide) (t := (.array .byte)) (t' := .int) (by decide) (by decide))))
      have f223 := (Fld.other W220 (Fld.other W216 (Fld.other W212 (Fld.other W203 f196 (Or.inl ne_a1_ys)) (Or.inl ne_a1_yz)) (Or.inr (slot_ne (Or.inl (hw _ (List.mem_of_getElem? (i := 14) rfl))) (Or.inl (hw _ (List.mem_of_getElem? (i := 79) rfl))) (by decide) (t := (.array .int)) (t' := .int) (by decide) (by decide)))) (Or.inr (slot_ne (Or.inl (hw _ (List.mem_of_getElem? (i := 14) rfl))) (Or.inl (hw _ (List.mem_of_getElem? (i := 77) rfl))) (by decide) (t := (.array .int)) (t' := .int) (by decide) (by decide))))
      have f224 := (Fld.other W220 (Fld.other W216 (Fld.other W212 f204 (Or.inl ne_a1_yz)) (Or.inr (slot_ne (Or.inl (hw _ (List.mem_of_getElem? (i := 17) rfl))) (Or.inl (hw _ (List.mem_of_getElem? (i := 79) rfl))) (by decide) (t := (.array .boolean)) (t' := .int) (by decide) (by decide)))) (Or.inr (slot_ne (Or.inl (hw _ (List.mem_of_getElem? (i := 17) rfl))) (Or.inl (hw _ (List.mem_of_getElem? (i := 77) rfl))) (by decide) (t := (.array .boolean)) (t' := .int) (by decide) (by decide))))
      have f225 := (Fld.other W220 (Fld.other W216 (Fld.other W212 (Fld.other W203 (f190.keep Kc193 (ninS ne_a1_yf nin0)) (Or.inl ne_a1_ys)) (Or.inl ne_a1_yz)) (Or.inr (slot_ne (Or.inr (hw _ (List.mem_of_getElem? (i := 39) rfl))) (Or.inl (hw _ (List.mem_of_getElem? (i := 79) rfl))) (by decide) (t := .int) (t' := .int) (by decide) (by decide)))) (Or.inr (slot_ne (Or.inr (hw _ (List.mem_of_getElem? (i := 39) rfl))) (Or.inl (hw _ (List.mem_of_getElem? (i := 77) rfl))) (by decide) (t := .int) (t' := .int) (by decide) (by decide))))
      have f226 := (Fld.other W220 (Fld.other W216 (Fld.other W212 (Fld.other W203 (f186.keep Kc193 (ninS ne_a1_yf nin0)) (Or.inl ne_a1_ys)) (Or.inl ne_a1_yz)) (Or.inr (slot_ne (Or.inl (hw _ (List.mem_of_getElem? (i := 41) rfl))) (Or.inl (hw _ (List.mem_of_getElem? (i := 79) rfl))) (by decide) (t := (.array .int)) (t' := .int) (by decide) (by decide)))) (Or.inr (slot_ne (Or.inl (hw _ (List.mem_of_getElem? (i := 41) rfl))) (Or.inl (hw _ (List.mem_of_getElem? (i := 77) rfl))) (by decide) (t := (.array .int)) (t' := .int) (by decide) (by decide))))
      have f227 := (Fld.other W220 (Fld.other W216 (Fld.other W212 (Fld.other W203 ((hf_view.keep Kc182 (ninS ne_a1_yb nin0)).keep Kc193 (ninS ne_a1_yf nin0)) (Or.inl ne_a1_ys)) (Or.inl ne_a1_yz)) (Or.inr (slot_ne (Or.inr (hw _ (List.mem_of_getElem? (i := 61) rfl))) (Or.inl (hw _ (List.mem_of_getElem? (i := 79) rfl))) (by decide) (t := (.object "com/example/termweave/termweave/release/HeldRows$View")) (t' := .int) (by decide) (by decide)))) (Or.inr (slot_ne (Or.inr (hw _ (List.mem_of_getElem? (i := 61) rfl))) (Or.inl (hw _ (List.mem_of_getElem? (i := 77) rfl))) (by decide) (t := (.object "com/example/termweave/termweave/release/HeldRows$View")) (t' := .int) (by decide) (by decide))))
      have f228 := (Fld.other W220 Fw216 (Or.inr (slot_ne (Or.inl (hw _ (List.mem_of_getElem? (i := 79) rfl))) (Or.inl (hw _ (List.mem_of_getElem? (i := 77) rfl))) (by decide) (t := .int) (t' := .int) (by decide) (by decide))))
      have f229 := (((((V_yb_182.keep Kc193 (ninS ne_yb_yf nin0)).other W203 ne_yb_ys).other W212 ne_yb_yz).other W216 (Ne.symm ne_a1_yb)).other W220 (Ne.symm ne_a1_yb))
      have f230 := ((((V_yf_193.other W203 (Ne.symm ne1)).other W212 ne_yf_yz).other W216 (Ne.symm ne_a1_yf)).other W220 (Ne.symm ne_a1_yf))
      have f231 := (((V_ys_203.other W212 ne_ys_yz).other W216 (Ne.symm ne_a1_ys)).other W220 (Ne.symm ne_a1_ys))
      have f232 := ((V_yz_212.other W216 (Ne.symm ne_a1_yz)).other W220 (Ne.symm ne_a1_yz))
      refine own_ret0 X220 hx Bd.returns hlk (hb hby d10_212) ?_ (by decide) (by decide)
      rw [e220]
      exact ⟨rfl, N220, K220, f221, f222, f223, f224, f225, f226, f227, Fw220, f228, ⟨_, (pl_upl bs _ _ _ (by rw [lbs]; exact q8) (by rw [List.length_map, List.length_range])).trans lbs, f229⟩, f230, f231, ⟨_, (List.length_set ..).trans lzs, f232⟩⟩
    · have hc91 : (4096 : Int32) < (ln + ((re - rs) + (1 : Int32))) := own_le0 hc
      exact absurd hc91 q2
  · have hc9 : sz = (16 : Int32) := own_ne0 hc
    exact absurd hc9 q1
theorem pn_17 : plainFor (⟨"com/example/termweave/termweave/release/HeldRows", "clear", "()V"⟩ : MethodName) = true := by decide +kernel
theorem ef_17 (m : MethodId) (a1 : Addr) : entryFrame m #[(.ref a1)] 1 = mkF m 0 #[.val (.ref a1)] [] := by first | (simp [entryFrame, mkF, argsToLocals, Value.category]; done) | rfl
def Q17 (Z : State) (a1 : Addr) (vw : Addr) (yb : Addr) (ys : Addr) (yz : Addr) (yf : Addr) (cc : Int32) (sz : Int32) (ln : Int32) (h0 : Heap) (n0 : Nat) (v : Option Value) (h : Heap) (L : List Loc) : Prop := v = none ∧ Fr n0 L ∧ Keep h0 h [a1] ∧ Exa Z h a1 cH ∧ Fld Z h a1 cH "bytes" "[B" (.ref yb) ∧ Fld Z h a1 cH "starts" "[I" (.ref ys) ∧ Fld Z h a1 cH "ascii" "[Z" (.ref yz) ∧ Fld Z h a1 cH "columns" "I" (.int cc) ∧ Fld Z h a1 cH "fieldEnds" "[I" (.ref yf) ∧ Fld Z h a1 cH "view" "Lcom/example/termweave/termweave/release/HeldRows$View;" (.ref vw) ∧ Fld Z h a1 cH "size" "I" (.int (0 : Int32)) ∧ Fld Z h a1 cH "length" "I" (.int (0 : Int32))
set_option maxRecDepth 65536 in
set_option maxHeartbeats 40000000 in
theorem rm17 (l : Launch) (Z : State) (a0 : Array Value) (hw : ∀ d ∈ tables_1, d.before a0 Z = true) (ws : List Jvm.Cond) (a1 : Addr) (vw : Addr) (yb : Addr) (ys : Addr) (yz : Addr) (yf : Addr) (cc : Int32) (sz : Int32) (ln : Int32) (h0 : Heap) (n0 : Nat) (Z0 : n0 ≤ h0.size) (hE : Exa Z h0 a1 cH) (hf_bytes : Fld Z h0 a1 cH "bytes" "[B" (.ref yb)) (hf_starts : Fld Z h0 a1 cH "starts" "[I" (.ref ys)) (hf_ascii : Fld Z h0 a1 cH "ascii" "[Z" (.ref yz)) (hf_columns : Fld Z h0 a1 cH "columns" "I" (.int cc)) (hf_fieldEnds : Fld Z h0 a1 cH "fieldEnds" "[I" (.ref yf)) (hf_view : Fld Z h0 a1 cH "view" "Lcom/example/termweave/termweave/release/HeldRows$View;" (.ref vw)) (hf_size : Fld Z h0 a1 cH "size" "I" (.int sz)) (hf_length : Fld Z h0 a1 cH "length" "I" (.int ln)) (n0_a1 : n0 ≤ a1) :
    MetFree l (⟨"com/example/termweave/termweave/release/HeldRows", "clear", "()V"⟩ : MethodName) (head1 (Jvm.Cond.code (⟨"com/example/termweave/termweave/release/HeldRows", "clear", "()V"⟩ : MethodName) prog_30_method_5_code 1 none :: ws) ({ frames := 0, cells := 0, slots := 0, locals := 0 } : Room)) (fun a U => a = #[(.ref a1)] ∧ Z.Warmed39 U.vm ∧ U.heap = h0) (fun _ _ _ _ _ => True) (fun _ U o U' => ∃ v L, o = .returned v ∧ Q17 Z a1 vw yb ys yz yf cc sz ln h0 n0 v U'.heap L ∧ FrameEnd U o U' L ({ frames := 0, cells := 0, slots := 0, locals := 0 } : Room).cells ({ frames := 0, cells := 0, slots := 0, locals := 0 } : Room).slots) := by
  refine MetFree.of_bodySF pn_17 hisR ?_
  intro p e s m args below meth c s₁ Bd hml0 hP hK
  obtain ⟨rfl, hZ, hh⟩ := hP
  have hx := Bd.exec
  have hby := Bd.bytes
  have hml : c.maxLocals = 1 := hml0
  have hown : s.vm.findClass "com/example/termweave/termweave/release/HeldRows" = some m.cls := findClass_of_methodNamed Bd.named
  have hnm := (name_of_methodNamed Bd.named Bd.method).1
  have hlk := BodyLoose.notSynchronized Bd
  have X0 : Stand p l e ({ frames := 0, cells := 0, slots := 0, locals := 0 } : Room) s m #[(.ref a1)] below meth c s₁ [] 0 0 := Stand.of_body Bd
  have e0 : s₁.heap = h0 := by rw [← hh, Bd.state]; rfl
  have N0 := Fr.nil n0
  show own_R p e below s (Q17 Z a1 vw yb ys yz yf cc sz ln h0 n0) ({ frames := 0, cells := 0, slots := 0, locals := 0 } : Room).cells ({ frames := 0, cells := 0, slots := 0, locals := 0 } : Room).slots s₁ (entryFrame m #[(.ref a1)] 1)
  refine own_cast (ef_17 m a1) ?_
  show own_R p e below s _ _ _ s₁ (mkF m 0 #[.val (.ref a1)] [])
  have K0 := Keep.refl h0 ([a1] : List Addr)
  refine own_aloadN X0 hx (hb hby d17_0) rfl rfl ?_
  refine own_iconst X0 hx (0 : Int32) (hb hby d17_1) rfl ?_
  refine own_putF X0 hx hZ hown (host := "") (Or.inl (hw _ (List.mem_of_getElem? (i := 76) rfl))) Via.refl e0 hf_size hE (Or.inl (hw _ (List.mem_of_getElem? (i := 77) rfl))) (hw _ (List.mem_of_getElem? (i := 2) rfl)) (ty := .int) (by decide) rfl rfl (hb hby d17_2) ?_
  intro T233 h233 X233 e233 W233
  have K233 := K0.wr W233 (Or.inl (List.mem_of_getElem? (i := 0) rfl))
  have N233 := Fr.snoc X233 N0 n0_a1
  have Fw233 := Fld.same W233 hf_size
  refine own_aloadN X233 hx (hb hby d17_5) rfl rfl ?_
  refine own_iconst X233 hx (0 : Int32) (hb hby d17_6) rfl ?_
  have f234 := (Fld.other W233 hf_length (Or.inr (slot_ne (Or.inl (hw _ (List.mem_of_getElem? (i := 79) rfl))) (Or.inl (hw _ (List.mem_of_getElem? (i := 77) rfl))) (by decide) (t := .int) (t' := .int) (by decide) (by decide))))
  have f235 := (Exa.wr W233 hE)
  refine own_putF X233 hx hZ hown (host := "") (Or.inl (hw _ (List.mem_of_getElem? (i := 78) rfl))) Via.refl e233 f234 f235 (Or.inl (hw _ (List.mem_of_getElem? (i := 79) rfl))) (hw _ (List.mem_of_getElem? (i := 2) rfl)) (ty := .int) (by decide) rfl rfl (hb hby d17_7) ?_
  intro T236 h236 X236 e236 W236
  have K236 := K233.wr W236 (Or.inl (List.mem_of_getElem? (i := 0) rfl))
  have N236 := Fr.snoc X236 N233 n0_a1
  have Fw236 := Fld.same W236 f234
  have f237 := (Exa.wr W236 f235)
  have f238 := (Fld.other W236 (Fld.other W233 hf_bytes (Or.inr (slot_ne (Or.inl (hw _ (List.mem_of_getElem? (i := 11) rfl))) (Or.inl (hw _ (List.mem_of_getElem? (i := 77) rfl))) (by decide) (t := (.array .byte)) (t' := .int) (by decide) (by decide)))) (Or.inr (slot_ne (Or.inl (hw _ (List.mem_of_getElem? (i := 11) rfl))) (Or.inl (hw _ (List.mem_of_getElem? (i := 79) rfl))) (by decide) (t := (.array .byte)) (t' := .int) (by decide) (by decide))))
  have f239 := (Fld.other W236 (Fld.other W233 hf_starts (Or.inr (slot_ne (Or.inl (hw _ (List.mem_of_getElem? (i := 14) rfl))) (Or.inl (hw _ (List.mem_of_getElem? (i := 77) rfl))) (by decide) (t := (.array .int)) (t' := .int) (by decide) (by decide)))) (Or.inr (slot_ne (Or.inl (hw _ (List.mem_of_getElem? (i := 14) rfl))) (Or.inl (hw _ (List.mem_of_getElem? (i := 79) rfl))) (by decide) (t := (.array .int)) (t' := .int) (by decide) (by decide))))
  have f240 := (Fld.other W236 (Fld.other W233 hf_ascii (Or.inr (slot_ne (Or.inl (hw _ (List.mem_of_getElem? (i := 17) rfl))) (Or.inl (hw _ (List.mem_of_getElem? (i := 77) rfl))) (by decide) (t := (.array .boolean)) (t' := .int) (by decide) (by decide)))) (Or.inr (slot_ne (Or.inl (hw _ (List.mem_of_getElem? (i := 17) rfl))) (Or.inl (hw _ (List.mem_of_getElem? (i := 79) rfl))) (by decide) (t := (.array .boolean)) (t' := .int) (by decide) (by decide))))
  have f241 := (Fld.other W236 (Fld.other W233 hf_columns (Or.inr (slot_ne (Or.inr (hw _ (List.mem_of_getElem? (i := 39) rfl))) (Or.inl (hw _ (List.mem_of_getElem? (i := 77) rfl))) (by decide) (t := .int) (t' := .int) (by decide) (by decide)))) (Or.inr (slot_ne (Or.inr (hw _ (List.mem_of_getElem? (i := 39) rfl))) (Or.inl (hw _ (List.mem_of_getElem? (i := 79) rfl))) (by decide) (t := .int) (t' := .int) (by decide) (by decide))))
  have f242 := (Fld.other W236 (Fld.other W233 hf_fieldEnds (Or.inr (slot_ne (Or.inl (hw _ (List.mem_of_getElem? (i := 41) rfl))) (Or.inl (hw _ (List.mem_of_getElem? (i := 77) rfl))) (by decide) (t := (.array .int)) (t' := .int) (by decide) (by decide)))) (Or.inr (slot_ne (Or.inl (hw _ (List.mem_of_getElem? (i := 41) rfl))) (Or.inl (hw _ (List.mem_of_getElem? (i := 79) rfl))) (by decide) (t := (.array .int)) (t' := .int) (by decide) (by decide))))
  have f243 := (Fld.other W236 (Fld.other W233 hf_view (Or.inr (slot_ne (Or.inr (hw _ (List.mem_of_getElem? (i := 61) rfl))) (Or.inl (hw _ (List.mem_of_getElem? (i := 77) rfl))) (by decide) (t := (.object "com/example/termweave/termweave/release/HeldRows$View")) (t' := .int) (by decide) (by decide)))) (Or.inr (slot_ne (Or.inr (hw _ (List.mem_of_getElem? (i := 61) rfl))) (Or.inl (hw _ (List.mem_of_getElem? (i := 79) rfl))) (by decide) (t := (.object "com/example/termweave/termweave/release/HeldRows$View")) (t' := .int) (by decide) (by decide))))
  have f244 := (Fld.other W236 Fw233 (Or.inr (slot_ne (Or.inl (hw _ (List.mem_of_getElem? (i := 77) rfl))) (Or.inl (hw _ (List.mem_of_getElem? (i := 79) rfl))) (by decide) (t := .int) (t' := .int) (by decide) (by decide))))
  refine own_ret0 X236 hx Bd.returns hlk (hb hby d17_10) ?_ (by decide) (by decide)
  rw [e236]
  exact ⟨rfl, N236, K236, f237, f238, f239, f240, f241, f242, f243, f244, Fw236⟩
def pl_fs (sv : Int32) (ev : Int32) (cl : Int32) : Int32 := (if cl = (0 : Int32) then (sv + (0 : Int32)) else (sv + (ev + (1 : Int32))))
theorem pn_16 : plainFor (⟨"com/example/termweave/termweave/release/HeldRows", "fieldStart", "(II)I"⟩ : MethodName) = true := by decide +kernel
theorem ef_16 (m : MethodId) (a1 : Addr) (ix : Int32) (cl : Int32) : entryFrame m #[(.ref a1), (.int ix), (.int cl)] 3 = mkF m 0 #[.val (.ref a1), .val (.int ix), .val (.int cl)] [] := by first | (simp [entryFrame, mkF, argsToLocals, Value.category]; done) | rfl
def Q16 (Z : State) (a1 : Addr) (ix : Int32) (cl : Int32) (ys : Addr) (yf : Addr) (ks : ClassId) (kf : ClassId) (cc : Int32) (ss : List Value) (fe : List Value) (sv : Int32) (ev : Int32) (h0 : Heap) (n0 : Nat) (v : Option Value) (h : Heap) (L : List Loc) : Prop := v = some (.int (pl_fs sv ev cl)) ∧ Fr n0 L ∧ h = h0
set_option maxRecDepth 65536 in
set_option maxHeartbeats 40000000 in
theorem rm16 (l : Launch) (Z : State) (a0 : Array Value) (hw : ∀ d ∈ tables_1, d.before a0 Z = true) (ws : List Jvm.Cond) (a1 : Addr) (ix : Int32) (cl : Int32) (ys : Addr) (yf : Addr) (ks : ClassId) (kf : ClassId) (cc : Int32) (ss : List Value) (fe : List Value) (sv : Int32) (ev : Int32) (h0 : Heap) (n0 : Nat) (Z0 : n0 ≤ h0.size) (hf_starts : Fld Z h0 a1 cH "starts" "[I" (.ref ys)) (hf_fieldEnds : Fld Z h0 a1 cH "fieldEnds" "[I" (.ref yf)) (hf_columns : Fld Z h0 a1 cH "columns" "I" (.int cc)) (hV_ys : Arv Z h0 ys ks .int 16 ss o0) (hV_yf : Arv Z h0 yf kf .int ((16 : Int32) * cc) fe o0) (hj1 : ¬ ix < 0 ∧ ix < 16) (hv1 : ss.getD ix.toNatClampNeg o0 = .int sv) (hj2 : ¬ cl = 0 → ¬ (((ix * cc) + cl) - (1 : Int32)) < 0 ∧ (((ix * cc) + cl) - (1 : Int32)) < ((16 : Int32) * cc)) (hv2 : ¬ cl = 0 → fe.getD (((ix * cc) + cl) - (1 : Int32)).toNatClampNeg o0 = .int ev) :
    MetFree l (⟨"com/example/termweave/termweave/release/HeldRows", "fieldStart", "(II)I"⟩ : MethodName) (head1 (Jvm.Cond.code (⟨"com/example/termweave/termweave/release/HeldRows", "fieldStart", "(II)I"⟩ : MethodName) prog_30_method_13_code 3 (some .int) :: ws) ({ frames := 0, cells := 0, slots := 0, locals := 0 } : Room)) (fun a U => a = #[(.ref a1), (.int ix), (.int cl)] ∧ Z.Warmed39 U.vm ∧ U.heap = h0) (fun _ _ _ _ _ => True) (fun _ U o U' => ∃ v L, o = .returned v ∧ Q16 Z a1 ix cl ys yf ks kf cc ss fe sv ev h0 n0 v U'.heap L ∧ FrameEnd U o U' L ({ frames := 0, cells := 0, slots := 0, locals := 0 } : Room).cells ({ frames := 0, cells := 0, slots := 0, locals := 0 } : Room).slots) := by
  refine MetFree.of_bodySF pn_16 hisR ?_
  intro p e s m args below meth c s₁ Bd hml0 hP hK
  obtain ⟨rfl, hZ, hh⟩ := hP
  have hx := Bd.exec
  have hby := Bd.bytes
  have hml : c.maxLocals = 3 := hml0
  have hown : s.vm.findClass "com/example/termweave/termweave/release/HeldRows" = some m.cls := findClass_of_methodNamed Bd.named
  have hnm := (name_of_methodNamed Bd.named Bd.method).1
  have hlk := BodyLoose.notSynchronized Bd
  have X0 : Stand p l e ({ frames := 0, cells := 0, slots := 0, locals := 0 } : Room) s m #[(.ref a1), (.int ix), (.int cl)] below meth c s₁ [] 0 0 := Stand.of_body Bd
  have e0 : s₁.heap = h0 := by rw [← hh, Bd.state]; rfl
  have N0 := Fr.nil n0
  show own_R p e below s (Q16 Z a1 ix cl ys yf ks kf cc ss fe sv ev h0 n0) ({ frames := 0, cells := 0, slots := 0, locals := 0 } : Room).cells ({ frames := 0, cells := 0, slots := 0, locals := 0 } : Room).slots s₁ (entryFrame m #[(.ref a1), (.int ix), (.int cl)] 3)
  refine own_cast (ef_16 m a1 ix cl) ?_
  show own_R p e below s _ _ _ s₁ (mkF m 0 #[.val (.ref a1), .val (.int ix), .val (.int cl)] [])
  have K0 := Keep.refl h0 ([] : List Addr)
  refine own_aloadN X0 hx (hb hby d16_0) rfl rfl ?_
  refine own_getF X0 hx hZ hown (host := "") (Or.inl (hw _ (List.mem_of_getElem? (i := 13) rfl))) Via.refl e0 hf_starts (hb hby d16_1) ?_
  intro T245 X245 e245
  refine own_iloadN X245 hx (hb hby d16_4) rfl ?_
  refine own_iaload X245 hx hZ e245 hV_ys (v := .int sv) hj1 hv1 (hb hby d16_5) ?_
  refine own_iloadN X245 hx (hb hby d16_6) rfl ?_
  refine own_if X245 hx (hb hby d16_7) (pc' := 14) (by decide) (by decide) (fun hc => ?_) (fun hc => ?_)
  · have hc7 : ¬ cl = (0 : Int32) := own_ne1 hc
    clear hc
    refine own_aloadN X245 hx (hb hby d16_14) rfl rfl ?_
    refine own_getF X245 hx hZ hown (host := "") (Or.inl (hw _ (List.mem_of_getElem? (i := 40) rfl))) Via.refl e245 hf_fieldEnds (hb hby d16_15) ?_
    intro T246 X246 e246
    refine own_iloadN X246 hx (hb hby d16_18) rfl ?_
    refine own_aloadN X246 hx (hb hby d16_19) rfl rfl ?_
    refine own_getF X246 hx hZ hown (host := "") (Or.inl (hw _ (List.mem_of_getElem? (i := 38) rfl))) Via.refl e246 hf_columns (hb hby d16_20) ?_
    intro T247 X247 e247
    refine own_imul X247 hx (hb hby d16_23) ?_
    refine own_iloadN X247 hx (hb hby d16_24) rfl ?_
    refine own_iadd X247 hx (hb hby d16_25) ?_
    refine own_iconst X247 hx (1 : Int32) (hb hby d16_26) rfl ?_
    refine own_isub X247 hx (hb hby d16_27) ?_
    refine own_iaload X247 hx hZ e247 hV_yf (v := .int ev) (hj2 hc7) (hv2 hc7) (hb hby d16_28) ?_
    refine own_iconst X247 hx (1 : Int32) (hb hby d16_29) rfl ?_
    refine own_iadd X247 hx (hb hby d16_30) ?_
    refine own_iadd X247 hx (hb hby d16_31) ?_
    refine own_retI X247 hx Bd.returns hlk (hb hby d16_32) ?_ (by decide) (by decide)
    refine ⟨?_, N0, e247⟩
    show some (Value.int _) = some (Value.int (pl_fs sv ev cl))
    rw [pl_fs, if_neg hc7] <;> first | rfl | decide
  · have hc7 : cl = (0 : Int32) := own_ne0 hc
    clear hc
    refine own_iconst X245 hx (0 : Int32) (hb hby d16_10) rfl ?_
    refine own_goto X245 hx (hb hby d16_11) (pc' := 31) (by decide) (by decide) ?_
    show own_R p e below s _ _ _ T245 (mkF m 31 #[.val (.ref a1), .val (.int ix), .val (.int cl)] [(.int (0 : Int32)), (.int sv)])
    refine own_iadd X245 hx (hb hby d16_31) ?_
    refine own_retI X245 hx Bd.returns hlk (hb hby d16_32) ?_ (by decide) (by decide)
    refine ⟨?_, N0, e245⟩
    show some (Value.int _) = some (Value.int (pl_fs sv ev cl))
    rw [pl_fs, if_pos hc7] <;> first | rfl | decide
theorem pn_8 : plainFor (⟨"com/example/termweave/termweave/release/HeldRowsFieldStartPinLaw", "addRow", "(Lcom/example/termweave/termweave/release/HeldRows;Lcom/example/termweave/termweave/release/RrfRow;[BIII)I"⟩ : MethodName) = true := by decide +kernel
theorem ef_8_0 (m : MethodId) (a1 : Addr) (vw : Addr) (yr : Addr) (p4 : Int32) (p5 : Int32) : entryFrame m #[(.ref a1), (.ref vw), (.ref yr), (.int (1 : Int32)), (.int p4), (.int p5)] 7 = mkF m 0 #[.val (.ref a1), .val (.ref vw), .val (.ref yr), .val (.int (1 : Int32)), .val (.int p4), .val (.int p5), .unset] [] := by first | (simp [entryFrame, mkF, argsToLocals, Value.category]; done) | rfl
def Q8_0 (Z : State) (a1 : Addr) (vw : Addr) (yr : Addr) (p4 : Int32) (p5 : Int32) (yb : Addr) (ys : Addr) (yz : Addr) (yf : Addr) (ye : Addr) (kb : ClassId) (ks : ClassId) (kz : ClassId) (kf : ClassId) (ke : ClassId) (kr : ClassId) (sz : Int32) (ln : Int32) (bs : List Value) (ss : List Value) (zs : List Value) (fe : List Value) (rr : List Value) (t0 : Value) (u1 : Value) (u2 : Value) (u3 : Value) (u4 : Value) (h0 : Heap) (n0 : Nat) (v : Option Value) (h : Heap) (L : List Loc) : Prop := v = some (.int ((pl_end p4 (0 : Int32)) + (2 : Int32))) ∧ Fr n0 L ∧ Keep h0 h [a1, vw, ye, yb, yf, ys, yz] ∧ Exa Z h a1 cH ∧ Fld Z h a1 cH "bytes" "[B" (.ref yb) ∧ Fld Z h a1 cH "starts" "[I" (.ref ys) ∧ Fld Z h a1 cH "ascii" "[Z" (.ref yz) ∧ Fld Z h a1 cH "columns" "I" (.int (1 : Int32)) ∧ Fld Z h a1 cH "fieldEnds" "[I" (.ref yf) ∧ Fld Z h a1 cH "view" "Lcom/example/termweave/termweave/release/HeldRows$View;" (.ref vw) ∧ Fld Z h a1 cH "size" "I" (.int (sz + (1 : Int32))) ∧ Fld Z h a1 cH "length" "I" (.int (ln + ((pl_end p4 (0 : Int32)) + (2 : Int32)))) ∧ (∃ bs', bs'.length = 4096 ∧ Arv Z h yb kb .byte 4096 bs' o0) ∧ Arv Z h yf kf .int ((16 : Int32) * (1 : Int32)) (List.take (sz * (1 : Int32)).toNatClampNeg fe ++ ((List.range (1 : Int32).toNatClampNeg).map fun i => [(.int (pl_end p4 (0 : Int32)))].getD ((0 : Int32).toNatClampNeg + i) o0) ++ List.drop ((sz * (1 : Int32)).toNatClampNeg + (1 : Int32).toNatClampNeg) fe) o0 ∧ Arv Z h ys ks .int 16 (ss.set sz.toNatClampNeg (.int ln)) o0 ∧ (∃ zs', zs'.length = 16 ∧ Arv Z h yz kz .boolean 16 zs' o0) ∧ Exa Z h vw cV ∧ Fld Z h vw cR "rowEnd" "I" (.int ((p5 + (pl_end p4 (0 : Int32))) + (1 : Int32))) ∧ Fld Z h vw cR "bytes" "[B" (.ref yr) ∧ Fld Z h vw cR "fieldEnds" "[I" (.ref ye) ∧ Fld Z h vw cR "rowStart" "I" (.int p5) ∧ Fld Z h vw cR "ascii" "Z" (.int (1 : Int32)) ∧ Arv Z h ye ke .int (1 : Int32) [(.int (pl_end p4 (0 : Int32)))] o0
set_option maxRecDepth 65536 in
set_option maxHeartbeats 40000000 in
theorem rm8_0 (l : Launch) (Z : State) (a0 : Array Value) (hw : ∀ d ∈ tables_1, d.before a0 Z = true) (ws : List Jvm.Cond) (a1 : Addr) (vw : Addr) (yr : Addr) (p4 : Int32) (p5 : Int32) (yb : Addr) (ys : Addr) (yz : Addr) (yf : Addr) (ye : Addr) (kb : ClassId) (ks : ClassId) (kz : ClassId) (kf : ClassId) (ke : ClassId) (kr : ClassId) (sz : Int32) (ln : Int32) (bs : List Value) (ss : List Value) (zs : List Value) (fe : List Value) (rr : List Value) (t0 : Value) (u1 : Value) (u2 : Value) (u3 : Value) (u4 : Value) (h0 : Heap) (n0 : Nat) (Z0 : n0 ≤ h0.size) (hE : Exa Z h0 a1 cH) (hf_bytes : Fld Z h0 a1 cH "bytes" "[B" (.ref yb)) (hf_starts : Fld Z h0 a1 cH "starts" "[I" (.ref ys)) (hf_ascii : Fld Z h0 a1 cH "ascii" "[Z" (.ref yz)) (hf_columns : Fld Z h0 a1 cH "columns" "I" (.int (1 : Int32))) (hf_fieldEnds : Fld Z h0 a1 cH "fieldEnds" "[I" (.ref yf)) (hf_view : Fld Z h0 a1 cH "view" "Lcom/example/termweave/termweave/release/HeldRows$View;" (.ref vw)) (hf_size : Fld Z h0 a1 cH "size" "I" (.int sz)) (hf_length : Fld Z h0 a1 cH "length" "I" (.int ln)) (hG : Exa Z h0 vw cV) (hg_rowEnd : Fld Z h0 vw cR "rowEnd" "I" u1) (hg_bytes : Fld Z h0 vw cR "bytes" "[B" u2) (hg_rowStart : Fld Z h0 vw cR "rowStart" "I" u3) (hg_ascii : Fld Z h0 vw cR "ascii" "Z" u4) (hg_fieldEnds : Fld Z h0 vw cR "fieldEnds" "[I" (.ref ye)) (hV_yb : Arv Z h0 yb kb .byte 4096 bs o0) (hV_ys : Arv Z h0 ys ks .int 16 ss o0) (hV_yz : Arv Z h0 yz kz .boolean 16 zs o0) (hV_yf : Arv Z h0 yf kf .int ((16 : Int32) * (1 : Int32)) fe o0) (hV_ye : Arv Z h0 ye ke .int (1 : Int32) [t0] o0) (hV_yr : Arv Z h0 yr kr .byte 40 rr o0) (ne1 : ys ≠ yf) (ne2 : ys ≠ ye) (ne3 : yf ≠ ye) (ne4 : yb ≠ yr) (n0_a1 : n0 ≤ a1) (n0_yb : n0 ≤ yb) (n0_yf : n0 ≤ yf) (n0_ys : n0 ≤ ys) (n0_yz : n0 ≤ yz) (n0_vw : n0 ≤ vw) (n0_ye : n0 ≤ ye) (hsz : 0 ≤ sz.toInt ∧ sz.toInt ≤ 3) (hln : 0 ≤ ln.toInt ∧ ln.toInt ≤ 100) (hof : 0 ≤ p5.toInt ∧ p5.toInt ≤ 7) (lss : ss.length = 16) (lfe : fe.length = ((16 : Int32) * (1 : Int32)).toNatClampNeg) (lbs : bs.length = 4096) (lzs : zs.length = 16) :
    MetFree l (⟨"com/example/termweave/termweave/release/HeldRowsFieldStartPinLaw", "addRow", "(Lcom/example/termweave/termweave/release/HeldRows;Lcom/example/termweave/termweave/release/RrfRow;[BIII)I"⟩ : MethodName) (head1 (Jvm.Cond.code (⟨"com/example/termweave/termweave/release/HeldRowsFieldStartPinLaw", "addRow", "(Lcom/example/termweave/termweave/release/HeldRows;Lcom/example/termweave/termweave/release/RrfRow;[BIII)I"⟩ : MethodName) method_4_code 7 (some .int) :: ws) ({ frames := 2, cells := 0, slots := 0, locals := 54 } : Room)) (fun a U => a = #[(.ref a1), (.ref vw), (.ref yr), (.int (1 : Int32)), (.int p4), (.int p5)] ∧ Z.Warmed39 U.vm ∧ U.heap = h0) (fun _ _ _ _ _ => True) (fun _ U o U' => ∃ v L, o = .returned v ∧ Q8_0 Z a1 vw yr p4 p5 yb ys yz yf ye kb ks kz kf ke kr sz ln bs ss zs fe rr t0 u1 u2 u3 u4 h0 n0 v U'.heap L ∧ FrameEnd U o U' L ({ frames := 2, cells := 0, slots := 0, locals := 54 } : Room).cells ({ frames := 2, cells := 0, slots := 0, locals := 54 } : Room).slots) := by
  refine MetFree.of_bodySF pn_8 hisR ?_
  intro p e s m args below meth c s₁ Bd hml0 hP hK
  obtain ⟨rfl, hZ, hh⟩ := hP
  have hx := Bd.exec
  have hby := Bd.bytes
  have hml : c.maxLocals = 7 := hml0
  have hown : s.vm.findClass "com/example/termweave/termweave/release/HeldRowsFieldStartPinLaw" = some m.cls := findClass_of_methodNamed Bd.named
  have hnm := (name_of_methodNamed Bd.named Bd.method).1
  have hlk := BodyLoose.notSynchronized Bd
  have X0 : Stand p l e ({ frames := 2, cells := 0, slots := 0, locals := 54 } : Room) s m #[(.ref a1), (.ref vw), (.ref yr), (.int (1 : Int32)), (.int p4), (.int p5)] below meth c s₁ [] 0 0 := Stand.of_body Bd
  have e0 : s₁.heap = h0 := by rw [← hh, Bd.state]; rfl
  have N0 := Fr.nil n0
  show own_R p e below s (Q8_0 Z a1 vw yr p4 p5 yb ys yz yf ye kb ks kz kf ke kr sz ln bs ss zs fe rr t0 u1 u2 u3 u4 h0 n0) ({ frames := 2, cells := 0, slots := 0, locals := 54 } : Room).cells ({ frames := 2, cells := 0, slots := 0, locals := 54 } : Room).slots s₁ (entryFrame m #[(.ref a1), (.ref vw), (.ref yr), (.int (1 : Int32)), (.int p4), (.int p5)] 7)
  refine own_cast (ef_8_0 m a1 vw yr p4 p5) ?_
  show own_R p e below s _ _ _ s₁ (mkF m 0 #[.val (.ref a1), .val (.ref vw), .val (.ref yr), .val (.int (1 : Int32)), .val (.int p4), .val (.int p5), .unset] [])
  have K0 := Keep.refl h0 ([a1, vw, ye, yb, yf, ys, yz] : List Addr)
  have ne_a1_vw : a1 ≠ vw := (Exa.ne hE hG (by decide))
  have ne_a1_ye : a1 ≠ ye := (Exa.neArv hE hV_ye (hw _ (List.mem_of_getElem? (i := 2) rfl)))
  have ne_a1_yb : a1 ≠ yb := (Exa.neArv hE hV_yb (hw _ (List.mem_of_getElem? (i := 2) rfl)))
  have ne_a1_yf : a1 ≠ yf := (Exa.neArv hE hV_yf (hw _ (List.mem_of_getElem? (i := 2) rfl)))
  have ne_a1_ys : a1 ≠ ys := (Exa.neArv hE hV_ys (hw _ (List.mem_of_getElem? (i := 2) rfl)))
  have ne_a1_yz : a1 ≠ yz := (Exa.neArv hE hV_yz (hw _ (List.mem_of_getElem? (i := 2) rfl)))
  have ne_a1_yr : a1 ≠ yr := (Exa.neArv hE hV_yr (hw _ (List.mem_of_getElem? (i := 2) rfl)))
  have ne_vw_ye : vw ≠ ye := (Exa.neArv hG hV_ye (hw _ (List.mem_of_getElem? (i := 43) rfl)))
  have ne_vw_yb : vw ≠ yb := (Exa.neArv hG hV_yb (hw _ (List.mem_of_getElem? (i := 43) rfl)))
  have ne_vw_yf : vw ≠ yf := (Exa.neArv hG hV_yf (hw _ (List.mem_of_getElem? (i := 43) rfl)))
  have ne_vw_ys : vw ≠ ys := (Exa.neArv hG hV_ys (hw _ (List.mem_of_getElem? (i := 43) rfl)))
  have ne_vw_yz : vw ≠ yz := (Exa.neArv hG hV_yz (hw _ (List.mem_of_getElem? (i := 43) rfl)))
  have ne_vw_yr : vw ≠ yr := (Exa.neArv hG hV_yr (hw _ (List.mem_of_getElem? (i := 43) rfl)))
  have ne_ye_yb : ye ≠ yb := (own_neA hV_ye hV_yb (by decide))
  have ne_ye_yz : ye ≠ yz := (own_neA hV_ye hV_yz (by decide))
  have ne_ye_yr : ye ≠ yr := (own_neA hV_ye hV_yr (by decide))
  have ne_yb_yf : yb ≠ yf := (own_neA hV_yb hV_yf (by decide))
  have ne_yb_ys : yb ≠ ys := (own_neA hV_yb hV_ys (by decide))
  have ne_yb_yz : yb ≠ yz := (own_neA hV_yb hV_yz (by decide))
  have ne_yf_yz : yf ≠ yz := (own_neA hV_yf hV_yz (by decide))
  have ne_yf_yr : yf ≠ yr := (own_neA hV_yf hV_yr (by decide))
  have ne_ys_yz : ys ≠ yz := (own_neA hV_ys hV_yz (by decide))
  have ne_ys_yr : ys ≠ yr := (own_neA hV_ys hV_yr (by decide))
  have ne_yz_yr : yz ≠ yr := (own_neA hV_yz hV_yr (by decide))
  refine own_iload X0 hx (hb hby d8_0) rfl ?_
  refine own_iloadN X0 hx (hb hby d8_2) rfl ?_
  refine own_iconst X0 hx (1 : Int32) (hb hby d8_3) rfl ?_
  refine own_isub X0 hx (hb hby d8_4) ?_
  refine own_callS X0 hx hZ (y := my9) hown (hw _ (List.mem_of_getElem? (i := 95) rfl)) (hw _ (List.mem_of_getElem? (i := 96) rfl)) (hw _ (List.mem_of_getElem? (i := 93) rfl)) (hw _ (List.mem_of_getElem? (i := 97) rfl)) (by decide) (rm9 l Z a0 hw [] p4 (0 : Int32) h0 n0 (Nat.le_trans Z0 K0.1)) 0 (by decide) (by decide) e0 (by rw [hml]; rfl) [(.int p4), (.int (0 : Int32))] [] rfl (lenOf pd_8 rfl) rfl (Nat.le_of_eq rfl) (hb hby d8_5) (by decide) (by decide) ?_
  rintro T248 _ L248 X248 ⟨rfl, N248q, e248⟩
  have N248 := Fr.app N0 N248q
  show own_R p e below s _ _ _ T248 (mkF m 8 #[.val (.ref a1), .val (.ref vw), .val (.ref yr), .val (.int (1 : Int32)), .val (.int p4), .val (.int p5), .unset] [(.int (pl_end p4 (0 : Int32)))])
  refine own_istore X248 hx (hb hby d8_8) (l' := #[.val (.ref a1), .val (.ref vw), .val (.ref yr), .val (.int (1 : Int32)), .val (.int p4), .val (.int p5), .val (.int (pl_end p4 (0 : Int32)))]) rfl ?_
  refine own_aloadN X248 hx (hb hby d8_10) rfl rfl ?_
  refine own_aloadN X248 hx (hb hby d8_11) rfl rfl ?_
  refine own_putF X248 hx hZ hown (host := "") (Or.inl (hw _ (List.mem_of_getElem? (i := 98) rfl))) Via.refl e248 hg_bytes hG (Or.inl (hw _ (List.mem_of_getElem? (i := 57) rfl))) (hw _ (List.mem_of_getElem? (i := 43) rfl)) (ty := (.array .byte)) (by decide) rfl rfl (hb hby d8_12) ?_
  intro T249 h249 X249 e249 W249
  have K249 := K0.wr W249 (Or.inl (List.mem_of_getElem? (i := 1) rfl))
  have N249 := Fr.snoc X249 N248 n0_vw
  have Fw249 := Fld.same W249 hg_bytes
  refine own_aloadN X249 hx (hb hby d8_15) rfl rfl ?_
  refine own_iload X249 hx (hb hby d8_16) rfl ?_
  have f250 := (Fld.other W249 hg_rowStart (Or.inr (slot_ne (Or.inl (hw _ (List.mem_of_getElem? (i := 71) rfl))) (Or.inl (hw _ (List.mem_of_getElem? (i := 57) rfl))) (by decide) (t := .int) (t' := (.array .byte)) (by decide) (by decide))))
  have f251 := (Exa.wr W249 hG)
  refine own_putF X249 hx hZ hown (host := "") (Or.inl (hw _ (List.mem_of_getElem? (i := 99) rfl))) Via.refl e249 f250 f251 (Or.inl (hw _ (List.mem_of_getElem? (i := 71) rfl))) (hw _ (List.mem_of_getElem? (i := 43) rfl)) (ty := .int) (by decide) rfl rfl (hb hby d8_18) ?_
  intro T252 h252 X252 e252 W252
  have K252 := K249.wr W252 (Or.inl (List.mem_of_getElem? (i := 1) rfl))
  have N252 := Fr.snoc X252 N249 n0_vw
  have Fw252 := Fld.same W252 f250
  refine own_aloadN X252 hx (hb hby d8_21) rfl rfl ?_
  refine own_iload X252 hx (hb hby d8_22) rfl ?_
  refine own_iload X252 hx (hb hby d8_24) rfl ?_
  refine own_iadd X252 hx (hb hby d8_26) ?_
  refine own_iconst X252 hx (1 : Int32) (hb hby d8_27) rfl ?_
  refine own_iadd X252 hx (hb hby d8_28) ?_
  have f253 := (Fld.other W252 (Fld.other W249 hg_rowEnd (Or.inr (slot_ne (Or.inl (hw _ (List.mem_of_getElem? (i := 55) rfl))) (Or.inl (hw _ (List.mem_of_getElem? (i := 57) rfl))) (by decide) (t := .int) (t' := (.array .byte)) (by decide) (by decide)))) (Or.inr (slot_ne (Or.inl (hw _ (List.mem_of_getElem? (i := 55) rfl))) (Or.inl (hw _ (List.mem_of_getElem? (i := 71) rfl))) (by decide) (t := .int) (t' := .int) (by decide) (by decide))))
  have f254 := (Exa.wr W252 f251)
  refine own_putF X252 hx hZ hown (host := "") (Or.inl (hw _ (List.mem_of_getElem? (i := 100) rfl))) Via.refl e252 f253 f254 (Or.inl (hw _ (List.mem_of_getElem? (i := 55) rfl))) (hw _ (List.mem_of_getElem? (i := 43) rfl)) (ty := .int) (by decide) rfl rfl (hb hby d8_29) ?_
  intro T255 h255 X255 e255 W255
  have K255 := K252.wr W255 (Or.inl (List.mem_of_getElem? (i := 1) rfl))
  have N255 := Fr.snoc X255 N252 n0_vw
  have Fw255 := Fld.same W255 f253
  refine own_aloadN X255 hx (hb hby d8_32) rfl rfl ?_
  have f256 := (Fld.other W255 (Fld.other W252 (Fld.other W249 hg_fieldEnds (Or.inr (slot_ne (Or.inr (hw _ (List.mem_of_getElem? (i := 59) rfl))) (Or.inl (hw _ (List.mem_of_getElem? (i := 57) rfl))) (by decide) (t := (.array .int)) (t' := (.array .byte)) (by decide) (by decide)))) (Or.inr (slot_ne (Or.inr (hw _ (List.mem_of_getElem? (i := 59) rfl))) (Or.inl (hw _ (List.mem_of_getElem? (i := 71) rfl))) (by decide) (t := (.array .int)) (t' := .int) (by decide) (by decide)))) (Or.inr (slot_ne (Or.inr (hw _ (List.mem_of_getElem? (i := 59) rfl))) (Or.inl (hw _ (List.mem_of_getElem? (i := 55) rfl))) (by decide) (t := (.array .int)) (t' := .int) (by decide) (by decide))))
  refine own_getF X255 hx hZ hown (host := "") (Or.inl (hw _ (List.mem_of_getElem? (i := 101) rfl))) Via.refl e255 f256 (hb hby d8_33) ?_
  intro T257 X257 e257
  refine own_iconst X257 hx (0 : Int32) (hb hby d8_36) rfl ?_
  refine own_iload X257 hx (hb hby d8_37) rfl ?_
  refine own_iconst X257 hx (0 : Int32) (hb hby d8_39) rfl ?_
  refine own_callS X257 hx hZ (y := my9) hown (hw _ (List.mem_of_getElem? (i := 95) rfl)) (hw _ (List.mem_of_getElem? (i := 96) rfl)) (hw _ (List.mem_of_getElem? (i := 93) rfl)) (hw _ (List.mem_of_getElem? (i := 97) rfl)) (by decide) (rm9 l Z a0 hw [] p4 (0 : Int32) h255 n0 (Nat.le_trans Z0 K255.1)) 2 (by decide) (by decide) e257 (by rw [hml]; rfl) [(.int p4), (.int (0 : Int32))] [(.int (0 : Int32)), (.ref ye)] rfl (lenOf pd_8 rfl) rfl (Nat.le_of_eq rfl) (hb hby d8_40) (by decide) (by decide) ?_
  rintro T258 _ L258 X258 ⟨rfl, N258q, e258⟩
  have N258 := Fr.app N255 N258q
  show own_R p e below s _ _ _ T258 (mkF m 43 #[.val (.ref a1), .val (.ref vw), .val (.ref yr), .val (.int (1 : Int32)), .val (.int p4), .val (.int p5), .val (.int (pl_end p4 (0 : Int32)))] [(.int (pl_end p4 (0 : Int32))), (.int (0 : Int32)), (.ref ye)])
  have f259 := (((hV_ye.other W249 (Ne.symm ne_vw_ye)).other W252 (Ne.symm ne_vw_ye)).other W255 (Ne.symm ne_vw_ye))
  refine own_iastore X258 hx hZ e258 f259 (x' := (pl_end p4 (0 : Int32))) rfl ⟨by decide, by decide⟩ 0 rfl (Nat.le_of_ble_eq_true rfl) (hb hby d8_43) ?_
  intro T260 h260 X260 e260 W260 V260
  have K260 := K255.wr W260 (Or.inl (List.mem_of_getElem? (i := 2) rfl))
  have N260 := Fr.snoc X260 N258 n0_ye
  have V_ye_260 : Arv Z h260 ye ke .int (1 : Int32) [(.int (pl_end p4 (0 : Int32)))] o0 := V260
  refine own_iloadN X260 hx (hb hby d8_44) rfl ?_
  refine own_iconst X260 hx (1 : Int32) (hb hby d8_45) rfl ?_
  refine own_icmp X260 hx (hb hby d8_46) (pc' := 61) (by decide) (by decide) (fun hc => ?_) (fun hc => ?_)
  · have hc46 : ¬ (1 : Int32) < (1 : Int32) := own_le1 hc
    clear hc
    refine own_iloadN X260 hx (hb hby d8_61) rfl ?_
    refine own_iconst X260 hx (2 : Int32) (hb hby d8_62) rfl ?_
    refine own_icmp X260 hx (hb hby d8_63) (pc' := 78) (by decide) (by decide) (fun hc => ?_) (fun hc => ?_)
    · have hc63 : ¬ (2 : Int32) < (1 : Int32) := own_le1 hc
      clear hc
      refine own_iloadN X260 hx (hb hby d8_78) rfl ?_
      refine own_iconst X260 hx (3 : Int32) (hb hby d8_79) rfl ?_
      refine own_icmp X260 hx (hb hby d8_80) (pc' := 95) (by decide) (by decide) (fun hc => ?_) (fun hc => ?_)
      · have hc80 : ¬ (3 : Int32) < (1 : Int32) := own_le1 hc
        clear hc
        refine own_aloadN X260 hx (hb hby d8_95) rfl rfl ?_
        refine own_iconst X260 hx (1 : Int32) (hb hby d8_96) rfl ?_
        have f261 := (Fld.other W260 (Fld.other W255 (Fld.other W252 (Fld.other W249 hg_ascii (Or.inr (slot_ne (Or.inl (hw _ (List.mem_of_getElem? (i := 90) rfl))) (Or.inl (hw _ (List.mem_of_getElem? (i := 57) rfl))) (by decide) (t := .boolean) (t' := (.array .byte)) (by decide) (by decide)))) (Or.inr (slot_ne (Or.inl (hw _ (List.mem_of_getElem? (i := 90) rfl))) (Or.inl (hw _ (List.mem_of_getElem? (i := 71) rfl))) (by decide) (t := .boolean) (t' := .int) (by decide) (by decide)))) (Or.inr (slot_ne (Or.inl (hw _ (List.mem_of_getElem? (i := 90) rfl))) (Or.inl (hw _ (List.mem_of_getElem? (i := 55) rfl))) (by decide) (t := .boolean) (t' := .int) (by decide) (by decide)))) (Or.inl ne_vw_ye))
        have f262 := (Exa.wr W260 (Exa.wr W255 f254))
        refine own_putFN X260 hx hZ hown (hw _ (List.mem_of_getElem? (i := 102) rfl)) Via.refl e260 f261 f262 (Or.inl (hw _ (List.mem_of_getElem? (i := 90) rfl))) (hw _ (List.mem_of_getElem? (i := 43) rfl)) (ty := .boolean) (v' := .int (1 : Int32)) (by decide) rfl (by decide) (hb hby d8_97) ?_
        intro T263 h263 X263 e263 W263
        have K263 := K260.wr W263 (Or.inl (List.mem_of_getElem? (i := 1) rfl))
        have N263 := Fr.snoc X263 N260 n0_vw
        have Fw263 := Fld.same W263 f261
        refine own_aloadN X263 hx (hb hby d8_100) rfl rfl ?_
        refine own_aloadN X263 hx (hb hby d8_101) rfl rfl ?_
        have f264 := (Exa.wr W263 (Exa.wr W260 (Exa.wr W255 (Exa.wr W252 (Exa.wr W249 hE)))))
        have f265 := (Fld.other W263 (Fld.other W260 (Fld.other W255 (Fld.other W252 (Fld.other W249 hf_bytes (Or.inl ne_a1_vw)) (Or.inl ne_a1_vw)) (Or.inl ne_a1_vw)) (Or.inl ne_a1_ye)) (Or.inl ne_a1_vw))
        have f266 := (Fld.other W263 (Fld.other W260 (Fld.other W255 (Fld.other W252 (Fld.other W249 hf_starts (Or.inl ne_a1_vw)) (Or.inl ne_a1_vw)) (Or.inl ne_a1_vw)) (Or.inl ne_a1_ye)) (Or.inl ne_a1_vw))
        have f267 := (Fld.other W263 (Fld.other W260 (Fld.other W255 (Fld.other W252 (Fld.other W249 hf_ascii (Or.inl ne_a1_vw)) (Or.inl ne_a1_vw)) (Or.inl ne_a1_vw)) (Or.inl ne_a1_ye)) (Or.inl ne_a1_vw))
        have f268 := (Fld.other W263 (Fld.other W260 (Fld.other W255 (Fld.other W252 (Fld.other W249 hf_columns (Or.inl ne_a1_vw)) (Or.inl ne_a1_vw)) (Or.inl ne_a1_vw)) (Or.inl ne_a1_ye)) (Or.inl ne_a1_vw))
        have f269 := (Fld.other W263 (Fld.other W260 (Fld.other W255 (Fld.other W252 (Fld.other W249 hf_fieldEnds (Or.inl ne_a1_vw)) (Or.inl ne_a1_vw)) (Or.inl ne_a1_vw)) (Or.inl ne_a1_ye)) (Or.inl ne_a1_vw))
        have f270 := (Fld.other W263 (Fld.other W260 (Fld.other W255 (Fld.other W252 (Fld.other W249 hf_view (Or.inl ne_a1_vw)) (Or.inl ne_a1_vw)) (Or.inl ne_a1_vw)) (Or.inl ne_a1_ye)) (Or.inl ne_a1_vw))
        have f271 := (Fld.other W263 (Fld.other W260 (Fld.other W255 (Fld.other W252 (Fld.other W249 hf_size (Or.inl ne_a1_vw)) (Or.inl ne_a1_vw)) (Or.inl ne_a1_vw)) (Or.inl ne_a1_ye)) (Or.inl ne_a1_vw))
        have f272 := (Fld.other W263 (Fld.other W260 (Fld.other W255 (Fld.other W252 (Fld.other W249 hf_length (Or.inl ne_a1_vw)) (Or.inl ne_a1_vw)) (Or.inl ne_a1_vw)) (Or.inl ne_a1_ye)) (Or.inl ne_a1_vw))
        have f273 := (Exa.wr W263 f262)
        have f274 := (Fld.other W263 (Fld.other W260 Fw255 (Or.inl ne_vw_ye)) (Or.inr (slot_ne (Or.inl (hw _ (List.mem_of_getElem? (i := 55) rfl))) (Or.inl (hw _ (List.mem_of_getElem? (i := 90) rfl))) (by decide) (t := .int) (t' := .boolean) (by decide) (by decide))))
        have f275 := (Fld.other W263 (Fld.other W260 (Fld.other W255 (Fld.other W252 Fw249 (Or.inr (slot_ne (Or.inl (hw _ (List.mem_of_getElem? (i := 57) rfl))) (Or.inl (hw _ (List.mem_of_getElem? (i := 71) rfl))) (by decide) (t := (.array .byte)) (t' := .int) (by decide) (by decide)))) (Or.inr (slot_ne (Or.inl (hw _ (List.mem_of_getElem? (i := 57) rfl))) (Or.inl (hw _ (List.mem_of_getElem? (i := 55) rfl))) (by decide) (t := (.array .byte)) (t' := .int) (by decide) (by decide)))) (Or.inl ne_vw_ye)) (Or.inr (slot_ne (Or.inl (hw _ (List.mem_of_getElem? (i := 57) rfl))) (Or.inl (hw _ (List.mem_of_getElem? (i := 90) rfl))) (by decide) (t := (.array .byte)) (t' := .boolean) (by decide) (by decide))))
        have f276 := (Fld.other W263 (Fld.other W260 f256 (Or.inl ne_vw_ye)) (Or.inr (slot_ne (Or.inr (hw _ (List.mem_of_getElem? (i := 59) rfl))) (Or.inl (hw _ (List.mem_of_getElem? (i := 90) rfl))) (by decide) (t := (.array .int)) (t' := .boolean) (by decide) (by decide))))
        have f277 := (Fld.other W263 (Fld.other W260 (Fld.other W255 Fw252 (Or.inr (slot_ne (Or.inl (hw _ (List.mem_of_getElem? (i := 71) rfl))) (Or.inl (hw _ (List.mem_of_getElem? (i := 55) rfl))) (by decide) (t := .int) (t' := .int) (by decide) (by decide)))) (Or.inl ne_vw_ye)) (Or.inr (slot_ne (Or.inl (hw _ (List.mem_of_getElem? (i := 71) rfl))) (Or.inl (hw _ (List.mem_of_getElem? (i := 90) rfl))) (by decide) (t := .int) (t' := .boolean) (by decide) (by decide))))
        have f278 := (((((hV_yb.other W249 (Ne.symm ne_vw_yb)).other W252 (Ne.symm ne_vw_yb)).other W255 (Ne.symm ne_vw_yb)).other W260 (Ne.symm ne_ye_yb)).other W263 (Ne.symm ne_vw_yb))
        have f279 := (((((hV_ys.other W249 (Ne.symm ne_vw_ys)).other W252 (Ne.symm ne_vw_ys)).other W255 (Ne.symm ne_vw_ys)).other W260 ne2).other W263 (Ne.symm ne_vw_ys))
        have f280 := (((((hV_yz.other W249 (Ne.symm ne_vw_yz)).other W252 (Ne.symm ne_vw_yz)).other W255 (Ne.symm ne_vw_yz)).other W260 (Ne.symm ne_ye_yz)).other W263 (Ne.symm ne_vw_yz))
        have f281 := (((((hV_yf.other W249 (Ne.symm ne_vw_yf)).other W252 (Ne.symm ne_vw_yf)).other W255 (Ne.symm ne_vw_yf)).other W260 ne3).other W263 (Ne.symm ne_vw_yf))
        have f282 := (V_ye_260.other W263 (Ne.symm ne_vw_ye))
        have f283 := (((((hV_yr.other W249 (Ne.symm ne_vw_yr)).other W252 (Ne.symm ne_vw_yr)).other W255 (Ne.symm ne_vw_yr)).other W260 (Ne.symm ne_ye_yr)).other W263 (Ne.symm ne_vw_yr))
        refine own_callV X263 hx hZ (y := my10) (z := my10) hown (hw _ (List.mem_of_getElem? (i := 103) rfl)) (hw _ (List.mem_of_getElem? (i := 104) rfl)) (notFace_of_selects (args := #[]) (mvT hZ (hw _ (List.mem_of_getElem? (i := 106) rfl)))) (hw _ (List.mem_of_getElem? (i := 106) rfl)) (hw _ (List.mem_of_getElem? (i := 105) rfl)) (hw _ (List.mem_of_getElem? (i := 3) rfl)) (hw _ (List.mem_of_getElem? (i := 107) rfl)) (by decide) (rm10 l Z a0 hw [] a1 vw yb ys yz yf ye yr kb ks kz kf ke kr (1 : Int32) sz ln p5 ((p5 + (pl_end p4 (0 : Int32))) + (1 : Int32)) bs ss zs fe [(.int (pl_end p4 (0 : Int32)))] rr h263 n0 (Nat.le_trans Z0 K263.1) (by decide) f264 f265 f266 f267 f268 f269 f270 f271 f272 f273 f274 f275 f276 f277 Fw263 f278 f279 f280 f281 f282 f283 ne1 ne2 ne3 ne4 n0_a1 n0_yb n0_yf n0_ys n0_yz hsz hln hof (pl_rlb p5 p4 (0 : Int32)) lss lfe lbs lzs rfl) 0 (by decide) (by decide) e263 (by rw [hml]; rfl) a1 f264 [(.ref vw)] [] rfl (lenOf pd_9 rfl) rfl (Nat.le_of_eq rfl) (hb hby d8_102) (by decide) (by decide) ?_
        rintro T284 _ L284 X284 ⟨rfl, N284q, Kc284, Ec284, F284_bytes, F284_starts, F284_ascii, F284_columns, F284_fieldEnds, F284_view, F284_size, F284_length, ⟨bs284, lb284, Vb284⟩, Vf284, Vs284, ⟨zs284, lz284, Vz284⟩⟩
        have N284 := Fr.app N263 N284q
        have K284 := K263.trans Kc284 (allS (P := fun x => x ∈ ([a1, vw, ye, yb, yf, ys, yz] : List Addr) ∨ h0.size ≤ x) (Or.inl (List.mem_of_getElem? (i := 0) rfl)) (allS (P := fun x => x ∈ ([a1, vw, ye, yb, yf, ys, yz] : List Addr) ∨ h0.size ≤ x) (Or.inl (List.mem_of_getElem? (i := 3) rfl)) (allS (P := fun x => x ∈ ([a1, vw, ye, yb, yf, ys, yz] : List Addr) ∨ h0.size ≤ x) (Or.inl (List.mem_of_getElem? (i := 4) rfl)) (allS (P := fun x => x ∈ ([a1, vw, ye, yb, yf, ys, yz] : List Addr) ∨ h0.size ≤ x) (Or.inl (List.mem_of_getElem? (i := 5) rfl)) (allS (P := fun x => x ∈ ([a1, vw, ye, yb, yf, ys, yz] : List Addr) ∨ h0.size ≤ x) (Or.inl (List.mem_of_getElem? (i := 6) rfl)) all0)))))
        show own_R p e below s _ _ _ T284 (mkF m 105 #[.val (.ref a1), .val (.ref vw), .val (.ref yr), .val (.int (1 : Int32)), .val (.int p4), .val (.int p5), .val (.int (pl_end p4 (0 : Int32)))] [])
        refine own_iload X284 hx (hb hby d8_105) rfl ?_
        refine own_iconst X284 hx (2 : Int32) (hb hby d8_107) rfl ?_
        refine own_iadd X284 hx (hb hby d8_108) ?_
        rw [pl_rl] at F284_length
        have f285 := (Exa.keep f273 Kc284)
        have f286 := (f274.keep Kc284 (ninS (Ne.symm ne_a1_vw) (ninS ne_vw_yb (ninS ne_vw_yf (ninS ne_vw_ys (ninS ne_vw_yz nin0))))))
        have f287 := (f275.keep Kc284 (ninS (Ne.symm ne_a1_vw) (ninS ne_vw_yb (ninS ne_vw_yf (ninS ne_vw_ys (ninS ne_vw_yz nin0))))))
        have f288 := (f276.keep Kc284 (ninS (Ne.symm ne_a1_vw) (ninS ne_vw_yb (ninS ne_vw_yf (ninS ne_vw_ys (ninS ne_vw_yz nin0))))))
        have f289 := (f277.keep Kc284 (ninS (Ne.symm ne_a1_vw) (ninS ne_vw_yb (ninS ne_vw_yf (ninS ne_vw_ys (ninS ne_vw_yz nin0))))))
        have f290 := (Fw263.keep Kc284 (ninS (Ne.symm ne_a1_vw) (ninS ne_vw_yb (ninS ne_vw_yf (ninS ne_vw_ys (ninS ne_vw_yz nin0))))))
        have f291 := (f282.keep Kc284 (ninS (Ne.symm ne_a1_ye) (ninS ne_ye_yb (ninS (Ne.symm ne3) (ninS (Ne.symm ne2) (ninS ne_ye_yz nin0))))))
        refine own_retI X284 hx Bd.returns hlk (hb hby d8_109) ?_ (by decide) (by decide)
        exact ⟨rfl, N284, K284, Ec284, F284_bytes, F284_starts, F284_ascii, F284_columns, F284_fieldEnds, F284_view, F284_size, F284_length, ⟨_, lb284, Vb284⟩, Vf284, Vs284, ⟨_, lz284, Vz284⟩, f285, f286, f287, f288, f289, f290, f291⟩
      · have hc80 : (3 : Int32) < (1 : Int32) := own_le0 hc
        exact absurd hc80 (by decide)
    · have hc63 : (2 : Int32) < (1 : Int32) := own_le0 hc
      exact absurd hc63 (by decide)
  · have hc46 : (1 : Int32) < (1 : Int32) := own_le0 hc
    exact absurd hc46 (by decide)
theorem ef_8_2 (m : MethodId) (a1 : Addr) (vw : Addr) (yr : Addr) (p4 : Int32) (p5 : Int32) : entryFrame m #[(.ref a1), (.ref vw), (.ref yr), (.int (2 : Int32)), (.int p4), (.int p5)] 7 = mkF m 0 #[.val (.ref a1), .val (.ref vw), .val (.ref yr), .val (.int (2 : Int32)), .val (.int p4), .val (.int p5), .unset] [] := by first | (simp [entryFrame, mkF, argsToLocals, Value.category]; done) | rfl
def Q8_2 (Z : State) (a1 : Addr) (vw : Addr) (yr : Addr) (p4 : Int32) (p5 : Int32) (yb : Addr) (ys : Addr) (yz : Addr) (yf : Addr) (ye : Addr) (kb : ClassId) (ks : ClassId) (kz : ClassId) (kf : ClassId) (ke : ClassId) (kr : ClassId) (sz : Int32) (ln : Int32) (bs : List Value) (ss : List Value) (zs : List Value) (fe : List Value) (rr : List Value) (t0 : Value) (t1 : Value) (u1 : Value) (u2 : Value) (u3 : Value) (u4 : Value) (h0 : Heap) (n0 : Nat) (v : Option Value) (h : Heap) (L : List Loc) : Prop := v = some (.int ((pl_end p4 (1 : Int32)) + (2 : Int32))) ∧ Fr n0 L ∧ Keep h0 h [a1, vw, ye, yb, yf, ys, yz] ∧ Exa Z h a1 cH ∧ Fld Z h a1 cH "bytes" "[B" (.ref yb) ∧ Fld Z h a1 cH "starts" "[I" (.ref ys) ∧ Fld Z h a1 cH "ascii" "[Z" (.ref yz) ∧ Fld Z h a1 cH "columns" "I" (.int (2 : Int32)) ∧ Fld Z h a1 cH "fieldEnds" "[I" (.ref yf) ∧ Fld Z h a1 cH "view" "Lcom/example/termweave/termweave/release/HeldRows$View;" (.ref vw) ∧ Fld Z h a1 cH "size" "I" (.int (sz + (1 : Int32))) ∧ Fld Z h a1 cH "length" "I" (.int (ln + ((pl_end p4 (1 : Int32)) + (2 : Int32)))) ∧ (∃ bs', bs'.length = 4096 ∧ Arv Z h yb kb .byte 4096 bs' o0) ∧ Arv Z h yf kf .int ((16 : Int32) * (2 : Int32)) (List.take (sz * (2 : Int32)).toNatClampNeg fe ++ ((List.range (2 : Int32).toNatClampNeg).map fun i => [(.int (pl_end p4 (0 : Int32))), (.int (pl_end p4 (1 : Int32)))].getD ((0 : Int32).toNatClampNeg + i) o0) ++ List.drop ((sz * (2 : Int32)).toNatClampNeg + (2 : Int32).toNatClampNeg) fe) o0 ∧ Arv Z h ys ks .int 16 (ss.set sz.toNatClampNeg (.int ln)) o0 ∧ (∃ zs', zs'.length = 16 ∧ Arv Z h yz kz .boolean 16 zs' o0) ∧ Exa Z h vw cV ∧ Fld Z h vw cR "rowEnd" "I" (.int ((p5 + (pl_end p4 (1 : Int32))) + (1 : Int32))) ∧ Fld Z h vw cR "bytes" "[B" (.ref yr) ∧ Fld Z h vw cR "fieldEnds" "[I" (.ref ye) ∧ Fld Z h vw cR "rowStart" "I" (.int p5) ∧ Fld Z h vw cR "ascii" "Z" (.int (1 : Int32)) ∧ Arv Z h ye ke .int (2 : Int32) [(.int (pl_end p4 (0 : Int32))), (.int (pl_end p4 (1 : Int32)))] o0
set_option maxRecDepth 65536 in
set_option maxHeartbeats 40000000 in
theorem rm8_2 (l : Launch) (Z : State) (a0 : Array Value) (hw : ∀ d ∈ tables_1, d.before a0 Z = true) (ws : List Jvm.Cond) (a1 : Addr) (vw : Addr) (yr : Addr) (p4 : Int32) (p5 : Int32) (yb : Addr) (ys : Addr) (yz : Addr) (yf : Addr) (ye : Addr) (kb : ClassId) (ks : ClassId) (kz : ClassId) (kf : ClassId) (ke : ClassId) (kr : ClassId) (sz : Int32) (ln : Int32) (bs : List Value) (ss : List Value) (zs : List Value) (fe : List Value) (rr : List Value) (t0 : Value) (t1 : Value) (u1 : Value) (u2 : Value) (u3 : Value) (u4 : Value) (h0 : Heap) (n0 : Nat) (Z0 : n0 ≤ h0.size) (hE : Exa Z h0 a1 cH) (hf_bytes : Fld Z h0 a1 cH "bytes" "[B" (.ref yb)) (hf_starts : Fld Z h0 a1 cH "starts" "[I" (.ref ys)) (hf_ascii : Fld Z h0 a1 cH "ascii" "[Z" (.ref yz)) (hf_columns : Fld Z h0 a1 cH "columns" "I" (.int (2 : Int32))) (hf_fieldEnds : Fld Z h0 a1 cH "fieldEnds" "[I" (.ref yf)) (hf_view : Fld Z h0 a1 cH "view" "Lcom/example/termweave/termweave/release/HeldRows$View;" (.ref vw)) (hf_size : Fld Z h0 a1 cH "size" "I" (.int sz)) (hf_length : Fld Z h0 a1 cH "length" "I" (.int ln)) (hG : Exa Z h0 vw cV) (hg_rowEnd : Fld Z h0 vw cR "rowEnd" "I" u1) (hg_bytes : Fld Z h0 vw cR "bytes" "[B" u2) (hg_rowStart : Fld Z h0 vw cR "rowStart" "I" u3) (hg_ascii : Fld Z h0 vw cR "ascii" "Z" u4) (hg_fieldEnds : Fld Z h0 vw cR "fieldEnds" "[I" (.ref ye)) (hV_yb : Arv Z h0 yb kb .byte 4096 bs o0) (hV_ys : Arv Z h0 ys ks .int 16 ss o0) (hV_yz : Arv Z h0 yz kz .boolean 16 zs o0) (hV_yf : Arv Z h0 yf kf .int ((16 : Int32) * (2 : Int32)) fe o0) (hV_ye : Arv Z h0 ye ke .int (2 : Int32) [t0, t1] o0) (hV_yr : Arv Z h0 yr kr .byte 40 rr o0) (ne1 : ys ≠ yf) (ne2 : ys ≠ ye) (ne3 : yf ≠ ye) (ne4 : yb ≠ yr) (n0_a1 : n0 ≤ a1) (n0_yb : n0 ≤ yb) (n0_yf : n0 ≤ yf) (n0_ys : n0 ≤ ys) (n0_yz : n0 ≤ yz) (n0_vw : n0 ≤ vw) (n0_ye : n0 ≤ ye) (hsz : 0 ≤ sz.toInt ∧ sz.toInt ≤ 3) (hln : 0 ≤ ln.toInt ∧ ln.toInt ≤ 100) (hof : 0 ≤ p5.toInt ∧ p5.toInt ≤ 7) (lss : ss.length = 16) (lfe : fe.length = ((16 : Int32) * (2 : Int32)).toNatClampNeg) (lbs : bs.length = 4096) (lzs : zs.length = 16) :
    MetFree l (⟨"com/example/termweave/termweave/release/HeldRowsFieldStartPinLaw", "addRow", "(Lcom/example/termweave/termweave/release/HeldRows;Lcom/example/termweave/termweave/release/RrfRow;[BIII)I"⟩ : MethodName) (head1 (Jvm.Cond.code (⟨"com/example/termweave/termweave/release/HeldRowsFieldStartPinLaw", "addRow", "(Lcom/example/termweave/termweave/release/HeldRows;Lcom/example/termweave/termweave/release/RrfRow;[BIII)I"⟩ : MethodName) method_4_code 7 (some .int) :: ws) ({ frames := 2, cells := 0, slots := 0, locals := 54 } : Room)) (fun a U => a = #[(.ref a1), (.ref vw), (.ref yr), (.int (2 : Int32)), (.int p4), (.int p5)] ∧ Z.Warmed39 U.vm ∧ U.heap = h0) (fun _ _ _ _ _ => True) (fun _ U o U' => ∃ v L, o = .returned v ∧ Q8_2 Z a1 vw yr p4 p5 yb ys yz yf ye kb ks kz kf ke kr sz ln bs ss zs fe rr t0 t1 u1 u2 u3 u4 h0 n0 v U'.heap L ∧ FrameEnd U o U' L ({ frames := 2, cells := 0, slots := 0, locals := 54 } : Room).cells ({ frames := 2, cells := 0, slots := 0, locals := 54 } : Room).slots) := by
  refine MetFree.of_bodySF pn_8 hisR ?_
  intro p e s m args below meth c s₁ Bd hml0 hP hK
  obtain ⟨rfl, hZ, hh⟩ := hP
  have hx := Bd.exec
  have hby := Bd.bytes
  have hml : c.maxLocals = 7 := hml0
  have hown : s.vm.findClass "com/example/termweave/termweave/release/HeldRowsFieldStartPinLaw" = some m.cls := findClass_of_methodNamed Bd.named
  have hnm := (name_of_methodNamed Bd.named Bd.method).1
  have hlk := BodyLoose.notSynchronized Bd
  have X0 : Stand p l e ({ frames := 2, cells := 0, slots := 0, locals := 54 } : Room) s m #[(.ref a1), (.ref vw), (.ref yr), (.int (2 : Int32)), (.int p4), (.int p5)] below meth c s₁ [] 0 0 := Stand.of_body Bd
  have e0 : s₁.heap = h0 := by rw [← hh, Bd.state]; rfl
  have N0 := Fr.nil n0
  show own_R p e below s (Q8_2 Z a1 vw yr p4 p5 yb ys yz yf ye kb ks kz kf ke kr sz ln bs ss zs fe rr t0 t1 u1 u2 u3 u4 h0 n0) ({ frames := 2, cells := 0, slots := 0, locals := 54 } : Room).cells ({ frames := 2, cells := 0, slots := 0, locals := 54 } : Room).slots s₁ (entryFrame m #[(.ref a1), (.ref vw), (.ref yr), (.int (2 : Int32)), (.int p4), (.int p5)] 7)
  refine own_cast (ef_8_2 m a1 vw yr p4 p5) ?_
  show own_R p e below s _ _ _ s₁ (mkF m 0 #[.val (.ref a1), .val (.ref vw), .val (.ref yr), .val (.int (2 : Int32)), .val (.int p4), .val (.int p5), .unset] [])
  have K0 := Keep.refl h0 ([a1, vw, ye, yb, yf, ys, yz] : List Addr)
  have ne_a1_vw : a1 ≠ vw := (Exa.ne hE hG (by decide))
  have ne_a1_ye : a1 ≠ ye := (Exa.neArv hE hV_ye (hw _ (List.mem_of_getElem? (i := 2) rfl)))
  have ne_a1_yb : a1 ≠ yb := (Exa.neArv hE hV_yb (hw _ (List.mem_of_getElem? (i := 2) rfl)))
  have ne_a1_yf : a1 ≠ yf := (Exa.neArv hE hV_yf (hw _ (List.mem_of_getElem? (i := 2) rfl)))
  have ne_a1_ys : a1 ≠ ys := (Exa.neArv hE hV_ys (hw _ (List.mem_of_getElem? (i := 2) rfl)))
  have ne_a1_yz : a1 ≠ yz := (Exa.neArv hE hV_yz (hw _ (List.mem_of_getElem? (i := 2) rfl)))
  have ne_a1_yr : a1 ≠ yr := (Exa.neArv hE hV_yr (hw _ (List.mem_of_getElem? (i := 2) rfl)))
  have ne_vw_ye : vw ≠ ye := (Exa.neArv hG hV_ye (hw _ (List.mem_of_getElem? (i := 43) rfl)))
  have ne_vw_yb : vw ≠ yb := (Exa.neArv hG hV_yb (hw _ (List.mem_of_getElem? (i := 43) rfl)))
  have ne_vw_yf : vw ≠ yf := (Exa.neArv hG hV_yf (hw _ (List.mem_of_getElem? (i := 43) rfl)))
  have ne_vw_ys : vw ≠ ys := (Exa.neArv hG hV_ys (hw _ (List.mem_of_getElem? (i := 43) rfl)))
  have ne_vw_yz : vw ≠ yz := (Exa.neArv hG hV_yz (hw _ (List.mem_of_getElem? (i := 43) rfl)))
  have ne_vw_yr : vw ≠ yr := (Exa.neArv hG hV_yr (hw _ (List.mem_of_getElem? (i := 43) rfl)))
  have ne_ye_yb : ye ≠ yb := (own_neA hV_ye hV_yb (by decide))
  have ne_ye_yz : ye ≠ yz := (own_neA hV_ye hV_yz (by decide))
  have ne_ye_yr : ye ≠ yr := (own_neA hV_ye hV_yr (by decide))
  have ne_yb_yf : yb ≠ yf := (own_neA hV_yb hV_yf (by decide))
  have ne_yb_ys : yb ≠ ys := (own_neA hV_yb hV_ys (by decide))
  have ne_yb_yz : yb ≠ yz := (own_neA hV_yb hV_yz (by decide))
  have ne_yf_yz : yf ≠ yz := (own_neA hV_yf hV_yz (by decide))
  have ne_yf_yr : yf ≠ yr := (own_neA hV_yf hV_yr (by decide))
  have ne_ys_yz : ys ≠ yz := (own_neA hV_ys hV_yz (by decide))
  have ne_ys_yr : ys ≠ yr := (own_neA hV_ys hV_yr (by decide))
  have ne_yz_yr : yz ≠ yr := (own_neA hV_yz hV_yr (by decide))
  refine own_iload X0 hx (hb hby d8_0) rfl ?_
  refine own_iloadN X0 hx (hb hby d8_2) rfl ?_
  refine own_iconst X0 hx (1 : Int32) (hb hby d8_3) rfl ?_
  refine own_isub X0 hx (hb hby d8_4) ?_
  refine own_callS X0 hx hZ (y := my9) hown (hw _ (List.mem_of_getElem? (i := 95) rfl)) (hw _ (List.mem_of_getElem? (i := 96) rfl)) (hw _ (List.mem_of_getElem? (i := 93) rfl)) (hw _ (List.mem_of_getElem? (i := 97) rfl)) (by decide) (rm9 l Z a0 hw [] p4 (1 : Int32) h0 n0 (Nat.le_trans Z0 K0.1)) 0 (by decide) (by decide) e0 (by rw [hml]; rfl) [(.int p4), (.int (1 : Int32))] [] rfl (lenOf pd_8 rfl) rfl (Nat.le_of_eq rfl) (hb hby d8_5) (by decide) (by decide) ?_
  rintro T292 _ L292 X292 ⟨rfl, N292q, e292⟩
  have N292 := Fr.app N0 N292q
  show own_R p e below s _ _ _ T292 (mkF m 8 #[.val (.ref a1), .val (.ref vw), .val (.ref yr), .val (.int (2 : Int32)), .val (.int p4), .val (.int p5), .unset] [(.int (pl_end p4 (1 : Int32)))])
  refine own_istore X292 hx (hb hby d8_8) (l' := #[.val (.ref a1), .val (.ref vw), .val (.ref yr), .val (.int (2 : Int32)), .val (.int p4), .val (.int p5), .val (.int (pl_end p4 (1 : Int32)))]) rfl ?_
  refine own_aloadN X292 hx (hb hby d8_10) rfl rfl ?_
  refine own_aloadN X292 hx (hb hby d8_11) rfl rfl ?_
  refine own_putF X292 hx hZ hown (host := "") (Or.inl (hw _ (List.mem_of_getElem? (i := 98) rfl))) Via.refl e292 hg_bytes hG (Or.inl (hw _ (List.mem_of_getElem? (i := 57) rfl))) (hw _ (List.mem_of_getElem? (i := 43) rfl)) (ty := (.array .byte)) (by decide) rfl rfl (hb hby d8_12) ?_
  intro T293 h293 X293 e293 W293
  have K293 := K0.wr W293 (Or.inl (List.mem_of_getElem? (i := 1) rfl))
  have N293 := Fr.snoc X293 N292 n0_vw
  have Fw293 := Fld.same W293 hg_bytes
  refine own_aloadN X293 hx (hb hby d8_15) rfl rfl ?_
  refine own_iload X293 hx (hb hby d8_16) rfl ?_
  have f294 := (Fld.other W293 hg_rowStart (Or.inr (slot_ne (Or.inl (hw _ (List.mem_of_getElem? (i := 71) rfl))) (Or.inl (hw _ (List.mem_of_getElem? (i := 57) rfl))) (by decide) (t := .int) (t' := (.array .byte)) (by decide) (by decide))))
  have f295 := (Exa.wr W293 hG)
  refine own_putF X293 hx hZ hown (host := "") (Or.inl (hw _ (List.mem_of_getElem? (i := 99) rfl))) Via.refl e293 f294 f295 (Or.inl (hw _ (List.mem_of_getElem? (i := 71) rfl))) (hw _ (List.mem_of_getElem? (i := 43) rfl)) (ty := .int) (by decide) rfl rfl (hb hby d8_18) ?_
  intro T296 h296 X296 e296 W296
  have K296 := K293.wr W296 (Or.inl (List.mem_of_getElem? (i := 1) rfl))
  have N296 := Fr.snoc X296 N293 n0_vw
  have Fw296 := Fld.same W296 f294
  refine own_aloadN X296 hx (hb hby d8_21) rfl rfl ?_
  refine own_iload X296 hx (hb hby d8_22) rfl ?_
  refine own_iload X296 hx (hb hby d8_24) rfl ?_
  refine own_iadd X296 hx (hb hby d8_26) ?_
  refine own_iconst X296 hx (1 : Int32) (hb hby d8_27) rfl ?_
  refine own_iadd X296 hx (hb hby d8_28) ?_
  have f297 := (Fld.other W296 (Fld.other W293 hg_rowEnd (Or.inr (slot_ne (Or.inl (hw _ (List.mem_of_getElem? (i := 55) rfl))) (Or.inl (hw _ (List.mem_of_getElem? (i := 57) rfl))) (by decide) (t := .int) (t' := (.array .byte)) (by decide) (by decide)))) (Or.inr (slot_ne (Or.inl (hw _ (List.mem_of_getElem? (i := 55) rfl))) (Or.inl (hw _ (List.mem_of_getElem? (i := 71) rfl))) (by decide) (t := .int) (t' := .int) (by decide) (by decide))))
  have f298 := (Exa.wr W296 f295)
  refine own_putF X296 hx hZ hown (host := "") (Or.inl (hw _ (List.mem_of_getElem? (i := 100) rfl))) Via.refl e296 f297 f298 (Or.inl (hw _ (List.mem_of_getElem? (i := 55) rfl))) (hw _ (List.mem_of_getElem? (i := 43) rfl)) (ty := .int) (by decide) rfl rfl (hb hby d8_29) ?_
  intro T299 h299 X299 e299 W299
  have K299 := K296.wr W299 (Or.inl (List.mem_of_getElem? (i := 1) rfl))
  have N299 := Fr.snoc X299 N296 n0_vw
  have Fw299 := Fld.same W299 f297
  refine own_aloadN X299 hx (hb hby d8_32) rfl rfl ?_
  have f300 := (Fld.other W299 (Fld.other W296 (Fld.other W293 hg_fieldEnds (Or.inr (slot_ne (Or.inr (hw _ (List.mem_of_getElem? (i := 59) rfl))) (Or.inl (hw _ (List.mem_of_getElem? (i := 57) rfl))) (by decide) (t := (.array .int)) (t' := (.array .byte)) (by decide) (by decide)))) (Or.inr (slot_ne (Or.inr (hw _ (List.mem_of_getElem? (i := 59) rfl))) (Or.inl (hw _ (List.mem_of_getElem? (i := 71) rfl))) (by decide) (t := (.array .int)) (t' := .int) (by decide) (by decide)))) (Or.inr (slot_ne (Or.inr (hw _ (List.mem_of_getElem? (i := 59) rfl))) (Or.inl (hw _ (List.mem_of_getElem? (i := 55) rfl))) (by decide) (t := (.array .int)) (t' := .int) (by decide) (by decide))))
  refine own_getF X299 hx hZ hown (host := "") (Or.inl (hw _ (List.mem_of_getElem? (i := 101) rfl))) Via.refl e299 f300 (hb hby d8_33) ?_
  intro T301 X301 e301
  refine own_iconst X301 hx (0 : Int32) (hb hby d8_36) rfl ?_
  refine own_iload X301 hx (hb hby d8_37) rfl ?_
  refine own_iconst X301 hx (0 : Int32) (hb hby d8_39) rfl ?_
  refine own_callS X301 hx hZ (y := my9) hown (hw _ (List.mem_of_getElem? (i := 95) rfl)) (hw _ (List.mem_of_getElem? (i := 96) rfl)) (hw _ (List.mem_of_getElem? (i := 93) rfl)) (hw _ (List.mem_of_getElem? (i := 97) rfl)) (by decide) (rm9 l Z a0 hw [] p4 (0 : Int32) h299 n0 (Nat.le_trans Z0 K299.1)) 2 (by decide) (by decide) e301 (by rw [hml]; rfl) [(.int p4), (.int (0 : Int32))] [(.int (0 : Int32)), (.ref ye)] rfl (lenOf pd_8 rfl) rfl (Nat.le_of_eq rfl) (hb hby d8_40) (by decide) (by decide) ?_
  rintro T302 _ L302 X302 ⟨rfl, N302q, e302⟩
  have N302 := Fr.app N299 N302q
  show own_R p e below s _ _ _ T302 (mkF m 43 #[.val (.ref a1), .val (.ref vw), .val (.ref yr), .val (.int (2 : Int32)), .val (.int p4), .val (.int p5), .val (.int (pl_end p4 (1 : Int32)))] [(.int (pl_end p4 (0 : Int32))), (.int (0 : Int32)), (.ref ye)])
  have f303 := (((hV_ye.other W293 (Ne.symm ne_vw_ye)).other W296 (Ne.symm ne_vw_ye)).other W299 (Ne.symm ne_vw_ye))
  refine own_iastore X302 hx hZ e302 f303 (x' := (pl_end p4 (0 : Int32))) rfl ⟨by decide, by decide⟩ 0 rfl (Nat.le_of_ble_eq_true rfl) (hb hby d8_43) ?_
  intro T304 h304 X304 e304 W304 V304
  have K304 := K299.wr W304 (Or.inl (List.mem_of_getElem? (i := 2) rfl))
  have N304 := Fr.snoc X304 N302 n0_ye
  have V_ye_304 : Arv Z h304 ye ke .int (2 : Int32) [(.int (pl_end p4 (0 : Int32))), t1] o0 := V304
  refine own_iloadN X304 hx (hb hby d8_44) rfl ?_
  refine own_iconst X304 hx (1 : Int32) (hb hby d8_45) rfl ?_
  refine own_icmp X304 hx (hb hby d8_46) (pc' := 61) (by decide) (by decide) (fun hc => ?_) (fun hc => ?_)
  · have hc46 : ¬ (1 : Int32) < (2 : Int32) := own_le1 hc
    exact absurd (by decide) hc46
  · have hc46 : (1 : Int32) < (2 : Int32) := own_le0 hc
    clear hc
    refine own_aloadN X304 hx (hb hby d8_49) rfl rfl ?_
    have f305 := (Fld.other W304 f300 (Or.inl ne_vw_ye))
    refine own_getF X304 hx hZ hown (host := "") (Or.inl (hw _ (List.mem_of_getElem? (i := 101) rfl))) Via.refl e304 f305 (hb hby d8_50) ?_
    intro T306 X306 e306
    refine own_iconst X306 hx (1 : Int32) (hb hby d8_53) rfl ?_
    refine own_iload X306 hx (hb hby d8_54) rfl ?_
    refine own_iconst X306 hx (1 : Int32) (hb hby d8_56) rfl ?_
    refine own_callS X306 hx hZ (y := my9) hown (hw _ (List.mem_of_getElem? (i := 95) rfl)) (hw _ (List.mem_of_getElem? (i := 96) rfl)) (hw _ (List.mem_of_getElem? (i := 93) rfl)) (hw _ (List.mem_of_getElem? (i := 97) rfl)) (by decide) (rm9 l Z a0 hw [] p4 (1 : Int32) h304 n0 (Nat.le_trans Z0 K304.1)) 2 (by decide) (by decide) e306 (by rw [hml]; rfl) [(.int p4), (.int (1 : Int32))] [(.int (1 : Int32)), (.ref ye)] rfl (lenOf pd_8 rfl) rfl (Nat.le_of_eq rfl) (hb hby d8_57) (by decide) (by decide) ?_
    rintro T307 _ L307 X307 ⟨rfl, N307q, e307⟩
    have N307 := Fr.app N304 N307q
    show own_R p e below s _ _ _ T307 (mkF m 60 #[.val (.ref a1), .val (.ref vw), .val (.ref yr), .val (.int (2 : Int32)), .val (.int p4), .val (.int p5), .val (.int (pl_end p4 (1 : Int32)))] [(.int (pl_end p4 (1 : Int32))), (.int (1 : Int32)), (.ref ye)])
    refine own_iastore X307 hx hZ e307 V_ye_304 (x' := (pl_end p4 (1 : Int32))) rfl ⟨by decide, by decide⟩ 1 rfl (Nat.le_of_ble_eq_true rfl) (hb hby d8_60) ?_
    intro T308 h308 X308 e308 W308 V308
    have K308 := K304.wr W308 (Or.inl (List.mem_of_getElem? (i := 2) rfl))
    have N308 := Fr.snoc X308 N307 n0_ye
    have V_ye_308 : Arv Z h308 ye ke .int (2 : Int32) [(.int (pl_end p4 (0 : Int32))), (.int (pl_end p4 (1 : Int32)))] o0 := V308
    refine own_iloadN X308 hx (hb hby d8_61) rfl ?_
    refine own_iconst X308 hx (2 : Int32) (hb hby d8_62) rfl ?_
    refine own_icmp X308 hx (hb hby d8_63) (pc' := 78) (by decide) (by decide) (fun hc => ?_) (fun hc => ?_)
    · have hc63 : ¬ (2 : Int32) < (2 : Int32) := own_le1 hc
      clear hc
      refine own_iloadN X308 hx (hb hby d8_78) rfl ?_
      refine own_iconst X308 hx (3 : Int32) (hb hby d8_79) rfl ?_
      refine own_icmp X308 hx (hb hby d8_80) (pc' := 95) (by decide) (by decide) (fun hc => ?_) (fun hc => ?_)
      · have hc80 : ¬ (3 : Int32) < (2 : Int32) := own_le1 hc
        clear hc
        refine own_aloadN X308 hx (hb hby d8_95) rfl rfl ?_
        refine own_iconst X308 hx (1 : Int32) (hb hby d8_96) rfl ?_
        have f309 := (Fld.other W308 (Fld.other W304 (Fld.other W299 (Fld.other W296 (Fld.other W293 hg_ascii (Or.inr (slot_ne (Or.inl (hw _ (List.mem_of_getElem? (i := 90) rfl))) (Or.inl (hw _ (List.mem_of_getElem? (i := 57) rfl))) (by decide) (t := .boolean) (t' := (.array .byte)) (by decide) (by decide)))) (Or.inr (slot_ne (Or.inl (hw _ (List.mem_of_getElem? (i := 90) rfl))) (Or.inl (hw _ (List.mem_of_getElem? (i := 71) rfl))) (by decide) (t := .boolean) (t' := .int) (by decide) (by decide)))) (Or.inr (slot_ne (Or.inl (hw _ (List.mem_of_getElem? (i := 90) rfl))) (Or.inl (hw _ (List.mem_of_getElem? (i := 55) rfl))) (by decide) (t := .boolean) (t' := .int) (by decide) (by decide)))) (Or.inl ne_vw_ye)) (Or.inl ne_vw_ye))
        have f310 := (Exa.wr W308 (Exa.wr W304 (Exa.wr W299 f298)))
        refine own_putFN X308 hx hZ hown (hw _ (List.mem_of_getElem? (i := 102) rfl)) Via.refl e308 f309 f310 (Or.inl (hw _ (List.mem_of_getElem? (i := 90) rfl))) (hw _ (List.mem_of_getElem? (i := 43) rfl)) (ty := .boolean) (v' := .int (1 : Int32)) (by decide) rfl (by decide) (hb hby d8_97) ?_
        intro T311 h311 X311 e311 W311
        have K311 := K308.wr W311 (Or.inl (List.mem_of_getElem? (i := 1) rfl))
        have N311 := Fr.snoc X311 N308 n0_vw
        have Fw311 := Fld.same W311 f309
        refine own_aloadN X311 hx (hb hby d8_100) rfl rfl ?_
        refine own_aloadN X311 hx (hb hby d8_101) rfl rfl ?_
        have f312 := (Exa.wr W311 (Exa.wr W308 (Exa.wr W304 (Exa.wr W299 (Exa.wr W296 (Exa.wr W293 hE))))))
        have f313 := (Fld.other W311 (Fld.other W308 (Fld.other W304 (Fld.other W299 (Fld.other W296 (Fld.other W293 hf_bytes (Or.inl ne_a1_vw)) (Or.inl ne_a1_vw)) (Or.inl ne_a1_vw)) (Or.inl ne_a1_ye)) (Or.inl ne_a1_ye)) (Or.inl ne_a1_vw))
        have f314 := (Fld.other W311 (Fld.other W308 (Fld.other W304 (Fld.other W299 (Fld.other W296 (Fld.other W293 hf_starts (Or.inl ne_a1_vw)) (Or.inl ne_a1_vw)) (Or.inl ne_a1_vw)) (Or.inl ne_a1_ye)) (Or.inl ne_a1_ye)) (Or.inl ne_a1_vw))
        have f315 := (Fld.other W311 (Fld.other W308 (Fld.other W304 (Fld.other W299 (Fld.other W296 (Fld.other W293 hf_ascii (Or.inl ne_a1_vw)) (Or.inl ne_a1_vw)) (Or.inl ne_a1_vw)) (Or.inl ne_a1_ye)) (Or.inl ne_a1_ye)) (Or.inl ne_a1_vw))
        have f316 := (Fld.other W311 (Fld.other W308 (Fld.other W304 (Fld.other W299 (Fld.other W296 (Fld.other W293 hf_columns (Or.inl ne_a1_vw)) (Or.inl ne_a1_vw)) (Or.inl ne_a1_vw)) (Or.inl ne_a1_ye)) (Or.inl ne_a1_ye)) (Or.inl ne_a1_vw))
        have f317 := (Fld.other W311 (Fld.other W308 (Fld.other W304 (Fld.other W299 (Fld.other W296 (Fld.other W293 hf_fieldEnds (Or.inl ne_a1_vw)) (Or.inl ne_a1_vw)) (Or.inl ne_a1_vw)) (Or.inl ne_a1_ye)) (Or.inl ne_a1_ye)) (Or.inl ne_a1_vw))
        have f318 := (Fld.other W311 (Fld.other W308 (Fld.other W304 (Fld.other W299 (Fld.other W296 (Fld.other W293 hf_view (Or.inl ne_a1_vw)) (Or.inl ne_a1_vw)) (Or.inl ne_a1_vw)) (Or.inl ne_a1_ye)) (Or.inl ne_a1_ye)) (Or.inl ne_a1_vw))
        have f319 := (Fld.other W311 (Fld.other W308 (Fld.other W304 (Fld.other W299 (Fld.other W296 (Fld.other W293 hf_size (Or.inl ne_a1_vw)) (Or.inl ne_a1_vw)) (Or.inl ne_a1_vw)) (Or.inl ne_a1_ye)) (Or.inl ne_a1_ye)) (Or.inl ne_a1_vw))
        have f320 := (Fld.other W311 (Fld.other W308 (Fld.other W304 (Fld.other W299 (Fld.other W296 (Fld.other W293 hf_length (Or.inl ne_a1_vw)) (Or.inl ne_a1_vw)) (Or.inl ne_a1_vw)) (Or.inl ne_a1_ye)) (Or.inl ne_a1_ye)) (Or.inl ne_a1_vw))
        have f321 := (Exa.wr W311 f310)
        have f322 := (Fld.other W311 (Fld.other W308 (Fld.other W304 Fw299 (Or.inl ne_vw_ye)) (Or.inl ne_vw_ye)) (Or.inr (slot_ne (Or.inl (hw _ (List.mem_of_getElem? (i := 55) rfl))) (Or.inl (hw _ (List.mem_of_getElem? (i := 90) rfl))) (by decide) (t := .int) (t' := .boolean) (by decide) (by decide))))
        have f323 := (Fld.other W311 (Fld.other W308 (Fld.other W304 (Fld.other W299 (Fld.other W296 Fw293 (Or.inr (slot_ne (Or.inl (hw _ (List.mem_of_getElem? (i := 57) rfl))) (Or.inl (hw _ (List.mem_of_getElem? (i := 71) rfl))) (by decide) (t := (.array .byte)) (t' := .int) (by decide) (by decide)))) (Or.inr (slot_ne (Or.inl (hw _ (List.mem_of_getElem? (i := 57) rfl))) (Or.inl (hw _ (List.mem_of_getElem? (i := 55) rfl))) (by decide) (t := (.array .byte)) (t' := .int) (by decide) (by decide)))) (Or.inl ne_vw_ye)) (Or.inl ne_vw_ye)) (Or.inr (slot_ne (Or.inl (hw _ (List.mem_of_getElem? (i := 57) rfl))) (Or.inl (hw _ (List.mem_of_getElem? (i := 90) rfl))) (by decide) (t := (.array .byte)) (t' := .boolean) (by decide) (by decide))))
        have f324 := (Fld.other W311 (Fld.other W308 f305 (Or.inl ne_vw_ye)) (Or.inr (slot_ne (Or.inr (hw _ (List.mem_of_getElem? (i := 59) rfl))) (Or.inl (hw _ (List.mem_of_getElem? (i := 90) rfl))) (by decide) (t := (.array .int)) (t' := .boolean) (by decide) (by decide))))
        have f325 := (Fld.other W311 (Fld.other W308 (Fld.other W304 (Fld.other W299 Fw296 (Or.inr (slot_ne (Or.inl (hw _ (List.mem_of_getElem? (i := 71) rfl))) (Or.inl (hw _ (List.mem_of_getElem? (i := 55) rfl))) (by decide) (t := .int) (t' := .int) (by decide) (by decide)))) (Or.inl ne_vw_ye)) (Or.inl ne_vw_ye)) (Or.inr (slot_ne (Or.inl (hw _ (List.mem_of_getElem? (i := 71) rfl))) (Or.inl (hw _ (List.mem_of_getElem? (i := 90) rfl))) (by decide) (t := .int) (t' := .boolean) (by decide) (by decide))))
        have f326 := ((((((hV_yb.other W293 (Ne.symm ne_vw_yb)).other W296 (Ne.symm ne_vw_yb)).other W299 (Ne.symm ne_vw_yb)).other W304 (Ne.symm ne_ye_yb)).other W308 (Ne.symm ne_ye_yb)).other W311 (Ne.symm ne_vw_yb))
        have f327 := ((((((hV_ys.other W293 (Ne.symm ne_vw_ys)).other W296 (Ne.symm ne_vw_ys)).other W299 (Ne.symm ne_vw_ys)).other W304 ne2).other W308 ne2).other W311 (Ne.symm ne_vw_ys))
        have f328 := ((((((hV_yz.other W293 (Ne.symm ne_vw_yz)).other W296 (Ne.symm ne_vw_yz)).other W299 (Ne.symm ne_vw_yz)).other W304 (Ne.symm ne_ye_yz)).other W308 (Ne.symm ne_ye_yz)).other W311 (Ne.symm ne_vw_yz))
        have f329 := ((((((hV_yf.other W293 (Ne.symm ne_vw_yf)).other W296 (Ne.symm ne_vw_yf)).other W299 (Ne.symm ne_vw_yf)).other W304 ne3).other W308 ne3).other W311 (Ne.symm ne_vw_yf))
        have f330 := (V_ye_308.other W311 (Ne.symm ne_vw_ye))
        have f331 := ((((((hV_yr.other W293 (Ne.symm ne_vw_yr)).other W296 (Ne.symm ne_vw_yr)).other W299 (Ne.symm ne_vw_yr)).other W304 (Ne.symm ne_ye_yr)).other W308 (Ne.symm ne_ye_yr)).other W311 (Ne.symm ne_vw_yr))
        refine own_callV X311 hx hZ (y := my10) (z := my10) hown (hw _ (List.mem_of_getElem? (i := 103) rfl)) (hw _ (List.mem_of_getElem? (i := 104) rfl)) (notFace_of_selects (args := #[]) (mvT hZ (hw _ (List.mem_of_getElem? (i := 106) rfl)))) (hw _ (List.mem_of_getElem? (i := 106) rfl)) (hw _ (List.mem_of_getElem? (i := 105) rfl)) (hw _ (List.mem_of_getElem? (i := 3) rfl)) (hw _ (List.mem_of_getElem? (i := 107) rfl)) (by decide) (rm10 l Z a0 hw [] a1 vw yb ys yz yf ye yr kb ks kz kf ke kr (2 : Int32) sz ln p5 ((p5 + (pl_end p4 (1 : Int32))) + (1 : Int32)) bs ss zs fe [(.int (pl_end p4 (0 : Int32))), (.int (pl_end p4 (1 : Int32)))] rr h311 n0 (Nat.le_trans Z0 K311.1) (by decide) f312 f313 f314 f315 f316 f317 f318 f319 f320 f321 f322 f323 f324 f325 Fw311 f326 f327 f328 f329 f330 f331 ne1 ne2 ne3 ne4 n0_a1 n0_yb n0_yf n0_ys n0_yz hsz hln hof (pl_rlb p5 p4 (1 : Int32)) lss lfe lbs lzs rfl) 0 (by decide) (by decide) e311 (by rw [hml]; rfl) a1 f312 [(.ref vw)] [] rfl (lenOf pd_9 rfl) rfl (Nat.le_of_eq rfl) (hb hby d8_102) (by decide) (by decide) ?_
        rintro T332 _ L332 X332 ⟨rfl, N332q, Kc332, Ec332, F332_bytes, F332_starts, F332_ascii, F332_columns, F332_fieldEnds, F332_view, F332_size, F332_length, ⟨bs332, lb332, Vb332⟩, Vf332, Vs332, ⟨zs332, lz332, Vz332⟩⟩
        have N332 := Fr.app N311 N332q
        have K332 := K311.trans Kc332 (allS (P := fun x => x ∈ ([a1, vw, ye, yb, yf, ys, yz] : List Addr) ∨ h0.size ≤ x) (Or.inl (List.mem_of_getElem? (i := 0) rfl)) (allS (P := fun x => x ∈ ([a1, vw, ye, yb, yf, ys, yz] : List Addr) ∨ h0.size ≤ x) (Or.inl (List.mem_of_getElem? (i := 3) rfl)) (allS (P := fun x => x ∈ ([a1, vw, ye, yb, yf, ys, yz] : List Addr) ∨ h0.size ≤ x) (Or.inl (List.mem_of_getElem? (i := 4) rfl)) (allS (P := fun x => x ∈ ([a1, vw, ye, yb, yf, ys, yz] : List Addr) ∨ h0.size ≤ x) (Or.inl (List.mem_of_getElem? (i := 5) rfl)) (allS (P := fun x => x ∈ ([a1, vw, ye, yb, yf, ys, yz] : List Addr) ∨ h0.size ≤ x) (Or.inl (List.mem_of_getElem? (i := 6) rfl)) all0)))))
        show own_R p e below s _ _ _ T332 (mkF m 105 #[.val (.ref a1), .val (.ref vw), .val (.ref yr), .val (.int (2 : Int32)), .val (.int p4), .val (.int p5), .val (.int (pl_end p4 (1 : Int32)))] [])
        refine own_iload X332 hx (hb hby d8_105) rfl ?_
        refine own_iconst X332 hx (2 : Int32) (hb hby d8_107) rfl ?_
        refine own_iadd X332 hx (hb hby d8_108) ?_
        rw [pl_rl] at F332_length
        have f333 := (Exa.keep f321 Kc332)
        have f334 := (f322.keep Kc332 (ninS (Ne.symm ne_a1_vw) (ninS ne_vw_yb (ninS ne_vw_yf (ninS ne_vw_ys (ninS ne_vw_yz nin0))))))
        have f335 := (f323.keep Kc332 (ninS (Ne.symm ne_a1_vw) (ninS ne_vw_yb (ninS ne_vw_yf (ninS ne_vw_ys (ninS ne_vw_yz nin0))))))
        have f336 := (f324.keep Kc332 (ninS (Ne.symm ne_a1_vw) (ninS ne_vw_yb (ninS ne_vw_yf (ninS ne_vw_ys (ninS ne_vw_yz nin0))))))
        have f337 := (f325.keep Kc332 (ninS (Ne.symm ne_a1_vw) (ninS ne_vw_yb (ninS ne_vw_yf (ninS ne_vw_ys (ninS ne_vw_yz nin0))))))
        have f338 := (Fw311.keep Kc332 (ninS (Ne.symm ne_a1_vw) (ninS ne_vw_yb (ninS ne_vw_yf (ninS ne_vw_ys (ninS ne_vw_yz nin0))))))
        have f339 := (f330.keep Kc332 (ninS (Ne.symm ne_a1_ye) (ninS ne_ye_yb (ninS (Ne.symm ne3) (ninS (Ne.symm ne2) (ninS ne_ye_yz nin0))))))
        refine own_retI X332 hx Bd.returns hlk (hb hby d8_109) ?_ (by decide) (by decide)
        exact ⟨rfl, N332, K332, Ec332, F332_bytes, F332_starts, F332_ascii, F332_columns, F332_fieldEnds, F332_view, F332_size, F332_length, ⟨_, lb332, Vb332⟩, Vf332, Vs332, ⟨_, lz332, Vz332⟩, f333, f334, f335, f336, f337, f338, f339⟩
      · have hc80 : (3 : Int32) < (2 : Int32) := own_le0 hc
        exact absurd hc80 (by decide)
    · have hc63 : (2 : Int32) < (2 : Int32) := own_le0 hc
      exact absurd hc63 (by decide)
theorem ef_8_3 (m : MethodId) (a1 : Addr) (vw : Addr) (yr : Addr) (p4 : Int32) (p5 : Int32) : entryFrame m #[(.ref a1), (.ref vw), (.ref yr), (.int (3 : Int32)), (.int p4), (.int p5)] 7 = mkF m 0 #[.val (.ref a1), .val (.ref vw), .val (.ref yr), .val (.int (3 : Int32)), .val (.int p4), .val (.int p5), .unset] [] := by first | (simp [entryFrame, mkF, argsToLocals, Value.category]; done) | rfl
def Q8_3 (Z : State) (a1 : Addr) (vw : Addr) (yr : Addr) (p4 : Int32) (p5 : Int32) (yb : Addr) (ys : Addr) (yz : Addr) (yf : Addr) (ye : Addr) (kb : ClassId) (ks : ClassId) (kz : ClassId) (kf : ClassId) (ke : ClassId) (kr : ClassId) (sz : Int32) (ln : Int32) (bs : List Value) (ss : List Value) (zs : List Value) (fe : List Value) (rr : List Value) (t0 : Value) (t1 : Value) (t2 : Value) (u1 : Value) (u2 : Value) (u3 : Value) (u4 : Value) (h0 : Heap) (n0 : Nat) (v : Option Value) (h : Heap) (L : List Loc) : Prop := v = some (.int ((pl_end p4 (2 : Int32)) + (2 : Int32))) ∧ Fr n0 L ∧ Keep h0 h [a1, vw, ye, yb, yf, ys, yz] ∧ Exa Z h a1 cH ∧ Fld Z h a1 cH "bytes" "[B" (.ref yb) ∧ Fld Z h a1 cH "starts" "[I" (.ref ys) ∧ Fld Z h a1 cH "ascii" "[Z" (.ref yz) ∧ Fld Z h a1 cH "columns" "I" (.int (3 : Int32)) ∧ Fld Z h a1 cH "fieldEnds" "[I" (.ref yf) ∧ Fld Z h a1 cH "view" "Lcom/example/termweave/termweave/release/HeldRows$View;" (.ref vw) ∧ Fld Z h a1 cH "size" "I" (.int (sz + (1 : Int32))) ∧ Fld Z h a1 cH "length" "I" (.int (ln + ((pl_end p4 (2 : Int32)) + (2 : Int32)))) ∧ (∃ bs', bs'.length = 4096 ∧ Arv Z h yb kb .byte 4096 bs' o0) ∧ Arv Z h yf kf .int ((16 : Int32) * (3 : Int32)) (List.take (sz * (3 : Int32)).toNatClampNeg fe ++ ((List.range (3 : Int32).toNatClampNeg).map fun i => [(.int (pl_end p4 (0 : Int32))), (.int (pl_end p4 (1 : Int32))), (.int (pl_end p4 (2 : Int32)))].getD ((0 : Int32).toNatClampNeg + i) o0) ++ List.drop ((sz * (3 : Int32)).toNatClampNeg + (3 : Int32).toNatClampNeg) fe) o0 ∧ Arv Z h ys ks .int 16 (ss.set sz.toNatClampNeg (.int ln)) o0 ∧ (∃ zs', zs'.length = 16 ∧ Arv Z h yz kz .boolean 16 zs' o0) ∧ Exa Z h vw cV ∧ Fld Z h vw cR "rowEnd" "I" (.int ((p5 + (pl_end p4 (2 : Int32))) + (1 : Int32))) ∧ Fld Z h vw cR "bytes" "[B" (.ref yr) ∧ Fld Z h vw cR "fieldEnds" "[I" (.ref ye) ∧ Fld Z h vw cR "rowStart" "I" (.int p5) ∧ Fld Z h vw cR "ascii" "Z" (.int (1 : Int32)) ∧ Arv Z h ye ke .int (3 : Int32) [(.int (pl_end p4 (0 : Int32))), (.int (pl_end p4 (1 : Int32))), (.int (pl_end p4 (2 : Int32)))] o0
set_option maxRecDepth 65536 in
set_option maxHeartbeats 40000000 in
theorem rm8_3 (l : Launch) (Z : State) (a0 : Array Value) (hw : ∀ d ∈ tables_1, d.before a0 Z = true) (ws : List Jvm.Cond) (a1 : Addr) (vw : Addr) (yr : Addr) (p4 : Int32) (p5 : Int32) (yb : Addr) (ys : Addr) (yz : Addr) (yf : Addr) (ye : Addr) (kb : ClassId) (ks : ClassId) (kz : ClassId) (kf : ClassId) (ke : ClassId) (kr : ClassId) (sz : Int32) (ln : Int32) (bs : List Value) (ss : List Value) (zs : List Value) (fe : List Value) (rr : List Value) (t0 : Value) (t1 : Value) (t2 : Value) (u1 : Value) (u2 : Value) (u3 : Value) (u4 : Value) (h0 : Heap) (n0 : Nat) (Z0 : n0 ≤ h0.size) (hE : Exa Z h0 a1 cH) (hf_bytes : Fld Z h0 a1 cH "bytes" "[B" (.ref yb)) (hf_starts : Fld Z h0 a1 cH "starts" "[I" (.ref ys)) (hf_ascii : Fld Z h0 a1 cH "ascii" "[Z" (.ref yz)) (hf_columns : Fld Z h0 a1 cH "columns" "I" (.int (3 : Int32))) (hf_fieldEnds : Fld Z h0 a1 cH "fieldEnds" "[I" (.ref yf)) (hf_view : Fld Z h0 a1 cH "view" "Lcom/example/termweave/termweave/release/HeldRows$View;" (.ref vw)) (hf_size : Fld Z h0 a1 cH "size" "I" (.int sz)) (hf_length : Fld Z h0 a1 cH "length" "I" (.int ln)) (hG : Exa Z h0 vw cV) (hg_rowEnd : Fld Z h0 vw cR "rowEnd" "I" u1) (hg_bytes : Fld Z h0 vw cR "bytes" "[B" u2) (hg_rowStart : Fld Z h0 vw cR "rowStart" "I" u3) (hg_ascii : Fld Z h0 vw cR "ascii" "Z" u4) (hg_fieldEnds : Fld Z h0 vw cR "fieldEnds" "[I" (.ref ye)) (hV_yb : Arv Z h0 yb kb .byte 4096 bs o0) (hV_ys : Arv Z h0 ys ks .int 16 ss o0) (hV_yz : Arv Z h0 yz kz .boolean 16 zs o0) (hV_yf : Arv Z h0 yf kf .int ((16 : Int32) * (3 : Int32)) fe o0) (hV_ye : Arv Z h0 ye ke .int (3 : Int32) [t0, t1, t2] o0) (hV_yr : Arv Z h0 yr kr .byte 40 rr o0) (ne1 : ys ≠ yf) (ne2 : ys ≠ ye) (ne3 : yf ≠ ye) (ne4 : yb ≠ yr) (n0_a1 : n0 ≤ a1) (n0_yb : n0 ≤ yb) (n0_yf : n0 ≤ yf) (n0_ys : n0 ≤ ys) (n0_yz : n0 ≤ yz) (n0_vw : n0 ≤ vw) (n0_ye : n0 ≤ ye) (hsz : 0 ≤ sz.toInt ∧ sz.toInt ≤ 3) (hln : 0 ≤ ln.toInt ∧ ln.toInt ≤ 100) (hof : 0 ≤ p5.toInt ∧ p5.toInt ≤ 7) (lss : ss.length = 16) (lfe : fe.length = ((16 : Int32) * (3 : Int32)).toNatClampNeg) (lbs : bs.length = 4096) (lzs : zs.length = 16) :
    MetFree l (⟨"com/example/termweave/termweave/release/HeldRowsFieldStartPinLaw", "addRow", "(Lcom/example/termweave/termweave/release/HeldRows;Lcom/example/termweave/termweave/release/RrfRow;[BIII)I"⟩ : MethodName) (head1 (Jvm.Cond.code (⟨"com/example/termweave/termweave/release/HeldRowsFieldStartPinLaw", "addRow", "(Lcom/example/termweave/termweave/release/HeldRows;Lcom/example/termweave/termweave/release/RrfRow;[BIII)I"⟩ : MethodName) method_4_code 7 (some .int) :: ws) ({ frames := 2, cells := 0, slots := 0, locals := 54 } : Room)) (fun a U => a = #[(.ref a1), (.ref vw), (.ref yr), (.int (3 : Int32)), (.int p4), (.int p5)] ∧ Z.Warmed39 U.vm ∧ U.heap = h0) (fun _ _ _ _ _ => True) (fun _ U o U' => ∃ v L, o = .returned v ∧ Q8_3 Z a1 vw yr p4 p5 yb ys yz yf ye kb ks kz kf ke kr sz ln bs ss zs fe rr t0 t1 t2 u1 u2 u3 u4 h0 n0 v U'.heap L ∧ FrameEnd U o U' L ({ frames := 2, cells := 0, slots := 0, locals := 54 } : Room).cells ({ frames := 2, cells := 0, slots := 0, locals := 54 } : Room).slots) := by
  refine MetFree.of_bodySF pn_8 hisR ?_
  intro p e s m args below meth c s₁ Bd hml0 hP hK
  obtain ⟨rfl, hZ, hh⟩ := hP
  have hx := Bd.exec
  have hby := Bd.bytes
  have hml : c.maxLocals = 7 := hml0
  have hown : s.vm.findClass "com/example/termweave/termweave/release/HeldRowsFieldStartPinLaw" = some m.cls := findClass_of_methodNamed Bd.named
  have hnm := (name_of_methodNamed Bd.named Bd.method).1
  have hlk := BodyLoose.notSynchronized Bd
  have X0 : Stand p l e ({ frames := 2, cells := 0, slots := 0, locals := 54 } : Room) s m #[(.ref a1), (.ref vw), (.ref yr), (.int (3 : Int32)), (.int p4), (.int p5)] below meth c s₁ [] 0 0 := Stand.of_body Bd
  have e0 : s₁.heap = h0 := by rw [← hh, Bd.state]; rfl
  have N0 := Fr.nil n0
  show own_R p e below s (Q8_3 Z a1 vw yr p4 p5 yb ys yz yf ye kb ks kz kf ke kr sz ln bs ss zs fe rr t0 t1 t2 u1 u2 u3 u4 h0 n0) ({ frames := 2, cells := 0, slots := 0, locals := 54 } : Room).cells ({ frames := 2, cells := 0, slots := 0, locals := 54 } : Room).slots s₁ (entryFrame m #[(.ref a1), (.ref vw), (.ref yr), (.int (3 : Int32)), (.int p4), (.int p5)] 7)
  refine own_cast (ef_8_3 m a1 vw yr p4 p5) ?_
  show own_R p e below s _ _ _ s₁ (mkF m 0 #[.val (.ref a1), .val (.ref vw), .val (.ref yr), .val (.int (3 : Int32)), .val (.int p4), .val (.int p5), .unset] [])
  have K0 := Keep.refl h0 ([a1, vw, ye, yb, yf, ys, yz] : List Addr)
  have ne_a1_vw : a1 ≠ vw := (Exa.ne hE hG (by decide))
  have ne_a1_ye : a1 ≠ ye := (Exa.neArv hE hV_ye (hw _ (List.mem_of_getElem? (i := 2) rfl)))
  have ne_a1_yb : a1 ≠ yb := (Exa.neArv hE hV_yb (hw _ (List.mem_of_getElem? (i := 2) rfl)))
  have ne_a1_yf : a1 ≠ yf := (Exa.neArv hE hV_yf (hw _ (List.mem_of_getElem? (i := 2) rfl)))
  have ne_a1_ys : a1 ≠ ys := (Exa.neArv hE hV_ys (hw _ (List.mem_of_getElem? (i := 2) rfl)))
  have ne_a1_yz : a1 ≠ yz := (Exa.neArv hE hV_yz (hw _ (List.mem_of_getElem? (i := 2) rfl)))
  have ne_a1_yr : a1 ≠ yr := (Exa.neArv hE hV_yr (hw _ (List.mem_of_getElem? (i := 2) rfl)))
  have ne_vw_ye : vw ≠ ye := (Exa.neArv hG hV_ye (hw _ (List.mem_of_getElem? (i := 43) rfl)))
  have ne_vw_yb : vw ≠ yb := (Exa.neArv hG hV_yb (hw _ (List.mem_of_getElem? (i := 43) rfl)))
  have ne_vw_yf : vw ≠ yf := (Exa.neArv hG hV_yf (hw _ (List.mem_of_getElem? (i := 43) rfl)))
  have ne_vw_ys : vw ≠ ys := (Exa.neArv hG hV_ys (hw _ (List.mem_of_getElem? (i := 43) rfl)))
  have ne_vw_yz : vw ≠ yz := (Exa.neArv hG hV_yz (hw _ (List.mem_of_getElem? (i := 43) rfl)))
  have ne_vw_yr : vw ≠ yr := (Exa.neArv hG hV_yr (hw _ (List.mem_of_getElem? (i := 43) rfl)))
  have ne_ye_yb : ye ≠ yb := (own_neA hV_ye hV_yb (by decide))
  have ne_ye_yz : ye ≠ yz := (own_neA hV_ye hV_yz (by decide))
  have ne_ye_yr : ye ≠ yr := (own_neA hV_ye hV_yr (by decide))
  have ne_yb_yf : yb ≠ yf := (own_neA hV_yb hV_yf (by decide))
  have ne_yb_ys : yb ≠ ys := (own_neA hV_yb hV_ys (by decide))
  have ne_yb_yz : yb ≠ yz := (own_neA hV_yb hV_yz (by decide))
  have ne_yf_yz : yf ≠ yz := (own_neA hV_yf hV_yz (by decide))
  have ne_yf_yr : yf ≠ yr := (own_neA hV_yf hV_yr (by decide))
  have ne_ys_yz : ys ≠ yz := (own_neA hV_ys hV_yz (by decide))
  have ne_ys_yr : ys ≠ yr := (own_neA hV_ys hV_yr (by decide))
  have ne_yz_yr : yz ≠ yr := (own_neA hV_yz hV_yr (by decide))
  refine own_iload X0 hx (hb hby d8_0) rfl ?_
  refine own_iloadN X0 hx (hb hby d8_2) rfl ?_
  refine own_iconst X0 hx (1 : Int32) (hb hby d8_3) rfl ?_
  refine own_isub X0 hx (hb hby d8_4) ?_
  refine own_callS X0 hx hZ (y := my9) hown (hw _ (List.mem_of_getElem? (i := 95) rfl)) (hw _ (List.mem_of_getElem? (i := 96) rfl)) (hw _ (List.mem_of_getElem? (i := 93) rfl)) (hw _ (List.mem_of_getElem? (i := 97) rfl)) (by decide) (rm9 l Z a0 hw [] p4 (2 : Int32) h0 n0 (Nat.le_trans Z0 K0.1)) 0 (by decide) (by decide) e0 (by rw [hml]; rfl) [(.int p4), (.int (2 : Int32))] [] rfl (lenOf pd_8 rfl) rfl (Nat.le_of_eq rfl) (hb hby d8_5) (by decide) (by decide) ?_
  rintro T340 _ L340 X340 ⟨rfl, N340q, e340⟩
  have N340 := Fr.app N0 N340q
  show own_R p e below s _ _ _ T340 (mkF m 8 #[.val (.ref a1), .val (.ref vw), .val (.ref yr), .val (.int (3 : Int32)), .val (.int p4), .val (.int p5), .unset] [(.int (pl_end p4 (2 : Int32)))])
  refine own_istore X340 hx (hb hby d8_8) (l' := #[.val (.ref a1), .val (.ref vw), .val (.ref yr), .val (.int (3 : Int32)), .val (.int p4), .val (.int p5), .val (.int (pl_end p4 (2 : Int32)))]) rfl ?_
  refine own_aloadN X340 hx (hb hby d8_10) rfl rfl ?_
  refine own_aloadN X340 hx (hb hby d8_11) rfl rfl ?_
  refine own_putF X340 hx hZ hown (host := "") (Or.inl (hw _ (List.mem_of_getElem? (i := 98) rfl))) Via.refl e340 hg_bytes hG (Or.inl (hw _ (List.mem_of_getElem? (i := 57) rfl))) (hw _ (List.mem_of_getElem? (i := 43) rfl)) (ty := (.array .byte)) (by decide) rfl rfl (hb hby d8_12) ?_
  intro T341 h341 X341 e341 W341
  have K341 := K0.wr W341 (Or.inl (List.mem_of_getElem? (i := 1) rfl))
  have N341 := Fr.snoc X341 N340 n0_vw
  have Fw341 := Fld.same W341 hg_bytes
  refine own_aloadN X341 hx (hb hby d8_15) rfl rfl ?_
  refine own_iload X341 hx (hb hby d8_16) rfl ?_
  have f342 := (Fld.other W341 hg_rowStart (Or.inr (slot_ne (Or.inl (hw _ (List.mem_of_getElem? (i := 71) rfl))) (Or.inl (hw _ (List.mem_of_getElem? (i := 57) rfl))) (by decide) (t := .int) (t' := (.array .byte)) (by decide) (by decide))))
  have f343 := (Exa.wr W341 hG)
  refine own_putF X341 hx hZ hown (host := "") (Or.inl (hw _ (List.mem_of_getElem? (i := 99) rfl))) Via.refl e341 f342 f343 (Or.inl (hw _ (List.mem_of_getElem? (i := 71) rfl))) (hw _ (List.mem_of_getElem? (i := 43) rfl)) (ty := .int) (by decide) rfl rfl (hb hby d8_18) ?_
  intro T344 h344 X344 e344 W344
  have K344 := K341.wr W344 (Or.inl (List.mem_of_getElem? (i := 1) rfl))
  have N344 := Fr.snoc X344 N341 n0_vw
  have Fw344 := Fld.same W344 f342
  refine own_aloadN X344 hx (hb hby d8_21) rfl rfl ?_
  refine own_iload X344 hx (hb hby d8_22) rfl ?_
  refine own_iload X344 hx (hb hby d8_24) rfl ?_
  refine own_iadd X344 hx (hb hby d8_26) ?_
  refine own_iconst X344 hx (1 : Int32) (hb hby d8_27) rfl ?_
  refine own_iadd X344 hx (hb hby d8_28) ?_
  have f345 := (Fld.other W344 (Fld.other W341 hg_rowEnd (Or.inr (slot_ne (Or.inl (hw _ (List.mem_of_getElem? (i := 55) rfl))) (Or.inl (hw _ (List.mem_of_getElem? (i := 57) rfl))) (by decide) (t := .int) (t' := (.array .byte)) (by decide) (by decide)))) (Or.inr (slot_ne (Or.inl (hw _ (List.mem_of_getElem? (i := 55) rfl))) (Or.inl (hw _ (List.mem_of_getElem? (i := 71) rfl))) (by decide) (t := .int) (t' := .int) (by decide) (by decide))))
  have f346 := (Exa.wr W344 f343)
  refine own_putF X344 hx hZ hown (host := "") (Or.inl (hw _ (List.mem_of_getElem? (i := 100) rfl))) Via.refl e344 f345 f346 (Or.inl (hw _ (List.mem_of_getElem? (i := 55) rfl))) (hw _ (List.mem_of_getElem? (i := 43) rfl)) (ty := .int) (by decide) rfl rfl (hb hby d8_29) ?_
  intro T347 h347 X347 e347 W347
  have K347 := K344.wr W347 (Or.inl (List.mem_of_getElem? (i := 1) rfl))
  have N347 := Fr.snoc X347 N344 n0_vw
  have Fw347 := Fld.same W347 f345
  refine own_aloadN X347 hx (hb hby d8_32) rfl rfl ?_
  have f348 := (Fld.other W347 (Fld.other W344 (Fld.other W341 hg_fieldEnds (Or.inr (slot_ne (Or.inr (hw _ (List.mem_of_getElem? (i := 59) rfl))) (Or.inl (hw _ (List.mem_of_getElem? (i := 57) rfl))) (by decide) (t := (.array .int)) (t' := (.array .byte)) (by decide) (by decide)))) (Or.inr (slot_ne (Or.inr (hw _ (List.mem_of_getElem? (i := 59) rfl))) (Or.inl (hw _ (List.mem_of_getElem? (i := 71) rfl))) (by decide) (t := (.array .int)) (t' := .int) (by decide) (by decide)))) (Or.inr (slot_ne (Or.inr (hw _ (List.mem_of_getElem? (i := 59) rfl))) (Or.inl (hw _ (List.mem_of_getElem? (i := 55) rfl))) (by decide) (t := (.array .int)) (t' := .int) (by decide) (by decide))))
  refine own_getF X347 hx hZ hown (host := "") (Or.inl (hw _ (List.mem_of_getElem? (i := 101) rfl))) Via.refl e347 f348 (hb hby d8_33) ?_
  intro T349 X349 e349
  refine own_iconst X349 hx (0 : Int32) (hb hby d8_36) rfl ?_
  refine own_iload X349 hx (hb hby d8_37) rfl ?_
  refine own_iconst X349 hx (0 : Int32) (hb hby d8_39) rfl ?_
  refine own_callS X349 hx hZ (y := my9) hown (hw _ (List.mem_of_getElem? (i := 95) rfl)) (hw _ (List.mem_of_getElem? (i := 96) rfl)) (hw _ (List.mem_of_getElem? (i := 93) rfl)) (hw _ (List.mem_of_getElem? (i := 97) rfl)) (by decide) (rm9 l Z a0 hw [] p4 (0 : Int32) h347 n0 (Nat.le_trans Z0 K347.1)) 2 (by decide) (by decide) e349 (by rw [hml]; rfl) [(.int p4), (.int (0 : Int32))] [(.int (0 : Int32)), (.ref ye)] rfl (lenOf pd_8 rfl) rfl (Nat.le_of_eq rfl) (hb hby d8_40) (by decide) (by decide) ?_
  rintro T350 _ L350 X350 ⟨rfl, N350q, e350⟩
  have N350 := Fr.app N347 N350q
  show own_R p e below s _ _ _ T350 (mkF m 43 #[.val (.ref a1), .val (.ref vw), .val (.ref yr), .val (.int (3 : Int32)), .val (.int p4), .val (.int p5), .val (.int (pl_end p4 (2 : Int32)))] [(.int (pl_end p4 (0 : Int32))), (.int (0 : Int32)), (.ref ye)])
  have f351 := (((hV_ye.other W341 (Ne.symm ne_vw_ye)).other W344 (Ne.symm ne_vw_ye)).other W347 (Ne.symm ne_vw_ye))
  refine own_iastore X350 hx hZ e350 f351 (x' := (pl_end p4 (0 : Int32))) rfl ⟨by decide, by decide⟩ 0 rfl (Nat.le_of_ble_eq_true rfl) (hb hby d8_43) ?_
  intro T352 h352 X352 e352 W352 V352
  have K352 := K347.wr W352 (Or.inl (List.mem_of_getElem? (i := 2) rfl))
  have N352 := Fr.snoc X352 N350 n0_ye
  have V_ye_352 : Arv Z h352 ye ke .int (3 : Int32) [(.int (pl_end p4 (0 : Int32))), t1, t2] o0 := V352
  refine own_iloadN X352 hx (hb hby d8_44) rfl ?_
  refine own_iconst X352 hx (1 : Int32) (hb hby d8_45) rfl ?_
  refine own_icmp X352 hx (hb hby d8_46) (pc' := 61) (by decide) (by decide) (fun hc => ?_) (fun hc => ?_)
  · have hc46 : ¬ (1 : Int32) < (3 : Int32) := own_le1 hc
    exact absurd (by decide) hc46
  · have hc46 : (1 : Int32) < (3 : Int32) := own_le0 hc
    clear hc
    refine own_aloadN X352 hx (hb hby d8_49) rfl rfl ?_
    have f353 := (Fld.other W352 f348 (Or.inl ne_vw_ye))
    refine own_getF X352 hx hZ hown (host := "") (Or.inl (hw _ (List.mem_of_getElem? (i := 101) rfl))) Via.refl e352 f353 (hb hby d8_50) ?_
    intro T354 X354 e354
    refine own_iconst X354 hx (1 : Int32) (hb hby d8_53) rfl ?_
    refine own_iload X354 hx (hb hby d8_54) rfl ?_
    refine own_iconst X354 hx (1 : Int32) (hb hby d8_56) rfl ?_
    refine own_callS X354 hx hZ (y := my9) hown (hw _ (List.mem_of_getElem? (i := 95) rfl)) (hw _ (List.mem_of_getElem? (i := 96) rfl)) (hw _ (List.mem_of_getElem? (i := 93) rfl)) (hw _ (List.mem_of_getElem? (i := 97) rfl)) (by decide) (rm9 l Z a0 hw [] p4 (1 : Int32) h352 n0 (Nat.le_trans Z0 K352.1)) 2 (by decide) (by decide) e354 (by rw [hml]; rfl) [(.int p4), (.int (1 : Int32))] [(.int (1 : Int32)), (.ref ye)] rfl (lenOf pd_8 rfl) rfl (Nat.le_of_eq rfl) (hb hby d8_57) (by decide) (by decide) ?_
    rintro T355 _ L355 X355 ⟨rfl, N355q, e355⟩
    have N355 := Fr.app N352 N355q
    show own_R p e below s _ _ _ T355 (mkF m 60 #[.val (.ref a1), .val (.ref vw), .val (.ref yr), .val (.int (3 : Int32)), .val (.int p4), .val (.int p5), .val (.int (pl_end p4 (2 : Int32)))] [(.int (pl_end p4 (1 : Int32))), (.int (1 : Int32)), (.ref ye)])
    refine own_iastore X355 hx hZ e355 V_ye_352 (x' := (pl_end p4 (1 : Int32))) rfl ⟨by decide, by decide⟩ 1 rfl (Nat.le_of_ble_eq_true rfl) (hb hby d8_60) ?_
    intro T356 h356 X356 e356 W356 V356
    have K356 := K352.wr W356 (Or.inl (List.mem_of_getElem? (i := 2) rfl))
    have N356 := Fr.snoc X356 N355 n0_ye
    have V_ye_356 : Arv Z h356 ye ke .int (3 : Int32) [(.int (pl_end p4 (0 : Int32))), (.int (pl_end p4 (1 : Int32))), t2] o0 := V356
    refine own_iloadN X356 hx (hb hby d8_61) rfl ?_
    refine own_iconst X356 hx (2 : Int32) (hb hby d8_62) rfl ?_
    refine own_icmp X356 hx (hb hby d8_63) (pc' := 78) (by decide) (by decide) (fun hc => ?_) (fun hc => ?_)
    · have hc63 : ¬ (2 : Int32) < (3 : Int32) := own_le1 hc
      exact absurd (by decide) hc63
    · have hc63 : (2 : Int32) < (3 : Int32) := own_le0 hc
      clear hc
      refine own_aloadN X356 hx (hb hby d8_66) rfl rfl ?_
      have f357 := (Fld.other W356 f353 (Or.inl ne_vw_ye))
      refine own_getF X356 hx hZ hown (host := "") (Or.inl (hw _ (List.mem_of_getElem? (i := 101) rfl))) Via.refl e356 f357 (hb hby d8_67) ?_
      intro T358 X358 e358
      refine own_iconst X358 hx (2 : Int32) (hb hby d8_70) rfl ?_
      refine own_iload X358 hx (hb hby d8_71) rfl ?_
      refine own_iconst X358 hx (2 : Int32) (hb hby d8_73) rfl ?_
      refine own_callS X358 hx hZ (y := my9) hown (hw _ (List.mem_of_getElem? (i := 95) rfl)) (hw _ (List.mem_of_getElem? (i := 96) rfl)) (hw _ (List.mem_of_getElem? (i := 93) rfl)) (hw _ (List.mem_of_getElem? (i := 97) rfl)) (by decide) (rm9 l Z a0 hw [] p4 (2 : Int32) h356 n0 (Nat.le_trans Z0 K356.1)) 2 (by decide) (by decide) e358 (by rw [hml]; rfl) [(.int p4), (.int (2 : Int32))] [(.int (2 : Int32)), (.ref ye)] rfl (lenOf pd_8 rfl) rfl (Nat.le_of_eq rfl) (hb hby d8_74) (by decide) (by decide) ?_
      rintro T359 _ L359 X359 ⟨rfl, N359q, e359⟩
      have N359 := Fr.app N356 N359q
      show own_R p e below s _ _ _ T359 (mkF m 77 #[.val (.ref a1), .val (.ref vw), .val (.ref yr), .val (.int (3 : Int32)), .val (.int p4), .val (.int p5), .val (.int (pl_end p4 (2 : Int32)))] [(.int (pl_end p4 (2 : Int32))), (.int (2 : Int32)), (.ref ye)])
      refine own_iastore X359 hx hZ e359 V_ye_356 (x' := (pl_end p4 (2 : Int32))) rfl ⟨by decide, by decide⟩ 2 rfl (Nat.le_of_ble_eq_true rfl) (hb hby d8_77) ?_
      intro T360 h360 X360 e360 W360 V360
      have K360 := K356.wr W360 (Or.inl (List.mem_of_getElem? (i := 2) rfl))
      have N360 := Fr.snoc X360 N359 n0_ye
      have V_ye_360 : Arv Z h360 ye ke .int (3 : Int32) [(.int (pl_end p4 (0 : Int32))), (.int (pl_end p4 (1 : Int32))), (.int (pl_end p4 (2 : Int32)))] o0 := V360
      refine own_iloadN X360 hx (hb hby d8_78) rfl ?_
      refine own_iconst X360 hx (3 : Int32) (hb hby d8_79) rfl ?_
      refine own_icmp X360 hx (hb hby d8_80) (pc' := 95) (by decide) (by decide) (fun hc => ?_) (fun hc => ?_)
      · have hc80 : ¬ (3 : Int32) < (3 : Int32) := own_le1 hc
        clear hc
        refine own_aloadN X360 hx (hb hby d8_95) rfl rfl ?_
        refine own_iconst X360 hx (1 : Int32) (hb hby d8_96) rfl ?_
        have f361 := (Fld.other W360 (Fld.other W356 (Fld.other W352 (Fld.other W347 (Fld.other W344 (Fld.other W341 hg_ascii (Or.inr (slot_ne (Or.inl (hw _ (List.mem_of_getElem? (i := 90) rfl))) (Or.inl (hw _ (List.mem_of_getElem? (i := 57) rfl))) (by decide) (t := .boolean) (t' := (.array .byte)) (by decide) (by decide)))) (Or.inr (slot_ne (Or.inl (hw _ (List.mem_of_getElem? (i := 90) rfl))) (Or.inl (hw _ (List.mem_of_getElem? (i := 71) rfl))) (by decide) (t := .boolean) (t' := .int) (by decide) (by decide)))) (Or.inr (slot_ne (Or.inl (hw _ (List.mem_of_getElem? (i := 90) rfl))) (Or.inl (hw _ (List.mem_of_getElem? (i := 55) rfl))) (by decide) (t := .boolean) (t' := .int) (by decide) (by decide)))) (Or.inl ne_vw_ye)) (Or.inl ne_vw_ye)) (Or.inl ne_vw_ye))
        have f362 := (Exa.wr W360 (Exa.wr W356 (Exa.wr W352 (Exa.wr W347 f346))))
        refine own_putFN X360 hx hZ hown (hw _ (List.mem_of_getElem? (i := 102) rfl)) Via.refl e360 f361 f362 (Or.inl (hw _ (List.mem_of_getElem? (i := 90) rfl))) (hw _ (List.mem_of_getElem? (i := 43) rfl)) (ty := .boolean) (v' := .int (1 : Int32)) (by decide) rfl (by decide) (hb hby d8_97) ?_
        intro T363 h363 X363 e363 W363
        have K363 := K360.wr W363 (Or.inl (List.mem_of_getElem? (i := 1) rfl))
        have N363 := Fr.snoc X363 N360 n0_vw
        have Fw363 := Fld.same W363 f361
        refine own_aloadN X363 hx (hb hby d8_100) rfl rfl ?_
        refine own_aloadN X363 hx (hb hby d8_101) rfl rfl ?_
        have f364 := (Exa.wr W363 (Exa.wr W360 (Exa.wr W356 (Exa.wr W352 (Exa.wr W347 (Exa.wr W344 (Exa.wr W341 hE)))))))
        have f365 := (Fld.other W363 (Fld.other W360 (Fld.other W356 (Fld.other W352 (Fld.other W347 (Fld.other W344 (Fld.other W341 hf_bytes (Or.inl ne_a1_vw)) (Or.inl ne_a1_vw)) (Or.inl ne_a1_vw)) (Or.inl ne_a1_ye)) (Or.inl ne_a1_ye)) (Or.inl ne_a1_ye)) (Or.inl ne_a1_vw))
        have f366 := (Fld.other W363 (Fld.other W360 (Fld.other W356 (Fld.other W352 (Fld.other W347 (Fld.other W344 (Fld.other W341 hf_starts (Or.inl ne_a1_vw)) (Or.inl ne_a1_vw)) (Or.inl ne_a1_vw)) (Or.inl ne_a1_ye)) (Or.inl ne_a1_ye)) (Or.inl ne_a1_ye)) (Or.inl ne_a1_vw))
        have f367 := (Fld.other W363 (Fld.other W360 (Fld.other W356 (Fld.other W352 (Fld.other W347 (Fld.other W344 (Fld.other W341 hf_ascii (Or.inl ne_a1_vw)) (Or.inl ne_a1_vw)) (Or.inl ne_a1_vw)) (Or.inl ne_a1_ye)) (Or.inl ne_a1_ye)) (Or.inl ne_a1_ye)) (Or.inl ne_a1_vw))
        have f368 := (Fld.other W363 (Fld.other W360 (Fld.other W356 (Fld.other W352 (Fld.other W347 (Fld.other W344 (Fld.other W341 hf_columns (Or.inl ne_a1_vw)) (Or.inl ne_a1_vw)) (Or.inl ne_a1_vw)) (Or.inl ne_a1_ye)) (Or.inl ne_a1_ye)) (Or.inl ne_a1_ye)) (Or.inl ne_a1_vw))
        have f369 := (Fld.other W363 (Fld.other W360 (Fld.other W356 (Fld.other W352 (Fld.other W347 (Fld.other W344 (Fld.other W341 hf_fieldEnds (Or.inl ne_a1_vw)) (Or.inl ne_a1_vw)) (Or.inl ne_a1_vw)) (Or.inl ne_a1_ye)) (Or.inl ne_a1_ye)) (Or.inl ne_a1_ye)) (Or.inl ne_a1_vw))
        have f370 := (Fld.other W363 (Fld.other W360 (Fld.other W356 (Fld.other W352 (Fld.other W347 (Fld.other W344 (Fld.other W341 hf_view (Or.inl ne_a1_vw)) (Or.inl ne_a1_vw)) (Or.inl ne_a1_vw)) (Or.inl ne_a1_ye)) (Or.inl ne_a1_ye)) (Or.inl ne_a1_ye)) (Or.inl ne_a1_vw))
        have f371 := (Fld.other W363 (Fld.other W360 (Fld.other W356 (Fld.other W352 (Fld.other W347 (Fld.other W344 (Fld.other W341 hf_size (Or.inl ne_a1_vw)) (Or.inl ne_a1_vw)) (Or.inl ne_a1_vw)) (Or.inl ne_a1_ye)) (Or.inl ne_a1_ye)) (Or.inl ne_a1_ye)) (Or.inl ne_a1_vw))
        have f372 := (Fld.other W363 (Fld.other W360 (Fld.other W356 (Fld.other W352 (Fld.other W347 (Fld.other W344 (Fld.other W341 hf_length (Or.inl ne_a1_vw)) (Or.inl ne_a1_vw)) (Or.inl ne_a1_vw)) (Or.inl ne_a1_ye)) (Or.inl ne_a1_ye)) (Or.inl ne_a1_ye)) (Or.inl ne_a1_vw))
        have f373 := (Exa.wr W363 f362)
        have f374 := (Fld.other W363 (Fld.other W360 (Fld.other W356 (Fld.other W352 Fw347 (Or.inl ne_vw_ye)) (Or.inl ne_vw_ye)) (Or.inl ne_vw_ye)) (Or.inr (slot_ne (Or.inl (hw _ (List.mem_of_getElem? (i := 55) rfl))) (Or.inl (hw _ (List.mem_of_getElem? (i := 90) rfl))) (by decide) (t := .int) (t' := .boolean) (by decide) (by decide))))
        have f375 := (Fld.other W363 (Fld.other W360 (Fld.other W356 (Fld.other W352 (Fld.other W347 (Fld.other W344 Fw341 (Or.inr (slot_ne (Or.inl (hw _ (List.mem_of_getElem? (i := 57) rfl))) (Or.inl (hw _ (List.mem_of_getElem? (i := 71) rfl))) (by decide) (t := (.array .byte)) (t' := .int) (by decide) (by decide)))) (Or.inr (slot_ne (Or.inl (hw _ (List.mem_of_getElem? (i := 57) rfl))) (Or.inl (hw _ (List.mem_of_getElem? (i := 55) rfl))) (by decide) (t := (.array .byte)) (t' := .int) (by decide) (by decide)))) (Or.inl ne_vw_ye)) (Or.inl ne_vw_ye)) (Or.inl ne_vw_ye)) (Or.inr (slot_ne (Or.inl (hw _ (List.mem_of_getElem? (i := 57) rfl))) (Or.inl (hw _ (List.mem_of_getElem? (i := 90) rfl))) (by decide) (t := (.array .byte)) (t' := .boolean) (by decide) (by decide))))
        have f376 := (Fld.other W363 (Fld.other W360 f357 (Or.inl ne_vw_ye)) (Or.inr (slot_ne (Or.inr (hw _ (List.mem_of_getElem? (i := 59) rfl))) (Or.inl (hw _ (List.mem_of_getElem? (i := 90) rfl))) (by decide) (t := (.array .int)) (t' := .boolean) (by decide) (by decide))))
        have f377 := (Fld.other W363 (Fld.other W360 (Fld.other W356 (Fld.other W352 (Fld.other W347 Fw344 (Or.inr (slot_ne (Or.inl (hw _ (List.mem_of_getElem? (i := 71) rfl))) (Or.inl (hw _ (List.mem_of_getElem? (i := 55) rfl))) (by decide) (t := .int) (t' := .int) (by decide) (by decide)))) (Or.inl ne_vw_ye)) (Or.inl ne_vw_ye)) (Or.inl ne_vw_ye)) (Or.inr (slot_ne (Or.inl (hw _ (List.mem_of_getElem? (i := 71) rfl))) (Or.inl (hw _ (List.mem_of_getElem? (i := 90) rfl))) (by decide) (t := .int) (t' := .boolean) (by decide) (by decide))))
        have f378 := (((((((hV_yb.other W341 (Ne.symm ne_vw_yb)).other W344 (Ne.symm ne_vw_yb)).other W347 (Ne.symm ne_vw_yb)).other W352 (Ne.symm ne_ye_yb)).other W356 (Ne.symm ne_ye_yb)).other W360 (Ne.symm ne_ye_yb)).other W363 (Ne.symm ne_vw_yb))
        have f379 := (((((((hV_ys.other W341 (Ne.symm ne_vw_ys)).other W344 (Ne.symm ne_vw_ys)).other W347 (Ne.symm ne_vw_ys)).other W352 ne2).other W356 ne2).other W360 ne2).other W363 (Ne.symm ne_vw_ys))
        have f380 := (((((((hV_yz.other W341 (Ne.symm ne_vw_yz)).other W344 (Ne.symm ne_vw_yz)).other W347 (Ne.symm ne_vw_yz)).other W352 (Ne.symm ne_ye_yz)).other W356 (Ne.symm ne_ye_yz)).other W360 (Ne.symm ne_ye_yz)).other W363 (Ne.symm ne_vw_yz))
        have f381 := (((((((hV_yf.other W341 (Ne.symm ne_vw_yf)).other W344 (Ne.symm ne_vw_yf)).other W347 (Ne.symm ne_vw_yf)).other W352 ne3).other W356 ne3).other W360 ne3).other W363 (Ne.symm ne_vw_yf))
        have f382 := (V_ye_360.other W363 (Ne.symm ne_vw_ye))
        have f383 := (((((((hV_yr.other W341 (Ne.symm ne_vw_yr)).other W344 (Ne.symm ne_vw_yr)).other W347 (Ne.symm ne_vw_yr)).other W352 (Ne.symm ne_ye_yr)).other W356 (Ne.symm ne_ye_yr)).other W360 (Ne.symm ne_ye_yr)).other W363 (Ne.symm ne_vw_yr))
        refine own_callV X363 hx hZ (y := my10) (z := my10) hown (hw _ (List.mem_of_getElem? (i := 103) rfl)) (hw _ (List.mem_of_getElem? (i := 104) rfl)) (notFace_of_selects (args := #[]) (mvT hZ (hw _ (List.mem_of_getElem? (i := 106) rfl)))) (hw _ (List.mem_of_getElem? (i := 106) rfl)) (hw _ (List.mem_of_getElem? (i := 105) rfl)) (hw _ (List.mem_of_getElem? (i := 3) rfl)) (hw _ (List.mem_of_getElem? (i := 107) rfl)) (by decide) (rm10 l Z a0 hw [] a1 vw yb ys yz yf ye yr kb ks kz kf ke kr (3 : Int32) sz ln p5 ((p5 + (pl_end p4 (2 : Int32))) + (1 : Int32)) bs ss zs fe [(.int (pl_end p4 (0 : Int32))), (.int (pl_end p4 (1 : Int32))), (.int (pl_end p4 (2 : Int32)))] rr h363 n0 (Nat.le_trans Z0 K363.1) (by decide) f364 f365 f366 f367 f368 f369 f370 f371 f372 f373 f374 f375 f376 f377 Fw363 f378 f379 f380 f381 f382 f383 ne1 ne2 ne3 ne4 n0_a1 n0_yb n0_yf n0_ys n0_yz hsz hln hof (pl_rlb p5 p4 (2 : Int32)) lss lfe lbs lzs rfl) 0 (by decide) (by decide) e363 (by rw [hml]; rfl) a1 f364 [(.ref vw)] [] rfl (lenOf pd_9 rfl) rfl (Nat.le_of_eq rfl) (hb hby d8_102) (by decide) (by decide) ?_
        rintro T384 _ L384 X384 ⟨rfl, N384q, Kc384, Ec384, F384_bytes, F384_starts, F384_ascii, F384_columns, F384_fieldEnds, F384_view, F384_size, F384_length, ⟨bs384, lb384, Vb384⟩, Vf384, Vs384, ⟨zs384, lz384, Vz384⟩⟩
        have N384 := Fr.app N363 N384q
        have K384 := K363.trans Kc384 (allS (P := fun x => x ∈ ([a1, vw, ye, yb, yf, ys, yz] : List Addr) ∨ h0.size ≤ x) (Or.inl (List.mem_of_getElem? (i := 0) rfl)) (allS (P := fun x => x ∈ ([a1, vw, ye, yb, yf, ys, yz] : List Addr) ∨ h0.size ≤ x) (Or.inl (List.mem_of_getElem? (i := 3) rfl)) (allS (P := fun x => x ∈ ([a1, vw, ye, yb, yf, ys, yz] : List Addr) ∨ h0.size ≤ x) (Or.inl (List.mem_of_getElem? (i := 4) rfl)) (allS (P := fun x => x ∈ ([a1, vw, ye, yb, yf, ys, yz] : List Addr) ∨ h0.size ≤ x) (Or.inl (List.mem_of_getElem? (i := 5) rfl)) (allS (P := fun x => x ∈ ([a1, vw, ye, yb, yf, ys, yz] : List Addr) ∨ h0.size ≤ x) (Or.inl (List.mem_of_getElem? (i := 6) rfl)) all0)))))
        show own_R p e below s _ _ _ T384 (mkF m 105 #[.val (.ref a1), .val (.ref vw), .val (.ref yr), .val (.int (3 : Int32)), .val (.int p4), .val (.int p5), .val (.int (pl_end p4 (2 : Int32)))] [])
        refine own_iload X384 hx (hb hby d8_105) rfl ?_
        refine own_iconst X384 hx (2 : Int32) (hb hby d8_107) rfl ?_
        refine own_iadd X384 hx (hb hby d8_108) ?_
        rw [pl_rl] at F384_length
        have f385 := (Exa.keep f373 Kc384)
        have f386 := (f374.keep Kc384 (ninS (Ne.symm ne_a1_vw) (ninS ne_vw_yb (ninS ne_vw_yf (ninS ne_vw_ys (ninS ne_vw_yz nin0))))))
        have f387 := (f375.keep Kc384 (ninS (Ne.symm ne_a1_vw) (ninS ne_vw_yb (ninS ne_vw_yf (ninS ne_vw_ys (ninS ne_vw_yz nin0))))))
        have f388 := (f376.keep Kc384 (ninS (Ne.symm ne_a1_vw) (ninS ne_vw_yb (ninS ne_vw_yf (ninS ne_vw_ys (ninS ne_vw_yz nin0))))))
        have f389 := (f377.keep Kc384 (ninS (Ne.symm ne_a1_vw) (ninS ne_vw_yb (ninS ne_vw_yf (ninS ne_vw_ys (ninS ne_vw_yz nin0))))))
        have f390 := (Fw363.keep Kc384 (ninS (Ne.symm ne_a1_vw) (ninS ne_vw_yb (ninS ne_vw_yf (ninS ne_vw_ys (ninS ne_vw_yz nin0))))))
        have f391 := (f382.keep Kc384 (ninS (Ne.symm ne_a1_ye) (ninS ne_ye_yb (ninS (Ne.symm ne3) (ninS (Ne.symm ne2) (ninS ne_ye_yz nin0))))))
        refine own_retI X384 hx Bd.returns hlk (hb hby d8_109) ?_ (by decide) (by decide)
        exact ⟨rfl, N384, K384, Ec384, F384_bytes, F384_starts, F384_ascii, F384_columns, F384_fieldEnds, F384_view, F384_size, F384_length, ⟨_, lb384, Vb384⟩, Vf384, Vs384, ⟨_, lz384, Vz384⟩, f385, f386, f387, f388, f389, f390, f391⟩
      · have hc80 : (3 : Int32) < (3 : Int32) := own_le0 hc
        exact absurd hc80 (by decide)
theorem ef_8_4 (m : MethodId) (a1 : Addr) (vw : Addr) (yr : Addr) (p4 : Int32) (p5 : Int32) : entryFrame m #[(.ref a1), (.ref vw), (.ref yr), (.int (4 : Int32)), (.int p4), (.int p5)] 7 = mkF m 0 #[.val (.ref a1), .val (.ref vw), .val (.ref yr), .val (.int (4 : Int32)), .val (.int p4), .val (.int p5), .unset] [] := by first | (simp [entryFrame, mkF, argsToLocals, Value.category]; done) | rfl
def Q8_4 (Z : State) (a1 : Addr) (vw : Addr) (yr : Addr) (p4 : Int32) (p5 : Int32) (yb : Addr) (ys : Addr) (yz : Addr) (yf : Addr) (ye : Addr) (kb : ClassId) (ks : ClassId) (kz : ClassId) (kf : ClassId) (ke : ClassId) (kr : ClassId) (sz : Int32) (ln : Int32) (bs : List Value) (ss : List Value) (zs : List Value) (fe : List Value) (rr : List Value) (t0 : Value) (t1 : Value) (t2 : Value) (t3 : Value) (u1 : Value) (u2 : Value) (u3 : Value) (u4 : Value) (h0 : Heap) (n0 : Nat) (v : Option Value) (h : Heap) (L : List Loc) : Prop := v = some (.int ((pl_end p4 (3 : Int32)) + (2 : Int32))) ∧ Fr n0 L ∧ Keep h0 h [a1, vw, ye, yb, yf, ys, yz] ∧ Exa Z h a1 cH ∧ Fld Z h a1 cH "bytes" "[B" (.ref yb) ∧ Fld Z h a1 cH "starts" "[I" (.ref ys) ∧ Fld Z h a1 cH "ascii" "[Z" (.ref yz) ∧ Fld Z h a1 cH "columns" "I" (.int (4 : Int32)) ∧ Fld Z h a1 cH "fieldEnds" "[I" (.ref yf) ∧ Fld Z h a1 cH "view" "Lcom/example/termweave/termweave/release/HeldRows$View;" (.ref vw) ∧ Fld Z h a1 cH "size" "I" (.int (sz + (1 : Int32))) ∧ Fld Z h a1 cH "length" "I" (.int (ln + ((pl_end p4 (3 : Int32)) + (2 : Int32)))) ∧ (∃ bs', bs'.length = 4096 ∧ Arv Z h yb kb .byte 4096 bs' o0) ∧ Arv Z h yf kf .int ((16 : Int32) * (4 : Int32)) (List.take (sz * (4 : Int32)).toNatClampNeg fe ++ ((List.range (4 : Int32).toNatClampNeg).map fun i => [(.int (pl_end p4 (0 : Int32))), (.int (pl_end p4 (1 : Int32))), (.int (pl_end p4 (2 : Int32))), (.int (pl_end p4 (3 : Int32)))].getD ((0 : Int32).toNatClampNeg + i) o0) ++ List.drop ((sz * (4 : Int32)).toNatClampNeg + (4 : Int32).toNatClampNeg) fe) o0 ∧ Arv Z h ys ks .int 16 (ss.set sz.toNatClampNeg (.int ln)) o0 ∧ (∃ zs', zs'.length = 16 ∧ Arv Z h yz kz .boolean 16 zs' o0) ∧ Exa Z h vw cV ∧ Fld Z h vw cR "rowEnd" "I" (.int ((p5 + (pl_end p4 (3 : Int32))) + (1 : Int32))) ∧ Fld Z h vw cR "bytes" "[B" (.ref yr) ∧ Fld Z h vw cR "fieldEnds" "[I" (.ref ye) ∧ Fld Z h vw cR "rowStart" "I" (.int p5) ∧ Fld Z h vw cR "ascii" "Z" (.int (1 : Int32)) ∧ Arv Z h ye ke .int (4 : Int32) [(.int (pl_end p4 (0 : Int32))), (.int (pl_end p4 (1 : Int32))), (.int (pl_end p4 (2 : Int32))), (.int (pl_end p4 (3 : Int32)))] o0
set_option maxRecDepth 65536 in
set_option maxHeartbeats 40000000 in
theorem rm8_4 (l : Launch) (Z : State) (a0 : Array Value) (hw : ∀ d ∈ tables_1, d.before a0 Z = true) (ws : List Jvm.Cond) (a1 : Addr) (vw : Addr) (yr : Addr) (p4 : Int32) (p5 : Int32) (yb : Addr) (ys : Addr) (yz : Addr) (yf : Addr) (ye : Addr) (kb : ClassId) (ks : ClassId) (kz : ClassId) (kf : ClassId) (ke : ClassId) (kr : ClassId) (sz : Int32) (ln : Int32) (bs : List Value) (ss : List Value) (zs : List Value) (fe : List Value) (rr : List Value) (t0 : Value) (t1 : Value) (t2 : Value) (t3 : Value) (u1 : Value) (u2 : Value) (u3 : Value) (u4 : Value) (h0 : Heap) (n0 : Nat) (Z0 : n0 ≤ h0.size) (hE : Exa Z h0 a1 cH) (hf_bytes : Fld Z h0 a1 cH "bytes" "[B" (.ref yb)) (hf_starts : Fld Z h0 a1 cH "starts" "[I" (.ref ys)) (hf_ascii : Fld Z h0 a1 cH "ascii" "[Z" (.ref yz)) (hf_columns : Fld Z h0 a1 cH "columns" "I" (.int (4 : Int32))) (hf_fieldEnds : Fld Z h0 a1 cH "fieldEnds" "[I" (.ref yf)) (hf_view : Fld Z h0 a1 cH "view" "Lcom/example/termweave/termweave/release/HeldRows$View;" (.ref vw)) (hf_size : Fld Z h0 a1 cH "size" "I" (.int sz)) (hf_length : Fld Z h0 a1 cH "length" "I" (.int ln)) (hG : Exa Z h0 vw cV) (hg_rowEnd : Fld Z h0 vw cR "rowEnd" "I" u1) (hg_bytes : Fld Z h0 vw cR "bytes" "[B" u2) (hg_rowStart : Fld Z h0 vw cR "rowStart" "I" u3) (hg_ascii : Fld Z h0 vw cR "ascii" "Z" u4) (hg_fieldEnds : Fld Z h0 vw cR "fieldEnds" "[I" (.ref ye)) (hV_yb : Arv Z h0 yb kb .byte 4096 bs o0) (hV_ys : Arv Z h0 ys ks .int 16 ss o0) (hV_yz : Arv Z h0 yz kz .boolean 16 zs o0) (hV_yf : Arv Z h0 yf kf .int ((16 : Int32) * (4 : Int32)) fe o0) (hV_ye : Arv Z h0 ye ke .int (4 : Int32) [t0, t1, t2, t3] o0) (hV_yr : Arv Z h0 yr kr .byte 40 rr o0) (ne1 : ys ≠ yf) (ne2 : ys ≠ ye) (ne3 : yf ≠ ye) (ne4 : yb ≠ yr) (n0_a1 : n0 ≤ a1) (n0_yb : n0 ≤ yb) (n0_yf : n0 ≤ yf) (n0_ys : n0 ≤ ys) (n0_yz : n0 ≤ yz) (n0_vw : n0 ≤ vw) (n0_ye : n0 ≤ ye) (hsz : 0 ≤ sz.toInt ∧ sz.toInt ≤ 3) (hln : 0 ≤ ln.toInt ∧ ln.toInt ≤ 100) (hof : 0 ≤ p5.toInt ∧ p5.toInt ≤ 7) (lss : ss.length = 16) (lfe : fe.length = ((16 : Int32) * (4 : Int32)).toNatClampNeg) (lbs : bs.length = 4096) (lzs : zs.length = 16) :
    MetFree l (⟨"com/example/termweave/termweave/release/HeldRowsFieldStartPinLaw", "addRow", "(Lcom/example/termweave/termweave/release/HeldRows;Lcom/example/termweave/termweave/release/RrfRow;[BIII)I"⟩ : MethodName) (head1 (Jvm.Cond.code (⟨"com/example/termweave/termweave/release/HeldRowsFieldStartPinLaw", "addRow", "(Lcom/example/termweave/termweave/release/HeldRows;Lcom/example/termweave/termweave/release/RrfRow;[BIII)I"⟩ : MethodName) method_4_code 7 (some .int) :: ws) ({ frames := 2, cells := 0, slots := 0, locals := 54 } : Room)) (fun a U => a = #[(.ref a1), (.ref vw), (.ref yr), (.int (4 : Int32)), (.int p4), (.int p5)] ∧ Z.Warmed39 U.vm ∧ U.heap = h0) (fun _ _ _ _ _ => True) (fun _ U o U' => ∃ v L, o = .returned v ∧ Q8_4 Z a1 vw yr p4 p5 yb ys yz yf ye kb ks kz kf ke kr sz ln bs ss zs fe rr t0 t1 t2 t3 u1 u2 u3 u4 h0 n0 v U'.heap L ∧ FrameEnd U o U' L ({ frames := 2, cells := 0, slots := 0, locals := 54 } : Room).cells ({ frames := 2, cells := 0, slots := 0, locals := 54 } : Room).slots) := by
  refine MetFree.of_bodySF pn_8 hisR ?_
  intro p e s m args below meth c s₁ Bd hml0 hP hK
  obtain ⟨rfl, hZ, hh⟩ := hP
  have hx := Bd.exec
  have hby := Bd.bytes
  have hml : c.maxLocals = 7 := hml0
  have hown : s.vm.findClass "com/example/termweave/termweave/release/HeldRowsFieldStartPinLaw" = some m.cls := findClass_of_methodNamed Bd.named
  have hnm := (name_of_methodNamed Bd.named Bd.method).1
  have hlk := BodyLoose.notSynchronized Bd
  have X0 : Stand p l e ({ frames := 2, cells := 0, slots := 0, locals := 54 } : Room) s m #[(.ref a1), (.ref vw), (.ref yr), (.int (4 : Int32)), (.int p4), (.int p5)] below meth c s₁ [] 0 0 := Stand.of_body Bd
  have e0 : s₁.heap = h0 := by rw [← hh, Bd.state]; rfl
  have N0 := Fr.nil n0
  show own_R p e below s (Q8_4 Z a1 vw yr p4 p5 yb ys yz yf ye kb ks kz kf ke kr sz ln bs ss zs fe rr t0 t1 t2 t3 u1 u2 u3 u4 h0 n0) ({ frames := 2, cells := 0, slots := 0, locals := 54 } : Room).cells ({ frames := 2, cells := 0, slots := 0, locals := 54 } : Room).slots s₁ (entryFrame m #[(.ref a1), (.ref vw), (.ref yr), (.int (4 : Int32)), (.int p4), (.int p5)] 7)
  refine own_cast (ef_8_4 m a1 vw yr p4 p5) ?_
  show own_R p e below s _ _ _ s₁ (mkF m 0 #[.val (.ref a1), .val (.ref vw), .val (.ref yr), .val (.int (4 : Int32)), .val (.int p4), .val (.int p5), .unset] [])
  have K0 := Keep.refl h0 ([a1, vw, ye, yb, yf, ys, yz] : List Addr)
  have ne_a1_vw : a1 ≠ vw := (Exa.ne hE hG (by decide))
  have ne_a1_ye : a1 ≠ ye := (Exa.neArv hE hV_ye (hw _ (List.mem_of_getElem? (i := 2) rfl)))
  have ne_a1_yb : a1 ≠ yb := (Exa.neArv hE hV_yb (hw _ (List.mem_of_getElem? (i := 2) rfl)))
  have ne_a1_yf : a1 ≠ yf := (Exa.neArv hE hV_yf (hw _ (List.mem_of_getElem? (i := 2) rfl)))
  have ne_a1_ys : a1 ≠ ys := (Exa.neArv hE hV_ys (hw _ (List.mem_of_getElem? (i := 2) rfl)))
  have ne_a1_yz : a1 ≠ yz := (Exa.neArv hE hV_yz (hw _ (List.mem_of_getElem? (i := 2) rfl)))
  have ne_a1_yr : a1 ≠ yr := (Exa.neArv hE hV_yr (hw _ (List.mem_of_getElem? (i := 2) rfl)))
  have ne_vw_ye : vw ≠ ye := (Exa.neArv hG hV_ye (hw _ (List.mem_of_getElem? (i := 43) rfl)))
  have ne_vw_yb : vw ≠ yb := (Exa.neArv hG hV_yb (hw _ (List.mem_of_getElem? (i := 43) rfl)))
  have ne_vw_yf : vw ≠ yf := (Exa.neArv hG hV_yf (hw _ (List.mem_of_getElem? (i := 43) rfl)))
  have ne_vw_ys : vw ≠ ys := (Exa.neArv hG hV_ys (hw _ (List.mem_of_getElem? (i := 43) rfl)))
  have ne_vw_yz : vw ≠ yz := (Exa.neArv hG hV_yz (hw _ (List.mem_of_getElem? (i := 43) rfl)))
  have ne_vw_yr : vw ≠ yr := (Exa.neArv hG hV_yr (hw _ (List.mem_of_getElem? (i := 43) rfl)))
  have ne_ye_yb : ye ≠ yb := (own_neA hV_ye hV_yb (by decide))
  have ne_ye_yz : ye ≠ yz := (own_neA hV_ye hV_yz (by decide))
  have ne_ye_yr : ye ≠ yr := (own_neA hV_ye hV_yr (by decide))
  have ne_yb_yf : yb ≠ yf := (own_neA hV_yb hV_yf (by decide))
  have ne_yb_ys : yb ≠ ys := (own_neA hV_yb hV_ys (by decide))
  have ne_yb_yz : yb ≠ yz := (own_neA hV_yb hV_yz (by decide))
  have ne_yf_yz : yf ≠ yz := (own_neA hV_yf hV_yz (by decide))
  have ne_yf_yr : yf ≠ yr := (own_neA hV_yf hV_yr (by decide))
  have ne_ys_yz : ys ≠ yz := (own_neA hV_ys hV_yz (by decide))
  have ne_ys_yr : ys ≠ yr := (own_neA hV_ys hV_yr (by decide))
  have ne_yz_yr : yz ≠ yr := (own_neA hV_yz hV_yr (by decide))
  refine own_iload X0 hx (hb hby d8_0) rfl ?_
  refine own_iloadN X0 hx (hb hby d8_2) rfl ?_
  refine own_iconst X0 hx (1 : Int32) (hb hby d8_3) rfl ?_
  refine own_isub X0 hx (hb hby d8_4) ?_
  refine own_callS X0 hx hZ (y := my9) hown (hw _ (List.mem_of_getElem? (i := 95) rfl)) (hw _ (List.mem_of_getElem? (i := 96) rfl)) (hw _ (List.mem_of_getElem? (i := 93) rfl)) (hw _ (List.mem_of_getElem? (i := 97) rfl)) (by decide) (rm9 l Z a0 hw [] p4 (3 : Int32) h0 n0 (Nat.le_trans Z0 K0.1)) 0 (by decide) (by decide) e0 (by rw [hml]; rfl) [(.int p4), (.int (3 : Int32))] [] rfl (lenOf pd_8 rfl) rfl (Nat.le_of_eq rfl) (hb hby d8_5) (by decide) (by decide) ?_
  rintro T392 _ L392 X392 ⟨rfl, N392q, e392⟩
  have N392 := Fr.app N0 N392q
  show own_R p e below s _ _ _ T392 (mkF m 8 #[.val (.ref a1), .val (.ref vw), .val (.ref yr), .val (.int (4 : Int32)), .val (.int p4), .val (.int p5), .unset] [(.int (pl_end p4 (3 : Int32)))])
  refine own_istore X392 hx (hb hby d8_8) (l' := #[.val (.ref a1), .val (.ref vw), .val (.ref yr), .val (.int (4 : Int32)), .val (.int p4), .val (.int p5), .val (.int (pl_end p4 (3 : Int32)))]) rfl ?_
  refine own_aloadN X392 hx (hb hby d8_10) rfl rfl ?_
  refine own_aloadN X392 hx (hb hby d8_11) rfl rfl ?_
  refine own_putF X392 hx hZ hown (host := "") (Or.inl (hw _ (List.mem_of_getElem? (i := 98) rfl))) Via.refl e392 hg_bytes hG (Or.inl (hw _ (List.mem_of_getElem? (i := 57) rfl))) (hw _ (List.mem_of_getElem? (i := 43) rfl)) (ty := (.array .byte)) (by decide) rfl rfl (hb hby d8_12) ?_
  intro T393 h393 X393 e393 W393
  have K393 := K0.wr W393 (Or.inl (List.mem_of_getElem? (i := 1) rfl))
  have N393 := Fr.snoc X393 N392 n0_vw
  have Fw393 := Fld.same W393 hg_bytes
  refine own_aloadN X393 hx (hb hby d8_15) rfl rfl ?_
  refine own_iload X393 hx (hb hby d8_16) rfl ?_
  have f394 := (Fld.other W393 hg_rowStart (Or.inr (slot_ne (Or.inl (hw _ (List.mem_of_getElem? (i := 71) rfl))) (Or.inl (hw _ (List.mem_of_getElem? (i := 57) rfl))) (by decide) (t := .int) (t' := (.array .byte)) (by decide) (by decide))))
  have f395 := (Exa.wr W393 hG)
  refine own_putF X393 hx hZ hown (host := "") (Or.inl (hw _ (List.mem_of_getElem? (i := 99) rfl))) Via.refl e393 f394 f395 (Or.inl (hw _ (List.mem_of_getElem? (i := 71) rfl))) (hw _ (List.mem_of_getElem? (i := 43) rfl)) (ty := .int) (by decide) rfl rfl (hb hby d8_18) ?_
  intro T396 h396 X396 e396 W396
  have K396 := K393.wr W396 (Or.inl (List.mem_of_getElem? (i := 1) rfl))
  have N396 := Fr.snoc X396 N393 n0_vw
  have Fw396 := Fld.same W396 f394
  refine own_aloadN X396 hx (hb hby d8_21) rfl rfl ?_
  refine own_iload X396 hx (hb hby d8_22) rfl ?_
  refine own_iload X396 hx (hb hby d8_24) rfl ?_
  refine own_iadd X396 hx (hb hby d8_26) ?_
  refine own_iconst X396 hx (1 : Int32) (hb hby d8_27) rfl ?_
  refine own_iadd X396 hx (hb hby d8_28) ?_
  have f397 := (Fld.other W396 (Fld.other W393 hg_rowEnd (Or.inr (slot_ne (Or.inl (hw _ (List.mem_of_getElem? (i := 55) rfl))) (Or.inl (hw _ (List.mem_of_getElem? (i := 57) rfl))) (by decide) (t := .int) (t' := (.array .byte)) (by decide) (by decide)))) (Or.inr (slot_ne (Or.inl (hw _ (List.mem_of_getElem? (i := 55) rfl))) (Or.inl (hw _ (List.mem_of_getElem? (i := 71) rfl))) (by decide) (t := .int) (t' := .int) (by decide) (by decide))))
  have f398 := (Exa.wr W396 f395)
  refine own_putF X396 hx hZ hown (host := "") (Or.inl (hw _ (List.mem_of_getElem? (i := 100) rfl))) Via.refl e396 f397 f398 (Or.inl (hw _ (List.mem_of_getElem? (i := 55) rfl))) (hw _ (List.mem_of_getElem? (i := 43) rfl)) (ty := .int) (by decide) rfl rfl (hb hby d8_29) ?_
  intro T399 h399 X399 e399 W399
  have K399 := K396.wr W399 (Or.inl (List.mem_of_getElem? (i := 1) rfl))
  have N399 := Fr.snoc X399 N396 n0_vw
  have Fw399 := Fld.same W399 f397
  refine own_aloadN X399 hx (hb hby d8_32) rfl rfl ?_
  have f400 := (Fld.other W399 (Fld.other W396 (Fld.other W393 hg_fieldEnds (Or.inr (slot_ne (Or.inr (hw _ (List.mem_of_getElem? (i := 59) rfl))) (Or.inl (hw _ (List.mem_of_getElem? (i := 57) rfl))) (by decide) (t := (.array .int)) (t' := (.array .byte)) (by decide) (by decide)))) (Or.inr (slot_ne (Or.inr (hw _ (List.mem_of_getElem? (i := 59) rfl))) (Or.inl (hw _ (List.mem_of_getElem? (i := 71) rfl))) (by decide) (t := (.array .int)) (t' := .int) (by decide) (by decide)))) (Or.inr (slot_ne (Or.inr (hw _ (List.mem_of_getElem? (i := 59) rfl))) (Or.inl (hw _ (List.mem_of_getElem? (i := 55) rfl))) (by decide) (t := (.array .int)) (t' := .int) (by decide) (by decide))))
  refine own_getF X399 hx hZ hown (host := "") (Or.inl (hw _ (List.mem_of_getElem? (i := 101) rfl))) Via.refl e399 f400 (hb hby d8_33) ?_
  intro T401 X401 e401
  refine own_iconst X401 hx (0 : Int32) (hb hby d8_36) rfl ?_
  refine own_iload X401 hx (hb hby d8_37) rfl ?_
  refine own_iconst X401 hx (0 : Int32) (hb hby d8_39) rfl ?_
  refine own_callS X401 hx hZ (y := my9) hown (hw _ (List.mem_of_getElem? (i := 95) rfl)) (hw _ (List.mem_of_getElem? (i := 96) rfl)) (hw _ (List.mem_of_getElem? (i := 93) rfl)) (hw _ (List.mem_of_getElem? (i := 97) rfl)) (by decide) (rm9 l Z a0 hw [] p4 (0 : Int32) h399 n0 (Nat.le_trans Z0 K399.1)) 2 (by decide) (by decide) e401 (by rw [hml]; rfl) [(.int p4), (.int (0 : Int32))] [(.int (0 : Int32)), (.ref ye)] rfl (lenOf pd_8 rfl) rfl (Nat.le_of_eq rfl) (hb hby d8_40) (by decide) (by decide) ?_
  rintro T402 _ L402 X402 ⟨rfl, N402q, e402⟩
  have N402 := Fr.app N399 N402q
  show own_R p e below s _ _ _ T402 (mkF m 43 #[.val (.ref a1), .val (.ref vw), .val (.ref yr), .val (.int (4 : Int32)), .val (.int p4), .val (.int p5), .val (.int (pl_end p4 (3 : Int32)))] [(.int (pl_end p4 (0 : Int32))), (.int (0 : Int32)), (.ref ye)])
  have f403 := (((hV_ye.other W393 (Ne.symm ne_vw_ye)).other W396 (Ne.symm ne_vw_ye)).other W399 (Ne.symm ne_vw_ye))
  refine own_iastore X402 hx hZ e402 f403 (x' := (pl_end p4 (0 : Int32))) rfl ⟨by decide, by decide⟩ 0 rfl (Nat.le_of_ble_eq_true rfl) (hb hby d8_43) ?_
  intro T404 h404 X404 e404 W404 V404
  have K404 := K399.wr W404 (Or.inl (List.mem_of_getElem? (i := 2) rfl))
  have N404 := Fr.snoc X404 N402 n0_ye
  have V_ye_404 : Arv Z h404 ye ke .int (4 : Int32) [(.int (pl_end p4 (0 : Int32))), t1, t2, t3] o0 := V404
  refine own_iloadN X404 hx (hb hby d8_44) rfl ?_
  refine own_iconst X404 hx (1 : Int32) (hb hby d8_45) rfl ?_
  refine own_icmp X404 hx (hb hby d8_46) (pc' := 61) (by decide) (by decide) (fun hc => ?_) (fun hc => ?_)
  · have hc46 : ¬ (1 : Int32) < (4 : Int32) := own_le1 hc
    exact absurd (by decide) hc46
  · have hc46 : (1 : Int32) < (4 : Int32) := own_le0 hc
    clear hc
    refine own_aloadN X404 hx (hb hby d8_49) rfl rfl ?_
    have f405 := (Fld.other W404 f400 (Or.inl ne_vw_ye))
    refine own_getF X404 hx hZ hown (host := "") (Or.inl (hw _ (List.mem_of_getElem? (i := 101) rfl))) Via.refl e404 f405 (hb hby d8_50) ?_
    intro T406 X406 e406
    refine own_iconst X406 hx (1 : Int32) (hb hby d8_53) rfl ?_
    refine own_iload X406 hx (hb hby d8_54) rfl ?_
    refine own_iconst X406 hx (1 : Int32) (hb hby d8_56) rfl ?_
    refine own_callS X406 hx hZ (y := my9) hown (hw _ (List.mem_of_getElem? (i := 95) rfl)) (hw _ (List.mem_of_getElem? (i := 96) rfl)) (hw _ (List.mem_of_getElem? (i := 93) rfl)) (hw _ (List.mem_of_getElem? (i := 97) rfl)) (by decide) (rm9 l Z a0 hw [] p4 (1 : Int32) h404 n0 (Nat.le_trans Z0 K404.1)) 2 (by decide) (by decide) e406 (by rw [hml]; rfl) [(.int p4), (.int (1 : Int32))] [(.int (1 : Int32)), (.ref ye)] rfl (lenOf pd_8 rfl) rfl (Nat.le_of_eq rfl) (hb hby d8_57) (by decide) (by decide) ?_
    rintro T407 _ L407 X407 ⟨rfl, N407q, e407⟩
    have N407 := Fr.app N404 N407q
    show own_R p e below s _ _ _ T407 (mkF m 60 #[.val (.ref a1), .val (.ref vw), .val (.ref yr), .val (.int (4 : Int32)), .val (.int p4), .val (.int p5), .val (.int (pl_end p4 (3 : Int32)))] [(.int (pl_end p4 (1 : Int32))), (.int (1 : Int32)), (.ref ye)])
    refine own_iastore X407 hx hZ e407 V_ye_404 (x' := (pl_end p4 (1 : Int32))) rfl ⟨by decide, by decide⟩ 1 rfl (Nat.le_of_ble_eq_true rfl) (hb hby d8_60) ?_
    intro T408 h408 X408 e408 W408 V408
    have K408 := K404.wr W408 (Or.inl (List.mem_of_getElem? (i := 2) rfl))
    have N408 := Fr.snoc X408 N407 n0_ye
    have V_ye_408 : Arv Z h408 ye ke .int (4 : Int32) [(.int (pl_end p4 (0 : Int32))), (.int (pl_end p4 (1 : Int32))), t2, t3] o0 := V408
    refine own_iloadN X408 hx (hb hby d8_61) rfl ?_
    refine own_iconst X408 hx (2 : Int32) (hb hby d8_62) rfl ?_
    refine own_icmp X408 hx (hb hby d8_63) (pc' := 78) (by decide) (by decide) (fun hc => ?_) (fun hc => ?_)
    · have hc63 : ¬ (2 : Int32) < (4 : Int32) := own_le1 hc
      exact absurd (by decide) hc63
    · have hc63 : (2 : Int32) < (4 : Int32) := own_le0 hc
      clear hc
      refine own_aloadN X408 hx (hb hby d8_66) rfl rfl ?_
      have f409 := (Fld.other W408 f405 (Or.inl ne_vw_ye))
      refine own_getF X408 hx hZ hown (host := "") (Or.inl (hw _ (List.mem_of_getElem? (i := 101) rfl))) Via.refl e408 f409 (hb hby d8_67) ?_
      intro T410 X410 e410
      refine own_iconst X410 hx (2 : Int32) (hb hby d8_70) rfl ?_
      refine own_iload X410 hx (hb hby d8_71) rfl ?_
      refine own_iconst X410 hx (2 : Int32) (hb hby d8_73) rfl ?_
      refine own_callS X410 hx hZ (y := my9) hown (hw _ (List.mem_of_getElem? (i := 95) rfl)) (hw _ (List.mem_of_getElem? (i := 96) rfl)) (hw _ (List.mem_of_getElem? (i := 93) rfl)) (hw _ (List.mem_of_getElem? (i := 97) rfl)) (by decide) (rm9 l Z a0 hw [] p4 (2 : Int32) h408 n0 (Nat.le_trans Z0 K408.1)) 2 (by decide) (by decide) e410 (by rw [hml]; rfl) [(.int p4), (.int (2 : Int32))] [(.int (2 : Int32)), (.ref ye)] rfl (lenOf pd_8 rfl) rfl (Nat.le_of_eq rfl) (hb hby d8_74) (by decide) (by decide) ?_
      rintro T411 _ L411 X411 ⟨rfl, N411q, e411⟩
      have N411 := Fr.app N408 N411q
      show own_R p e below s _ _ _ T411 (mkF m 77 #[.val (.ref a1), .val (.ref vw), .val (.ref yr), .val (.int (4 : Int32)), .val (.int p4), .val (.int p5), .val (.int (pl_end p4 (3 : Int32)))] [(.int (pl_end p4 (2 : Int32))), (.int (2 : Int32)), (.ref ye)])
      refine own_iastore X411 hx hZ e411 V_ye_408 (x' := (pl_end p4 (2 : Int32))) rfl ⟨by decide, by decide⟩ 2 rfl (Nat.le_of_ble_eq_true rfl) (hb hby d8_77) ?_
      intro T412 h412 X412 e412 W412 V412
      have K412 := K408.wr W412 (Or.inl (List.mem_of_getElem? (i := 2) rfl))
      have N412 := Fr.snoc X412 N411 n0_ye
      have V_ye_412 : Arv Z h412 ye ke .int (4 : Int32) [(.int (pl_end p4 (0 : Int32))), (.int (pl_end p4 (1 : Int32))), (.int (pl_end p4 (2 : Int32))), t3] o0 := V412
      refine own_iloadN X412 hx (hb hby d8_78) rfl ?_
      refine own_iconst X412 hx (3 : Int32) (hb hby d8_79) rfl ?_
      refine own_icmp X412 hx (hb hby d8_80) (pc' := 95) (by decide) (by decide) (fun hc => ?_) (fun hc => ?_)
      · have hc80 : ¬ (3 : Int32) < (4 : Int32) := own_le1 hc
        exact absurd (by decide) hc80
      · have hc80 : (3 : Int32) < (4 : Int32) := own_le0 hc
        clear hc
        refine own_aloadN X412 hx (hb hby d8_83) rfl rfl ?_
        have f413 := (Fld.other W412 f409 (Or.inl ne_vw_ye))
        refine own_getF X412 hx hZ hown (host := "") (Or.inl (hw _ (List.mem_of_getElem? (i := 101) rfl))) Via.refl e412 f413 (hb hby d8_84) ?_
        intro T414 X414 e414
        refine own_iconst X414 hx (3 : Int32) (hb hby d8_87) rfl ?_
        refine own_iload X414 hx (hb hby d8_88) rfl ?_
        refine own_iconst X414 hx (3 : Int32) (hb hby d8_90) rfl ?_
        refine own_callS X414 hx hZ (y := my9) hown (hw _ (List.mem_of_getElem? (i := 95) rfl)) (hw _ (List.mem_of_getElem? (i := 96) rfl)) (hw _ (List.mem_of_getElem? (i := 93) rfl)) (hw _ (List.mem_of_getElem? (i := 97) rfl)) (by decide) (rm9 l Z a0 hw [] p4 (3 : Int32) h412 n0 (Nat.le_trans Z0 K412.1)) 2 (by decide) (by decide) e414 (by rw [hml]; rfl) [(.int p4), (.int (3 : Int32))] [(.int (3 : Int32)), (.ref ye)] rfl (lenOf pd_8 rfl) rfl (Nat.le_of_eq rfl) (hb hby d8_91) (by decide) (by decide) ?_
        rintro T415 _ L415 X415 ⟨rfl, N415q, e415⟩
        have N415 := Fr.app N412 N415q
        show own_R p e below s _ _ _ T415 (mkF m 94 #[.val (.ref a1), .val (.ref vw), .val (.ref yr), .val (.int (4 : Int32)), .val (.int p4), .val (.int p5), .val (.int (pl_end p4 (3 : Int32)))] [(.int (pl_end p4 (3 : Int32))), (.int (3 : Int32)), (.ref ye)])
        refine own_iastore X415 hx hZ e415 V_ye_412 (x' := (pl_end p4 (3 : Int32))) rfl ⟨by decide, by decide⟩ 3 rfl (Nat.le_of_ble_eq_true rfl) (hb hby d8_94) ?_
        intro T416 h416 X416 e416 W416 V416
        have K416 := K412.wr W416 (Or.inl (List.mem_of_getElem? (i := 2) rfl))
        have N416 := Fr.snoc X416 N415 n0_ye
        have V_ye_416 : Arv Z h416 ye ke .int (4 : Int32) [(.int (pl_end p4 (0 : Int32))), (.int (pl_end p4 (1 : Int32))), (.int (pl_end p4 (2 : Int32))), (.int (pl_end p4 (3 : Int32)))] o0 := V416
        refine own_aloadN X416 hx (hb hby d8_95) rfl rfl ?_
        refine own_iconst X416 hx (1 : Int32) (hb hby d8_96) rfl ?_
        have f417 := (Fld.other W416 (Fld.other W412 (Fld.other W408 (Fld.other W404 (Fld.other W399 (Fld.other W396 (Fld.other W393 hg_ascii (Or.inr (slot_ne (Or.inl (hw _ (List.mem_of_getElem? (i := 90) rfl))) (Or.inl (hw _ (List.mem_of_getElem? (i := 57) rfl))) (by decide) (t := .boolean) (t' := (.array .byte)) (by decide) (by decide)))) (Or.inr (slot_ne (Or.inl (hw _ (List.mem_of_getElem? (i := 90) rfl))) (Or.inl (hw _ (List.mem_of_getElem? (i := 71) rfl))) (by decide) (t := .boolean) (t' := .int) (by decide) (by decide)))) (Or.inr (slot_ne (Or.inl (hw _ (List.mem_of_getElem? (i := 90) rfl))) (Or.inl (hw _ (List.mem_of_getElem? (i := 55) rfl))) (by decide) (t := .boolean) (t' := .int) (by decide) (by decide)))) (Or.inl ne_vw_ye)) (Or.inl ne_vw_ye)) (Or.inl ne_vw_ye)) (Or.inl ne_vw_ye))
        have f418 := (Exa.wr W416 (Exa.wr W412 (Exa.wr W408 (Exa.wr W404 (Exa.wr W399 f398)))))
        refine own_putFN X416 hx hZ hown (hw _ (List.mem_of_getElem? (i := 102) rfl)) Via.refl e416 f417 f418 (Or.inl (hw _ (List.mem_of_getElem? (i := 90) rfl))) (hw _ (List.mem_of_getElem? (i := 43) rfl)) (ty := .boolean) (v' := .int (1 : Int32)) (by decide) rfl (by decide) (hb hby d8_97) ?_
        intro T419 h419 X419 e419 W419
        have K419 := K416.wr W419 (Or.inl (List.mem_of_getElem? (i := 1) rfl))
        have N419 := Fr.snoc X419 N416 n0_vw
        have Fw419 := Fld.same W419 f417
        refine own_aloadN X419 hx (hb hby d8_100) rfl rfl ?_
        refine own_aloadN X419 hx (hb hby d8_101) rfl rfl ?_
        have f420 := (Exa.wr W419 (Exa.wr W416 (Exa.wr W412 (Exa.wr W408 (Exa.wr W404 (Exa.wr W399 (Exa.wr W396 (Exa.wr W393 hE))))))))
        have f421 := (Fld.other W419 (Fld.other W416 (Fld.other W412 (Fld.other W408 (Fld.other W404 (Fld.other W399 (Fld.other W396 (Fld.other W393 hf_bytes (Or.inl ne_a1_vw)) (Or.inl ne_a1_vw)) (Or.inl ne_a1_vw)) (Or.inl ne_a1_ye)) (Or.inl ne_a1_ye)) (Or.inl ne_a1_ye)) (Or.inl ne_a1_ye)) (Or.inl ne_a1_vw))
        have f422 := (Fld.other W419 (Fld.other W416 (Fld.other W412 (Fld.other W408 (Fld.other W404 (Fld.other W399 (Fld.other W396 (Fld.other W393 hf_starts (Or.inl ne_a1_vw)) (Or.inl ne_a1_vw)) (Or.inl ne_a1_vw)) (Or.inl ne_a1_ye)) (Or.inl ne_a1_ye)) (Or.inl ne_a1_ye)) (Or.inl ne_a1_ye)) (Or.inl ne_a1_vw))
        have f423 := (Fld.other W419 (Fld.other W416 (Fld.other W412 (Fld.other W408 (Fld.other W404 (Fld.other W399 (Fld.other W396 (Fld.other W393 hf_ascii (Or.inl ne_a1_vw)) (Or.inl ne_a1_vw)) (Or.inl ne_a1_vw)) (Or.inl ne_a1_ye)) (Or.inl ne_a1_ye)) (Or.inl ne_a1_ye)) (Or.inl ne_a1_ye)) (Or.inl ne_a1_vw))
        have f424 := (Fld.other W419 (Fld.other W416 (Fld.other W412 (Fld.other W408 (Fld.other W404 (Fld.other W399 (Fld.other W396 (Fld.other W393 hf_columns (Or.inl ne_a1_vw)) (Or.inl ne_a1_vw)) (Or.inl ne_a1_vw)) (Or.inl ne_a1_ye)) (Or.inl ne_a1_ye)) (Or.inl ne_a1_ye)) (Or.inl ne_a1_ye)) (Or.inl ne_a1_vw))
        have f425 := (Fld.other W419 (Fld.other W416 (Fld.other W412 (Fld.other W408 (Fld.other W404 (Fld.other W399 (Fld.other W396 (Fld.other W393 hf_fieldEnds (Or.inl ne_a1_vw)) (Or.inl ne_a1_vw)) (Or.inl ne_a1_vw)) (Or.inl ne_a1_ye)) (Or.inl ne_a1_ye)) (Or.inl ne_a1_ye)) (Or.inl ne_a1_ye)) (Or.inl ne_a1_vw))
        have f426 := (Fld.other W419 (Fld.other W416 (Fld.other W412 (Fld.other W408 (Fld.other W404 (Fld.other W399 (Fld.other W396 (Fld.other W393 hf_view (Or.inl ne_a1_vw)) (Or.inl ne_a1_vw)) (Or.inl ne_a1_vw)) (Or.inl ne_a1_ye)) (Or.inl ne_a1_ye)) (Or.inl ne_a1_ye)) (Or.inl ne_a1_ye)) (Or.inl ne_a1_vw))
        have f427 := (Fld.other W419 (Fld.other W416 (Fld.other W412 (Fld.other W408 (Fld.other W404 (Fld.other W399 (Fld.other W396 (Fld.other W393 hf_size (Or.inl ne_a1_vw)) (Or.inl ne_a1_vw)) (Or.inl ne_a1_vw)) (Or.inl ne_a1_ye)) (Or.inl ne_a1_ye)) (Or.inl ne_a1_ye)) (Or.inl ne_a1_ye)) (Or.inl ne_a1_vw))
        have f428 := (Fld.other W419 (Fld.other W416 (Fld.other W412 (Fld.other W408 (Fld.other W404 (Fld.other W399 (Fld.other W396 (Fld.other W393 hf_length (Or.inl ne_a1_vw)) (Or.inl ne_a1_vw)) (Or.inl ne_a1_vw)) (Or.inl ne_a1_ye)) (Or.inl ne_a1_ye)) (Or.inl ne_a1_ye)) (Or.inl ne_a1_ye)) (Or.inl ne_a1_vw))
        have f429 := (Exa.wr W419 f418)
        have f430 := (Fld.other W419 (Fld.other W416 (Fld.other W412 (Fld.other W408 (Fld.other W404 Fw399 (Or.inl ne_vw_ye)) (Or.inl ne_vw_ye)) (Or.inl ne_vw_ye)) (Or.inl ne_vw_ye)) (Or.inr (slot_ne (Or.inl (hw _ (List.mem_of_getElem? (i := 55) rfl))) (Or.inl (hw _ (List.mem_of_getElem? (i := 90) rfl))) (by decide) (t := .int) (t' := .boolean) (by decide) (by decide))))
        have f431 := (Fld.other W419 (Fld.other W416 (Fld.other W412 (Fld.other W408 (Fld.other W404 (Fld.other W399 (Fld.other W396 Fw393 (Or.inr (slot_ne (Or.inl (hw _ (List.mem_of_getElem? (i := 57) rfl))) (Or.inl (hw _ (List.mem_of_getElem? (i := 71) rfl))) (by decide) (t := (.array .byte)) (t' := .int) (by decide) (by decide)))) (Or.inr (slot_ne (Or.inl (hw _ (List.mem_of_getElem? (i := 57) rfl))) (Or.inl (hw _ (List.mem_of_getElem? (i := 55) rfl))) (by decide) (t := (.array .byte)) (t' := .int) (by decide) (by decide)))) (Or.inl ne_vw_ye)) (Or.inl ne_vw_ye)) (Or.inl ne_vw_ye)) (Or.inl ne_vw_ye)) (Or.inr (slot_ne (Or.inl (hw _ (List.mem_of_getElem? (i := 57) rfl))) (Or.inl (hw _ (List.mem_of_getElem? (i := 90) rfl))) (by decide) (t := (.array .byte)) (t' := .boolean) (by decide) (by decide))))
        have f432 := (Fld.other W419 (Fld.other W416 f413 (Or.inl ne_vw_ye)) (Or.inr (slot_ne (Or.inr (hw _ (List.mem_of_getElem? (i := 59) rfl))) (Or.inl (hw _ (List.mem_of_getElem? (i := 90) rfl))) (by decide) (t := (.array .int)) (t' := .boolean) (by decide) (by decide))))
        have f433 := (Fld.other W419 (Fld.other W416 (Fld.other W412 (Fld.other W408 (Fld.other W404 (Fld.other W399 Fw396 (Or.inr (slot_ne (Or.inl (hw _ (List.mem_of_getElem? (i := 71) rfl))) (Or.inl (hw _ (List.mem_of_getElem? (i := 55) rfl))) (by decide) (t := .int) (t' := .int) (by decide) (by decide)))) (Or.inl ne_vw_ye)) (Or.inl ne_vw_ye)) (Or.inl ne_vw_ye)) (Or.inl ne_vw_ye)) (Or.inr (slot_ne (Or.inl (hw _ (List.mem_of_getElem? (i := 71) rfl))) (Or.inl (hw _ (List.mem_of_getElem? (i := 90) rfl))) (by decide) (t := .int) (t' := .boolean) (by decide) (by decide))))
        have f434 := ((((((((hV_yb.other W393 (Ne.symm ne_vw_yb)).other W396 (Ne.symm ne_vw_yb)).other W399 (Ne.symm ne_vw_yb)).other W404 (Ne.symm ne_ye_yb)).other W408 (Ne.symm ne_ye_yb)).other W412 (Ne.symm ne_ye_yb)).other W416 (Ne.symm ne_ye_yb)).other W419 (Ne.symm ne_vw_yb))
        have f435 := ((((((((hV_ys.other W393 (Ne.symm ne_vw_ys)).other W396 (Ne.symm ne_vw_ys)).other W399 (Ne.symm ne_vw_ys)).other W404 ne2).other W408 ne2).other W412 ne2).other W416 ne2).other W419 (Ne.symm ne_vw_ys))
        have f436 := ((((((((hV_yz.other W393 (Ne.symm ne_vw_yz)).other W396 (Ne.symm ne_vw_yz)).other W399 (Ne.symm ne_vw_yz)).other W404 (Ne.symm ne_ye_yz)).other W408 (Ne.symm ne_ye_yz)).other W412 (Ne.symm ne_ye_yz)).other W416 (Ne.symm ne_ye_yz)).other W419 (Ne.symm ne_vw_yz))
        have f437 := ((((((((hV_yf.other W393 (Ne.symm ne_vw_yf)).other W396 (Ne.symm ne_vw_yf)).other W399 (Ne.symm ne_vw_yf)).other W404 ne3).other W408 ne3).other W412 ne3).other W416 ne3).other W419 (Ne.symm ne_vw_yf))
        have f438 := (V_ye_416.other W419 (Ne.symm ne_vw_ye))
        have f439 := ((((((((hV_yr.other W393 (Ne.symm ne_vw_yr)).other W396 (Ne.symm ne_vw_yr)).other W399 (Ne.symm ne_vw_yr)).other W404 (Ne.symm ne_ye_yr)).other W408 (Ne.symm ne_ye_yr)).other W412 (Ne.symm ne_ye_yr)).other W416 (Ne.symm ne_ye_yr)).other W419 (Ne.symm ne_vw_yr))
        refine own_callV X419 hx hZ (y := my10) (z := my10) hown (hw _ (List.mem_of_getElem? (i := 103) rfl)) (hw _ (List.mem_of_getElem? (i := 104) rfl)) (notFace_of_selects (args := #[]) (mvT hZ (hw _ (List.mem_of_getElem? (i := 106) rfl)))) (hw _ (List.mem_of_getElem? (i := 106) rfl)) (hw _ (List.mem_of_getElem? (i := 105) rfl)) (hw _ (List.mem_of_getElem? (i := 3) rfl)) (hw _ (List.mem_of_getElem? (i := 107) rfl)) (by decide) (rm10 l Z a0 hw [] a1 vw yb ys yz yf ye yr kb ks kz kf ke kr (4 : Int32) sz ln p5 ((p5 + (pl_end p4 (3 : Int32))) + (1 : Int32)) bs ss zs fe [(.int (pl_end p4 (0 : Int32))), (.int (pl_end p4 (1 : Int32))), (.int (pl_end p4 (2 : Int32))), (.int (pl_end p4 (3 : Int32)))] rr h419 n0 (Nat.le_trans Z0 K419.1) (by decide) f420 f421 f422 f423 f424 f425 f426 f427 f428 f429 f430 f431 f432 f433 Fw419 f434 f435 f436 f437 f438 f439 ne1 ne2 ne3 ne4 n0_a1 n0_yb n0_yf n0_ys n0_yz hsz hln hof (pl_rlb p5 p4 (3 : Int32)) lss lfe lbs lzs rfl) 0 (by decide) (by decide) e419 (by rw [hml]; rfl) a1 f420 [(.ref vw)] [] rfl (lenOf pd_9 rfl) rfl (Nat.le_of_eq rfl) (hb hby d8_102) (by decide) (by decide) ?_
        rintro T440 _ L440 X440 ⟨rfl, N440q, Kc440, Ec440, F440_bytes, F440_starts, F440_ascii, F440_columns, F440_fieldEnds, F440_view, F440_size, F440_length, ⟨bs440, lb440, Vb440⟩, Vf440, Vs440, ⟨zs440, lz440, Vz440⟩⟩
        have N440 := Fr.app N419 N440q
        have K440 := K419.trans Kc440 (allS (P := fun x => x ∈ ([a1, vw, ye, yb, yf, ys, yz] : List Addr) ∨ h0.size ≤ x) (Or.inl (List.mem_of_getElem? (i := 0) rfl)) (allS (P := fun x => x ∈ ([a1, vw, ye, yb, yf, ys, yz] : List Addr) ∨ h0.size ≤ x) (Or.inl (List.mem_of_getElem? (i := 3) rfl)) (allS (P := fun x => x ∈ ([a1, vw, ye, yb, yf, ys, yz] : List Addr) ∨ h0.size ≤ x) (Or.inl (List.mem_of_getElem? (i := 4) rfl)) (allS (P := fun x => x ∈ ([a1, vw, ye, yb, yf, ys, yz] : List Addr) ∨ h0.size ≤ x) (Or.inl (List.mem_of_getElem? (i := 5) rfl)) (allS (P := fun x => x ∈ ([a1, vw, ye, yb, yf, ys, yz] : List Addr) ∨ h0.size ≤ x) (Or.inl (List.mem_of_getElem? (i := 6) rfl)) all0)))))
        show own_R p e below s _ _ _ T440 (mkF m 105 #[.val (.ref a1), .val (.ref vw), .val (.ref yr), .val (.int (4 : Int32)), .val (.int p4), .val (.int p5), .val (.int (pl_end p4 (3 : Int32)))] [])
        refine own_iload X440 hx (hb hby d8_105) rfl ?_
        refine own_iconst X440 hx (2 : Int32) (hb hby d8_107) rfl ?_
        refine own_iadd X440 hx (hb hby d8_108) ?_
        rw [pl_rl] at F440_length
        have f441 := (Exa.keep f429 Kc440)
        have f442 := (f430.keep Kc440 (ninS (Ne.symm ne_a1_vw) (ninS ne_vw_yb (ninS ne_vw_yf (ninS ne_vw_ys (ninS ne_vw_yz nin0))))))
        have f443 := (f431.keep Kc440 (ninS (Ne.symm ne_a1_vw) (ninS ne_vw_yb (ninS ne_vw_yf (ninS ne_vw_ys (ninS ne_vw_yz nin0))))))
        have f444 := (f432.keep Kc440 (ninS (Ne.symm ne_a1_vw) (ninS ne_vw_yb (ninS ne_vw_yf (ninS ne_vw_ys (ninS ne_vw_yz nin0))))))
        have f445 := (f433.keep Kc440 (ninS (Ne.symm ne_a1_vw) (ninS ne_vw_yb (ninS ne_vw_yf (ninS ne_vw_ys (ninS ne_vw_yz nin0))))))
        have f446 := (Fw419.keep Kc440 (ninS (Ne.symm ne_a1_vw) (ninS ne_vw_yb (ninS ne_vw_yf (ninS ne_vw_ys (ninS ne_vw_yz nin0))))))
        have f447 := (f438.keep Kc440 (ninS (Ne.symm ne_a1_ye) (ninS ne_ye_yb (ninS (Ne.symm ne3) (ninS (Ne.symm ne2) (ninS ne_ye_yz nin0))))))
        refine own_retI X440 hx Bd.returns hlk (hb hby d8_109) ?_ (by decide) (by decide)
        exact ⟨rfl, N440, K440, Ec440, F440_bytes, F440_starts, F440_ascii, F440_columns, F440_fieldEnds, F440_view, F440_size, F440_length, ⟨_, lb440, Vb440⟩, Vf440, Vs440, ⟨_, lz440, Vz440⟩, f441, f442, f443, f444, f445, f446, f447⟩
theorem pl_b1 (x k : Int32) : 0 ≤ ((0 : Int32) + (pl_end x k + (2 : Int32))).toInt ∧ ((0 : Int32) + (pl_end x k + (2 : Int32))).toInt ≤ 100 := by
  have h := pl_endb x k
  have h1 := c_iadd (pl_end x k) 2
  have h2 := rng32 (pl_end x k + 2)
  rw [show (2 : Int32).toInt = 2 from by decide] at h1
  rw [Int32.zero_add]
  omega
theorem pl_b2 (x y k : Int32) : 0 ≤ ((0 : Int32) + (pl_end x k + (2 : Int32)) + (pl_end y k + (2 : Int32))).toInt ∧ ((0 : Int32) + (pl_end x k + (2 : Int32)) + (pl_end y k + (2 : Int32))).toInt ≤ 100 := by
  have h := pl_endb x k
  have g := pl_endb y k
  have h1 := c_iadd (pl_end x k) 2
  have h2 := rng32 (pl_end x k + 2)
  have g1 := c_iadd (pl_end y k) 2
  have g2 := rng32 (pl_end y k + 2)
  have f1 := c_iadd (pl_end x k + 2) (pl_end y k + 2)
  have f2 := rng32 ((pl_end x k + 2) + (pl_end y k + 2))
  rw [show (2 : Int32).toInt = 2 from by decide] at h1 g1
  rw [Int32.zero_add]
  omega
theorem pn_0 : plainFor (⟨"com/example/termweave/termweave/release/HeldRowsFieldStartPinLaw", "law", "(IIIII)Z"⟩ : MethodName) = true := by decide +kernel
theorem ef_0 (m : MethodId) (p0 : Int32) (p1 : Int32) (p2 : Int32) (p3 : Int32) (p4 : Int32) : entryFrame m #[(.int p0), (.int p1), (.int p2), (.int p3), (.int p4)] maxLocals = mkF m 0 #[.val (.int p0), .val (.int p1), .val (.int p2), .val (.int p3), .val (.int p4), .unset, .unset, .unset, .unset, .unset, .unset, .unset, .unset, .unset, .unset, .unset, .unset] [] := by first | (simp [entryFrame, mkF, argsToLocals, Value.category, maxLocals]; done) | rfl
def Q0 (Z : State) (p0 : Int32) (p1 : Int32) (p2 : Int32) (p3 : Int32) (p4 : Int32) (h0 : Heap) (n0 : Nat) (v : Option Value) (h : Heap) (L : List Loc) : Prop := v = some (.int 1) ∧ Fr n0 L
set_option maxRecDepth 65536 in
set_option maxHeartbeats 40000000 in
theorem rm0 (l : Launch) (Z : State) (a0 : Array Value) (hw : ∀ d ∈ tables_1, d.before a0 Z = true) (ws : List Jvm.Cond) (p0 : Int32) (p1 : Int32) (p2 : Int32) (p3 : Int32) (p4 : Int32) (h0 : Heap) (n0 : Nat) (Z0 : n0 ≤ h0.size) :
    MetFree l x (head1 (Jvm.Cond.code x code maxLocals ret :: ws) room_1) (fun a U => a = #[(.int p0), (.int p1), (.int p2), (.int p3), (.int p4)] ∧ Z.Warmed39 U.vm ∧ U.heap = h0) (fun _ _ _ _ _ => True) (fun _ U o U' => ∃ v L, o = .returned v ∧ Q0 Z p0 p1 p2 p3 p4 h0 n0 v U'.heap L ∧ FrameEnd U o U' L room_1.cells room_1.slots) := by
  refine MetFree.of_bodySF pn_0 hisR ?_
  intro p e s m args below meth c s₁ Bd hml0 hP hK
  obtain ⟨rfl, hZ, hh⟩ := hP
  have hx := Bd.exec
  have hby := Bd.bytes
  have hml : c.maxLocals = 17 := hml0
  have hown : s.vm.findClass "com/example/termweave/termweave/release/HeldRowsFieldStartPinLaw" = some m.cls := findClass_of_methodNamed Bd.named
  have hnm := (name_of_methodNamed Bd.named Bd.method).1
  have hlk := BodyLoose.notSynchronized Bd
  have X0 : Stand p l e room_1 s m #[(.int p0), (.int p1), (.int p2), (.int p3), (.int p4)] below meth c s₁ [] 0 0 := Stand.of_body Bd
  have e0 : s₁.heap = h0 := by rw [← hh, Bd.state]; rfl
  have N0 := Fr.nil n0
  show own_R p e below s (Q0 Z p0 p1 p2 p3 p4 h0 n0) room_1.cells room_1.slots s₁ (entryFrame m #[(.int p0), (.int p1), (.int p2), (.int p3), (.int p4)] maxLocals)
  refine own_cast (ef_0 m p0 p1 p2 p3 p4) ?_
  show own_R p e below s _ _ _ s₁ (mkF m 0 #[.val (.int p0), .val (.int p1), .val (.int p2), .val (.int p3), .val (.int p4), .unset, .unset, .unset, .unset, .unset, .unset, .unset, .unset, .unset, .unset, .unset, .unset] [])
  have K0 := Keep.refl h0 ([] : List Addr)
  refine own_iconst X0 hx (1 : Int32) (hb hby at_0) rfl ?_
  refine own_iloadN X0 hx (hb hby at_1) rfl ?_
  refine own_iconst X0 hx (3 : Int32) (hb hby at_2) rfl ?_
  refine own_iand X0 hx (hb hby at_3) ?_
  refine own_iadd X0 hx (hb hby at_4) ?_
  refine own_istore X0 hx (hb hby at_5) (l' := #[.val (.int p0), .val (.int p1), .val (.int p2), .val (.int p3), .val (.int p4), .val (.int ((1 : Int32) + (p0 &&& (3 : Int32)))), .unset, .unset, .unset, .unset, .unset, .unset, .unset, .unset, .unset, .unset, .unset]) rfl ?_
  refine own_iloadN X0 hx (hb hby at_7) rfl ?_
  refine own_iconst X0 hx (3 : Int32) (hb hby at_8) rfl ?_
  refine own_iushr X0 hx (hb hby at_9) ?_
  refine own_bipush X0 hx (7 : Int32) (hb hby at_10) rfl ?_
  refine own_iand X0 hx (hb hby at_12) ?_
  refine own_istore X0 hx (hb hby at_13) (l' := #[.val (.int p0), .val (.int p1), .val (.int p2), .val (.int p3), .val (.int p4), .val (.int ((1 : Int32) + (p0 &&& (3 : Int32)))), .val (.int (((p0.toUInt32 >>> ((3 : Int32) &&& 31).toUInt32).toInt32) &&& (7 : Int32))), .unset, .unset, .unset, .unset, .unset, .unset, .unset, .unset, .unset, .unset]) rfl ?_
  obtain ⟨cq, hcq, hcq4⟩ : ∃ z : Int32, z = ((1 : Int32) + (p0 &&& (3 : Int32))) ∧ (z = 1 ∨ z = 2 ∨ z = 3 ∨ z = 4) := ⟨_, rfl, pl_cols _⟩
  rw [← hcq]
  show own_R p e below s _ _ _ s₁ (mkF m 15 #[.val (.int p0), .val (.int p1), .val (.int p2), .val (.int p3), .val (.int p4), .val (.int cq), .val (.int (((p0.toUInt32 >>> ((3 : Int32) &&& 31).toUInt32).toInt32) &&& (7 : Int32))), .unset, .unset, .unset, .unset, .unset, .unset, .unset, .unset, .unset, .unset] [])
  obtain ⟨off, hoff, hof⟩ : ∃ z : Int32, z = (((p0.toUInt32 >>> ((3 : Int32) &&& 31).toUInt32).toInt32) &&& (7 : Int32)) ∧ (0 ≤ z.toInt ∧ z.toInt ≤ 7) := ⟨_, rfl, pl_off _⟩
  rw [← hoff]
  show own_R p e below s _ _ _ s₁ (mkF m 15 #[.val (.int p0), .val (.int p1), .val (.int p2), .val (.int p3), .val (.int p4), .val (.int cq), .val (.int off), .unset, .unset, .unset, .unset, .unset, .unset, .unset, .unset, .unset, .unset] [])
  rcases hcq4 with rfl | rfl | rfl | rfl
  ·
    show own_R p e below s _ _ _ s₁ (mkF m 15 #[.val (.int p0), .val (.int p1), .val (.int p2), .val (.int p3), .val (.int p4), .val (.int (1 : Int32)), .val (.int off), .unset, .unset, .unset, .unset, .unset, .unset, .unset, .unset, .unset, .unset] [])
    refine own_bipush X0 hx (40 : Int32) (hb hby at_15) rfl ?_
    refine own_newA X0 hx hZ (hw _ (List.mem_of_getElem? (i := 0) rfl)) e0 (hb hby at_17) (by decide) 40 (by decide) (by decide) (by decide) (by decide) (ad := "[B") (by decide) 40 ?_
    intro T448 h448 b448 k448 g448 X448 e448 E448 V448 A448
    have sz_b448 : h0.size ≤ b448 := Nat.le_trans K0.1 (Nat.le_of_eq g448.symm)
    have n0_b448 : n0 ≤ b448 := Nat.le_trans Z0 sz_b448
    have K448 := K0.ext E448
    have V_b448 : Arv Z h448 b448 k448 .byte (40 : Int32) [(.int (0 : Int32)), (.int (0 : Int32)), (.int (0 : Int32)), (.int (0 : Int32)), (.int (0 : Int32)), (.int (0 : Int32)), (.int (0 : Int32)), (.int (0 : Int32)), (.int (0 : Int32)), (.int (0 : Int32)), (.int (0 : Int32)), (.int (0 : Int32)), (.int (0 : Int32)), (.int (0 : Int32)), (.int (0 : Int32)), (.int (0 : Int32)), (.int (0 : Int32)), (.int (0 : Int32)), (.int (0 : Int32)), (.int (0 : Int32)), (.int (0 : Int32)), (.int (0 : Int32)), (.int (0 : Int32)), (.int (0 : Int32)), (.int (0 : Int32)), (.int (0 : Int32)), (.int (0 : Int32)), (.int (0 : Int32)), (.int (0 : Int32)), (.int (0 : Int32)), (.int (0 : Int32)), (.int (0 : Int32)), (.int (0 : Int32)), (.int (0 : Int32)), (.int (0 : Int32)), (.int (0 : Int32)), (.int (0 : Int32)), (.int (0 : Int32)), (.int (0 : Int32)), (.int (0 : Int32))] (.int (0 : Int32)) := V448
    refine own_astore X448 hx (hb hby at_19) rfl (l' := #[.val (.int p0), .val (.int p1), .val (.int p2), .val (.int p3), .val (.int p4), .val (.int (1 : Int32)), .val (.int off), .val (.ref b448), .unset, .unset, .unset, .unset, .unset, .unset, .unset, .unset, .unset]) rfl ?_
    refine own_new X448 hx hZ hown (hw _ (List.mem_of_getElem? (i := 1) rfl)) (hw _ (List.mem_of_getElem? (i := 2) rfl)) (hw _ (List.mem_of_getElem? (i := 3) rfl)) e448 (hb hby at_21) (by decide) (by decide) ?_
    intro T449 h449 b449 g449 X449 e449 E449 A449 D449
    have ne_b448_b449 : b448 ≠ b449 := Nat.ne_of_lt (Nat.lt_of_lt_of_le V_b448.lt (Nat.le_of_eq g449.symm))
    have sz_b449 : h0.size ≤ b449 := Nat.le_trans K448.1 (Nat.le_of_eq g449.symm)
    have n0_b449 : n0 ≤ b449 := Nat.le_trans Z0 sz_b449
    have K449 := K448.ext E449
    have F_bytes_b449 : Fld Z h449 b449 "com/example/termweave/termweave/release/HeldRows" "bytes" "[B" .null := D449 (Or.inl (hw _ (List.mem_of_getElem? (i := 11) rfl))) (ty := (.array .byte)) (by decide)
    have F_starts_b449 : Fld Z h449 b449 "com/example/termweave/termweave/release/HeldRows" "starts" "[I" .null := D449 (Or.inl (hw _ (List.mem_of_getElem? (i := 14) rfl))) (ty := (.array .int)) (by decide)
    have F_ascii_b449 : Fld Z h449 b449 "com/example/termweave/termweave/release/HeldRows" "ascii" "[Z" .null := D449 (Or.inl (hw _ (List.mem_of_getElem? (i := 17) rfl))) (ty := (.array .boolean)) (by decide)
    have F_sort_b449 : Fld Z h449 b449 "com/example/termweave/termweave/release/HeldRows" "sort" "Lcom/example/termweave/termweave/release/HeldRows$Sort;" .null := D449 (Or.inr (hw _ (List.mem_of_getElem? (i := 37) rfl))) (ty := (.object "com/example/termweave/termweave/release/HeldRows$Sort")) (by decide)
    have F_columns_b449 : Fld Z h449 b449 "com/example/termweave/termweave/release/HeldRows" "columns" "I" (.int (0 : Int32)) := D449 (Or.inr (hw _ (List.mem_of_getElem? (i := 39) rfl))) (ty := .int) (by decide)
    have F_fieldEnds_b449 : Fld Z h449 b449 "com/example/termweave/termweave/release/HeldRows" "fieldEnds" "[I" .null := D449 (Or.inl (hw _ (List.mem_of_getElem? (i := 41) rfl))) (ty := (.array .int)) (by decide)
    have F_view_b449 : Fld Z h449 b449 "com/example/termweave/termweave/release/HeldRows" "view" "Lcom/example/termweave/termweave/release/HeldRows$View;" .null := D449 (Or.inr (hw _ (List.mem_of_getElem? (i := 61) rfl))) (ty := (.object "com/example/termweave/termweave/release/HeldRows$View")) (by decide)
    have F_size_b449 : Fld Z h449 b449 "com/example/termweave/termweave/release/HeldRows" "size" "I" (.int (0 : Int32)) := D449 (Or.inl (hw _ (List.mem_of_getElem? (i := 77) rfl))) (ty := .int) (by decide)
    have F_length_b449 : Fld Z h449 b449 "com/example/termweave/termweave/release/HeldRows" "length" "I" (.int (0 : Int32)) := D449 (Or.inl (hw _ (List.mem_of_getElem? (i := 79) rfl))) (ty := .int) (by decide)
    refine own_dup X449 hx (hb hby at_24) rfl ?_
    refine own_iload X449 hx (hb hby at_25) rfl ?_
    refine own_callI X449 hx hZ (y := my1) rfl hown (hw _ (List.mem_of_getElem? (i := 4) rfl)) (hw _ (List.mem_of_getElem? (i := 5) rfl)) (hw _ (List.mem_of_getElem? (i := 3) rfl)) (hw _ (List.mem_of_getElem? (i := 6) rfl)) (by decide) (rm1 l Z a0 hw [] b449 (1 : Int32) h449 n0 (Nat.le_trans Z0 K449.1) (by decide) A449 n0_b449 F_bytes_b449 F_starts_b449 F_ascii_b449 F_sort_b449 F_columns_b449 F_fieldEnds_b449 F_view_b449 F_size_b449 F_length_b449) 1 (by decide) (by decide) e449 (by rw [hml]; rfl) b449 [(.int (1 : Int32))] [(.ref b449)] rfl (lenOf pd_2 rfl) rfl (Nat.le_of_eq rfl) (hb hby at_27) (by decide) (by decide) ?_
    rintro T450 _ L450 X450 ⟨rfl, N450q, Kc450, yb, ys, yz, yf, vw, ye, kb, ks, kz, kf, ke, nc_yb, nc_ys, nc_yz, nc_yf, nc_vw, nc_ye, Eh450, F450_bytes, F450_starts, F450_ascii, F450_columns, F450_fieldEnds, F450_view, F450_size, F450_length, Ev450, G450_rowEnd, G450_bytes, G450_rowStart, G450_ascii, Fe450, Vb450, Vs450, Vz450, Vf450, Ve450, ne1, ne2, ne3⟩
    have N450 := Fr.app N0 N450q
    have K450 := K449.trans Kc450 (allS (P := fun x => x ∈ ([] : List Addr) ∨ h0.size ≤ x) (Or.inr sz_b449) all0)
    show own_R p e below s _ _ _ T450 (mkF m 30 #[.val (.int p0), .val (.int p1), .val (.int p2), .val (.int p3), .val (.int p4), .val (.int (1 : Int32)), .val (.int off), .val (.ref b448), .unset, .unset, .unset, .unset, .unset, .unset, .unset, .unset, .unset] [(.ref b449)])
    have sz_yb : h0.size ≤ yb := Nat.le_trans K449.1 nc_yb
    have n0_yb : n0 ≤ yb := Nat.le_trans Z0 sz_yb
    have ne_b448_yb : b448 ≠ yb := Nat.ne_of_lt (Nat.lt_of_lt_of_le (V_b448.ext E449).lt nc_yb)
    have sz_ys : h0.size ≤ ys := Nat.le_trans K449.1 nc_ys
    have n0_ys : n0 ≤ ys := Nat.le_trans Z0 sz_ys
    have ne_b448_ys : b448 ≠ ys := Nat.ne_of_lt (Nat.lt_of_lt_of_le (V_b448.ext E449).lt nc_ys)
    have sz_yz : h0.size ≤ yz := Nat.le_trans K449.1 nc_yz
    have n0_yz : n0 ≤ yz := Nat.le_trans Z0 sz_yz
    have ne_b448_yz : b448 ≠ yz := Nat.ne_of_lt (Nat.lt_of_lt_of_le (V_b448.ext E449).lt nc_yz)
    have sz_yf : h0.size ≤ yf := Nat.le_trans K449.1 nc_yf
    have n0_yf : n0 ≤ yf := Nat.le_trans Z0 sz_yf
    have ne_b448_yf : b448 ≠ yf := Nat.ne_of_lt (Nat.lt_of_lt_of_le (V_b448.ext E449).lt nc_yf)
    have sz_vw : h0.size ≤ vw := Nat.le_trans K449.1 nc_vw
    have n0_vw : n0 ≤ vw := Nat.le_trans Z0 sz_vw
    have ne_b448_vw : b448 ≠ vw := Nat.ne_of_lt (Nat.lt_of_lt_of_le (V_b448.ext E449).lt nc_vw)
    have sz_ye : h0.size ≤ ye := Nat.le_trans K449.1 nc_ye
    have n0_ye : n0 ≤ ye := Nat.le_trans Z0 sz_ye
    have ne_b448_ye : b448 ≠ ye := Nat.ne_of_lt (Nat.lt_of_lt_of_le (V_b448.ext E449).lt nc_ye)
    have ne_b449_vw : b449 ≠ vw := (Exa.ne Eh450 Ev450 (by decide))
    have ne_b449_yb : b449 ≠ yb := (Exa.neArv Eh450 Vb450 (hw _ (List.mem_of_getElem? (i := 2) rfl)))
    have ne_b449_ys : b449 ≠ ys := (Exa.neArv Eh450 Vs450 (hw _ (List.mem_of_getElem? (i := 2) rfl)))
    have ne_b449_yz : b449 ≠ yz := (Exa.neArv Eh450 Vz450 (hw _ (List.mem_of_getElem? (i := 2) rfl)))
    have ne_b449_yf : b449 ≠ yf := (Exa.neArv Eh450 Vf450 (hw _ (List.mem_of_getElem? (i := 2) rfl)))
    have ne_b449_ye : b449 ≠ ye := (Exa.neArv Eh450 Ve450 (hw _ (List.mem_of_getElem? (i := 2) rfl)))
    have ne_vw_yb : vw ≠ yb := (Exa.neArv Ev450 Vb450 (hw _ (List.mem_of_getElem? (i := 43) rfl)))
    have ne_vw_ys : vw ≠ ys := (Exa.neArv Ev450 Vs450 (hw _ (List.mem_of_getElem? (i := 43) rfl)))
    have ne_vw_yz : vw ≠ yz := (Exa.neArv Ev450 Vz450 (hw _ (List.mem_of_getElem? (i := 43) rfl)))
    have ne_vw_yf : vw ≠ yf := (Exa.neArv Ev450 Vf450 (hw _ (List.mem_of_getElem? (i := 43) rfl)))
    have ne_vw_ye : vw ≠ ye := (Exa.neArv Ev450 Ve450 (hw _ (List.mem_of_getElem? (i := 43) rfl)))
    have ne_yb_ys : yb ≠ ys := (own_neA Vb450 Vs450 (by decide))
    have ne_yb_yz : yb ≠ yz := (own_neA Vb450 Vz450 (by decide))
    have ne_yb_yf : yb ≠ yf := (own_neA Vb450 Vf450 (by decide))
    have ne_yb_ye : yb ≠ ye := (own_neA Vb450 Ve450 (by decide))
    have ne_ys_yz : ys ≠ yz := (own_neA Vs450 Vz450 (by decide))
    have ne_yz_yf : yz ≠ yf := (own_neA Vz450 Vf450 (by decide))
    have ne_yz_ye : yz ≠ ye := (own_neA Vz450 Ve450 (by decide))
    refine own_astore X450 hx (hb hby at_30) rfl (l' := #[.val (.int p0), .val (.int p1), .val (.int p2), .val (.int p3), .val (.int p4), .val (.int (1 : Int32)), .val (.int off), .val (.ref b448), .val (.ref b449), .unset, .unset, .unset, .unset, .unset, .unset, .unset, .unset]) rfl ?_
    refine own_aload X450 hx (hb hby at_32) rfl rfl ?_
    refine own_iconst X450 hx (0 : Int32) (hb hby at_34) rfl ?_
    refine own_callV X450 hx hZ (y := my6) (z := my6) hown (hw _ (List.mem_of_getElem? (i := 62) rfl)) (hw _ (List.mem_of_getElem? (i := 63) rfl)) (notFace_of_selects (args := #[]) (mvT hZ (hw _ (List.mem_of_getElem? (i := 65) rfl)))) (hw _ (List.mem_of_getElem? (i := 65) rfl)) (hw _ (List.mem_of_getElem? (i := 64) rfl)) (hw _ (List.mem_of_getElem? (i := 3) rfl)) (hw _ (List.mem_of_getElem? (i := 66) rfl)) (by decide) (rm6 l Z a0 hw [] b449 vw yb ys yz yf ye kb ks kz kf ke (1 : Int32) T450.heap n0 (Nat.le_trans Z0 K450.1) (by decide) Eh450 F450_bytes F450_starts F450_ascii F450_columns F450_fieldEnds F450_view F450_size F450_length Ev450 G450_rowEnd G450_bytes G450_rowStart G450_ascii Fe450 Vb450 Vs450 Vz450 Vf450 Ve450 ne1 ne2 ne3 n0_vw n0_ye) 0 (by decide) (by decide) rfl (by rw [hml]; rfl) b449 Eh450 [(.int (0 : Int32))] [] rfl (lenOf pd_10 rfl) rfl (Nat.le_of_eq rfl) (hb hby at_35) (by decide) (by decide) ?_
    rintro T451 _ L451 X451 ⟨rfl, N451q, Kc451, Ev451, G451_rowEnd, G451_bytes, G451_fieldEnds, G451_rowStart, G451_ascii, Ve451⟩
    have N451 := Fr.app N450 N451q
    have K451 := K450.trans Kc451 (allS (P := fun x => x ∈ ([] : List Addr) ∨ h0.size ≤ x) (Or.inr sz_vw) (allS (P := fun x => x ∈ ([] : List Addr) ∨ h0.size ≤ x) (Or.inr sz_ye) all0))
    show own_R p e below s _ _ _ T451 (mkF m 38 #[.val (.int p0), .val (.int p1), .val (.int p2), .val (.int p3), .val (.int p4), .val (.int (1 : Int32)), .val (.int off), .val (.ref b448), .val (.ref b449), .unset, .unset, .unset, .unset, .unset, .unset, .unset, .unset] [(.ref vw)])
    have V_ye_452 : Arv Z T451.heap ye ke .int (1 : Int32) [o0] o0 := Ve451
    have f453 := (Vf450.keep Kc451 (ninS (Ne.symm ne_vw_yf) (ninS ne3 nin0)))
    have V_yf_454 : Arv Z T451.heap yf kf .int ((16 : Int32) * (1 : Int32)) [o0, o0, o0, o0, o0, o0, o0, o0, o0, o0, o0, o0, o0, o0, o0, o0] o0 := f453
    refine own_astore X451 hx (hb hby at_38) rfl (l' := #[.val (.int p0), .val (.int p1), .val (.int p2), .val (.int p3), .val (.int p4), .val (.int (1 : Int32)), .val (.int off), .val (.ref b448), .val (.ref b449), .val (.ref vw), .unset, .unset, .unset, .unset, .unset, .unset, .unset]) rfl ?_
    have J115 : ∀ (Tj : State) (lj : List Loc) (gj : Heap), Stand p l e room_1 s m #[(.int p0), (.int p1), (.int p2), (.int p3), (.int p4)] below meth c Tj lj 13 4305 → Tj.heap = gj → Fr n0 lj → n0 ≤ gj.size → Fld Z gj b449 cH "starts" "[I" (.ref ys) → Fld Z gj b449 cH "fieldEnds" "[I" (.ref yf) → Fld Z gj b449 cH "columns" "I" (.int (1 : Int32)) → Exa Z gj b449 cH → Arv Z gj ys ks .int (16 : Int32) [o0, (.int ((0 : Int32) + ((pl_end p1 (0 : Int32)) + (2 : Int32)))), (.int (((0 : Int32) + ((pl_end p1 (0 : Int32)) + (2 : Int32))) + ((pl_end p2 (0 : Int32)) + (2 : Int32)))), o0, o0, o0, o0, o0, o0, o0, o0, o0, o0, o0, o0, o0] o0 → Arv Z gj yf kf .int ((16 : Int32) * (1 : Int32)) [(.int (pl_end p1 (0 : Int32))), (.int (pl_end p2 (0 : Int32))), (.int (pl_end p3 (0 : Int32))), o0, o0, o0, o0, o0, o0, o0, o0, o0, o0, o0, o0, o0] o0 → own_R p e below s (Q0 Z p0 p1 p2 p3 p4 h0 n0) room_1.cells room_1.slots Tj (mkF m 115 #[.val (.int p0), .val (.int p1), .val (.int p2), .val (.int p3), .val (.int p4), .val (.int (1 : Int32)), .val (.int off), .val (.ref b448), .val (.ref b449), .val (.ref vw), .val (.int ((pl_end p1 (0 : Int32)) + (2 : Int32))), .val (.int ((pl_end p2 (0 : Int32)) + (2 : Int32))), .unset, .unset, .unset, .unset, .unset] []) := by
      intro Tj lj gj Xj ej Nj Zj jf1 jf2 jf3 jE jV1 jV2
      show own_R p e below s _ _ _ Tj (mkF m 115 #[.val (.int p0), .val (.int p1), .val (.int p2), .val (.int p3), .val (.int p4), .val (.int (1 : Int32)), .val (.int off), .val (.ref b448), .val (.ref b449), .val (.ref vw), .val (.int ((pl_end p1 (0 : Int32)) + (2 : Int32))), .val (.int ((pl_end p2 (0 : Int32)) + (2 : Int32))), .unset, .unset, .unset, .unset, .unset] [])
      refine own_iload Xj hx (hb hby at_115) rfl ?_
      refine own_ldc Xj hx hZ hown (hw _ (List.mem_of_getElem? (i := 135) rfl)) (hb hby at_117) ?_
      refine own_iand Xj hx (hb hby at_119) ?_
      refine own_iconst Xj hx (3 : Int32) (hb hby at_120) rfl ?_
      refine own_irem Xj hx (hb hby at_121) (by decide) ?_
      refine own_istore Xj hx (hb hby at_122) (l' := #[.val (.int p0), .val (.int p1), .val (.int p2), .val (.int p3), .val (.int p4), .val (.int (1 : Int32)), .val (.int off), .val (.ref b448), .val (.ref b449), .val (.ref vw), .val (.int ((pl_end p1 (0 : Int32)) + (2 : Int32))), .val (.int ((pl_end p2 (0 : Int32)) + (2 : Int32))), .val (.int ((p4 &&& (2147483647 : Int32)) % (3 : Int32))), .unset, .unset, .unset, .unset]) rfl ?_
      obtain ⟨ix, hix, hix3⟩ : ∃ z : Int32, z = ((p4 &&& (2147483647 : Int32)) % (3 : Int32)) ∧ (z = 0 ∨ z = 1 ∨ z = 2) := ⟨_, rfl, pl_ix _⟩
      rw [← hix]
      show own_R p e below s _ _ _ Tj (mkF m 124 #[.val (.int p0), .val (.int p1), .val (.int p2), .val (.int p3), .val (.int p4), .val (.int (1 : Int32)), .val (.int off), .val (.ref b448), .val (.ref b449), .val (.ref vw), .val (.int ((pl_end p1 (0 : Int32)) + (2 : Int32))), .val (.int ((pl_end p2 (0 : Int32)) + (2 : Int32))), .val (.int ix), .unset, .unset, .unset, .unset] [])
      refine own_iload Xj hx (hb hby at_124) rfl ?_
      refine own_iconst Xj hx (4 : Int32) (hb hby at_126) rfl ?_
      refine own_iushr Xj hx (hb hby at_127) ?_
      refine own_iload Xj hx (hb hby at_128) rfl ?_
      refine own_irem Xj hx (hb hby at_130) (by decide) ?_
      refine own_istore Xj hx (hb hby at_131) (l' := #[.val (.int p0), .val (.int p1), .val (.int p2), .val (.int p3), .val (.int p4), .val (.int (1 : Int32)), .val (.int off), .val (.ref b448), .val (.ref b449), .val (.ref vw), .val (.int ((pl_end p1 (0 : Int32)) + (2 : Int32))), .val (.int ((pl_end p2 (0 : Int32)) + (2 : Int32))), .val (.int ix), .val (.int (((p4.toUInt32 >>> ((4 : Int32) &&& 31).toUInt32).toInt32) % (1 : Int32))), .unset, .unset, .unset]) rfl ?_
      obtain ⟨cl, hcl, hcl4⟩ : ∃ z : Int32, z = (((p4.toUInt32 >>> ((4 : Int32) &&& 31).toUInt32).toInt32) % (1 : Int32)) ∧ (z = 0) := ⟨_, rfl, pl_cl1 _⟩
      rw [← hcl]
      show own_R p e below s _ _ _ Tj (mkF m 133 #[.val (.int p0), .val (.int p1), .val (.int p2), .val (.int p3), .val (.int p4), .val (.int (1 : Int32)), .val (.int off), .val (.ref b448), .val (.ref b449), .val (.ref vw), .val (.int ((pl_end p1 (0 : Int32)) + (2 : Int32))), .val (.int ((pl_end p2 (0 : Int32)) + (2 : Int32))), .val (.int ix), .val (.int cl), .unset, .unset, .unset] [])
      rcases hix3 with rfl | rfl | rfl
      ·
        rcases hcl4 with rfl
        ·
          show own_R p e below s _ _ _ Tj (mkF m 133 #[.val (.int p0), .val (.int p1), .val (.int p2), .val (.int p3), .val (.int p4), .val (.int (1 : Int32)), .val (.int off), .val (.ref b448), .val (.ref b449), .val (.ref vw), .val (.int ((pl_end p1 (0 : Int32)) + (2 : Int32))), .val (.int ((pl_end p2 (0 : Int32)) + (2 : Int32))), .val (.int (0 : Int32)), .val (.int (0 : Int32)), .unset, .unset, .unset] [])
          refine own_iload Xj hx (hb hby at_133) rfl ?_
          refine own_if Xj hx (hb hby at_135) (pc' := 142) (by decide) (by decide) (fun hc => ?_) (fun hc => ?_)
          · have hc135 : ¬ (0 : Int32) = (0 : Int32) := own_ne1 hc
            exact absurd (by decide) hc135
          · have hc135 : (0 : Int32) = (0 : Int32) := own_ne0 hc
            clear hc
            refine own_iloadN Xj hx (hb hby at_138) rfl ?_
            refine own_goto Xj hx (hb hby at_139) (pc' := 153) (by decide) (by decide) ?_
            show own_R p e below s _ _ _ Tj (mkF m 153 #[.val (.int p0), .val (.int p1), .val (.int p2), .val (.int p3), .val (.int p4), .val (.int (1 : Int32)), .val (.int off), .val (.ref b448), .val (.ref b449), .val (.ref vw), .val (.int ((pl_end p1 (0 : Int32)) + (2 : Int32))), .val (.int ((pl_end p2 (0 : Int32)) + (2 : Int32))), .val (.int (0 : Int32)), .val (.int (0 : Int32)), .unset, .unset, .unset] [(.int p1)])
            refine own_istore Xj hx (hb hby at_153) (l' := #[.val (.int p0), .val (.int p1), .val (.int p2), .val (.int p3), .val (.int p4), .val (.int (1 : Int32)), .val (.int off), .val (.ref b448), .val (.ref b449), .val (.ref vw), .val (.int ((pl_end p1 (0 : Int32)) + (2 : Int32))), .val (.int ((pl_end p2 (0 : Int32)) + (2 : Int32))), .val (.int (0 : Int32)), .val (.int (0 : Int32)), .val (.int p1), .unset, .unset]) rfl ?_
            refine own_iload Xj hx (hb hby at_155) rfl ?_
            refine own_if Xj hx (hb hby at_157) (pc' := 164) (by decide) (by decide) (fun hc => ?_) (fun hc => ?_)
            · have hc157 : ¬ (0 : Int32) = (0 : Int32) := own_ne1 hc
              exact absurd (by decide) hc157
            · have hc157 : (0 : Int32) = (0 : Int32) := own_ne0 hc
              clear hc
              refine own_iconst Xj hx (0 : Int32) (hb hby at_160) rfl ?_
              refine own_goto Xj hx (hb hby at_161) (pc' := 180) (by decide) (by decide) ?_
              show own_R p e below s _ _ _ Tj (mkF m 180 #[.val (.int p0), .val (.int p1), .val (.int p2), .val (.int p3), .val (.int p4), .val (.int (1 : Int32)), .val (.int off), .val (.ref b448), .val (.ref b449), .val (.ref vw), .val (.int ((pl_end p1 (0 : Int32)) + (2 : Int32))), .val (.int ((pl_end p2 (0 : Int32)) + (2 : Int32))), .val (.int (0 : Int32)), .val (.int (0 : Int32)), .val (.int p1), .unset, .unset] [(.int (0 : Int32))])
              refine own_istore Xj hx (hb hby at_180) (l' := #[.val (.int p0), .val (.int p1), .val (.int p2), .val (.int p3), .val (.int p4), .val (.int (1 : Int32)), .val (.int off), .val (.ref b448), .val (.ref b449), .val (.ref vw), .val (.int ((pl_end p1 (0 : Int32)) + (2 : Int32))), .val (.int ((pl_end p2 (0 : Int32)) + (2 : Int32))), .val (.int (0 : Int32)), .val (.int (0 : Int32)), .val (.int p1), .val (.int (0 : Int32)), .unset]) rfl ?_
              refine own_iload Xj hx (hb hby at_182) rfl ?_
              refine own_iload Xj hx (hb hby at_184) rfl ?_
              refine own_if Xj hx (hb hby at_186) (pc' := 193) (by decide) (by decide) (fun hc => ?_) (fun hc => ?_)
              · have hc186 : ¬ (0 : Int32) = (0 : Int32) := own_ne1 hc
                exact absurd (by decide) hc186
              · have hc186 : (0 : Int32) = (0 : Int32) := own_ne0 hc
                clear hc
                refine own_iconst Xj hx (0 : Int32) (hb hby at_189) rfl ?_
                refine own_goto Xj hx (hb hby at_190) (pc' := 204) (by decide) (by decide) ?_
                show own_R p e below s _ _ _ Tj (mkF m 204 #[.val (.int p0), .val (.int p1), .val (.int p2), .val (.int p3), .val (.int p4), .val (.int (1 : Int32)), .val (.int off), .val (.ref b448), .val (.ref b449), .val (.ref vw), .val (.int ((pl_end p1 (0 : Int32)) + (2 : Int32))), .val (.int ((pl_end p2 (0 : Int32)) + (2 : Int32))), .val (.int (0 : Int32)), .val (.int (0 : Int32)), .val (.int p1), .val (.int (0 : Int32)), .unset] [(.int (0 : Int32)), (.int (0 : Int32))])
                refine own_iadd Xj hx (hb hby at_204) ?_
                refine own_istore Xj hx (hb hby at_205) (l' := #[.val (.int p0), .val (.int p1), .val (.int p2), .val (.int p3), .val (.int p4), .val (.int (1 : Int32)), .val (.int off), .val (.ref b448), .val (.ref b449), .val (.ref vw), .val (.int ((pl_end p1 (0 : Int32)) + (2 : Int32))), .val (.int ((pl_end p2 (0 : Int32)) + (2 : Int32))), .val (.int (0 : Int32)), .val (.int (0 : Int32)), .val (.int p1), .val (.int (0 : Int32)), .val (.int (0 : Int32))]) rfl ?_
                refine own_aload Xj hx (hb hby at_207) rfl rfl ?_
                refine own_iload Xj hx (hb hby at_209) rfl ?_
                refine own_iload Xj hx (hb hby at_211) rfl ?_
                refine own_callV Xj hx hZ (y := my16) (z := my16) hown (hw _ (List.mem_of_getElem? (i := 136) rfl)) (hw _ (List.mem_of_getElem? (i := 137) rfl)) (notFace_of_selects (args := #[]) (mvT hZ (hw _ (List.mem_of_getElem? (i := 139) rfl)))) (hw _ (List.mem_of_getElem? (i := 139) rfl)) (hw _ (List.mem_of_getElem? (i := 138) rfl)) (hw _ (List.mem_of_getElem? (i := 3) rfl)) (hw _ (List.mem_of_getElem? (i := 140) rfl)) (by decide) (rm16 l Z a0 hw [] b449 (0 : Int32) (0 : Int32) ys yf ks kf (1 : Int32) [o0, (.int ((0 : Int32) + ((pl_end p1 (0 : Int32)) + (2 : Int32)))), (.int (((0 : Int32) + ((pl_end p1 (0 : Int32)) + (2 : Int32))) + ((pl_end p2 (0 : Int32)) + (2 : Int32)))), o0, o0, o0, o0, o0, o0, o0, o0, o0, o0, o0, o0, o0] [(.int (pl_end p1 (0 : Int32))), (.int (pl_end p2 (0 : Int32))), (.int (pl_end p3 (0 : Int32))), o0, o0, o0, o0, o0, o0, o0, o0, o0, o0, o0, o0, o0] (0 : Int32) (0 : Int32) gj n0 Zj jf1 jf2 jf3 jV1 jV2 (by decide) rfl (fun q => absurd rfl q) (fun q => absurd rfl q)) 0 (by decide) (by decide) ej (by rw [hml]; rfl) b449 jE [(.int (0 : Int32)), (.int (0 : Int32))] [] rfl (lenOf pd_8 rfl) rfl (Nat.le_of_eq rfl) (hb hby at_213) (by decide) (by decide) ?_
                rintro T455 _ L455 X455 ⟨rfl, N455q, e455⟩
                have N455 := Fr.app Nj N455q
                show own_R p e below s _ _ _ T455 (mkF m 216 #[.val (.int p0), .val (.int p1), .val (.int p2), .val (.int p3), .val (.int p4), .val (.int (1 : Int32)), .val (.int off), .val (.ref b448), .val (.ref b449), .val (.ref vw), .val (.int ((pl_end p1 (0 : Int32)) + (2 : Int32))), .val (.int ((pl_end p2 (0 : Int32)) + (2 : Int32))), .val (.int (0 : Int32)), .val (.int (0 : Int32)), .val (.int p1), .val (.int (0 : Int32)), .val (.int (0 : Int32))] [(.int (pl_fs (0 : Int32) (0 : Int32) (0 : Int32)))])
                refine own_iload X455 hx (hb hby at_216) rfl ?_
                refine own_icmp X455 hx (hb hby at_218) (pc' := 225) (by decide) (by decide) (fun hc => ?_) (fun hc => ?_)
                · have hc218 : ¬ (pl_fs (0 : Int32) (0 : Int32) (0 : Int32)) = (0 : Int32) := own_ne1 hc
                  exact absurd (by simp only [pl_fs, Int32.zero_add, if_true, if_false, show ((0 : Int32) = 0) = True from by decide]) hc218
                · have hc218 : (pl_fs (0 : Int32) (0 : Int32) (0 : Int32)) = (0 : Int32) := own_ne0 hc
                  clear hc
                  refine own_iconst X455 hx (1 : Int32) (hb hby at_221) rfl ?_
                  refine own_goto X455 hx (hb hby at_222) (pc' := 226) (by decide) (by decide) ?_
                  show own_R p e below s _ _ _ T455 (mkF m 226 #[.val (.int p0), .val (.int p1), .val (.int p2), .val (.int p3), .val (.int p4), .val (.int (1 : Int32)), .val (.int off), .val (.ref b448), .val (.ref b449), .val (.ref vw), .val (.int ((pl_end p1 (0 : Int32)) + (2 : Int32))), .val (.int ((pl_end p2 (0 : Int32)) + (2 : Int32))), .val (.int (0 : Int32)), .val (.int (0 : Int32)), .val (.int p1), .val (.int (0 : Int32)), .val (.int (0 : Int32))] [(.int (1 : Int32))])
                  refine own_retN X455 hx (t := .boolean) Bd.returns (by simp) hlk (hb hby at_226) ?_ (by decide) (by decide)
                  exact ⟨rfl, N455⟩
      ·
        rcases hcl4 with rfl
        ·
          show own_R p e below s _ _ _ Tj (mkF m 133 #[.val (.int p0), .val (.int p1), .val (.int p2), .val (.int p3), .val (.int p4), .val (.int (1 : Int32)), .val (.int off), .val (.ref b448), .val (.ref b449), .val (.ref vw), .val (.int ((pl_end p1 (0 : Int32)) + (2 : Int32))), .val (.int ((pl_end p2 (0 : Int32)) + (2 : Int32))), .val (.int (1 : Int32)), .val (.int (0 : Int32)), .unset, .unset, .unset] [])
          refine own_iload Xj hx (hb hby at_133) rfl ?_
          refine own_if Xj hx (hb hby at_135) (pc' := 142) (by decide) (by decide) (fun hc => ?_) (fun hc => ?_)
          · have hc135 : ¬ (1 : Int32) = (0 : Int32) := own_ne1 hc
            clear hc
            refine own_iload Xj hx (hb hby at_142) rfl ?_
            refine own_iconst Xj hx (1 : Int32) (hb hby at_144) rfl ?_
            refine own_icmp Xj hx (hb hby at_145) (pc' := 152) (by decide) (by decide) (fun hc => ?_) (fun hc => ?_)
            · have hc145 : ¬ (1 : Int32) = (1 : Int32) := own_ne1 hc
              exact absurd (by decide) hc145
            · have hc145 : (1 : Int32) = (1 : Int32) := own_ne0 hc
              clear hc
              refine own_iloadN Xj hx (hb hby at_148) rfl ?_
              refine own_goto Xj hx (hb hby at_149) (pc' := 153) (by decide) (by decide) ?_
              show own_R p e below s _ _ _ Tj (mkF m 153 #[.val (.int p0), .val (.int p1), .val (.int p2), .val (.int p3), .val (.int p4), .val (.int (1 : Int32)), .val (.int off), .val (.ref b448), .val (.ref b449), .val (.ref vw), .val (.int ((pl_end p1 (0 : Int32)) + (2 : Int32))), .val (.int ((pl_end p2 (0 : Int32)) + (2 : Int32))), .val (.int (1 : Int32)), .val (.int (0 : Int32)), .unset, .unset, .unset] [(.int p2)])
              refine own_istore Xj hx (hb hby at_153) (l' := #[.val (.int p0), .val (.int p1), .val (.int p2), .val (.int p3), .val (.int p4), .val (.int (1 : Int32)), .val (.int off), .val (.ref b448), .val (.ref b449), .val (.ref vw), .val (.int ((pl_end p1 (0 : Int32)) + (2 : Int32))), .val (.int ((pl_end p2 (0 : Int32)) + (2 : Int32))), .val (.int (1 : Int32)), .val (.int (0 : Int32)), .val (.int p2), .unset, .unset]) rfl ?_
              refine own_iload Xj hx (hb hby at_155) rfl ?_
              refine own_if Xj hx (hb hby at_157) (pc' := 164) (by decide) (by decide) (fun hc => ?_) (fun hc => ?_)
              · have hc157 : ¬ (1 : Int32) = (0 : Int32) := own_ne1 hc
                clear hc
                refine own_iload Xj hx (hb hby at_164) rfl ?_
                refine own_iconst Xj hx (1 : Int32) (hb hby at_166) rfl ?_
                refine own_icmp Xj hx (hb hby at_167) (pc' := 175) (by decide) (by decide) (fun hc => ?_) (fun hc => ?_)
                · have hc167 : ¬ (1 : Int32) = (1 : Int32) := own_ne1 hc
                  exact absurd (by decide) hc167
                · have hc167 : (1 : Int32) = (1 : Int32) := own_ne0 hc
                  clear hc
                  refine own_iload Xj hx (hb hby at_170) rfl ?_
                  refine own_goto Xj hx (hb hby at_172) (pc' := 180) (by decide) (by decide) ?_
                  show own_R p e below s _ _ _ Tj (mkF m 180 #[.val (.int p0), .val (.int p1), .val (.int p2), .val (.int p3), .val (.int p4), .val (.int (1 : Int32)), .val (.int off), .val (.ref b448), .val (.ref b449), .val (.ref vw), .val (.int ((pl_end p1 (0 : Int32)) + (2 : Int32))), .val (.int ((pl_end p2 (0 : Int32)) + (2 : Int32))), .val (.int (1 : Int32)), .val (.int (0 : Int32)), .val (.int p2), .unset, .unset] [(.int ((pl_end p1 (0 : Int32)) + (2 : Int32)))])
                  refine own_istore Xj hx (hb hby at_180) (l' := #[.val (.int p0), .val (.int p1), .val (.int p2), .val (.int p3), .val (.int p4), .val (.int (1 : Int32)), .val (.int off), .val (.ref b448), .val (.ref b449), .val (.ref vw), .val (.int ((pl_end p1 (0 : Int32)) + (2 : Int32))), .val (.int ((pl_end p2 (0 : Int32)) + (2 : Int32))), .val (.int (1 : Int32)), .val (.int (0 : Int32)), .val (.int p2), .val (.int ((pl_end p1 (0 : Int32)) + (2 : Int32))), .unset]) rfl ?_
                  refine own_iload Xj hx (hb hby at_182) rfl ?_
                  refine own_iload Xj hx (hb hby at_184) rfl ?_
                  refine own_if Xj hx (hb hby at_186) (pc' := 193) (by decide) (by decide) (fun hc => ?_) (fun hc => ?_)
                  · have hc186 : ¬ (0 : Int32) = (0 : Int32) := own_ne1 hc
                    exact absurd (by decide) hc186
                  · have hc186 : (0 : Int32) = (0 : Int32) := own_ne0 hc
                    clear hc
                    refine own_iconst Xj hx (0 : Int32) (hb hby at_189) rfl ?_
                    refine own_goto Xj hx (hb hby at_190) (pc' := 204) (by decide) (by decide) ?_
                    show own_R p e below s _ _ _ Tj (mkF m 204 #[.val (.int p0), .val (.int p1), .val (.int p2), .val (.int p3), .val (.int p4), .val (.int (1 : Int32)), .val (.int off), .val (.ref b448), .val (.ref b449), .val (.ref vw), .val (.int ((pl_end p1 (0 : Int32)) + (2 : Int32))), .val (.int ((pl_end p2 (0 : Int32)) + (2 : Int32))), .val (.int (1 : Int32)), .val (.int (0 : Int32)), .val (.int p2), .val (.int ((pl_end p1 (0 : Int32)) + (2 : Int32))), .unset] [(.int (0 : Int32)), (.int ((pl_end p1 (0 : Int32)) + (2 : Int32)))])
                    refine own_iadd Xj hx (hb hby at_204) ?_
                    refine own_istore Xj hx (hb hby at_205) (l' := #[.val (.int p0), .val (.int p1), .val (.int p2), .val (.int p3), .val (.int p4), .val (.int (1 : Int32)), .val (.int off), .val (.ref b448), .val (.ref b449), .val (.ref vw), .val (.int ((pl_end p1 (0 : Int32)) + (2 : Int32))), .val (.int ((pl_end p2 (0 : Int32)) + (2 : Int32))), .val (.int (1 : Int32)), .val (.int (0 : Int32)), .val (.int p2), .val (.int ((pl_end p1 (0 : Int32)) + (2 : Int32))), .val (.int (((pl_end p1 (0 : Int32)) + (2 : Int32)) + (0 : Int32)))]) rfl ?_
                    refine own_aload Xj hx (hb hby at_207) rfl rfl ?_
                    refine own_iload Xj hx (hb hby at_209) rfl ?_
                    refine own_iload Xj hx (hb hby at_211) rfl ?_
                    refine own_callV Xj hx hZ (y := my16) (z := my16) hown (hw _ (List.mem_of_getElem? (i := 136) rfl)) (hw _ (List.mem_of_getElem? (i := 137) rfl)) (notFace_of_selects (args := #[]) (mvT hZ (hw _ (List.mem_of_getElem? (i := 139) rfl)))) (hw _ (List.mem_of_getElem? (i := 139) rfl)) (hw _ (List.mem_of_getElem? (i := 138) rfl)) (hw _ (List.mem_of_getElem? (i := 3) rfl)) (hw _ (List.mem_of_getElem? (i := 140) rfl)) (by decide) (rm16 l Z a0 hw [] b449 (1 : Int32) (0 : Int32) ys yf ks kf (1 : Int32) [o0, (.int ((0 : Int32) + ((pl_end p1 (0 : Int32)) + (2 : Int32)))), (.int (((0 : Int32) + ((pl_end p1 (0 : Int32)) + (2 : Int32))) + ((pl_end p2 (0 : Int32)) + (2 : Int32)))), o0, o0, o0, o0, o0, o0, o0, o0, o0, o0, o0, o0, o0] [(.int (pl_end p1 (0 : Int32))), (.int (pl_end p2 (0 : Int32))), (.int (pl_end p3 (0 : Int32))), o0, o0, o0, o0, o0, o0, o0, o0, o0, o0, o0, o0, o0] ((0 : Int32) + ((pl_end p1 (0 : Int32)) + (2 : Int32))) (0 : Int32) gj n0 Zj jf1 jf2 jf3 jV1 jV2 (by decide) rfl (fun q => absurd rfl q) (fun q => absurd rfl q)) 0 (by decide) (by decide) ej (by rw [hml]; rfl) b449 jE [(.int (1 : Int32)), (.int (0 : Int32))] [] rfl (lenOf pd_8 rfl) rfl (Nat.le_of_eq rfl) (hb hby at_213) (by decide) (by decide) ?_
                    rintro T456 _ L456 X456 ⟨rfl, N456q, e456⟩
                    have N456 := Fr.app Nj N456q
                    show own_R p e below s _ _ _ T456 (mkF m 216 #[.val (.int p0), .val (.int p1), .val (.int p2), .val (.int p3), .val (.int p4), .val (.int (1 : Int32)), .val (.int off), .val (.ref b448), .val (.ref b449), .val (.ref vw), .val (.int ((pl_end p1 (0 : Int32)) + (2 : Int32))), .val (.int ((pl_end p2 (0 : Int32)) + (2 : Int32))), .val (.int (1 : Int32)), .val (.int (0 : Int32)), .val (.int p2), .val (.int ((pl_end p1 (0 : Int32)) + (2 : Int32))), .val (.int (((pl_end p1 (0 : Int32)) + (2 : Int32)) + (0 : Int32)))] [(.int (pl_fs ((0 : Int32) + ((pl_end p1 (0 : Int32)) + (2 : Int32))) (0 : Int32) (0 : Int32)))])
                    refine own_iload X456 hx (hb hby at_216) rfl ?_
                    refine own_icmp X456 hx (hb hby at_218) (pc' := 225) (by decide) (by decide) (fun hc => ?_) (fun hc => ?_)
                    · have hc218 : ¬ (pl_fs ((0 : Int32) + ((pl_end p1 (0 : Int32)) + (2 : Int32))) (0 : Int32) (0 : Int32)) = (((pl_end p1 (0 : Int32)) + (2 : Int32)) + (0 : Int32)) := own_ne1 hc
                      exact absurd (by simp only [pl_fs, Int32.zero_add, if_true, if_false, show ((0 : Int32) = 0) = True from by decide]) hc218
                    · have hc218 : (pl_fs ((0 : Int32) + ((pl_end p1 (0 : Int32)) + (2 : Int32))) (0 : Int32) (0 : Int32)) = (((pl_end p1 (0 : Int32)) + (2 : Int32)) + (0 : Int32)) := own_ne0 hc
                      clear hc
                      refine own_iconst X456 hx (1 : Int32) (hb hby at_221) rfl ?_
                      refine own_goto X456 hx (hb hby at_222) (pc' := 226) (by decide) (by decide) ?_
                      show own_R p e below s _ _ _ T456 (mkF m 226 #[.val (.int p0), .val (.int p1), .val (.int p2), .val (.int p3), .val (.int p4), .val (.int (1 : Int32)), .val (.int off), .val (.ref b448), .val (.ref b449), .val (.ref vw), .val (.int ((pl_end p1 (0 : Int32)) + (2 : Int32))), .val (.int ((pl_end p2 (0 : Int32)) + (2 : Int32))), .val (.int (1 : Int32)), .val (.int (0 : Int32)), .val (.int p2), .val (.int ((pl_end p1 (0 : Int32)) + (2 : Int32))), .val (.int (((pl_end p1 (0 : Int32)) + (2 : Int32)) + (0 : Int32)))] [(.int (1 : Int32))])
                      refine own_retN X456 hx (t := .boolean) Bd.returns (by simp) hlk (hb hby at_226) ?_ (by decide) (by decide)
                      exact ⟨rfl, N456⟩
              · have hc157 : (1 : Int32) = (0 : Int32) := own_ne0 hc
                exact absurd hc157 (by decide)
          · have hc135 : (1 : Int32) = (0 : Int32) := own_ne0 hc
            exact absurd hc135 (by decide)
      ·
        rcases hcl4 with rfl
        ·
          show own_R p e below s _ _ _ Tj (mkF m 133 #[.val (.int p0), .val (.int p1), .val (.int p2), .val (.int p3), .val (.int p4), .val (.int (1 : Int32)), .val (.int off), .val (.ref b448), .val (.ref b449), .val (.ref vw), .val (.int ((pl_end p1 (0 : Int32)) + (2 : Int32))), .val (.int ((pl_end p2 (0 : Int32)) + (2 : Int32))), .val (.int (2 : Int32)), .val (.int (0 : Int32)), .unset, .unset, .unset] [])
          refine own_iload Xj hx (hb hby at_133) rfl ?_
          refine own_if Xj hx (hb hby at_135) (pc' := 142) (by decide) (by decide) (fun hc => ?_) (fun hc => ?_)
          · have hc135 : ¬ (2 : Int32) = (0 : Int32) := own_ne1 hc
            clear hc
            refine own_iload Xj hx (hb hby at_142) rfl ?_
            refine own_iconst Xj hx (1 : Int32) (hb hby at_144) rfl ?_
            refine own_icmp Xj hx (hb hby at_145) (pc' := 152) (by decide) (by decide) (fun hc => ?_) (fun hc => ?_)
            · have hc145 : ¬ (2 : Int32) = (1 : Int32) := own_ne1 hc
              clear hc
              refine own_iloadN Xj hx (hb hby at_152) rfl ?_
              refine own_istore Xj hx (hb hby at_153) (l' := #[.val (.int p0), .val (.int p1), .val (.int p2), .val (.int p3), .val (.int p4), .val (.int (1 : Int32)), .val (.int off), .val (.ref b448), .val (.ref b449), .val (.ref vw), .val (.int ((pl_end p1 (0 : Int32)) + (2 : Int32))), .val (.int ((pl_end p2 (0 : Int32)) + (2 : Int32))), .val (.int (2 : Int32)), .val (.int (0 : Int32)), .val (.int p3), .unset, .unset]) rfl ?_
              refine own_iload Xj hx (hb hby at_155) rfl ?_
              refine own_if Xj hx (hb hby at_157) (pc' := 164) (by decide) (by decide) (fun hc => ?_) (fun hc => ?_)
              · have hc157 : ¬ (2 : Int32) = (0 : Int32) := own_ne1 hc
                clear hc
                refine own_iload Xj hx (hb hby at_164) rfl ?_
                refine own_iconst Xj hx (1 : Int32) (hb hby at_166) rfl ?_
                refine own_icmp Xj hx (hb hby at_167) (pc' := 175) (by decide) (by decide) (fun hc => ?_) (fun hc => ?_)
                · have hc167 : ¬ (2 : Int32) = (1 : Int32) := own_ne1 hc
                  clear hc
                  refine own_iload Xj hx (hb hby at_175) rfl ?_
                  refine own_iload Xj hx (hb hby at_177) rfl ?_
                  refine own_iadd Xj hx (hb hby at_179) ?_
                  refine own_istore Xj hx (hb hby at_180) (l' := #[.val (.int p0), .val (.int p1), .val (.int p2), .val (.int p3), .val (.int p4), .val (.int (1 : Int32)), .val (.int off), .val (.ref b448), .val (.ref b449), .val (.ref vw), .val (.int ((pl_end p1 (0 : Int32)) + (2 : Int32))), .val (.int ((pl_end p2 (0 : Int32)) + (2 : Int32))), .val (.int (2 : Int32)), .val (.int (0 : Int32)), .val (.int p3), .val (.int (((pl_end p1 (0 : Int32)) + (2 : Int32)) + ((pl_end p2 (0 : Int32)) + (2 : Int32)))), .unset]) rfl ?_
                  refine own_iload Xj hx (hb hby at_182) rfl ?_
                  refine own_iload Xj hx (hb hby at_184) rfl ?_
                  refine own_if Xj hx (hb hby at_186) (pc' := 193) (by decide) (by decide) (fun hc => ?_) (fun hc => ?_)
                  · have hc186 : ¬ (0 : Int32) = (0 : Int32) := own_ne1 hc
                    exact absurd (by decide) hc186
                  · have hc186 : (0 : Int32) = (0 : Int32) := own_ne0 hc
                    clear hc
                    refine own_iconst Xj hx (0 : Int32) (hb hby at_189) rfl ?_
                    refine own_goto Xj hx (hb hby at_190) (pc' := 204) (by decide) (by decide) ?_
                    show own_R p e below s _ _ _ Tj (mkF m 204 #[.val (.int p0), .val (.int p1), .val (.int p2), .val (.int p3), .val (.int p4), .val (.int (1 : Int32)), .val (.int off), .val (.ref b448), .val (.ref b449), .val (.ref vw), .val (.int ((pl_end p1 (0 : Int32)) + (2 : Int32))), .val (.int ((pl_end p2 (0 : Int32)) + (2 : Int32))), .val (.int (2 : Int32)), .val (.int (0 : Int32)), .val (.int p3), .val (.int (((pl_end p1 (0 : Int32)) + (2 : Int32)) + ((pl_end p2 (0 : Int32)) + (2 : Int32)))), .unset] [(.int (0 : Int32)), (.int (((pl_end p1 (0 : Int32)) + (2 : Int32)) + ((pl_end p2 (0 : Int32)) + (2 : Int32))))])
                    refine own_iadd Xj hx (hb hby at_204) ?_
                    refine own_istore Xj hx (hb hby at_205) (l' := #[.val (.int p0), .val (.int p1), .val (.int p2), .val (.int p3), .val (.int p4), .val (.int (1 : Int32)), .val (.int off), .val (.ref b448), .val (.ref b449), .val (.ref vw), .val (.int ((pl_end p1 (0 : Int32)) + (2 : Int32))), .val (.int ((pl_end p2 (0 : Int32)) + (2 : Int32))), .val (.int (2 : Int32)), .val (.int (0 : Int32)), .val (.int p3), .val (.int (((pl_end p1 (0 : Int32)) + (2 : Int32)) + ((pl_end p2 (0 : Int32)) + (2 : Int32)))), .val (.int ((((pl_end p1 (0 : Int32)) + (2 : Int32)) + ((pl_end p2 (0 : Int32)) + (2 : Int32))) + (0 : Int32)))]) rfl ?_
                    refine own_aload Xj hx (hb hby at_207) rfl rfl ?_
                    refine own_iload Xj hx (hb hby at_209) rfl ?_
                    refine own_iload Xj hx (hb hby at_211) rfl ?_
                    refine own_callV Xj hx hZ (y := my16) (z := my16) hown (hw _ (List.mem_of_getElem? (i := 136) rfl)) (hw _ (List.mem_of_getElem? (i := 137) rfl)) (notFace_of_selects (args := #[]) (mvT hZ (hw _ (List.mem_of_getElem? (i := 139) rfl)))) (hw _ (List.mem_of_getElem? (i := 139) rfl)) (hw _ (List.mem_of_getElem? (i := 138) rfl)) (hw _ (List.mem_of_getElem? (i := 3) rfl)) (hw _ (List.mem_of_getElem? (i := 140) rfl)) (by decide) (rm16 l Z a0 hw [] b449 (2 : Int32) (0 : Int32) ys yf ks kf (1 : Int32) [o0, (.int ((0 : Int32) + ((pl_end p1 (0 : Int32)) + (2 : Int32)))), (.int (((0 : Int32) + ((pl_end p1 (0 : Int32)) + (2 : Int32))) + ((pl_end p2 (0 : Int32)) + (2 : Int32)))), o0, o0, o0, o0, o0, o0, o0, o0, o0, o0, o0, o0, o0] [(.int (pl_end p1 (0 : Int32))), (.int (pl_end p2 (0 : Int32))), (.int (pl_end p3 (0 : Int32))), o0, o0, o0, o0, o0, o0, o0, o0, o0, o0, o0, o0, o0] (((0 : Int32) + ((pl_end p1 (0 : Int32)) + (2 : Int32))) + ((pl_end p2 (0 : Int32)) + (2 : Int32))) (0 : Int32) gj n0 Zj jf1 jf2 jf3 jV1 jV2 (by decide) rfl (fun q => absurd rfl q) (fun q => absurd rfl q)) 0 (by decide) (by decide) ej (by rw [hml]; rfl) b449 jE [(.int (2 : Int32)), (.int (0 : Int32))] [] rfl (lenOf pd_8 rfl) rfl (Nat.le_of_eq rfl) (hb hby at_213) (by decide) (by decide) ?_
                    rintro T457 _ L457 X457 ⟨rfl, N457q, e457⟩
                    have N457 := Fr.app Nj N457q
                    show own_R p e below s _ _ _ T457 (mkF m 216 #[.val (.int p0), .val (.int p1), .val (.int p2), .val (.int p3), .val (.int p4), .val (.int (1 : Int32)), .val (.int off), .val (.ref b448), .val (.ref b449), .val (.ref vw), .val (.int ((pl_end p1 (0 : Int32)) + (2 : Int32))), .val (.int ((pl_end p2 (0 : Int32)) + (2 : Int32))), .val (.int (2 : Int32)), .val (.int (0 : Int32)), .val (.int p3), .val (.int (((pl_end p1 (0 : Int32)) + (2 : Int32)) + ((pl_end p2 (0 : Int32)) + (2 : Int32)))), .val (.int ((((pl_end p1 (0 : Int32)) + (2 : Int32)) + ((pl_end p2 (0 : Int32)) + (2 : Int32))) + (0 : Int32)))] [(.int (pl_fs (((0 : Int32) + ((pl_end p1 (0 : Int32)) + (2 : Int32))) + ((pl_end p2 (0 : Int32)) + (2 : Int32))) (0 : Int32) (0 : Int32)))])
                    refine own_iload X457 hx (hb hby at_216) rfl ?_
                    refine own_icmp X457 hx (hb hby at_218) (pc' := 225) (by decide) (by decide) (fun hc => ?_) (fun hc => ?_)
                    · have hc218 : ¬ (pl_fs (((0 : Int32) + ((pl_end p1 (0 : Int32)) + (2 : Int32))) + ((pl_end p2 (0 : Int32)) + (2 : Int32))) (0 : Int32) (0 : Int32)) = ((((pl_end p1 (0 : Int32)) + (2 : Int32)) + ((pl_end p2 (0 : Int32)) + (2 : Int32))) + (0 : Int32)) := own_ne1 hc
                      exact absurd (by simp only [pl_fs, Int32.zero_add, if_true, if_false, show ((0 : Int32) = 0) = True from by decide]) hc218
                    · have hc218 : (pl_fs (((0 : Int32) + ((pl_end p1 (0 : Int32)) + (2 : Int32))) + ((pl_end p2 (0 : Int32)) + (2 : Int32))) (0 : Int32) (0 : Int32)) = ((((pl_end p1 (0 : Int32)) + (2 : Int32)) + ((pl_end p2 (0 : Int32)) + (2 : Int32))) + (0 : Int32)) := own_ne0 hc
                      clear hc
                      refine own_iconst X457 hx (1 : Int32) (hb hby at_221) rfl ?_
                      refine own_goto X457 hx (hb hby at_222) (pc' := 226) (by decide) (by decide) ?_
                      show own_R p e below s _ _ _ T457 (mkF m 226 #[.val (.int p0), .val (.int p1), .val (.int p2), .val (.int p3), .val (.int p4), .val (.int (1 : Int32)), .val (.int off), .val (.ref b448), .val (.ref b449), .val (.ref vw), .val (.int ((pl_end p1 (0 : Int32)) + (2 : Int32))), .val (.int ((pl_end p2 (0 : Int32)) + (2 : Int32))), .val (.int (2 : Int32)), .val (.int (0 : Int32)), .val (.int p3), .val (.int (((pl_end p1 (0 : Int32)) + (2 : Int32)) + ((pl_end p2 (0 : Int32)) + (2 : Int32)))), .val (.int ((((pl_end p1 (0 : Int32)) + (2 : Int32)) + ((pl_end p2 (0 : Int32)) + (2 : Int32))) + (0 : Int32)))] [(.int (1 : Int32))])
                      refine own_retN X457 hx (t := .boolean) Bd.returns (by simp) hlk (hb hby at_226) ?_ (by decide) (by decide)
                      exact ⟨rfl, N457⟩
                · have hc167 : (2 : Int32) = (1 : Int32) := own_ne0 hc
                  exact absurd hc167 (by decide)
              · have hc157 : (2 : Int32) = (0 : Int32) := own_ne0 hc
                exact absurd hc157 (by decide)
            · have hc145 : (2 : Int32) = (1 : Int32) := own_ne0 hc
              exact absurd hc145 (by decide)
          · have hc135 : (2 : Int32) = (0 : Int32) := own_ne0 hc
            exact absurd hc135 (by decide)
    refine own_iloadN X451 hx (hb hby at_40) rfl ?_
    refine own_iconst X451 hx (2 : Int32) (hb hby at_41) rfl ?_
    refine own_iushr X451 hx (hb hby at_42) ?_
    refine own_iconst X451 hx (1 : Int32) (hb hby at_43) rfl ?_
    refine own_iand X451 hx (hb hby at_44) ?_
    refine own_if X451 hx (hb hby at_45) (pc' := 68) (by decide) (by decide) (fun hc => ?_) (fun hc => ?_)
    · have hc45 : (((p0.toUInt32 >>> ((2 : Int32) &&& 31).toUInt32).toInt32) &&& (1 : Int32)) = (0 : Int32) := own_eq1 hc
      clear hc
      refine own_aload X451 hx (hb hby at_68) rfl rfl ?_
      refine own_aload X451 hx (hb hby at_70) rfl rfl ?_
      refine own_aload X451 hx (hb hby at_72) rfl rfl ?_
      refine own_iload X451 hx (hb hby at_74) rfl ?_
      refine own_iloadN X451 hx (hb hby at_76) rfl ?_
      refine own_iload X451 hx (hb hby at_77) rfl ?_
      have f458 := (Exa.keep Eh450 Kc451)
      have f459 := (F450_bytes.keep Kc451 (ninS ne_b449_vw (ninS ne_b449_ye nin0)))
      have f460 := (F450_starts.keep Kc451 (ninS ne_b449_vw (ninS ne_b449_ye nin0)))
      have f461 := (F450_ascii.keep Kc451 (ninS ne_b449_vw (ninS ne_b449_ye nin0)))
      have f462 := (F450_columns.keep Kc451 (ninS ne_b449_vw (ninS ne_b449_ye nin0)))
      have f463 := (F450_fieldEnds.keep Kc451 (ninS ne_b449_vw (ninS ne_b449_ye nin0)))
      have f464 := (F450_view.keep Kc451 (ninS ne_b449_vw (ninS ne_b449_ye nin0)))
      have f465 := (F450_size.keep Kc451 (ninS ne_b449_vw (ninS ne_b449_ye nin0)))
      have f466 := (F450_length.keep Kc451 (ninS ne_b449_vw (ninS ne_b449_ye nin0)))
      have f467 := (Vb450.keep Kc451 (ninS (Ne.symm ne_vw_yb) (ninS ne_yb_ye nin0)))
      have f468 := (Vs450.keep Kc451 (ninS (Ne.symm ne_vw_ys) (ninS ne2 nin0)))
      have f469 := (Vz450.keep Kc451 (ninS (Ne.symm ne_vw_yz) (ninS ne_yz_ye nin0)))
      have f470 := (((V_b448.ext E449).keep Kc450 (ninS ne_b448_b449 nin0)).keep Kc451 (ninS ne_b448_vw (ninS ne_b448_ye nin0)))
      refine own_callS X451 hx hZ (y := my8) hown (hw _ (List.mem_of_getElem? (i := 91) rfl)) (hw _ (List.mem_of_getElem? (i := 92) rfl)) (hw _ (List.mem_of_getElem? (i := 93) rfl)) (hw _ (List.mem_of_getElem? (i := 94) rfl)) (by decide) (rm8_0 l Z a0 hw [] b449 vw b448 p1 off yb ys yz yf ye kb ks kz kf ke k448 (0 : Int32) (0 : Int32) (List.replicate 4096 o0) [o0, o0, o0, o0, o0, o0, o0, o0, o0, o0, o0, o0, o0, o0, o0, o0] [o0, o0, o0, o0, o0, o0, o0, o0, o0, o0, o0, o0, o0, o0, o0, o0] [o0, o0, o0, o0, o0, o0, o0, o0, o0, o0, o0, o0, o0, o0, o0, o0] [(.int (0 : Int32)), (.int (0 : Int32)), (.int (0 : Int32)), (.int (0 : Int32)), (.int (0 : Int32)), (.int (0 : Int32)), (.int (0 : Int32)), (.int (0 : Int32)), (.int (0 : Int32)), (.int (0 : Int32)), (.int (0 : Int32)), (.int (0 : Int32)), (.int (0 : Int32)), (.int (0 : Int32)), (.int (0 : Int32)), (.int (0 : Int32)), (.int (0 : Int32)), (.int (0 : Int32)), (.int (0 : Int32)), (.int (0 : Int32)), (.int (0 : Int32)), (.int (0 : Int32)), (.int (0 : Int32)), (.int (0 : Int32)), (.int (0 : Int32)), (.int (0 : Int32)), (.int (0 : Int32)), (.int (0 : Int32)), (.int (0 : Int32)), (.int (0 : Int32)), (.int (0 : Int32)), (.int (0 : Int32)), (.int (0 : Int32)), (.int (0 : Int32)), (.int (0 : Int32)), (.int (0 : Int32)), (.int (0 : Int32)), (.int (0 : Int32)), (.int (0 : Int32)), (.int (0 : Int32))] o0 (.int (-1 : Int32)) (.ref yb) o0 o0 T451.heap n0 (Nat.le_trans Z0 K451.1) f458 f459 f460 f461 f462 f463 f464 f465 f466 Ev451 G451_rowEnd G451_bytes G451_rowStart G451_ascii G451_fieldEnds f467 f468 f469 V_yf_454 V_ye_452 f470 ne1 ne2 ne3 (Ne.symm ne_b448_yb) n0_b449 n0_yb n0_yf n0_ys n0_yz n0_vw n0_ye (by decide) (by decide) hof rfl rfl (List.length_replicate ..) rfl) 0 (by decide) (by decide) rfl (by rw [hml]; rfl) [(.ref b449), (.ref vw), (.ref b448), (.int (1 : Int32)), (.int p1), (.int off)] [] rfl (lenOf pd_11 rfl) rfl (Nat.le_of_eq rfl) (hb hby at_79) (by decide) (by decide) ?_
      rintro T471 _ L471 X471 ⟨rfl, N471q, Kc471, Eh471, F471_bytes, F471_starts, F471_ascii, F471_columns, F471_fieldEnds, F471_view, F471_size, F471_length, ⟨bs471, lb471, Vb471⟩, Vf471, Vs471, ⟨zs471, lz471, Vz471⟩, Ev471, G471_rowEnd, G471_bytes, G471_fieldEnds, G471_rowStart, G471_ascii, Ve471⟩
      have N471 := Fr.app N451 N471q
      have K471 := K451.trans Kc471 (allS (P := fun x => x ∈ ([] : List Addr) ∨ h0.size ≤ x) (Or.inr sz_b449) (allS (P := fun x => x ∈ ([] : List Addr) ∨ h0.size ≤ x) (Or.inr sz_vw) (allS (P := fun x => x ∈ ([] : List Addr) ∨ h0.size ≤ x) (Or.inr sz_ye) (allS (P := fun x => x ∈ ([] : List Addr) ∨ h0.size ≤ x) (Or.inr sz_yb) (allS (P := fun x => x ∈ ([] : List Addr) ∨ h0.size ≤ x) (Or.inr sz_yf) (allS (P := fun x => x ∈ ([] : List Addr) ∨ h0.size ≤ x) (Or.inr sz_ys) (allS (P := fun x => x ∈ ([] : List Addr) ∨ h0.size ≤ x) (Or.inr sz_yz) all0)))))))
      show own_R p e below s _ _ _ T471 (mkF m 82 #[.val (.int p0), .val (.int p1), .val (.int p2), .val (.int p3), .val (.int p4), .val (.int (1 : Int32)), .val (.int off), .val (.ref b448), .val (.ref b449), .val (.ref vw), .unset, .unset, .unset, .unset, .unset, .unset, .unset] [(.int ((pl_end p1 (0 : Int32)) + (2 : Int32)))])
      have Fz471 : Fld Z T471.heap b449 cH "size" "I" (.int (1 : Int32)) := F471_size
      have V_ys_472 : Arv Z T471.heap ys ks .int (16 : Int32) [(.int (0 : Int32)), o0, o0, o0, o0, o0, o0, o0, o0, o0, o0, o0, o0, o0, o0, o0] o0 := Vs471
      have V_yf_473 : Arv Z T471.heap yf kf .int ((16 : Int32) * (1 : Int32)) [(.int (pl_end p1 (0 : Int32))), o0, o0, o0, o0, o0, o0, o0, o0, o0, o0, o0, o0, o0, o0, o0] o0 := Vf471
      have V_ye_474 : Arv Z T471.heap ye ke .int (1 : Int32) [(.int (pl_end p1 (0 : Int32)))] o0 := Ve471
      have hl1 : 0 ≤ ((0 : Int32) + ((pl_end p1 (0 : Int32)) + (2 : Int32))).toInt ∧ ((0 : Int32) + ((pl_end p1 (0 : Int32)) + (2 : Int32))).toInt ≤ 100 := pl_b1 p1 (0 : Int32)
      refine own_istore X471 hx (hb hby at_82) (l' := #[.val (.int p0), .val (.int p1), .val (.int p2), .val (.int p3), .val (.int p4), .val (.int (1 : Int32)), .val (.int off), .val (.ref b448), .val (.ref b449), .val (.ref vw), .val (.int ((pl_end p1 (0 : Int32)) + (2 : Int32))), .unset, .unset, .unset, .unset, .unset, .unset]) rfl ?_
      refine own_aload X471 hx (hb hby at_84) rfl rfl ?_
      refine own_aload X471 hx (hb hby at_86) rfl rfl ?_
      refine own_aload X471 hx (hb hby at_88) rfl rfl ?_
      refine own_iload X471 hx (hb hby at_90) rfl ?_
      refine own_iloadN X471 hx (hb hby at_92) rfl ?_
      refine own_iload X471 hx (hb hby at_93) rfl ?_
      have f475 := (f470.keep Kc471 (ninS ne_b448_b449 (ninS ne_b448_vw (ninS ne_b448_ye (ninS ne_b448_yb (ninS ne_b448_yf (ninS ne_b448_ys (ninS ne_b448_yz nin0))))))))
      refine own_callS X471 hx hZ (y := my8) hown (hw _ (List.mem_of_getElem? (i := 91) rfl)) (hw _ (List.mem_of_getElem? (i := 92) rfl)) (hw _ (List.mem_of_getElem? (i := 93) rfl)) (hw _ (List.mem_of_getElem? (i := 94) rfl)) (by decide) (rm8_0 l Z a0 hw [] b449 vw b448 p2 off yb ys yz yf ye kb ks kz kf ke k448 (1 : Int32) ((0 : Int32) + ((pl_end p1 (0 : Int32)) + (2 : Int32))) bs471 [(.int (0 : Int32)), o0, o0, o0, o0, o0, o0, o0, o0, o0, o0, o0, o0, o0, o0, o0] zs471 [(.int (pl_end p1 (0 : Int32))), o0, o0, o0, o0, o0, o0, o0, o0, o0, o0, o0, o0, o0, o0, o0] [(.int (0 : Int32)), (.int (0 : Int32)), (.int (0 : Int32)), (.int (0 : Int32)), (.int (0 : Int32)), (.int (0 : Int32)), (.int (0 : Int32)), (.int (0 : Int32)), (.int (0 : Int32)), (.int (0 : Int32)), (.int (0 : Int32)), (.int (0 : Int32)), (.int (0 : Int32)), (.int (0 : Int32)), (.int (0 : Int32)), (.int (0 : Int32)), (.int (0 : Int32)), (.int (0 : Int32)), (.int (0 : Int32)), (.int (0 : Int32)), (.int (0 : Int32)), (.int (0 : Int32)), (.int (0 : Int32)), (.int (0 : Int32)), (.int (0 : Int32)), (.int (0 : Int32)), (.int (0 : Int32)), (.int (0 : Int32)), (.int (0 : Int32)), (.int (0 : Int32)), (.int (0 : Int32)), (.int (0 : Int32)), (.int (0 : Int32)), (.int (0 : Int32)), (.int (0 : Int32)), (.int (0 : Int32)), (.int (0 : Int32)), (.int (0 : Int32)), (.int (0 : Int32)), (.int (0 : Int32))] (.int (pl_end p1 (0 : Int32))) (.int ((off + (pl_end p1 (0 : Int32))) + (1 : Int32))) (.ref b448) (.int off) (.int (1 : Int32)) T471.heap n0 (Nat.le_trans Z0 K471.1) Eh471 F471_bytes F471_starts F471_ascii F471_columns F471_fieldEnds F471_view Fz471 F471_length Ev471 G471_rowEnd G471_bytes G471_rowStart G471_ascii G471_fieldEnds Vb471 V_ys_472 Vz471 V_yf_473 V_ye_474 f475 ne1 ne2 ne3 (Ne.symm ne_b448_yb) n0_b449 n0_yb n0_yf n0_ys n0_yz n0_vw n0_ye (by decide) hl1 hof rfl rfl lb471 lz471) 0 (by decide) (by decide) rfl (by rw [hml]; rfl) [(.ref b449), (.ref vw), (.ref b448), (.int (1 : Int32)), (.int p2), (.int off)] [] rfl (lenOf pd_11 rfl) rfl (Nat.le_of_eq rfl) (hb hby at_95) (by decide) (by decide) ?_
      rintro T476 _ L476 X476 ⟨rfl, N476q, Kc476, Eh476, F476_bytes, F476_starts, F476_ascii, F476_columns, F476_fieldEnds, F476_view, F476_size, F476_length, ⟨bs476, lb476, Vb476⟩, Vf476, Vs476, ⟨zs476, lz476, Vz476⟩, Ev476, G476_rowEnd, G476_bytes, G476_fieldEnds, G476_rowStart, G476_ascii, Ve476⟩
      have N476 := Fr.app N471 N476q
      have K476 := K471.trans Kc476 (allS (P := fun x => x ∈ ([] : List Addr) ∨ h0.size ≤ x) (Or.inr sz_b449) (allS (P := fun x => x ∈ ([] : List Addr) ∨ h0.size ≤ x) (Or.inr sz_vw) (allS (P := fun x => x ∈ ([] : List Addr) ∨ h0.size ≤ x) (Or.inr sz_ye) (allS (P := fun x => x ∈ ([] : List Addr) ∨ h0.size ≤ x) (Or.inr sz_yb) (allS (P := fun x => x ∈ ([] : List Addr) ∨ h0.size ≤ x) (Or.inr sz_yf) (allS (P := fun x => x ∈ ([] : List Addr) ∨ h0.size ≤ x) (Or.inr sz_ys) (allS (P := fun x => x ∈ ([] : List Addr) ∨ h0.size ≤ x) (Or.inr sz_yz) all0)))))))
      show own_R p e below s _ _ _ T476 (mkF m 98 #[.val (.int p0), .val (.int p1), .val (.int p2), .val (.int p3), .val (.int p4), .val (.int (1 : Int32)), .val (.int off), .val (.ref b448), .val (.ref b449), .val (.ref vw), .val (.int ((pl_end p1 (0 : Int32)) + (2 : Int32))), .unset, .unset, .unset, .unset, .unset, .unset] [(.int ((pl_end p2 (0 : Int32)) + (2 : Int32)))])
      have Fz476 : Fld Z T476.heap b449 cH "size" "I" (.int (2 : Int32)) := F476_size
      have V_ys_477 : Arv Z T476.heap ys ks .int (16 : Int32) [(.int (0 : Int32)), (.int ((0 : Int32) + ((pl_end p1 (0 : Int32)) + (2 : Int32)))), o0, o0, o0, o0, o0, o0, o0, o0, o0, o0, o0, o0, o0, o0] o0 := Vs476
      have V_yf_478 : Arv Z T476.heap yf kf .int ((16 : Int32) * (1 : Int32)) [(.int (pl_end p1 (0 : Int32))), (.int (pl_end p2 (0 : Int32))), o0, o0, o0, o0, o0, o0, o0, o0, o0, o0, o0, o0, o0, o0] o0 := Vf476
      have V_ye_479 : Arv Z T476.heap ye ke .int (1 : Int32) [(.int (pl_end p2 (0 : Int32)))] o0 := Ve476
      have hl2 : 0 ≤ (((0 : Int32) + ((pl_end p1 (0 : Int32)) + (2 : Int32))) + ((pl_end p2 (0 : Int32)) + (2 : Int32))).toInt ∧ (((0 : Int32) + ((pl_end p1 (0 : Int32)) + (2 : Int32))) + ((pl_end p2 (0 : Int32)) + (2 : Int32))).toInt ≤ 100 := pl_b2 p1 p2 (0 : Int32)
      refine own_istore X476 hx (hb hby at_98) (l' := #[.val (.int p0), .val (.int p1), .val (.int p2), .val (.int p3), .val (.int p4), .val (.int (1 : Int32)), .val (.int off), .val (.ref b448), .val (.ref b449), .val (.ref vw), .val (.int ((pl_end p1 (0 : Int32)) + (2 : Int32))), .val (.int ((pl_end p2 (0 : Int32)) + (2 : Int32))), .unset, .unset, .unset, .unset, .unset]) rfl ?_
      refine own_aload X476 hx (hb hby at_100) rfl rfl ?_
      refine own_aload X476 hx (hb hby at_102) rfl rfl ?_
      refine own_aload X476 hx (hb hby at_104) rfl rfl ?_
      refine own_iload X476 hx (hb hby at_106) rfl ?_
      refine own_iloadN X476 hx (hb hby at_108) rfl ?_
      refine own_iload X476 hx (hb hby at_109) rfl ?_
      have f480 := (f475.keep Kc476 (ninS ne_b448_b449 (ninS ne_b448_vw (ninS ne_b448_ye (ninS ne_b448_yb (ninS ne_b448_yf (ninS ne_b448_ys (ninS ne_b448_yz nin0))))))))
      refine own_callS X476 hx hZ (y := my8) hown (hw _ (List.mem_of_getElem? (i := 91) rfl)) (hw _ (List.mem_of_getElem? (i := 92) rfl)) (hw _ (List.mem_of_getElem? (i := 93) rfl)) (hw _ (List.mem_of_getElem? (i := 94) rfl)) (by decide) (rm8_0 l Z a0 hw [] b449 vw b448 p3 off yb ys yz yf ye kb ks kz kf ke k448 (2 : Int32) (((0 : Int32) + ((pl_end p1 (0 : Int32)) + (2 : Int32))) + ((pl_end p2 (0 : Int32)) + (2 : Int32))) bs476 [(.int (0 : Int32)), (.int ((0 : Int32) + ((pl_end p1 (0 : Int32)) + (2 : Int32)))), o0, o0, o0, o0, o0, o0, o0, o0, o0, o0, o0, o0, o0, o0] zs476 [(.int (pl_end p1 (0 : Int32))), (.int (pl_end p2 (0 : Int32))), o0, o0, o0, o0, o0, o0, o0, o0, o0, o0, o0, o0, o0, o0] [(.int (0 : Int32)), (.int (0 : Int32)), (.int (0 : Int32)), (.int (0 : Int32)), (.int (0 : Int32)), (.int (0 : Int32)), (.int (0 : Int32)), (.int (0 : Int32)), (.int (0 : Int32)), (.int (0 : Int32)), (.int (0 : Int32)), (.int (0 : Int32)), (.int (0 : Int32)), (.int (0 : Int32)), (.int (0 : Int32)), (.int (0 : Int32)), (.int (0 : Int32)), (.int (0 : Int32)), (.int (0 : Int32)), (.int (0 : Int32)), (.int (0 : Int32)), (.int (0 : Int32)), (.int (0 : Int32)), (.int (0 : Int32)), (.int (0 : Int32)), (.int (0 : Int32)), (.int (0 : Int32)), (.int (0 : Int32)), (.int (0 : Int32)), (.int (0 : Int32)), (.int (0 : Int32)), (.int (0 : Int32)), (.int (0 : Int32)), (.int (0 : Int32)), (.int (0 : Int32)), (.int (0 : Int32)), (.int (0 : Int32)), (.int (0 : Int32)), (.int (0 : Int32)), (.int (0 : Int32))] (.int (pl_end p2 (0 : Int32))) (.int ((off + (pl_end p2 (0 : Int32))) + (1 : Int32))) (.ref b448) (.int off) (.int (1 : Int32)) T476.heap n0 (Nat.le_trans Z0 K476.1) Eh476 F476_bytes F476_starts F476_ascii F476_columns F476_fieldEnds F476_view Fz476 F476_length Ev476 G476_rowEnd G476_bytes G476_rowStart G476_ascii G476_fieldEnds Vb476 V_ys_477 Vz476 V_yf_478 V_ye_479 f480 ne1 ne2 ne3 (Ne.symm ne_b448_yb) n0_b449 n0_yb n0_yf n0_ys n0_yz n0_vw n0_ye (by decide) hl2 hof rfl rfl lb476 lz476) 0 (by decide) (by decide) rfl (by rw [hml]; rfl) [(.ref b449), (.ref vw), (.ref b448), (.int (1 : Int32)), (.int p3), (.int off)] [] rfl (lenOf pd_11 rfl) rfl (Nat.le_of_eq rfl) (hb hby at_111) (by decide) (by decide) ?_
      rintro T481 _ L481 X481 ⟨rfl, N481q, Kc481, Eh481, F481_bytes, F481_starts, F481_ascii, F481_columns, F481_fieldEnds, F481_view, F481_size, F481_length, ⟨bs481, lb481, Vb481⟩, Vf481, Vs481, ⟨zs481, lz481, Vz481⟩, Ev481, G481_rowEnd, G481_bytes, G481_fieldEnds, G481_rowStart, G481_ascii, Ve481⟩
      have N481 := Fr.app N476 N481q
      have K481 := K476.trans Kc481 (allS (P := fun x => x ∈ ([] : List Addr) ∨ h0.size ≤ x) (Or.inr sz_b449) (allS (P := fun x => x ∈ ([] : List Addr) ∨ h0.size ≤ x) (Or.inr sz_vw) (allS (P := fun x => x ∈ ([] : List Addr) ∨ h0.size ≤ x) (Or.inr sz_ye) (allS (P := fun x => x ∈ ([] : List Addr) ∨ h0.size ≤ x) (Or.inr sz_yb) (allS (P := fun x => x ∈ ([] : List Addr) ∨ h0.size ≤ x) (Or.inr sz_yf) (allS (P := fun x => x ∈ ([] : List Addr) ∨ h0.size ≤ x) (Or.inr sz_ys) (allS (P := fun x => x ∈ ([] : List Addr) ∨ h0.size ≤ x) (Or.inr sz_yz) all0)))))))
      show own_R p e below s _ _ _ T481 (mkF m 114 #[.val (.int p0), .val (.int p1), .val (.int p2), .val (.int p3), .val (.int p4), .val (.int (1 : Int32)), .val (.int off), .val (.ref b448), .val (.ref b449), .val (.ref vw), .val (.int ((pl_end p1 (0 : Int32)) + (2 : Int32))), .val (.int ((pl_end p2 (0 : Int32)) + (2 : Int32))), .unset, .unset, .unset, .unset, .unset] [(.int ((pl_end p3 (0 : Int32)) + (2 : Int32)))])
      have Fz481 : Fld Z T481.heap b449 cH "size" "I" (.int (3 : Int32)) := F481_size
      have V_ys_482 : Arv Z T481.heap ys ks .int (16 : Int32) [(.int (0 : Int32)), (.int ((0 : Int32) + ((pl_end p1 (0 : Int32)) + (2 : Int32)))), (.int (((0 : Int32) + ((pl_end p1 (0 : Int32)) + (2 : Int32))) + ((pl_end p2 (0 : Int32)) + (2 : Int32)))), o0, o0, o0, o0, o0, o0, o0, o0, o0, o0, o0, o0, o0] o0 := Vs481
      have V_yf_483 : Arv Z T481.heap yf kf .int ((16 : Int32) * (1 : Int32)) [(.int (pl_end p1 (0 : Int32))), (.int (pl_end p2 (0 : Int32))), (.int (pl_end p3 (0 : Int32))), o0, o0, o0, o0, o0, o0, o0, o0, o0, o0, o0, o0, o0] o0 := Vf481
      have V_ye_484 : Arv Z T481.heap ye ke .int (1 : Int32) [(.int (pl_end p3 (0 : Int32)))] o0 := Ve481
      refine own_pop X481 hx (hb hby at_114) rfl ?_
      exact J115 _ _ _ X481 rfl N481 (Nat.le_trans Z0 K481.1) F481_starts F481_fieldEnds F481_columns Eh481 V_ys_482 V_yf_483
    · have hc45 : ¬ (((p0.toUInt32 >>> ((2 : Int32) &&& 31).toUInt32).toInt32) &&& (1 : Int32)) = (0 : Int32) := own_eq0 hc
      clear hc
      refine own_aload X451 hx (hb hby at_48) rfl rfl ?_
      refine own_aload X451 hx (hb hby at_50) rfl rfl ?_
      refine own_aload X451 hx (hb hby at_52) rfl rfl ?_
      refine own_iload X451 hx (hb hby at_54) rfl ?_
      refine own_iloadN X451 hx (hb hby at_56) rfl ?_
      refine own_iload X451 hx (hb hby at_57) rfl ?_
      have f485 := (Exa.keep Eh450 Kc451)
      have f486 := (F450_bytes.keep Kc451 (ninS ne_b449_vw (ninS ne_b449_ye nin0)))
      have f487 := (F450_starts.keep Kc451 (ninS ne_b449_vw (ninS ne_b449_ye nin0)))
      have f488 := (F450_ascii.keep Kc451 (ninS ne_b449_vw (ninS ne_b449_ye nin0)))
      have f489 := (F450_columns.keep Kc451 (ninS ne_b449_vw (ninS ne_b449_ye nin0)))
      have f490 := (F450_fieldEnds.keep Kc451 (ninS ne_b449_vw (ninS ne_b449_ye nin0)))
      have f491 := (F450_view.keep Kc451 (ninS ne_b449_vw (ninS ne_b449_ye nin0)))
      have f492 := (F450_size.keep Kc451 (ninS ne_b449_vw (ninS ne_b449_ye nin0)))
      have f493 := (F450_length.keep Kc451 (ninS ne_b449_vw (ninS ne_b449_ye nin0)))
      have f494 := (Vb450.keep Kc451 (ninS (Ne.symm ne_vw_yb) (ninS ne_yb_ye nin0)))
      have f495 := (Vs450.keep Kc451 (ninS (Ne.symm ne_vw_ys) (ninS ne2 nin0)))
      have f496 := (Vz450.keep Kc451 (ninS (Ne.symm ne_vw_yz) (ninS ne_yz_ye nin0)))
      have f497 := (((V_b448.ext E449).keep Kc450 (ninS ne_b448_b449 nin0)).keep Kc451 (ninS ne_b448_vw (ninS ne_b448_ye nin0)))
      refine own_callS X451 hx hZ (y := my8) hown (hw _ (List.mem_of_getElem? (i := 91) rfl)) (hw _ (List.mem_of_getElem? (i := 92) rfl)) (hw _ (List.mem_of_getElem? (i := 93) rfl)) (hw _ (List.mem_of_getElem? (i := 94) rfl)) (by decide) (rm8_0 l Z a0 hw [] b449 vw b448 p3 off yb ys yz yf ye kb ks kz kf ke k448 (0 : Int32) (0 : Int32) (List.replicate 4096 o0) [o0, o0, o0, o0, o0, o0, o0, o0, o0, o0, o0, o0, o0, o0, o0, o0] [o0, o0, o0, o0, o0, o0, o0, o0, o0, o0, o0, o0, o0, o0, o0, o0] [o0, o0, o0, o0, o0, o0, o0, o0, o0, o0, o0, o0, o0, o0, o0, o0] [(.int (0 : Int32)), (.int (0 : Int32)), (.int (0 : Int32)), (.int (0 : Int32)), (.int (0 : Int32)), (.int (0 : Int32)), (.int (0 : Int32)), (.int (0 : Int32)), (.int (0 : Int32)), (.int (0 : Int32)), (.int (0 : Int32)), (.int (0 : Int32)), (.int (0 : Int32)), (.int (0 : Int32)), (.int (0 : Int32)), (.int (0 : Int32)), (.int (0 : Int32)), (.int (0 : Int32)), (.int (0 : Int32)), (.int (0 : Int32)), (.int (0 : Int32)), (.int (0 : Int32)), (.int (0 : Int32)), (.int (0 : Int32)), (.int (0 : Int32)), (.int (0 : Int32)), (.int (0 : Int32)), (.int (0 : Int32)), (.int (0 : Int32)), (.int (0 : Int32)), (.int (0 : Int32)), (.int (0 : Int32)), (.int (0 : Int32)), (.int (0 : Int32)), (.int (0 : Int32)), (.int (0 : Int32)), (.int (0 : Int32)), (.int (0 : Int32)), (.int (0 : Int32)), (.int (0 : Int32))] o0 (.int (-1 : Int32)) (.ref yb) o0 o0 T451.heap n0 (Nat.le_trans Z0 K451.1) f485 f486 f487 f488 f489 f490 f491 f492 f493 Ev451 G451_rowEnd G451_bytes G451_rowStart G451_ascii G451_fieldEnds f494 f495 f496 V_yf_454 V_ye_452 f497 ne1 ne2 ne3 (Ne.symm ne_b448_yb) n0_b449 n0_yb n0_yf n0_ys n0_yz n0_vw n0_ye (by decide) (by decide) hof rfl rfl (List.length_replicate ..) rfl) 0 (by decide) (by decide) rfl (by rw [hml]; rfl) [(.ref b449), (.ref vw), (.ref b448), (.int (1 : Int32)), (.int p3), (.int off)] [] rfl (lenOf pd_11 rfl) rfl (Nat.le_of_eq rfl) (hb hby at_59) (by decide) (by decide) ?_
      rintro T498 _ L498 X498 ⟨rfl, N498q, Kc498, Eh498, F498_bytes, F498_starts, F498_ascii, F498_columns, F498_fieldEnds, F498_view, F498_size, F498_length, ⟨bs498, lb498, Vb498⟩, Vf498, Vs498, ⟨zs498, lz498, Vz498⟩, Ev498, G498_rowEnd, G498_bytes, G498_fieldEnds, G498_rowStart, G498_ascii, Ve498⟩
      have N498 := Fr.app N451 N498q
      have K498 := K451.trans Kc498 (allS (P := fun x => x ∈ ([] : List Addr) ∨ h0.size ≤ x) (Or.inr sz_b449) (allS (P := fun x => x ∈ ([] : List Addr) ∨ h0.size ≤ x) (Or.inr sz_vw) (allS (P := fun x => x ∈ ([] : List Addr) ∨ h0.size ≤ x) (Or.inr sz_ye) (allS (P := fun x => x ∈ ([] : List Addr) ∨ h0.size ≤ x) (Or.inr sz_yb) (allS (P := fun x => x ∈ ([] : List Addr) ∨ h0.size ≤ x) (Or.inr sz_yf) (allS (P := fun x => x ∈ ([] : List Addr) ∨ h0.size ≤ x) (Or.inr sz_ys) (allS (P := fun x => x ∈ ([] : List Addr) ∨ h0.size ≤ x) (Or.inr sz_yz) all0)))))))
      show own_R p e below s _ _ _ T498 (mkF m 62 #[.val (.int p0), .val (.int p1), .val (.int p2), .val (.int p3), .val (.int p4), .val (.int (1 : Int32)), .val (.int off), .val (.ref b448), .val (.ref b449), .val (.ref vw), .unset, .unset, .unset, .unset, .unset, .unset, .unset] [(.int ((pl_end p3 (0 : Int32)) + (2 : Int32)))])
      have Fz498 : Fld Z T498.heap b449 cH "size" "I" (.int (1 : Int32)) := F498_size
      have V_ys_499 : Arv Z T498.heap ys ks .int (16 : Int32) [(.int (0 : Int32)), o0, o0, o0, o0, o0, o0, o0, o0, o0, o0, o0, o0, o0, o0, o0] o0 := Vs498
      have V_yf_500 : Arv Z T498.heap yf kf .int ((16 : Int32) * (1 : Int32)) [(.int (pl_end p3 (0 : Int32))), o0, o0, o0, o0, o0, o0, o0, o0, o0, o0, o0, o0, o0, o0, o0] o0 := Vf498
      have V_ye_501 : Arv Z T498.heap ye ke .int (1 : Int32) [(.int (pl_end p3 (0 : Int32)))] o0 := Ve498
      refine own_pop X498 hx (hb hby at_62) rfl ?_
      refine own_aload X498 hx (hb hby at_63) rfl rfl ?_
      refine own_callV X498 hx hZ (y := my17) (z := my17) hown (hw _ (List.mem_of_getElem? (i := 141) rfl)) (hw _ (List.mem_of_getElem? (i := 142) rfl)) (notFace_of_selects (args := #[]) (mvT hZ (hw _ (List.mem_of_getElem? (i := 144) rfl)))) (hw _ (List.mem_of_getElem? (i := 144) rfl)) (hw _ (List.mem_of_getElem? (i := 143) rfl)) (hw _ (List.mem_of_getElem? (i := 3) rfl)) (hw _ (List.mem_of_getElem? (i := 145) rfl)) (by decide) (rm17 l Z a0 hw [] b449 vw yb ys yz yf (1 : Int32) (1 : Int32) ((0 : Int32) + ((pl_end p3 (0 : Int32)) + (2 : Int32))) T498.heap n0 (Nat.le_trans Z0 K498.1) Eh498 F498_bytes F498_starts F498_ascii F498_columns F498_fieldEnds F498_view Fz498 F498_length n0_b449) 0 (by decide) (by decide) rfl (by rw [hml]; rfl) b449 Eh498 [] [] rfl (lenOf pd_12 rfl) rfl (Nat.le_of_eq rfl) (hb hby at_65) (by decide) (by decide) ?_
      rintro T502 _ L502 X502 ⟨rfl, N502q, Kc502, Eh502, F502_bytes, F502_starts, F502_ascii, F502_columns, F502_fieldEnds, F502_view, F502_size, F502_length⟩
      have N502 := Fr.app N498 N502q
      have K502 := K498.trans Kc502 (allS (P := fun x => x ∈ ([] : List Addr) ∨ h0.size ≤ x) (Or.inr sz_b449) all0)
      show own_R p e below s _ _ _ T502 (mkF m 68 #[.val (.int p0), .val (.int p1), .val (.int p2), .val (.int p3), .val (.int p4), .val (.int (1 : Int32)), .val (.int off), .val (.ref b448), .val (.ref b449), .val (.ref vw), .unset, .unset, .unset, .unset, .unset, .unset, .unset] [])
      refine own_aload X502 hx (hb hby at_68) rfl rfl ?_
      refine own_aload X502 hx (hb hby at_70) rfl rfl ?_
      refine own_aload X502 hx (hb hby at_72) rfl rfl ?_
      refine own_iload X502 hx (hb hby at_74) rfl ?_
      refine own_iloadN X502 hx (hb hby at_76) rfl ?_
      refine own_iload X502 hx (hb hby at_77) rfl ?_
      have f503 := (Exa.keep Ev498 Kc502)
      have f504 := (G498_rowEnd.keep Kc502 (ninS (Ne.symm ne_b449_vw) nin0))
      have f505 := (G498_bytes.keep Kc502 (ninS (Ne.symm ne_b449_vw) nin0))
      have f506 := (G498_rowStart.keep Kc502 (ninS (Ne.symm ne_b449_vw) nin0))
      have f507 := (G498_ascii.keep Kc502 (ninS (Ne.symm ne_b449_vw) nin0))
      have f508 := (G498_fieldEnds.keep Kc502 (ninS (Ne.symm ne_b449_vw) nin0))
      have f509 := (Vb498.keep Kc502 (ninS (Ne.symm ne_b449_yb) nin0))
      have f510 := (V_ys_499.keep Kc502 (ninS (Ne.symm ne_b449_ys) nin0))
      have f511 := (Vz498.keep Kc502 (ninS (Ne.symm ne_b449_yz) nin0))
      have f512 := (V_yf_500.keep Kc502 (ninS (Ne.symm ne_b449_yf) nin0))
      have f513 := (V_ye_501.keep Kc502 (ninS (Ne.symm ne_b449_ye) nin0))
      have f514 := ((f497.keep Kc498 (ninS ne_b448_b449 (ninS ne_b448_vw (ninS ne_b448_ye (ninS ne_b448_yb (ninS ne_b448_yf (ninS ne_b448_ys (ninS ne_b448_yz nin0)))))))).keep Kc502 (ninS ne_b448_b449 nin0))
      refine own_callS X502 hx hZ (y := my8) hown (hw _ (List.mem_of_getElem? (i := 91) rfl)) (hw _ (List.mem_of_getElem? (i := 92) rfl)) (hw _ (List.mem_of_getElem? (i := 93) rfl)) (hw _ (List.mem_of_getElem? (i := 94) rfl)) (by decide) (rm8_0 l Z a0 hw [] b449 vw b448 p1 off yb ys yz yf ye kb ks kz kf ke k448 (0 : Int32) (0 : Int32) bs498 [(.int (0 : Int32)), o0, o0, o0, o0, o0, o0, o0, o0, o0, o0, o0, o0, o0, o0, o0] zs498 [(.int (pl_end p3 (0 : Int32))), o0, o0, o0, o0, o0, o0, o0, o0, o0, o0, o0, o0, o0, o0, o0] [(.int (0 : Int32)), (.int (0 : Int32)), (.int (0 : Int32)), (.int (0 : Int32)), (.int (0 : Int32)), (.int (0 : Int32)), (.int (0 : Int32)), (.int (0 : Int32)), (.int (0 : Int32)), (.int (0 : Int32)), (.int (0 : Int32)), (.int (0 : Int32)), (.int (0 : Int32)), (.int (0 : Int32)), (.int (0 : Int32)), (.int (0 : Int32)), (.int (0 : Int32)), (.int (0 : Int32)), (.int (0 : Int32)), (.int (0 : Int32)), (.int (0 : Int32)), (.int (0 : Int32)), (.int (0 : Int32)), (.int (0 : Int32)), (.int (0 : Int32)), (.int (0 : Int32)), (.int (0 : Int32)), (.int (0 : Int32)), (.int (0 : Int32)), (.int (0 : Int32)), (.int (0 : Int32)), (.int (0 : Int32)), (.int (0 : Int32)), (.int (0 : Int32)), (.int (0 : Int32)), (.int (0 : Int32)), (.int (0 : Int32)), (.int (0 : Int32)), (.int (0 : Int32)), (.int (0 : Int32))] (.int (pl_end p3 (0 : Int32))) (.int ((off + (pl_end p3 (0 : Int32))) + (1 : Int32))) (.ref b448) (.int off) (.int (1 : Int32)) T502.heap n0 (Nat.le_trans Z0 K502.1) Eh502 F502_bytes F502_starts F502_ascii F502_columns F502_fieldEnds F502_view F502_size F502_length f503 f504 f505 f506 f507 f508 f509 f510 f511 f512 f513 f514 ne1 ne2 ne3 (Ne.symm ne_b448_yb) n0_b449 n0_yb n0_yf n0_ys n0_yz n0_vw n0_ye (by decide) (by decide) hof rfl rfl lb498 lz498) 0 (by decide) (by decide) rfl (by rw [hml]; rfl) [(.ref b449), (.ref vw), (.ref b448), (.int (1 : Int32)), (.int p1), (.int off)] [] rfl (lenOf pd_11 rfl) rfl (Nat.le_of_eq rfl) (hb hby at_79) (by decide) (by decide) ?_
      rintro T515 _ L515 X515 ⟨rfl, N515q, Kc515, Eh515, F515_bytes, F515_starts, F515_ascii, F515_columns, F515_fieldEnds, F515_view, F515_size, F515_length, ⟨bs515, lb515, Vb515⟩, Vf515, Vs515, ⟨zs515, lz515, Vz515⟩, Ev515, G515_rowEnd, G515_bytes, G515_fieldEnds, G515_rowStart, G515_ascii, Ve515⟩
      have N515 := Fr.app N502 N515q
      have K515 := K502.trans Kc515 (allS (P := fun x => x ∈ ([] : List Addr) ∨ h0.size ≤ x) (Or.inr sz_b449) (allS (P := fun x => x ∈ ([] : List Addr) ∨ h0.size ≤ x) (Or.inr sz_vw) (allS (P := fun x => x ∈ ([] : List Addr) ∨ h0.size ≤ x) (Or.inr sz_ye) (allS (P := fun x => x ∈ ([] : List Addr) ∨ h0.size ≤ x) (Or.inr sz_yb) (allS (P := fun x => x ∈ ([] : List Addr) ∨ h0.size ≤ x) (Or.inr sz_yf) (allS (P := fun x => x ∈ ([] : List Addr) ∨ h0.size ≤ x) (Or.inr sz_ys) (allS (P := fun x => x ∈ ([] : List Addr) ∨ h0.size ≤ x) (Or.inr sz_yz) all0)))))))
      show own_R p e below s _ _ _ T515 (mkF m 82 #[.val (.int p0), .val (.int p1), .val (.int p2), .val (.int p3), .val (.int p4), .val (.int (1 : Int32)), .val (.int off), .val (.ref b448), .val (.ref b449), .val (.ref vw), .unset, .unset, .unset, .unset, .unset, .unset, .unset] [(.int ((pl_end p1 (0 : Int32)) + (2 : Int32)))])
      have Fz515 : Fld Z T515.heap b449 cH "size" "I" (.int (1 : Int32)) := F515_size
      have V_ys_516 : Arv Z T515.heap ys ks .int (16 : Int32) [(.int (0 : Int32)), o0, o0, o0, o0, o0, o0, o0, o0, o0, o0, o0, o0, o0, o0, o0] o0 := Vs515
      have V_yf_517 : Arv Z T515.heap yf kf .int ((16 : Int32) * (1 : Int32)) [(.int (pl_end p1 (0 : Int32))), o0, o0, o0, o0, o0, o0, o0, o0, o0, o0, o0, o0, o0, o0, o0] o0 := Vf515
      have V_ye_518 : Arv Z T515.heap ye ke .int (1 : Int32) [(.int (pl_end p1 (0 : Int32)))] o0 := Ve515
      have hl1 : 0 ≤ ((0 : Int32) + ((pl_end p1 (0 : Int32)) + (2 : Int32))).toInt ∧ ((0 : Int32) + ((pl_end p1 (0 : Int32)) + (2 : Int32))).toInt ≤ 100 := pl_b1 p1 (0 : Int32)
      refine own_istore X515 hx (hb hby at_82) (l' := #[.val (.int p0), .val (.int p1), .val (.int p2), .val (.int p3), .val (.int p4), .val (.int (1 : Int32)), .val (.int off), .val (.ref b448), .val (.ref b449), .val (.ref vw), .val (.int ((pl_end p1 (0 : Int32)) + (2 : Int32))), .unset, .unset, .unset, .unset, .unset, .unset]) rfl ?_
      refine own_aload X515 hx (hb hby at_84) rfl rfl ?_
      refine own_aload X515 hx (hb hby at_86) rfl rfl ?_
      refine own_aload X515 hx (hb hby at_88) rfl rfl ?_
      refine own_iload X515 hx (hb hby at_90) rfl ?_
      refine own_iloadN X515 hx (hb hby at_92) rfl ?_
      refine own_iload X515 hx (hb hby at_93) rfl ?_
      have f519 := (f514.keep Kc515 (ninS ne_b448_b449 (ninS ne_b448_vw (ninS ne_b448_ye (ninS ne_b448_yb (ninS ne_b448_yf (ninS ne_b448_ys (ninS ne_b448_yz nin0))))))))
      refine own_callS X515 hx hZ (y := my8) hown (hw _ (List.mem_of_getElem? (i := 91) rfl)) (hw _ (List.mem_of_getElem? (i := 92) rfl)) (hw _ (List.mem_of_getElem? (i := 93) rfl)) (hw _ (List.mem_of_getElem? (i := 94) rfl)) (by decide) (rm8_0 l Z a0 hw [] b449 vw b448 p2 off yb ys yz yf ye kb ks kz kf ke k448 (1 : Int32) ((0 : Int32) + ((pl_end p1 (0 : Int32)) + (2 : Int32))) bs515 [(.int (0 : Int32)), o0, o0, o0, o0, o0, o0, o0, o0, o0, o0, o0, o0, o0, o0, o0] zs515 [(.int (pl_end p1 (0 : Int32))), o0, o0, o0, o0, o0, o0, o0, o0, o0, o0, o0, o0, o0, o0, o0] [(.int (0 : Int32)), (.int (0 : Int32)), (.int (0 : Int32)), (.int (0 : Int32)), (.int (0 : Int32)), (.int (0 : Int32)), (.int (0 : Int32)), (.int (0 : Int32)), (.int (0 : Int32)), (.int (0 : Int32)), (.int (0 : Int32)), (.int (0 : Int32)), (.int (0 : Int32)), (.int (0 : Int32)), (.int (0 : Int32)), (.int (0 : Int32)), (.int (0 : Int32)), (.int (0 : Int32)), (.int (0 : Int32)), (.int (0 : Int32)), (.int (0 : Int32)), (.int (0 : Int32)), (.int (0 : Int32)), (.int (0 : Int32)), (.int (0 : Int32)), (.int (0 : Int32)), (.int (0 : Int32)), (.int (0 : Int32)), (.int (0 : Int32)), (.int (0 : Int32)), (.int (0 : Int32)), (.int (0 : Int32)), (.int (0 : Int32)), (.int (0 : Int32)), (.int (0 : Int32)), (.int (0 : Int32)), (.int (0 : Int32)), (.int (0 : Int32)), (.int (0 : Int32)), (.int (0 : Int32))] (.int (pl_end p1 (0 : Int32))) (.int ((off + (pl_end p1 (0 : Int32))) + (1 : Int32))) (.ref b448) (.int off) (.int (1 : Int32)) T515.heap n0 (Nat.le_trans Z0 K515.1) Eh515 F515_bytes F515_starts F515_ascii F515_columns F515_fieldEnds F515_view Fz515 F515_length Ev515 G515_rowEnd G515_bytes G515_rowStart G515_ascii G515_fieldEnds Vb515 V_ys_516 Vz515 V_yf_517 V_ye_518 f519 ne1 ne2 ne3 (Ne.symm ne_b448_yb) n0_b449 n0_yb n0_yf n0_ys n0_yz n0_vw n0_ye (by decide) hl1 hof rfl rfl lb515 lz515) 0 (by decide) (by decide) rfl (by rw [hml]; rfl) [(.ref b449), (.ref vw), (.ref b448), (.int (1 : Int32)), (.int p2), (.int off)] [] rfl (lenOf pd_11 rfl) rfl (Nat.le_of_eq rfl) (hb hby at_95) (by decide) (by decide) ?_
      rintro T520 _ L520 X520 ⟨rfl, N520q, Kc520, Eh520, F520_bytes, F520_starts, F520_ascii, F520_columns, F520_fieldEnds, F520_view, F520_size, F520_length, ⟨bs520, lb520, Vb520⟩, Vf520, Vs520, ⟨zs520, lz520, Vz520⟩, Ev520, G520_rowEnd, G520_bytes, G520_fieldEnds, G520_rowStart, G520_ascii, Ve520⟩
      have N520 := Fr.app N515 N520q
      have K520 := K515.trans Kc520 (allS (P := fun x => x ∈ ([] : List Addr) ∨ h0.size ≤ x) (Or.inr sz_b449) (allS (P := fun x => x ∈ ([] : List Addr) ∨ h0.size ≤ x) (Or.inr sz_vw) (allS (P := fun x => x ∈ ([] : List Addr) ∨ h0.size ≤ x) (Or.inr sz_ye) (allS (P := fun x => x ∈ ([] : List Addr) ∨ h0.size ≤ x) (Or.inr sz_yb) (allS (P := fun x => x ∈ ([] : List Addr) ∨ h0.size ≤ x) (Or.inr sz_yf) (allS (P := fun x => x ∈ ([] : List Addr) ∨ h0.size ≤ x) (Or.inr sz_ys) (allS (P := fun x => x ∈ ([] : List Addr) ∨ h0.size ≤ x) (Or.inr sz_yz) all0)))))))
      show own_R p e below s _ _ _ T520 (mkF m 98 #[.val (.int p0), .val (.int p1), .val (.int p2), .val (.int p3), .val (.int p4), .val (.int (1 : Int32)), .val (.int off), .val (.ref b448), .val (.ref b449), .val (.ref vw), .val (.int ((pl_end p1 (0 : Int32)) + (2 : Int32))), .unset, .unset, .unset, .unset, .unset, .unset] [(.int ((pl_end p2 (0 : Int32)) + (2 : Int32)))])
      have Fz520 : Fld Z T520.heap b449 cH "size" "I" (.int (2 : Int32)) := F520_size
      have V_ys_521 : Arv Z T520.heap ys ks .int (16 : Int32) [(.int (0 : Int32)), (.int ((0 : Int32) + ((pl_end p1 (0 : Int32)) + (2 : Int32)))), o0, o0, o0, o0, o0, o0, o0, o0, o0, o0, o0, o0, o0, o0] o0 := Vs520
      have V_yf_522 : Arv Z T520.heap yf kf .int ((16 : Int32) * (1 : Int32)) [(.int (pl_end p1 (0 : Int32))), (.int (pl_end p2 (0 : Int32))), o0, o0, o0, o0, o0, o0, o0, o0, o0, o0, o0, o0, o0, o0] o0 := Vf520
      have V_ye_523 : Arv Z T520.heap ye ke .int (1 : Int32) [(.int (pl_end p2 (0 : Int32)))] o0 := Ve520
      have hl2 : 0 ≤ (((0 : Int32) + ((pl_end p1 (0 : Int32)) + (2 : Int32))) + ((pl_end p2 (0 : Int32)) + (2 : Int32))).toInt ∧ (((0 : Int32) + ((pl_end p1 (0 : Int32)) + (2 : Int32))) + ((pl_end p2 (0 : Int32)) + (2 : Int32))).toInt ≤ 100 := pl_b2 p1 p2 (0 : Int32)
      refine own_istore X520 hx (hb hby at_98) (l' := #[.val (.int p0), .val (.int p1), .val (.int p2), .val (.int p3), .val (.int p4), .val (.int (1 : Int32)), .val (.int off), .val (.ref b448), .val (.ref b449), .val (.ref vw), .val (.int ((pl_end p1 (0 : Int32)) + (2 : Int32))), .val (.int ((pl_end p2 (0 : Int32)) + (2 : Int32))), .unset, .unset, .unset, .unset, .unset]) rfl ?_
      refine own_aload X520 hx (hb hby at_100) rfl rfl ?_
      refine own_aload X520 hx (hb hby at_102) rfl rfl ?_
      refine own_aload X520 hx (hb hby at_104) rfl rfl ?_
      refine own_iload X520 hx (hb hby at_106) rfl ?_
      refine own_iloadN X520 hx (hb hby at_108) rfl ?_
      refine own_iload X520 hx (hb hby at_109) rfl ?_
      have f524 := (f519.keep Kc520 (ninS ne_b448_b449 (ninS ne_b448_vw (ninS ne_b448_ye (ninS ne_b448_yb (ninS ne_b448_yf (ninS ne_b448_ys (ninS ne_b448_yz nin0))))))))
      refine own_callS X520 hx hZ (y := my8) hown (hw _ (List.mem_of_getElem? (i := 91) rfl)) (hw _ (List.mem_of_getElem? (i := 92) rfl)) (hw _ (List.mem_of_getElem? (i := 93) rfl)) (hw _ (List.mem_of_getElem? (i := 94) rfl)) (by decide) (rm8_0 l Z a0 hw [] b449 vw b448 p3 off yb ys yz yf ye kb ks kz kf ke k448 (2 : Int32) (((0 : Int32) + ((pl_end p1 (0 : Int32)) + (2 : Int32))) + ((pl_end p2 (0 : Int32)) + (2 : Int32))) bs520 [(.int (0 : Int32)), (.int ((0 : Int32) + ((pl_end p1 (0 : Int32)) + (2 : Int32)))), o0, o0, o0, o0, o0, o0, o0, o0, o0, o0, o0, o0, o0, o0] zs520 [(.int (pl_end p1 (0 : Int32))), (.int (pl_end p2 (0 : Int32))), o0, o0, o0, o0, o0, o0, o0, o0, o0, o0, o0, o0, o0, o0] [(.int (0 : Int32)), (.int (0 : Int32)), (.int (0 : Int32)), (.int (0 : Int32)), (.int (0 : Int32)), (.int (0 : Int32)), (.int (0 : Int32)), (.int (0 : Int32)), (.int (0 : Int32)), (.int (0 : Int32)), (.int (0 : Int32)), (.int (0 : Int32)), (.int (0 : Int32)), (.int (0 : Int32)), (.int (0 : Int32)), (.int (0 : Int32)), (.int (0 : Int32)), (.int (0 : Int32)), (.int (0 : Int32)), (.int (0 : Int32)), (.int (0 : Int32)), (.int (0 : Int32)), (.int (0 : Int32)), (.int (0 : Int32)), (.int (0 : Int32)), (.int (0 : Int32)), (.int (0 : Int32)), (.int (0 : Int32)), (.int (0 : Int32)), (.int (0 : Int32)), (.int (0 : Int32)), (.int (0 : Int32)), (.int (0 : Int32)), (.int (0 : Int32)), (.int (0 : Int32)), (.int (0 : Int32)), (.int (0 : Int32)), (.int (0 : Int32)), (.int (0 : Int32)), (.int (0 : Int32))] (.int (pl_end p2 (0 : Int32))) (.int ((off + (pl_end p2 (0 : Int32))) + (1 : Int32))) (.ref b448) (.int off) (.int (1 : Int32)) T520.heap n0 (Nat.le_trans Z0 K520.1) Eh520 F520_bytes F520_starts F520_ascii F520_columns F520_fieldEnds F520_view Fz520 F520_length Ev520 G520_rowEnd G520_bytes G520_rowStart G520_ascii G520_fieldEnds Vb520 V_ys_521 Vz520 V_yf_522 V_ye_523 f524 ne1 ne2 ne3 (Ne.symm ne_b448_yb) n0_b449 n0_yb n0_yf n0_ys n0_yz n0_vw n0_ye (by decide) hl2 hof rfl rfl lb520 lz520) 0 (by decide) (by decide) rfl (by rw [hml]; rfl) [(.ref b449), (.ref vw), (.ref b448), (.int (1 : Int32)), (.int p3), (.int off)] [] rfl (lenOf pd_11 rfl) rfl (Nat.le_of_eq rfl) (hb hby at_111) (by decide) (by decide) ?_
      rintro T525 _ L525 X525 ⟨rfl, N525q, Kc525, Eh525, F525_bytes, F525_starts, F525_ascii, F525_columns, F525_fieldEnds, F525_view, F525_size, F525_length, ⟨bs525, lb525, Vb525⟩, Vf525, Vs525, ⟨zs525, lz525, Vz525⟩, Ev525, G525_rowEnd, G525_bytes, G525_fieldEnds, G525_rowStart, G525_ascii, Ve525⟩
      have N525 := Fr.app N520 N525q
      have K525 := K520.trans Kc525 (allS (P := fun x => x ∈ ([] : List Addr) ∨ h0.size ≤ x) (Or.inr sz_b449) (allS (P := fun x => x ∈ ([] : List Addr) ∨ h0.size ≤ x) (Or.inr sz_vw) (allS (P := fun x => x ∈ ([] : List Addr) ∨ h0.size ≤ x) (Or.inr sz_ye) (allS (P := fun x => x ∈ ([] : List Addr) ∨ h0.size ≤ x) (Or.inr sz_yb) (allS (P := fun x => x ∈ ([] : List Addr) ∨ h0.size ≤ x) (Or.inr sz_yf) (allS (P := fun x => x ∈ ([] : List Addr) ∨ h0.size ≤ x) (Or.inr sz_ys) (allS (P := fun x => x ∈ ([] : List Addr) ∨ h0.size ≤ x) (Or.inr sz_yz) all0)))))))
      show own_R p e below s _ _ _ T525 (mkF m 114 #[.val (.int p0), .val (.int p1), .val (.int p2), .val (.int p3), .val (.int p4), .val (.int (1 : Int32)), .val (.int off), .val (.ref b448), .val (.ref b449), .val (.ref vw), .val (.int ((pl_end p1 (0 : Int32)) + (2 : Int32))), .val (.int ((pl_end p2 (0 : Int32)) + (2 : Int32))), .unset, .unset, .unset, .unset, .unset] [(.int ((pl_end p3 (0 : Int32)) + (2 : Int32)))])
      have Fz525 : Fld Z T525.heap b449 cH "size" "I" (.int (3 : Int32)) := F525_size
      have V_ys_526 : Arv Z T525.heap ys ks .int (16 : Int32) [(.int (0 : Int32)), (.int ((0 : Int32) + ((pl_end p1 (0 : Int32)) + (2 : Int32)))), (.int (((0 : Int32) + ((pl_end p1 (0 : Int32)) + (2 : Int32))) + ((pl_end p2 (0 : Int32)) + (2 : Int32)))), o0, o0, o0, o0, o0, o0, o0, o0, o0, o0, o0, o0, o0] o0 := Vs525
      have V_yf_527 : Arv Z T525.heap yf kf .int ((16 : Int32) * (1 : Int32)) [(.int (pl_end p1 (0 : Int32))), (.int (pl_end p2 (0 : Int32))), (.int (pl_end p3 (0 : Int32))), o0, o0, o0, o0, o0, o0, o0, o0, o0, o0, o0, o0, o0] o0 := Vf525
      have V_ye_528 : Arv Z T525.heap ye ke .int (1 : Int32) [(.int (pl_end p3 (0 : Int32)))] o0 := Ve525
      refine own_pop X525 hx (hb hby at_114) rfl ?_
      exact J115 _ _ _ X525 rfl N525 (Nat.le_trans Z0 K525.1) F525_starts F525_fieldEnds F525_columns Eh525 V_ys_526 V_yf_527
  ·
    show own_R p e below s _ _ _ s₁ (mkF m 15 #[.val (.int p0), .val (.int p1), .val (.int p2), .val (.int p3), .val (.int p4), .val (.int (2 : Int32)), .val (.int off), .unset, .unset, .unset, .unset, .unset, .unset, .unset, .unset, .unset, .unset] [])
    refine own_bipush X0 hx (40 : Int32) (hb hby at_15) rfl ?_
    refine own_newA X0 hx hZ (hw _ (List.mem_of_getElem? (i := 0) rfl)) e0 (hb hby at_17) (by decide) 40 (by decide) (by decide) (by decide) (by decide) (ad := "[B") (by decide) 40 ?_
    intro T529 h529 b529 k529 g529 X529 e529 E529 V529 A529
    have sz_b529 : h0.size ≤ b529 := Nat.le_trans K0.1 (Nat.le_of_eq g529.symm)
    have n0_b529 : n0 ≤ b529 := Nat.le_trans Z0 sz_b529
    have K529 := K0.ext E529
    have V_b529 : Arv Z h529 b529 k529 .byte (40 : Int32) [(.int (0 : Int32)), (.int (0 : Int32)), (.int (0 : Int32)), (.int (0 : Int32)), (.int (0 : Int32)), (.int (0 : Int32)), (.int (0 : Int32)), (.int (0 : Int32)), (.int (0 : Int32)), (.int (0 : Int32)), (.int (0 : Int32)), (.int (0 : Int32)), (.int (0 : Int32)), (.int (0 : Int32)), (.int (0 : Int32)), (.int (0 : Int32)), (.int (0 : Int32)), (.int (0 : Int32)), (.int (0 : Int32)), (.int (0 : Int32)), (.int (0 : Int32)), (.int (0 : Int32)), (.int (0 : Int32)), (.int (0 : Int32)), (.int (0 : Int32)), (.int (0 : Int32)), (.int (0 : Int32)), (.int (0 : Int32)), (.int (0 : Int32)), (.int (0 : Int32)), (.int (0 : Int32)), (.int (0 : Int32)), (.int (0 : Int32)), (.int (0 : Int32)), (.int (0 : Int32)), (.int (0 : Int32)), (.int (0 : Int32)), (.int (0 : Int32)), (.int (0 : Int32)), (.int (0 : Int32))] (.int (0 : Int32)) := V529
    refine own_astore X529 hx (hb hby at_19) rfl (l' := #[.val (.int p0), .val (.int p1), .val (.int p2), .val (.int p3), .val (.int p4), .val (.int (2 : Int32)), .val (.int off), .val (.ref b529), .unset, .unset, .unset, .unset, .unset, .unset, .unset, .unset, .unset]) rfl ?_
    refine own_new X529 hx hZ hown (hw _ (List.mem_of_getElem? (i := 1) rfl)) (hw _ (List.mem_of_getElem? (i := 2) rfl)) (hw _ (List.mem_of_getElem? (i := 3) rfl)) e529 (hb hby at_21) (by decide) (by decide) ?_
    intro T530 h530 b530 g530 X530 e530 E530 A530 D530
    have ne_b529_b530 : b529 ≠ b530 := Nat.ne_of_lt (Nat.lt_of_lt_of_le V_b529.lt (Nat.le_of_eq g530.symm))
    have sz_b530 : h0.size ≤ b530 := Nat.le_trans K529.1 (Nat.le_of_eq g530.symm)
    have n0_b530 : n0 ≤ b530 := Nat.le_trans Z0 sz_b530
    have K530 := K529.ext E530
    have F_bytes_b530 : Fld Z h530 b530 "com/example/termweave/termweave/release/HeldRows" "bytes" "[B" .null := D530 (Or.inl (hw _ (List.mem_of_getElem? (i := 11) rfl))) (ty := (.array .byte)) (by decide)
    have F_starts_b530 : Fld Z h530 b530 "com/example/termweave/termweave/release/HeldRows" "starts" "[I" .null := D530 (Or.inl (hw _ (List.mem_of_getElem? (i := 14) rfl))) (ty := (.array .int)) (by decide)
    have F_ascii_b530 : Fld Z h530 b530 "com/example/termweave/termweave/release/HeldRows" "ascii" "[Z" .null := D530 (Or.inl (hw _ (List.mem_of_getElem? (i := 17) rfl))) (ty := (.array .boolean)) (by decide)
    have F_sort_b530 : Fld Z h530 b530 "com/example/termweave/termweave/release/HeldRows" "sort" "Lcom/example/termweave/termweave/release/HeldRows$Sort;" .null := D530 (Or.inr (hw _ (List.mem_of_getElem? (i := 37) rfl))) (ty := (.object "com/example/termweave/termweave/release/HeldRows$Sort")) (by decide)
    have F_columns_b530 : Fld Z h530 b530 "com/example/termweave/termweave/release/HeldRows" "columns" "I" (.int (0 : Int32)) := D530 (Or.inr (hw _ (List.mem_of_getElem? (i := 39) rfl))) (ty := .int) (by decide)
    have F_fieldEnds_b530 : Fld Z h530 b530 "com/example/termweave/termweave/release/HeldRows" "fieldEnds" "[I" .null := D530 (Or.inl (hw _ (List.mem_of_getElem? (i := 41) rfl))) (ty := (.array .int)) (by decide)
    have F_view_b530 : Fld Z h530 b530 "com/example/termweave/termweave/release/HeldRows" "view" "Lcom/example/termweave/termweave/release/HeldRows$View;" .null := D530 (Or.inr (hw _ (List.mem_of_getElem? (i := 61) rfl))) (ty := (.object "com/example/termweave/termweave/release/HeldRows$View")) (by decide)
    have F_size_b530 : Fld Z h530 b530 "com/example/termweave/termweave/release/HeldRows" "size" "I" (.int (0 : Int32)) := D530 (Or.inl (hw _ (List.mem_of_getElem? (i := 77) rfl))) (ty := .int) (by decide)
    have F_length_b530 : Fld Z h530 b530 "com/example/termweave/termweave/release/HeldRows" "length" "I" (.int (0 : Int32)) := D530 (Or.inl (hw _ (List.mem_of_getElem? (i := 79) rfl))) (ty := .int) (by decide)
    refine own_dup X530 hx (hb hby at_24) rfl ?_
    refine own_iload X530 hx (hb hby at_25) rfl ?_
    refine own_callI X530 hx hZ (y := my1) rfl hown (hw _ (List.mem_of_getElem? (i := 4) rfl)) (hw _ (List.mem_of_getElem? (i := 5) rfl)) (hw _ (List.mem_of_getElem? (i := 3) rfl)) (hw _ (List.mem_of_getElem? (i := 6) rfl)) (by decide) (rm1 l Z a0 hw [] b530 (2 : Int32) h530 n0 (Nat.le_trans Z0 K530.1) (by decide) A530 n0_b530 F_bytes_b530 F_starts_b530 F_ascii_b530 F_sort_b530 F_columns_b530 F_fieldEnds_b530 F_view_b530 F_size_b530 F_length_b530) 1 (by decide) (by decide) e530 (by rw [hml]; rfl) b530 [(.int (2 : Int32))] [(.ref b530)] rfl (lenOf pd_2 rfl) rfl (Nat.le_of_eq rfl) (hb hby at_27) (by decide) (by decide) ?_
    rintro T531 _ L531 X531 ⟨rfl, N531q, Kc531, yb, ys, yz, yf, vw, ye, kb, ks, kz, kf, ke, nc_yb, nc_ys, nc_yz, nc_yf, nc_vw, nc_ye, Eh531, F531_bytes, F531_starts, F531_ascii, F531_columns, F531_fieldEnds, F531_view, F531_size, F531_length, Ev531, G531_rowEnd, G531_bytes, G531_rowStart, G531_ascii, Fe531, Vb531, Vs531, Vz531, Vf531, Ve531, ne1, ne2, ne3⟩
    have N531 := Fr.app N0 N531q
    have K531 := K530.trans Kc531 (allS (P := fun x => x ∈ ([] : List Addr) ∨ h0.size ≤ x) (Or.inr sz_b530) all0)
    show own_R p e below s _ _ _ T531 (mkF m 30 #[.val (.int p0), .val (.int p1), .val (.int p2), .val (.int p3), .val (.int p4), .val (.int (2 : Int32)), .val (.int off), .val (.ref b529), .unset, .unset, .unset, .unset, .unset, .unset, .unset, .unset, .unset] [(.ref b530)])
    have sz_yb : h0.size ≤ yb := Nat.le_trans K530.1 nc_yb
    have n0_yb : n0 ≤ yb := Nat.le_trans Z0 sz_yb
    have ne_b529_yb : b529 ≠ yb := Nat.ne_of_lt (Nat.lt_of_lt_of_le (V_b529.ext E530).lt nc_yb)
    have sz_ys : h0.size ≤ ys := Nat.le_trans K530.1 nc_ys
    have n0_ys : n0 ≤ ys := Nat.le_trans Z0 sz_ys
    have ne_b529_ys : b529 ≠ ys := Nat.ne_of_lt (Nat.lt_of_lt_of_le (V_b529.ext E530).lt nc_ys)
    have sz_yz : h0.size ≤ yz := Nat.le_trans K530.1 nc_yz
    have n0_yz : n0 ≤ yz := Nat.le_trans Z0 sz_yz
    have ne_b529_yz : b529 ≠ yz := Nat.ne_of_lt (Nat.lt_of_lt_of_le (V_b529.ext E530).lt nc_yz)
    have sz_yf : h0.size ≤ yf := Nat.le_trans K530.1 nc_yf
    have n0_yf : n0 ≤ yf := Nat.le_trans Z0 sz_yf
    have ne_b529_yf : b529 ≠ yf := Nat.ne_of_lt (Nat.lt_of_lt_of_le (V_b529.ext E530).lt nc_yf)
    have sz_vw : h0.size ≤ vw := Nat.le_trans K530.1 nc_vw
    have n0_vw : n0 ≤ vw := Nat.le_trans Z0 sz_vw
    have ne_b529_vw : b529 ≠ vw := Nat.ne_of_lt (Nat.lt_of_lt_of_le (V_b529.ext E530).lt nc_vw)
    have sz_ye : h0.size ≤ ye := Nat.le_trans K530.1 nc_ye
    have n0_ye : n0 ≤ ye := Nat.le_trans Z0 sz_ye
    have ne_b529_ye : b529 ≠ ye := Nat.ne_of_lt (Nat.lt_of_lt_of_le (V_b529.ext E530).lt nc_ye)
    have ne_b530_vw : b530 ≠ vw := (Exa.ne Eh531 Ev531 (by decide))
    have ne_b530_yb : b530 ≠ yb := (Exa.neArv Eh531 Vb531 (hw _ (List.mem_of_getElem? (i := 2) rfl)))
    have ne_b530_ys : b530 ≠ ys := (Exa.neArv Eh531 Vs531 (hw _ (List.mem_of_getElem? (i := 2) rfl)))
    have ne_b530_yz : b530 ≠ yz := (Exa.neArv Eh531 Vz531 (hw _ (List.mem_of_getElem? (i := 2) rfl)))
    have ne_b530_yf : b530 ≠ yf := (Exa.neArv Eh531 Vf531 (hw _ (List.mem_of_getElem? (i := 2) rfl)))
    have ne_b530_ye : b530 ≠ ye := (Exa.neArv Eh531 Ve531 (hw _ (List.mem_of_getElem? (i := 2) rfl)))
    have ne_vw_yb : vw ≠ yb := (Exa.neArv Ev531 Vb531 (hw _ (List.mem_of_getElem? (i := 43) rfl)))
    have ne_vw_ys : vw ≠ ys := (Exa.neArv Ev531 Vs531 (hw _ (List.mem_of_getElem? (i := 43) rfl)))
    have ne_vw_yz : vw ≠ yz := (Exa.neArv Ev531 Vz531 (hw _ (List.mem_of_getElem? (i := 43) rfl)))
    have ne_vw_yf : vw ≠ yf := (Exa.neArv Ev531 Vf531 (hw _ (List.mem_of_getElem? (i := 43) rfl)))
    have ne_vw_ye : vw ≠ ye := (Exa.neArv Ev531 Ve531 (hw _ (List.mem_of_getElem? (i := 43) rfl)))
    have ne_yb_ys : yb ≠ ys := (own_neA Vb531 Vs531 (by decide))
    have ne_yb_yz : yb ≠ yz := (own_neA Vb531 Vz531 (by decide))
    have ne_yb_yf : yb ≠ yf := (own_neA Vb531 Vf531 (by decide))
    have ne_yb_ye : yb ≠ ye := (own_neA Vb531 Ve531 (by decide))
    have ne_ys_yz : ys ≠ yz := (own_neA Vs531 Vz531 (by decide))
    have ne_yz_yf : yz ≠ yf := (own_neA Vz531 Vf531 (by decide))
    have ne_yz_ye : yz ≠ ye := (own_neA Vz531 Ve531 (by decide))
    refine own_astore X531 hx (hb hby at_30) rfl (l' := #[.val (.int p0), .val (.int p1), .val (.int p2), .val (.int p3), .val (.int p4), .val (.int (2 : Int32)), .val (.int off), .val (.ref b529), .val (.ref b530), .unset, .unset, .unset, .unset, .unset, .unset, .unset, .unset]) rfl ?_
    refine own_aload X531 hx (hb hby at_32) rfl rfl ?_
    refine own_iconst X531 hx (0 : Int32) (hb hby at_34) rfl ?_
    refine own_callV X531 hx hZ (y := my6) (z := my6) hown (hw _ (List.mem_of_getElem? (i := 62) rfl)) (hw _ (List.mem_of_getElem? (i := 63) rfl)) (notFace_of_selects (args := #[]) (mvT hZ (hw _ (List.mem_of_getElem? (i := 65) rfl)))) (hw _ (List.mem_of_getElem? (i := 65) rfl)) (hw _ (List.mem_of_getElem? (i := 64) rfl)) (hw _ (List.mem_of_getElem? (i := 3) rfl)) (hw _ (List.mem_of_getElem? (i := 66) rfl)) (by decide) (rm6 l Z a0 hw [] b530 vw yb ys yz yf ye kb ks kz kf ke (2 : Int32) T531.heap n0 (Nat.le_trans Z0 K531.1) (by decide) Eh531 F531_bytes F531_starts F531_ascii F531_columns F531_fieldEnds F531_view F531_size F531_length Ev531 G531_rowEnd G531_bytes G531_rowStart G531_ascii Fe531 Vb531 Vs531 Vz531 Vf531 Ve531 ne1 ne2 ne3 n0_vw n0_ye) 0 (by decide) (by decide) rfl (by rw [hml]; rfl) b530 Eh531 [(.int (0 : Int32))] [] rfl (lenOf pd_10 rfl) rfl (Nat.le_of_eq rfl) (hb hby at_35) (by decide) (by decide) ?_
    rintro T532 _ L532 X532 ⟨rfl, N532q, Kc532, Ev532, G532_rowEnd, G532_bytes, G532_fieldEnds, G532_rowStart, G532_ascii, Ve532⟩
    have N532 := Fr.app N531 N532q
    have K532 := K531.trans Kc532 (allS (P := fun x => x ∈ ([] : List Addr) ∨ h0.size ≤ x) (Or.inr sz_vw) (allS (P := fun x => x ∈ ([] : List Addr) ∨ h0.size ≤ x) (Or.inr sz_ye) all0))
    show own_R p e below s _ _ _ T532 (mkF m 38 #[.val (.int p0), .val (.int p1), .val (.int p2), .val (.int p3), .val (.int p4), .val (.int (2 : Int32)), .val (.int off), .val (.ref b529), .val (.ref b530), .unset, .unset, .unset, .unset, .unset, .unset, .unset, .unset] [(.ref vw)])
    have V_ye_533 : Arv Z T532.heap ye ke .int (2 : Int32) [o0, o0] o0 := Ve532
    have f534 := (Vf531.keep Kc532 (ninS (Ne.symm ne_vw_yf) (ninS ne3 nin0)))
    have V_yf_535 : Arv Z T532.heap yf kf .int ((16 : Int32) * (2 : Int32)) [o0, o0, o0, o0, o0, o0, o0, o0, o0, o0, o0, o0, o0, o0, o0, o0, o0, o0, o0, o0, o0, o0, o0, o0, o0, o0, o0, o0, o0, o0, o0, o0] o0 := f534
    refine own_astore X532 hx (hb hby at_38) rfl (l' := #[.val (.int p0), .val (.int p1), .val (.int p2), .val (.int p3), .val (.int p4), .val (.int (2 : Int32)), .val (.int off), .val (.ref b529), .val (.ref b530), .val (.ref vw), .unset, .unset, .unset, .unset, .unset, .unset, .unset]) rfl ?_
    have J115 : ∀ (Tj : State) (lj : List Loc) (gj : Heap), Stand p l e room_1 s m #[(.int p0), (.int p1), (.int p2), (.int p3), (.int p4)] below meth c Tj lj 13 4305 → Tj.heap = gj → Fr n0 lj → n0 ≤ gj.size → Fld Z gj b530 cH "starts" "[I" (.ref ys) → Fld Z gj b530 cH "fieldEnds" "[I" (.ref yf) → Fld Z gj b530 cH "columns" "I" (.int (2 : Int32)) → Exa Z gj b530 cH → Arv Z gj ys ks .int (16 : Int32) [o0, (.int ((0 : Int32) + ((pl_end p1 (1 : Int32)) + (2 : Int32)))), (.int (((0 : Int32) + ((pl_end p1 (1 : Int32)) + (2 : Int32))) + ((pl_end p2 (1 : Int32)) + (2 : Int32)))), o0, o0, o0, o0, o0, o0, o0, o0, o0, o0, o0, o0, o0] o0 → Arv Z gj yf kf .int ((16 : Int32) * (2 : Int32)) [(.int (pl_end p1 (0 : Int32))), (.int (pl_end p1 (1 : Int32))), (.int (pl_end p2 (0 : Int32))), (.int (pl_end p2 (1 : Int32))), (.int (pl_end p3 (0 : Int32))), (.int (pl_end p3 (1 : Int32))), o0, o0, o0, o0, o0, o0, o0, o0, o0, o0, o0, o0, o0, o0, o0, o0, o0, o0, o0, o0, o0, o0, o0, o0, o0, o0] o0 → own_R p e below s (Q0 Z p0 p1 p2 p3 p4 h0 n0) room_1.cells room_1.slots Tj (mkF m 115 #[.val (.int p0), .val (.int p1), .val (.int p2), .val (.int p3), .val (.int p4), .val (.int (2 : Int32)), .val (.int off), .val (.ref b529), .val (.ref b530), .val (.ref vw), .val (.int ((pl_end p1 (1 : Int32)) + (2 : Int32))), .val (.int ((pl_end p2 (1 : Int32)) + (2 : Int32))), .unset, .unset, .unset, .unset, .unset] []) := by
      intro Tj lj gj Xj ej Nj Zj jf1 jf2 jf3 jE jV1 jV2
      show own_R p e below s _ _ _ Tj (mkF m 115 #[.val (.int p0), .val (.int p1), .val (.int p2), .val (.int p3), .val (.int p4), .val (.int (2 : Int32)), .val (.int off), .val (.ref b529), .val (.ref b530), .val (.ref vw), .val (.int ((pl_end p1 (1 : Int32)) + (2 : Int32))), .val (.int ((pl_end p2 (1 : Int32)) + (2 : Int32))), .unset, .unset, .unset, .unset, .unset] [])
      refine own_iload Xj hx (hb hby at_115) rfl ?_
      refine own_ldc Xj hx hZ hown (hw _ (List.mem_of_getElem? (i := 135) rfl)) (hb hby at_117) ?_
      refine own_iand Xj hx (hb hby at_119) ?_
      refine own_iconst Xj hx (3 : Int32) (hb hby at_120) rfl ?_
      refine own_irem Xj hx (hb hby at_121) (by decide) ?_
      refine own_istore Xj hx (hb hby at_122) (l' := #[.val (.int p0), .val (.int p1), .val (.int p2), .val (.int p3), .val (.int p4), .val (.int (2 : Int32)), .val (.int off), .val (.ref b529), .val (.ref b530), .val (.ref vw), .val (.int ((pl_end p1 (1 : Int32)) + (2 : Int32))), .val (.int ((pl_end p2 (1 : Int32)) + (2 : Int32))), .val (.int ((p4 &&& (2147483647 : Int32)) % (3 : Int32))), .unset, .unset, .unset, .unset]) rfl ?_
      obtain ⟨ix, hix, hix3⟩ : ∃ z : Int32, z = ((p4 &&& (2147483647 : Int32)) % (3 : Int32)) ∧ (z = 0 ∨ z = 1 ∨ z = 2) := ⟨_, rfl, pl_ix _⟩
      rw [← hix]
      show own_R p e below s _ _ _ Tj (mkF m 124 #[.val (.int p0), .val (.int p1), .val (.int p2), .val (.int p3), .val (.int p4), .val (.int (2 : Int32)), .val (.int off), .val (.ref b529), .val (.ref b530), .val (.ref vw), .val (.int ((pl_end p1 (1 : Int32)) + (2 : Int32))), .val (.int ((pl_end p2 (1 : Int32)) + (2 : Int32))), .val (.int ix), .unset, .unset, .unset, .unset] [])
      refine own_iload Xj hx (hb hby at_124) rfl ?_
      refine own_iconst Xj hx (4 : Int32) (hb hby at_126) rfl ?_
      refine own_iushr Xj hx (hb hby at_127) ?_
      refine own_iload Xj hx (hb hby at_128) rfl ?_
      refine own_irem Xj hx (hb hby at_130) (by decide) ?_
      refine own_istore Xj hx (hb hby at_131) (l' := #[.val (.int p0), .val (.int p1), .val (.int p2), .val (.int p3), .val (.int p4), .val (.int (2 : Int32)), .val (.int off), .val (.ref b529), .val (.ref b530), .val (.ref vw), .val (.int ((pl_end p1 (1 : Int32)) + (2 : Int32))), .val (.int ((pl_end p2 (1 : Int32)) + (2 : Int32))), .val (.int ix), .val (.int (((p4.toUInt32 >>> ((4 : Int32) &&& 31).toUInt32).toInt32) % (2 : Int32))), .unset, .unset, .unset]) rfl ?_
      obtain ⟨cl, hcl, hcl4⟩ : ∃ z : Int32, z = (((p4.toUInt32 >>> ((4 : Int32) &&& 31).toUInt32).toInt32) % (2 : Int32)) ∧ (z = 0 ∨ z = 1) := ⟨_, rfl, pl_cl2 _⟩
      rw [← hcl]
      show own_R p e below s _ _ _ Tj (mkF m 133 #[.val (.int p0), .val (.int p1), .val (.int p2), .val (.int p3), .val (.int p4), .val (.int (2 : Int32)), .val (.int off), .val (.ref b529), .val (.ref b530), .val (.ref vw), .val (.int ((pl_end p1 (1 : Int32)) + (2 : Int32))), .val (.int ((pl_end p2 (1 : Int32)) + (2 : Int32))), .val (.int ix), .val (.int cl), .unset, .unset, .unset] [])
      rcases hix3 with rfl | rfl | rfl
      ·
        rcases hcl4 with rfl | rfl
        ·
          show own_R p e below s _ _ _ Tj (mkF m 133 #[.val (.int p0), .val (.int p1), .val (.int p2), .val (.int p3), .val (.int p4), .val (.int (2 : Int32)), .val (.int off), .val (.ref b529), .val (.ref b530), .val (.ref vw), .val (.int ((pl_end p1 (1 : Int32)) + (2 : Int32))), .val (.int ((pl_end p2 (1 : Int32)) + (2 : Int32))), .val (.int (0 : Int32)), .val (.int (0 : Int32)), .unset, .unset, .unset] [])
          refine own_iload Xj hx (hb hby at_133) rfl ?_
          refine own_if Xj hx (hb hby at_135) (pc' := 142) (by decide) (by decide) (fun hc => ?_) (fun hc => ?_)
          · have hc135 : ¬ (0 : Int32) = (0 : Int32) := own_ne1 hc
            exact absurd (by decide) hc135
          · have hc135 : (0 : Int32) = (0 : Int32) := own_ne0 hc
            clear hc
            refine own_iloadN Xj hx (hb hby at_138) rfl ?_
            refine own_goto Xj hx (hb hby at_139) (pc' := 153) (by decide) (by decide) ?_
            show own_R p e below s _ _ _ Tj (mkF m 153 #[.val (.int p0), .val (.int p1), .val (.int p2), .val (.int p3), .val (.int p4), .val (.int (2 : Int32)), .val (.int off), .val (.ref b529), .val (.ref b530), .val (.ref vw), .val (.int ((pl_end p1 (1 : Int32)) + (2 : Int32))), .val (.int ((pl_end p2 (1 : Int32)) + (2 : Int32))), .val (.int (0 : Int32)), .val (.int (0 : Int32)), .unset, .unset, .unset] [(.int p1)])
            refine own_istore Xj hx (hb hby at_153) (l' := #[.val (.int p0), .val (.int p1), .val (.int p2), .val (.int p3), .val (.int p4), .val (.int (2 : Int32)), .val (.int off), .val (.ref b529), .val (.ref b530), .val (.ref vw), .val (.int ((pl_end p1 (1 : Int32)) + (2 : Int32))), .val (.int ((pl_end p2 (1 : Int32)) + (2 : Int32))), .val (.int (0 : Int32)), .val (.int (0 : Int32)), .val (.int p1), .unset, .unset]) rfl ?_
            refine own_iload Xj hx (hb hby at_155) rfl ?_
            refine own_if Xj hx (hb hby at_157) (pc' := 164) (by decide) (by decide) (fun hc => ?_) (fun hc => ?_)
            · have hc157 : ¬ (0 : Int32) = (0 : Int32) := own_ne1 hc
              exact absurd (by decide) hc157
            · have hc157 : (0 : Int32) = (0 : Int32) := own_ne0 hc
              clear hc
              refine own_iconst Xj hx (0 : Int32) (hb hby at_160) rfl ?_
              refine own_goto Xj hx (hb hby at_161) (pc' := 180) (by decide) (by decide) ?_
              show own_R p e below s _ _ _ Tj (mkF m 180 #[.val (.int p0), .val (.int p1), .val (.int p2), .val (.int p3), .val (.int p4), .val (.int (2 : Int32)), .val (.int off), .val (.ref b529), .val (.ref b530), .val (.ref vw), .val (.int ((pl_end p1 (1 : Int32)) + (2 : Int32))), .val (.int ((pl_end p2 (1 : Int32)) + (2 : Int32))), .val (.int (0 : Int32)), .val (.int (0 : Int32)), .val (.int p1), .unset, .unset] [(.int (0 : Int32))])
              refine own_istore Xj hx (hb hby at_180) (l' := #[.val (.int p0), .val (.int p1), .val (.int p2), .val (.int p3), .val (.int p4), .val (.int (2 : Int32)), .val (.int off), .val (.ref b529), .val (.ref b530), .val (.ref vw), .val (.int ((pl_end p1 (1 : Int32)) + (2 : Int32))), .val (.int ((pl_end p2 (1 : Int32)) + (2 : Int32))), .val (.int (0 : Int32)), .val (.int (0 : Int32)), .val (.int p1), .val (.int (0 : Int32)), .unset]) rfl ?_
              refine own_iload Xj hx (hb hby at_182) rfl ?_
              refine own_iload Xj hx (hb hby at_184) rfl ?_
              refine own_if Xj hx (hb hby at_186) (pc' := 193) (by decide) (by decide) (fun hc => ?_) (fun hc => ?_)
              · have hc186 : ¬ (0 : Int32) = (0 : Int32) := own_ne1 hc
                exact absurd (by decide) hc186
              · have hc186 : (0 : Int32) = (0 : Int32) := own_ne0 hc
                clear hc
                refine own_iconst Xj hx (0 : Int32) (hb hby at_189) rfl ?_
                refine own_goto Xj hx (hb hby at_190) (pc' := 204) (by decide) (by decide) ?_
                show own_R p e below s _ _ _ Tj (mkF m 204 #[.val (.int p0), .val (.int p1), .val (.int p2), .val (.int p3), .val (.int p4), .val (.int (2 : Int32)), .val (.int off), .val (.ref b529), .val (.ref b530), .val (.ref vw), .val (.int ((pl_end p1 (1 : Int32)) + (2 : Int32))), .val (.int ((pl_end p2 (1 : Int32)) + (2 : Int32))), .val (.int (0 : Int32)), .val (.int (0 : Int32)), .val (.int p1), .val (.int (0 : Int32)), .unset] [(.int (0 : Int32)), (.int (0 : Int32))])
                refine own_iadd Xj hx (hb hby at_204) ?_
                refine own_istore Xj hx (hb hby at_205) (l' := #[.val (.int p0), .val (.int p1), .val (.int p2), .val (.int p3), .val (.int p4), .val (.int (2 : Int32)), .val (.int off), .val (.ref b529), .val (.ref b530), .val (.ref vw), .val (.int ((pl_end p1 (1 : Int32)) + (2 : Int32))), .val (.int ((pl_end p2 (1 : Int32)) + (2 : Int32))), .val (.int (0 : Int32)), .val (.int (0 : Int32)), .val (.int p1), .val (.int (0 : Int32)), .val (.int (0 : Int32))]) rfl ?_
                refine own_aload Xj hx (hb hby at_207) rfl rfl ?_
                refine own_iload Xj hx (hb hby at_209) rfl ?_
                refine own_iload Xj hx (hb hby at_211) rfl ?_
                refine own_callV Xj hx hZ (y := my16) (z := my16) hown (hw _ (List.mem_of_getElem? (i := 136) rfl)) (hw _ (List.mem_of_getElem? (i := 137) rfl)) (notFace_of_selects (args := #[]) (mvT hZ (hw _ (List.mem_of_getElem? (i := 139) rfl)))) (hw _ (List.mem_of_getElem? (i := 139) rfl)) (hw _ (List.mem_of_getElem? (i := 138) rfl)) (hw _ (List.mem_of_getElem? (i := 3) rfl)) (hw _ (List.mem_of_getElem? (i := 140) rfl)) (by decide) (rm16 l Z a0 hw [] b530 (0 : Int32) (0 : Int32) ys yf ks kf (2 : Int32) [o0, (.int ((0 : Int32) + ((pl_end p1 (1 : Int32)) + (2 : Int32)))), (.int (((0 : Int32) + ((pl_end p1 (1 : Int32)) + (2 : Int32))) + ((pl_end p2 (1 : Int32)) + (2 : Int32)))), o0, o0, o0, o0, o0, o0, o0, o0, o0, o0, o0, o0, o0] [(.int (pl_end p1 (0 : Int32))), (.int (pl_end p1 (1 : Int32))), (.int (pl_end p2 (0 : Int32))), (.int (pl_end p2 (1 : Int32))), (.int (pl_end p3 (0 : Int32))), (.int (pl_end p3 (1 : Int32))), o0, o0, o0, o0, o0, o0, o0, o0, o0, o0, o0, o0, o0, o0, o0, o0, o0, o0, o0, o0, o0, o0, o0, o0, o0, o0] (0 : Int32) (0 : Int32) gj n0 Zj jf1 jf2 jf3 jV1 jV2 (by decide) rfl (fun q => absurd rfl q) (fun q => absurd rfl q)) 0 (by decide) (by decide) ej (by rw [hml]; rfl) b530 jE [(.int (0 : Int32)), (.int (0 : Int32))] [] rfl (lenOf pd_8 rfl) rfl (Nat.le_of_eq rfl) (hb hby at_213) (by decide) (by decide) ?_
                rintro T536 _ L536 X536 ⟨rfl, N536q, e536⟩
                have N536 := Fr.app Nj N536q
                show own_R p e below s _ _ _ T536 (mkF m 216 #[.val (.int p0), .val (.int p1), .val (.int p2), .val (.int p3), .val (.int p4), .val (.int (2 : Int32)), .val (.int off), .val (.ref b529), .val (.ref b530), .val (.ref vw), .val (.int ((pl_end p1 (1 : Int32)) + (2 : Int32))), .val (.int ((pl_end p2 (1 : Int32)) + (2 : Int32))), .val (.int (0 : Int32)), .val (.int (0 : Int32)), .val (.int p1), .val (.int (0 : Int32)), .val (.int (0 : Int32))] [(.int (pl_fs (0 : Int32) (0 : Int32) (0 : Int32)))])
                refine own_iload X536 hx (hb hby at_216) rfl ?_
                refine own_icmp X536 hx (hb hby at_218) (pc' := 225) (by decide) (by decide) (fun hc => ?_) (fun hc => ?_)
                · have hc218 : ¬ (pl_fs (0 : Int32) (0 : Int32) (0 : Int32)) = (0 : Int32) := own_ne1 hc
                  exact absurd (by simp only [pl_fs, Int32.zero_add, if_true, if_false, show ((0 : Int32) = 0) = True from by decide]) hc218
                · have hc218 : (pl_fs (0 : Int32) (0 : Int32) (0 : Int32)) = (0 : Int32) := own_ne0 hc
                  clear hc
                  refine own_iconst X536 hx (1 : Int32) (hb hby at_221) rfl ?_
                  refine own_goto X536 hx (hb hby at_222) (pc' := 226) (by decide) (by decide) ?_
                  show own_R p e below s _ _ _ T536 (mkF m 226 #[.val (.int p0), .val (.int p1), .val (.int p2), .val (.int p3), .val (.int p4), .val (.int (2 : Int32)), .val (.int off), .val (.ref b529), .val (.ref b530), .val (.ref vw), .val (.int ((pl_end p1 (1 : Int32)) + (2 : Int32))), .val (.int ((pl_end p2 (1 : Int32)) + (2 : Int32))), .val (.int (0 : Int32)), .val (.int (0 : Int32)), .val (.int p1), .val (.int (0 : Int32)), .val (.int (0 : Int32))] [(.int (1 : Int32))])
                  refine own_retN X536 hx (t := .boolean) Bd.returns (by simp) hlk (hb hby at_226) ?_ (by decide) (by decide)
                  exact ⟨rfl, N536⟩
        ·
          show own_R p e below s _ _ _ Tj (mkF m 133 #[.val (.int p0), .val (.int p1), .val (.int p2), .val (.int p3), .val (.int p4), .val (.int (2 : Int32)), .val (.int off), .val (.ref b529), .val (.ref b530), .val (.ref vw), .val (.int ((pl_end p1 (1 : Int32)) + (2 : Int32))), .val (.int ((pl_end p2 (1 : Int32)) + (2 : Int32))), .val (.int (0 : Int32)), .val (.int (1 : Int32)), .unset, .unset, .unset] [])
          refine own_iload Xj hx (hb hby at_133) rfl ?_
          refine own_if Xj hx (hb hby at_135) (pc' := 142) (by decide) (by decide) (fun hc => ?_) (fun hc => ?_)
          · have hc135 : ¬ (0 : Int32) = (0 : Int32) := own_ne1 hc
            exact absurd (by decide) hc135
          · have hc135 : (0 : Int32) = (0 : Int32) := own_ne0 hc
            clear hc
            refine own_iloadN Xj hx (hb hby at_138) rfl ?_
            refine own_goto Xj hx (hb hby at_139) (pc' := 153) (by decide) (by decide) ?_
            show own_R p e below s _ _ _ Tj (mkF m 153 #[.val (.int p0), .val (.int p1), .val (.int p2), .val (.int p3), .val (.int p4), .val (.int (2 : Int32)), .val (.int off), .val (.ref b529), .val (.ref b530), .val (.ref vw), .val (.int ((pl_end p1 (1 : Int32)) + (2 : Int32))), .val (.int ((pl_end p2 (1 : Int32)) + (2 : Int32))), .val (.int (0 : Int32)), .val (.int (1 : Int32)), .unset, .unset, .unset] [(.int p1)])
            refine own_istore Xj hx (hb hby at_153) (l' := #[.val (.int p0), .val (.int p1), .val (.int p2), .val (.int p3), .val (.int p4), .val (.int (2 : Int32)), .val (.int off), .val (.ref b529), .val (.ref b530), .val (.ref vw), .val (.int ((pl_end p1 (1 : Int32)) + (2 : Int32))), .val (.int ((pl_end p2 (1 : Int32)) + (2 : Int32))), .val (.int (0 : Int32)), .val (.int (1 : Int32)), .val (.int p1), .unset, .unset]) rfl ?_
            refine own_iload Xj hx (hb hby at_155) rfl ?_
            refine own_if Xj hx (hb hby at_157) (pc' := 164) (by decide) (by decide) (fun hc => ?_) (fun hc => ?_)
            · have hc157 : ¬ (0 : Int32) = (0 : Int32) := own_ne1 hc
              exact absurd (by decide) hc157
            · have hc157 : (0 : Int32) = (0 : Int32) := own_ne0 hc
              clear hc
              refine own_iconst Xj hx (0 : Int32) (hb hby at_160) rfl ?_
              refine own_goto Xj hx (hb hby at_161) (pc' := 180) (by decide) (by decide) ?_
              show own_R p e below s _ _ _ Tj (mkF m 180 #[.val (.int p0), .val (.int p1), .val (.int p2), .val (.int p3), .val (.int p4), .val (.int (2 : Int32)), .val (.int off), .val (.ref b529), .val (.ref b530), .val (.ref vw), .val (.int ((pl_end p1 (1 : Int32)) + (2 : Int32))), .val (.int ((pl_end p2 (1 : Int32)) + (2 : Int32))), .val (.int (0 : Int32)), .val (.int (1 : Int32)), .val (.int p1), .unset, .unset] [(.int (0 : Int32))])
              refine own_istore Xj hx (hb hby at_180) (l' := #[.val (.int p0), .val (.int p1), .val (.int p2), .val (.int p3), .val (.int p4), .val (.int (2 : Int32)), .val (.int off), .val (.ref b529), .val (.ref b530), .val (.ref vw), .val (.int ((pl_end p1 (1 : Int32)) + (2 : Int32))), .val (.int ((pl_end p2 (1 : Int32)) + (2 : Int32))), .val (.int (0 : Int32)), .val (.int (1 : Int32)), .val (.int p1), .val (.int (0 : Int32)), .unset]) rfl ?_
              refine own_iload Xj hx (hb hby at_182) rfl ?_
              refine own_iload Xj hx (hb hby at_184) rfl ?_
              refine own_if Xj hx (hb hby at_186) (pc' := 193) (by decide) (by decide) (fun hc => ?_) (fun hc => ?_)
              · have hc186 : ¬ (1 : Int32) = (0 : Int32) := own_ne1 hc
                clear hc
                refine own_iload Xj hx (hb hby at_193) rfl ?_
                refine own_iload Xj hx (hb hby at_195) rfl ?_
                refine own_iconst Xj hx (1 : Int32) (hb hby at_197) rfl ?_
                refine own_isub Xj hx (hb hby at_198) ?_
                refine own_callS Xj hx hZ (y := my9) hown (hw _ (List.mem_of_getElem? (i := 95) rfl)) (hw _ (List.mem_of_getElem? (i := 96) rfl)) (hw _ (List.mem_of_getElem? (i := 93) rfl)) (hw _ (List.mem_of_getElem? (i := 97) rfl)) (by decide) (rm9 l Z a0 hw [] p1 (0 : Int32) gj n0 Zj) 1 (by decide) (by decide) ej (by rw [hml]; rfl) [(.int p1), (.int (0 : Int32))] [(.int (0 : Int32))] rfl (lenOf pd_8 rfl) rfl (Nat.le_of_eq rfl) (hb hby at_199) (by decide) (by decide) ?_
                rintro T537 _ L537 X537 ⟨rfl, N537q, e537⟩
                have N537 := Fr.app Nj N537q
                show own_R p e below s _ _ _ T537 (mkF m 202 #[.val (.int p0), .val (.int p1), .val (.int p2), .val (.int p3), .val (.int p4), .val (.int (2 : Int32)), .val (.int off), .val (.ref b529), .val (.ref b530), .val (.ref vw), .val (.int ((pl_end p1 (1 : Int32)) + (2 : Int32))), .val (.int ((pl_end p2 (1 : Int32)) + (2 : Int32))), .val (.int (0 : Int32)), .val (.int (1 : Int32)), .val (.int p1), .val (.int (0 : Int32)), .unset] [(.int (pl_end p1 (0 : Int32))), (.int (0 : Int32))])
                refine own_iconst X537 hx (1 : Int32) (hb hby at_202) rfl ?_
                refine own_iadd X537 hx (hb hby at_203) ?_
                refine own_iadd X537 hx (hb hby at_204) ?_
                refine own_istore X537 hx (hb hby at_205) (l' := #[.val (.int p0), .val (.int p1), .val (.int p2), .val (.int p3), .val (.int p4), .val (.int (2 : Int32)), .val (.int off), .val (.ref b529), .val (.ref b530), .val (.ref vw), .val (.int ((pl_end p1 (1 : Int32)) + (2 : Int32))), .val (.int ((pl_end p2 (1 : Int32)) + (2 : Int32))), .val (.int (0 : Int32)), .val (.int (1 : Int32)), .val (.int p1), .val (.int (0 : Int32)), .val (.int ((0 : Int32) + ((pl_end p1 (0 : Int32)) + (1 : Int32))))]) rfl ?_
                refine own_aload X537 hx (hb hby at_207) rfl rfl ?_
                refine own_iload X537 hx (hb hby at_209) rfl ?_
                refine own_iload X537 hx (hb hby at_211) rfl ?_
                refine own_callV X537 hx hZ (y := my16) (z := my16) hown (hw _ (List.mem_of_getElem? (i := 136) rfl)) (hw _ (List.mem_of_getElem? (i := 137) rfl)) (notFace_of_selects (args := #[]) (mvT hZ (hw _ (List.mem_of_getElem? (i := 139) rfl)))) (hw _ (List.mem_of_getElem? (i := 139) rfl)) (hw _ (List.mem_of_getElem? (i := 138) rfl)) (hw _ (List.mem_of_getElem? (i := 3) rfl)) (hw _ (List.mem_of_getElem? (i := 140) rfl)) (by decide) (rm16 l Z a0 hw [] b530 (0 : Int32) (1 : Int32) ys yf ks kf (2 : Int32) [o0, (.int ((0 : Int32) + ((pl_end p1 (1 : Int32)) + (2 : Int32)))), (.int (((0 : Int32) + ((pl_end p1 (1 : Int32)) + (2 : Int32))) + ((pl_end p2 (1 : Int32)) + (2 : Int32)))), o0, o0, o0, o0, o0, o0, o0, o0, o0, o0, o0, o0, o0] [(.int (pl_end p1 (0 : Int32))), (.int (pl_end p1 (1 : Int32))), (.int (pl_end p2 (0 : Int32))), (.int (pl_end p2 (1 : Int32))), (.int (pl_end p3 (0 : Int32))), (.int (pl_end p3 (1 : Int32))), o0, o0, o0, o0, o0, o0, o0, o0, o0, o0, o0, o0, o0, o0, o0, o0, o0, o0, o0, o0, o0, o0, o0, o0, o0, o0] (0 : Int32) (pl_end p1 (0 : Int32)) gj n0 Zj jf1 jf2 jf3 jV1 jV2 (by decide) rfl (fun _ => by decide) (fun _ => rfl)) 0 (by decide) (by decide) e537 (by rw [hml]; rfl) b530 jE [(.int (0 : Int32)), (.int (1 : Int32))] [] rfl (lenOf pd_8 rfl) rfl (Nat.le_of_eq rfl) (hb hby at_213) (by decide) (by decide) ?_
                rintro T538 _ L538 X538 ⟨rfl, N538q, e538⟩
                have N538 := Fr.app N537 N538q
                show own_R p e below s _ _ _ T538 (mkF m 216 #[.val (.int p0), .val (.int p1), .val (.int p2), .val (.int p3), .val (.int p4), .val (.int (2 : Int32)), .val (.int off), .val (.ref b529), .val (.ref b530), .val (.ref vw), .val (.int ((pl_end p1 (1 : Int32)) + (2 : Int32))), .val (.int ((pl_end p2 (1 : Int32)) + (2 : Int32))), .val (.int (0 : Int32)), .val (.int (1 : Int32)), .val (.int p1), .val (.int (0 : Int32)), .val (.int ((0 : Int32) + ((pl_end p1 (0 : Int32)) + (1 : Int32))))] [(.int (pl_fs (0 : Int32) (pl_end p1 (0 : Int32)) (1 : Int32)))])
                refine own_iload X538 hx (hb hby at_216) rfl ?_
                refine own_icmp X538 hx (hb hby at_218) (pc' := 225) (by decide) (by decide) (fun hc => ?_) (fun hc => ?_)
                · have hc218 : ¬ (pl_fs (0 : Int32) (pl_end p1 (0 : Int32)) (1 : Int32)) = ((0 : Int32) + ((pl_end p1 (0 : Int32)) + (1 : Int32))) := own_ne1 hc
                  exact absurd (by simp only [pl_fs, Int32.zero_add, if_true, if_false, show ((1 : Int32) = 0) = False from by decide]) hc218
                · have hc218 : (pl_fs (0 : Int32) (pl_end p1 (0 : Int32)) (1 : Int32)) = ((0 : Int32) + ((pl_end p1 (0 : Int32)) + (1 : Int32))) := own_ne0 hc
                  clear hc
                  refine own_iconst X538 hx (1 : Int32) (hb hby at_221) rfl ?_
                  refine own_goto X538 hx (hb hby at_222) (pc' := 226) (by decide) (by decide) ?_
                  show own_R p e below s _ _ _ T538 (mkF m 226 #[.val (.int p0), .val (.int p1), .val (.int p2), .val (.int p3), .val (.int p4), .val (.int (2 : Int32)), .val (.int off), .val (.ref b529), .val (.ref b530), .val (.ref vw), .val (.int ((pl_end p1 (1 : Int32)) + (2 : Int32))), .val (.int ((pl_end p2 (1 : Int32)) + (2 : Int32))), .val (.int (0 : Int32)), .val (.int (1 : Int32)), .val (.int p1), .val (.int (0 : Int32)), .val (.int ((0 : Int32) + ((pl_end p1 (0 : Int32)) + (1 : Int32))))] [(.int (1 : Int32))])
                  refine own_retN X538 hx (t := .boolean) Bd.returns (by simp) hlk (hb hby at_226) ?_ (by decide) (by decide)
                  exact ⟨rfl, N538⟩
              · have hc186 : (1 : Int32) = (0 : Int32) := own_ne0 hc
                exact absurd hc186 (by decide)
      ·
        rcases hcl4 with rfl | rfl
        ·
          show own_R p e below s _ _ _ Tj (mkF m 133 #[.val (.int p0), .val (.int p1), .val (.int p2), .val (.int p3), .val (.int p4), .val (.int (2 : Int32)), .val (.int off), .val (.ref b529), .val (.ref b530), .val (.ref vw), .val (.int ((pl_end p1 (1 : Int32)) + (2 : Int32))), .val (.int ((pl_end p2 (1 : Int32)) + (2 : Int32))), .val (.int (1 : Int32)), .val (.int (0 : Int32)), .unset, .unset, .unset] [])
          refine own_iload Xj hx (hb hby at_133) rfl ?_
          refine own_if Xj hx (hb hby at_135) (pc' := 142) (by decide) (by decide) (fun hc => ?_) (fun hc => ?_)
          · have hc135 : ¬ (1 : Int32) = (0 : Int32) := own_ne1 hc
            clear hc
            refine own_iload Xj hx (hb hby at_142) rfl ?_
            refine own_iconst Xj hx (1 : Int32) (hb hby at_144) rfl ?_
            refine own_icmp Xj hx (hb hby at_145) (pc' := 152) (by decide) (by decide) (fun hc => ?_) (fun hc => ?_)
            · have hc145 : ¬ (1 : Int32) = (1 : Int32) := own_ne1 hc
              exact absurd (by decide) hc145
            · have hc145 : (1 : Int32) = (1 : Int32) := own_ne0 hc
              clear hc
              refine own_iloadN Xj hx (hb hby at_148) rfl ?_
              refine own_goto Xj hx (hb hby at_149) (pc' := 153) (by decide) (by decide) ?_
              show own_R p e below s _ _ _ Tj (mkF m 153 #[.val (.int p0), .val (.int p1), .val (.int p2), .val (.int p3), .val (.int p4), .val (.int (2 : Int32)), .val (.int off), .val (.ref b529), .val (.ref b530), .val (.ref vw), .val (.int ((pl_end p1 (1 : Int32)) + (2 : Int32))), .val (.int ((pl_end p2 (1 : Int32)) + (2 : Int32))), .val (.int (1 : Int32)), .val (.int (0 : Int32)), .unset, .unset, .unset] [(.int p2)])
              refine own_istore Xj hx (hb hby at_153) (l' := #[.val (.int p0), .val (.int p1), .val (.int p2), .val (.int p3), .val (.int p4), .val (.int (2 : Int32)), .val (.int off), .val (.ref b529), .val (.ref b530), .val (.ref vw), .val (.int ((pl_end p1 (1 : Int32)) + (2 : Int32))), .val (.int ((pl_end p2 (1 : Int32)) + (2 : Int32))), .val (.int (1 : Int32)), .val (.int (0 : Int32)), .val (.int p2), .unset, .unset]) rfl ?_
              refine own_iload Xj hx (hb hby at_155) rfl ?_
              refine own_if Xj hx (hb hby at_157) (pc' := 164) (by decide) (by decide) (fun hc => ?_) (fun hc => ?_)
              · have hc157 : ¬ (1 : Int32) = (0 : Int32) := own_ne1 hc
                clear hc
                refine own_iload Xj hx (hb hby at_164) rfl ?_
                refine own_iconst Xj hx (1 : Int32) (hb hby at_166) rfl ?_
                refine own_icmp Xj hx (hb hby at_167) (pc' := 175) (by decide) (by decide) (fun hc => ?_) (fun hc => ?_)
                · have hc167 : ¬ (1 : Int32) = (1 : Int32) := own_ne1 hc
                  exact absurd (by decide) hc167
                · have hc167 : (1 : Int32) = (1 : Int32) := own_ne0 hc
                  clear hc
                  refine own_iload Xj hx (hb hby at_170) rfl ?_
                  refine own_goto Xj hx (hb hby at_172) (pc' := 180) (by decide) (by decide) ?_
                  show own_R p e below s _ _ _ Tj (mkF m 180 #[.val (.int p0), .val (.int p1), .val (.int p2), .val (.int p3), .val (.int p4), .val (.int (2 : Int32)), .val (.int off), .val (.ref b529), .val (.ref b530), .val (.ref vw), .val (.int ((pl_end p1 (1 : Int32)) + (2 : Int32))), .val (.int ((pl_end p2 (1 : Int32)) + (2 : Int32))), .val (.int (1 : Int32)), .val (.int (0 : Int32)), .val (.int p2), .unset, .unset] [(.int ((pl_end p1 (1 : Int32)) + (2 : Int32)))])
                  refine own_istore Xj hx (hb hby at_180) (l' := #[.val (.int p0), .val (.int p1), .val (.int p2), .val (.int p3), .val (.int p4), .val (.int (2 : Int32)), .val (.int off), .val (.ref b529), .val (.ref b530), .val (.ref vw), .val (.int ((pl_end p1 (1 : Int32)) + (2 : Int32))), .val (.int ((pl_end p2 (1 : Int32)) + (2 : Int32))), .val (.int (1 : Int32)), .val (.int (0 : Int32)), .val (.int p2), .val (.int ((pl_end p1 (1 : Int32)) + (2 : Int32))), .unset]) rfl ?_
                  refine own_iload Xj hx (hb hby at_182) rfl ?_
                  refine own_iload Xj hx (hb hby at_184) rfl ?_
                  refine own_if Xj hx (hb hby at_186) (pc' := 193) (by decide) (by decide) (fun hc => ?_) (fun hc => ?_)
                  · have hc186 : ¬ (0 : Int32) = (0 : Int32) := own_ne1 hc
                    exact absurd (by decide) hc186
                  · have hc186 : (0 : Int32) = (0 : Int32) := own_ne0 hc
                    clear hc
                    refine own_iconst Xj hx (0 : Int32) (hb hby at_189) rfl ?_
                    refine own_goto Xj hx (hb hby at_190) (pc' := 204) (by decide) (by decide) ?_
                    show own_R p e below s _ _ _ Tj (mkF m 204 #[.val (.int p0), .val (.int p1), .val (.int p2), .val (.int p3), .val (.int p4), .val (.int (2 : Int32)), .val (.int off), .val (.ref b529), .val (.ref b530), .val (.ref vw), .val (.int ((pl_end p1 (1 : Int32)) + (2 : Int32))), .val (.int ((pl_end p2 (1 : Int32)) + (2 : Int32))), .val (.int (1 : Int32)), .val (.int (0 : Int32)), .val (.int p2), .val (.int ((pl_end p1 (1 : Int32)) + (2 : Int32))), .unset] [(.int (0 : Int32)), (.int ((pl_end p1 (1 : Int32)) + (2 : Int32)))])
                    refine own_iadd Xj hx (hb hby at_204) ?_
                    refine own_istore Xj hx (hb hby at_205) (l' := #[.val (.int p0), .val (.int p1), .val (.int p2), .val (.int p3), .val (.int p4), .val (.int (2 : Int32)), .val (.int off), .val (.ref b529), .val (.ref b530), .val (.ref vw), .val (.int ((pl_end p1 (1 : Int32)) + (2 : Int32))), .val (.int ((pl_end p2 (1 : Int32)) + (2 : Int32))), .val (.int (1 : Int32)), .val (.int (0 : Int32)), .val (.int p2), .val (.int ((pl_end p1 (1 : Int32)) + (2 : Int32))), .val (.int (((pl_end p1 (1 : Int32)) + (2 : Int32)) + (0 : Int32)))]) rfl ?_
                    refine own_aload Xj hx (hb hby at_207) rfl rfl ?_
                    refine own_iload Xj hx (hb hby at_209) rfl ?_
                    refine own_iload Xj hx (hb hby at_211) rfl ?_
                    refine own_callV Xj hx hZ (y := my16) (z := my16) hown (hw _ (List.mem_of_getElem? (i := 136) rfl)) (hw _ (List.mem_of_getElem? (i := 137) rfl)) (notFace_of_selects (args := #[]) (mvT hZ (hw _ (List.mem_of_getElem? (i := 139) rfl)))) (hw _ (List.mem_of_getElem? (i := 139) rfl)) (hw _ (List.mem_of_getElem? (i := 138) rfl)) (hw _ (List.mem_of_getElem? (i := 3) rfl)) (hw _ (List.mem_of_getElem? (i := 140) rfl)) (by decide) (rm16 l Z a0 hw [] b530 (1 : Int32) (0 : Int32) ys yf ks kf (2 : Int32) [o0, (.int ((0 : Int32) + ((pl_end p1 (1 : Int32)) + (2 : Int32)))), (.int (((0 : Int32) + ((pl_end p1 (1 : Int32)) + (2 : Int32))) + ((pl_end p2 (1 : Int32)) + (2 : Int32)))), o0, o0, o0, o0, o0, o0, o0, o0, o0, o0, o0, o0, o0] [(.int (pl_end p1 (0 : Int32))), (.int (pl_end p1 (1 : Int32))), (.int (pl_end p2 (0 : Int32))), (.int (pl_end p2 (1 : Int32))), (.int (pl_end p3 (0 : Int32))), (.int (pl_end p3 (1 : Int32))), o0, o0, o0, o0, o0, o0, o0, o0, o0, o0, o0, o0, o0, o0, o0, o0, o0, o0, o0, o0, o0, o0, o0, o0, o0, o0] ((0 : Int32) + ((pl_end p1 (1 : Int32)) + (2 : Int32))) (0 : Int32) gj n0 Zj jf1 jf2 jf3 jV1 jV2 (by decide) rfl (fun q => absurd rfl q) (fun q => absurd rfl q)) 0 (by decide) (by decide) ej (by rw [hml]; rfl) b530 jE [(.int (1 : Int32)), (.int (0 : Int32))] [] rfl (lenOf pd_8 rfl) rfl (Nat.le_of_eq rfl) (hb hby at_213) (by decide) (by decide) ?_
                    rintro T539 _ L539 X539 ⟨rfl, N539q, e539⟩
                    have N539 := Fr.app Nj N539q
                    show own_R p e below s _ _ _ T539 (mkF m 216 #[.val (.int p0), .val (.int p1), .val (.int p2), .val (.int p3), .val (.int p4), .val (.int (2 : Int32)), .val (.int off), .val (.ref b529), .val (.ref b530), .val (.ref vw), .val (.int ((pl_end p1 (1 : Int32)) + (2 : Int32))), .val (.int ((pl_end p2 (1 : Int32)) + (2 : Int32))), .val (.int (1 : Int32)), .val (.int (0 : Int32)), .val (.int p2), .val (.int ((pl_end p1 (1 : Int32)) + (2 : Int32))), .val (.int (((pl_end p1 (1 : Int32)) + (2 : Int32)) + (0 : Int32)))] [(.int (pl_fs ((0 : Int32) + ((pl_end p1 (1 : Int32)) + (2 : Int32))) (0 : Int32) (0 : Int32)))])
                    refine own_iload X539 hx (hb hby at_216) rfl ?_
                    refine own_icmp X539 hx (hb hby at_218) (pc' := 225) (by decide) (by decide) (fun hc => ?_) (fun hc => ?_)
                    · have hc218 : ¬ (pl_fs ((0 : Int32) + ((pl_end p1 (1 : Int32)) + (2 : Int32))) (0 : Int32) (0 : Int32)) = (((pl_end p1 (1 : Int32)) + (2 : Int32)) + (0 : Int32)) := own_ne1 hc
                      exact absurd (by simp only [pl_fs, Int32.zero_add, if_true, if_false, show ((0 : Int32) = 0) = True from by decide]) hc218
                    · have hc218 : (pl_fs ((0 : Int32) + ((pl_end p1 (1 : Int32)) + (2 : Int32))) (0 : Int32) (0 : Int32)) = (((pl_end p1 (1 : Int32)) + (2 : Int32)) + (0 : Int32)) := own_ne0 hc
                      clear hc
                      refine own_iconst X539 hx (1 : Int32) (hb hby at_221) rfl ?_
                      refine own_goto X539 hx (hb hby at_222) (pc' := 226) (by decide) (by decide) ?_
                      show own_R p e below s _ _ _ T539 (mkF m 226 #[.val (.int p0), .val (.int p1), .val (.int p2), .val (.int p3), .val (.int p4), .val (.int (2 : Int32)), .val (.int off), .val (.ref b529), .val (.ref b530), .val (.ref vw), .val (.int ((pl_end p1 (1 : Int32)) + (2 : Int32))), .val (.int ((pl_end p2 (1 : Int32)) + (2 : Int32))), .val (.int (1 : Int32)), .val (.int (0 : Int32)), .val (.int p2), .val (.int ((pl_end p1 (1 : Int32)) + (2 : Int32))), .val (.int (((pl_end p1 (1 : Int32)) + (2 : Int32)) + (0 : Int32)))] [(.int (1 : Int32))])
                      refine own_retN X539 hx (t := .boolean) Bd.returns (by simp) hlk (hb hby at_226) ?_ (by decide) (by decide)
                      exact ⟨rfl, N539⟩
              · have hc157 : (1 : Int32) = (0 : Int32) := own_ne0 hc
                exact absurd hc157 (by decide)
          · have hc135 : (1 : Int32) = (0 : Int32) := own_ne0 hc
            exact absurd hc135 (by decide)
        ·
          show own_R p e below s _ _ _ Tj (mkF m 133 #[.val (.int p0), .val (.int p1), .val (.int p2), .val (.int p3), .val (.int p4), .val (.int (2 : Int32)), .val (.int off), .val (.ref b529), .val (.ref b530), .val (.ref vw), .val (.int ((pl_end p1 (1 : Int32)) + (2 : Int32))), .val (.int ((pl_end p2 (1 : Int32)) + (2 : Int32))), .val (.int (1 : Int32)), .val (.int (1 : Int32)), .unset, .unset, .unset] [])
          refine own_iload Xj hx (hb hby at_133) rfl ?_
          refine own_if Xj hx (hb hby at_135) (pc' := 142) (by decide) (by decide) (fun hc => ?_) (fun hc => ?_)
          · have hc135 : ¬ (1 : Int32) = (0 : Int32) := own_ne1 hc
            clear hc
            refine own_iload Xj hx (hb hby at_142) rfl ?_
            refine own_iconst Xj hx (1 : Int32) (hb hby at_144) rfl ?_
            refine own_icmp Xj hx (hb hby at_145) (pc' := 152) (by decide) (by decide) (fun hc => ?_) (fun hc => ?_)
            · have hc145 : ¬ (1 : Int32) = (1 : Int32) := own_ne1 hc
              exact absurd (by decide) hc145
            · have hc145 : (1 : Int32) = (1 : Int32) := own_ne0 hc
              clear hc
              refine own_iloadN Xj hx (hb hby at_148) rfl ?_
              refine own_goto Xj hx (hb hby at_149) (pc' := 153) (by decide) (by decide) ?_
              show own_R p e below s _ _ _ Tj (mkF m 153 #[.val (.int p0), .val (.int p1), .val (.int p2), .val (.int p3), .val (.int p4), .val (.int (2 : Int32)), .val (.int off), .val (.ref b529), .val (.ref b530), .val (.ref vw), .val (.int ((pl_end p1 (1 : Int32)) + (2 : Int32))), .val (.int ((pl_end p2 (1 : Int32)) + (2 : Int32))), .val (.int (1 : Int32)), .val (.int (1 : Int32)), .unset, .unset, .unset] [(.int p2)])
              refine own_istore Xj hx (hb hby at_153) (l' := #[.val (.int p0), .val (.int p1), .val (.int p2), .val (.int p3), .val (.int p4), .val (.int (2 : Int32)), .val (.int off), .val (.ref b529), .val (.ref b530), .val (.ref vw), .val (.int ((pl_end p1 (1 : Int32)) + (2 : Int32))), .val (.int ((pl_end p2 (1 : Int32)) + (2 : Int32))), .val (.int (1 : Int32)), .val (.int (1 : Int32)), .val (.int p2), .unset, .unset]) rfl ?_
              refine own_iload Xj hx (hb hby at_155) rfl ?_
              refine own_if Xj hx (hb hby at_157) (pc' := 164) (by decide) (by decide) (fun hc => ?_) (fun hc => ?_)
              · have hc157 : ¬ (1 : Int32) = (0 : Int32) := own_ne1 hc
                clear hc
                refine own_iload Xj hx (hb hby at_164) rfl ?_
                refine own_iconst Xj hx (1 : Int32) (hb hby at_166) rfl ?_
                refine own_icmp Xj hx (hb hby at_167) (pc' := 175) (by decide) (by decide) (fun hc => ?_) (fun hc => ?_)
                · have hc167 : ¬ (1 : Int32) = (1 : Int32) := own_ne1 hc
                  exact absurd (by decide) hc167
                · have hc167 : (1 : Int32) = (1 : Int32) := own_ne0 hc
                  clear hc
                  refine own_iload Xj hx (hb hby at_170) rfl ?_
                  refine own_goto Xj hx (hb hby at_172) (pc' := 180) (by decide) (by decide) ?_
                  show own_R p e below s _ _ _ Tj (mkF m 180 #[.val (.int p0), .val (.int p1), .val (.int p2), .val (.int p3), .val (.int p4), .val (.int (2 : Int32)), .val (.int off), .val (.ref b529), .val (.ref b530), .val (.ref vw), .val (.int ((pl_end p1 (1 : Int32)) + (2 : Int32))), .val (.int ((pl_end p2 (1 : Int32)) + (2 : Int32))), .val (.int (1 : Int32)), .val (.int (1 : Int32)), .val (.int p2), .unset, .unset] [(.int ((pl_end p1 (1 : Int32)) + (2 : Int32)))])
                  refine own_istore Xj hx (hb hby at_180) (l' := #[.val (.int p0), .val (.int p1), .val (.int p2), .val (.int p3), .val (.int p4), .val (.int (2 : Int32)), .val (.int off), .val (.ref b529), .val (.ref b530), .val (.ref vw), .val (.int ((pl_end p1 (1 : Int32)) + (2 : Int32))), .val (.int ((pl_end p2 (1 : Int32)) + (2 : Int32))), .val (.int (1 : Int32)), .val (.int (1 : Int32)), .val (.int p2), .val (.int ((pl_end p1 (1 : Int32)) + (2 : Int32))), .unset]) rfl ?_
                  refine own_iload Xj hx (hb hby at_182) rfl ?_
                  refine own_iload Xj hx (hb hby at_184) rfl ?_
                  refine own_if Xj hx (hb hby at_186) (pc' := 193) (by decide) (by decide) (fun hc => ?_) (fun hc => ?_)
                  · have hc186 : ¬ (1 : Int32) = (0 : Int32) := own_ne1 hc
                    clear hc
                    refine own_iload Xj hx (hb hby at_193) rfl ?_
                    refine own_iload Xj hx (hb hby at_195) rfl ?_
                    refine own_iconst Xj hx (1 : Int32) (hb hby at_197) rfl ?_
                    refine own_isub Xj hx (hb hby at_198) ?_
                    refine own_callS Xj hx hZ (y := my9) hown (hw _ (List.mem_of_getElem? (i := 95) rfl)) (hw _ (List.mem_of_getElem? (i := 96) rfl)) (hw _ (List.mem_of_getElem? (i := 93) rfl)) (hw _ (List.mem_of_getElem? (i := 97) rfl)) (by decide) (rm9 l Z a0 hw [] p2 (0 : Int32) gj n0 Zj) 1 (by decide) (by decide) ej (by rw [hml]; rfl) [(.int p2), (.int (0 : Int32))] [(.int ((pl_end p1 (1 : Int32)) + (2 : Int32)))] rfl (lenOf pd_8 rfl) rfl (Nat.le_of_eq rfl) (hb hby at_199) (by decide) (by decide) ?_
                    rintro T540 _ L540 X540 ⟨rfl, N540q, e540⟩
                    have N540 := Fr.app Nj N540q
                    show own_R p e below s _ _ _ T540 (mkF m 202 #[.val (.int p0), .val (.int p1), .val (.int p2), .val (.int p3), .val (.int p4), .val (.int (2 : Int32)), .val (.int off), .val (.ref b529), .val (.ref b530), .val (.ref vw), .val (.int ((pl_end p1 (1 : Int32)) + (2 : Int32))), .val (.int ((pl_end p2 (1 : Int32)) + (2 : Int32))), .val (.int (1 : Int32)), .val (.int (1 : Int32)), .val (.int p2), .val (.int ((pl_end p1 (1 : Int32)) + (2 : Int32))), .unset] [(.int (pl_end p2 (0 : Int32))), (.int ((pl_end p1 (1 : Int32)) + (2 : Int32)))])
                    refine own_iconst X540 hx (1 : Int32) (hb hby at_202) rfl ?_
                    refine own_iadd X540 hx (hb hby at_203) ?_
                    refine own_iadd X540 hx (hb hby at_204) ?_
                    refine own_istore X540 hx (hb hby at_205) (l' := #[.val (.int p0), .val (.int p1), .val (.int p2), .val (.int p3), .val (.int p4), .val (.int (2 : Int32)), .val (.int off), .val (.ref b529), .val (.ref b530), .val (.ref vw), .val (.int ((pl_end p1 (1 : Int32)) + (2 : Int32))), .val (.int ((pl_end p2 (1 : Int32)) + (2 : Int32))), .val (.int (1 : Int32)), .val (.int (1 : Int32)), .val (.int p2), .val (.int ((pl_end p1 (1 : Int32)) + (2 : Int32))), .val (.int (((pl_end p1 (1 : Int32)) + (2 : Int32)) + ((pl_end p2 (0 : Int32)) + (1 : Int32))))]) rfl ?_
                    refine own_aload X540 hx (hb hby at_207) rfl rfl ?_
                    refine own_iload X540 hx (hb hby at_209) rfl ?_
                    refine own_iload X540 hx (hb hby at_211) rfl ?_
                    refine own_callV X540 hx hZ (y := my16) (z := my16) hown (hw _ (List.mem_of_getElem? (i := 136) rfl)) (hw _ (List.mem_of_getElem? (i := 137) rfl)) (notFace_of_selects (args := #[]) (mvT hZ (hw _ (List.mem_of_getElem? (i := 139) rfl)))) (hw _ (List.mem_of_getElem? (i := 139) rfl)) (hw _ (List.mem_of_getElem? (i := 138) rfl)) (hw _ (List.mem_of_getElem? (i := 3) rfl)) (hw _ (List.mem_of_getElem? (i := 140) rfl)) (by decide) (rm16 l Z a0 hw [] b530 (1 : Int32) (1 : Int32) ys yf ks kf (2 : Int32) [o0, (.int ((0 : Int32) + ((pl_end p1 (1 : Int32)) + (2 : Int32)))), (.int (((0 : Int32) + ((pl_end p1 (1 : Int32)) + (2 : Int32))) + ((pl_end p2 (1 : Int32)) + (2 : Int32)))), o0, o0, o0, o0, o0, o0, o0, o0, o0, o0, o0, o0, o0] [(.int (pl_end p1 (0 : Int32))), (.int (pl_end p1 (1 : Int32))), (.int (pl_end p2 (0 : Int32))), (.int (pl_end p2 (1 : Int32))), (.int (pl_end p3 (0 : Int32))), (.int (pl_end p3 (1 : Int32))), o0, o0, o0, o0, o0, o0, o0, o0, o0, o0, o0, o0, o0, o0, o0, o0, o0, o0, o0, o0, o0, o0, o0, o0, o0, o0] ((0 : Int32) + ((pl_end p1 (1 : Int32)) + (2 : Int32))) (pl_end p2 (0 : Int32)) gj n0 Zj jf1 jf2 jf3 jV1 jV2 (by decide) rfl (fun _ => by decide) (fun _ => rfl)) 0 (by decide) (by decide) e540 (by rw [hml]; rfl) b530 jE [(.int (1 : Int32)), (.int (1 : Int32))] [] rfl (lenOf pd_8 rfl) rfl (Nat.le_of_eq rfl) (hb hby at_213) (by decide) (by decide) ?_
                    rintro T541 _ L541 X541 ⟨rfl, N541q, e541⟩
                    have N541 := Fr.app N540 N541q
                    show own_R p e below s _ _ _ T541 (mkF m 216 #[.val (.int p0), .val (.int p1), .val (.int p2), .val (.int p3), .val (.int p4), .val (.int (2 : Int32)), .val (.int off), .val (.ref b529), .val (.ref b530), .val (.ref vw), .val (.int ((pl_end p1 (1 : Int32)) + (2 : Int32))), .val (.int ((pl_end p2 (1 : Int32)) + (2 : Int32))), .val (.int (1 : Int32)), .val (.int (1 : Int32)), .val (.int p2), .val (.int ((pl_end p1 (1 : Int32)) + (2 : Int32))), .val (.int (((pl_end p1 (1 : Int32)) + (2 : Int32)) + ((pl_end p2 (0 : Int32)) + (1 : Int32))))] [(.int (pl_fs ((0 : Int32) + ((pl_end p1 (1 : Int32)) + (2 : Int32))) (pl_end p2 (0 : Int32)) (1 : Int32)))])
                    refine own_iload X541 hx (hb hby at_216) rfl ?_
                    refine own_icmp X541 hx (hb hby at_218) (pc' := 225) (by decide) (by decide) (fun hc => ?_) (fun hc => ?_)
                    · have hc218 : ¬ (pl_fs ((0 : Int32) + ((pl_end p1 (1 : Int32)) + (2 : Int32))) (pl_end p2 (0 : Int32)) (1 : Int32)) = (((pl_end p1 (1 : Int32)) + (2 : Int32)) + ((pl_end p2 (0 : Int32)) + (1 : Int32))) := own_ne1 hc
                      exact absurd (by simp only [pl_fs, Int32.zero_add, if_true, if_false, show ((1 : Int32) = 0) = False from by decide]) hc218
                    · have hc218 : (pl_fs ((0 : Int32) + ((pl_end p1 (1 : Int32)) + (2 : Int32))) (pl_end p2 (0 : Int32)) (1 : Int32)) = (((pl_end p1 (1 : Int32)) + (2 : Int32)) + ((pl_end p2 (0 : Int32)) + (1 : Int32))) := own_ne0 hc
                      clear hc
                      refine own_iconst X541 hx (1 : Int32) (hb hby at_221) rfl ?_
                      refine own_goto X541 hx (hb hby at_222) (pc' := 226) (by decide) (by decide) ?_
                      show own_R p e below s _ _ _ T541 (mkF m 226 #[.val (.int p0), .val (.int p1), .val (.int p2), .val (.int p3), .val (.int p4), .val (.int (2 : Int32)), .val (.int off), .val (.ref b529), .val (.ref b530), .val (.ref vw), .val (.int ((pl_end p1 (1 : Int32)) + (2 : Int32))), .val (.int ((pl_end p2 (1 : Int32)) + (2 : Int32))), .val (.int (1 : Int32)), .val (.int (1 : Int32)), .val (.int p2), .val (.int ((pl_end p1 (1 : Int32)) + (2 : Int32))), .val (.int (((pl_end p1 (1 : Int32)) + (2 : Int32)) + ((pl_end p2 (0 : Int32)) + (1 : Int32))))] [(.int (1 : Int32))])
                      refine own_retN X541 hx (t := .boolean) Bd.returns (by simp) hlk (hb hby at_226) ?_ (by decide) (by decide)
                      exact ⟨rfl, N541⟩
                  · have hc186 : (1 : Int32) = (0 : Int32) := own_ne0 hc
                    exact absurd hc186 (by decide)
              · have hc157 : (1 : Int32) = (0 : Int32) := own_ne0 hc
                exact absurd hc157 (by decide)
          · have hc135 : (1 : Int32) = (0 : Int32) := own_ne0 hc
            exact absurd hc135 (by decide)
      ·
        rcases hcl4 with rfl | rfl
        ·
          show own_R p e below s _ _ _ Tj (mkF m 133 #[.val (.int p0), .val (.int p1), .val (.int p2), .val (.int p3), .val (.int p4), .val (.int (2 : Int32)), .val (.int off), .val (.ref b529), .val (.ref b530), .val (.ref vw), .val (.int ((pl_end p1 (1 : Int32)) + (2 : Int32))), .val (.int ((pl_end p2 (1 : Int32)) + (2 : Int32))), .val (.int (2 : Int32)), .val (.int (0 : Int32)), .unset, .unset, .unset] [])
          refine own_iload Xj hx (hb hby at_133) rfl ?_
          refine own_if Xj hx (hb hby at_135) (pc' := 142) (by decide) (by decide) (fun hc => ?_) (fun hc => ?_)
          · have hc135 : ¬ (2 : Int32) = (0 : Int32) := own_ne1 hc
            clear hc
            refine own_iload Xj hx (hb hby at_142) rfl ?_
            refine own_iconst Xj hx (1 : Int32) (hb hby at_144) rfl ?_
            refine own_icmp Xj hx (hb hby at_145) (pc' := 152) (by decide) (by decide) (fun hc => ?_) (fun hc => ?_)
            · have hc145 : ¬ (2 : Int32) = (1 : Int32) := own_ne1 hc
              clear hc
              refine own_iloadN Xj hx (hb hby at_152) rfl ?_
              refine own_istore Xj hx (hb hby at_153) (l' := #[.val (.int p0), .val (.int p1), .val (.int p2), .val (.int p3), .val (.int p4), .val (.int (2 : Int32)), .val (.int off), .val (.ref b529), .val (.ref b530), .val (.ref vw), .val (.int ((pl_end p1 (1 : Int32)) + (2 : Int32))), .val (.int ((pl_end p2 (1 : Int32)) + (2 : Int32))), .val (.int (2 : Int32)), .val (.int (0 : Int32)), .val (.int p3), .unset, .unset]) rfl ?_
              refine own_iload Xj hx (hb hby at_155) rfl ?_
              refine own_if Xj hx (hb hby at_157) (pc' := 164) (by decide) (by decide) (fun hc => ?_) (fun hc => ?_)
              · have hc157 : ¬ (2 : Int32) = (0 : Int32) := own_ne1 hc
                clear hc
                refine own_iload Xj hx (hb hby at_164) rfl ?_
                refine own_iconst Xj hx (1 : Int32) (hb hby at_166) rfl ?_
                refine own_icmp Xj hx (hb hby at_167) (pc' := 175) (by decide) (by decide) (fun hc => ?_) (fun hc => ?_)
                · have hc167 : ¬ (2 : Int32) = (1 : Int32) := own_ne1 hc
                  clear hc
                  refine own_iload Xj hx (hb hby at_175) rfl ?_
                  refine own_iload Xj hx (hb hby at_177) rfl ?_
                  refine own_iadd Xj hx (hb hby at_179) ?_
                  refine own_istore Xj hx (hb hby at_180) (l' := #[.val (.int p0), .val (.int p1), .val (.int p2), .val (.int p3), .val (.int p4), .val (.int (2 : Int32)), .val (.int off), .val (.ref b529), .val (.ref b530), .val (.ref vw), .val (.int ((pl_end p1 (1 : Int32)) + (2 : Int32))), .val (.int ((pl_end p2 (1 : Int32)) + (2 : Int32))), .val (.int (2 : Int32)), .val (.int (0 : Int32)), .val (.int p3), .val (.int (((pl_end p1 (1 : Int32)) + (2 : Int32)) + ((pl_end p2 (1 : Int32)) + (2 : Int32)))), .unset]) rfl ?_
                  refine own_iload Xj hx (hb hby at_182) rfl ?_
                  refine own_iload Xj hx (hb hby at_184) rfl ?_
                  refine own_if Xj hx (hb hby at_186) (pc' := 193) (by decide) (by decide) (fun hc => ?_) (fun hc => ?_)
                  · have hc186 : ¬ (0 : Int32) = (0 : Int32) := own_ne1 hc
                    exact absurd (by decide) hc186
                  · have hc186 : (0 : Int32) = (0 : Int32) := own_ne0 hc
                    clear hc
                    refine own_iconst Xj hx (0 : Int32) (hb hby at_189) rfl ?_
                    refine own_goto Xj hx (hb hby at_190) (pc' := 204) (by decide) (by decide) ?_
                    show own_R p e below s _ _ _ Tj (mkF m 204 #[.val (.int p0), .val (.int p1), .val (.int p2), .val (.int p3), .val (.int p4), .val (.int (2 : Int32)), .val (.int off), .val (.ref b529), .val (.ref b530), .val (.ref vw), .val (.int ((pl_end p1 (1 : Int32)) + (2 : Int32))), .val (.int ((pl_end p2 (1 : Int32)) + (2 : Int32))), .val (.int (2 : Int32)), .val (.int (0 : Int32)), .val (.int p3), .val (.int (((pl_end p1 (1 : Int32)) + (2 : Int32)) + ((pl_end p2 (1 : Int32)) + (2 : Int32)))), .unset] [(.int (0 : Int32)), (.int (((pl_end p1 (1 : Int32)) + (2 : Int32)) + ((pl_end p2 (1 : Int32)) + (2 : Int32))))])
                    refine own_iadd Xj hx (hb hby at_204) ?_
                    refine own_istore Xj hx (hb hby at_205) (l' := #[.val (.int p0), .val (.int p1), .val (.int p2), .val (.int p3), .val (.int p4), .val (.int (2 : Int32)), .val (.int off), .val (.ref b529), .val (.ref b530), .val (.ref vw), .val (.int ((pl_end p1 (1 : Int32)) + (2 : Int32))), .val (.int ((pl_end p2 (1 : Int32)) + (2 : Int32))), .val (.int (2 : Int32)), .val (.int (0 : Int32)), .val (.int p3), .val (.int (((pl_end p1 (1 : Int32)) + (2 : Int32)) + ((pl_end p2 (1 : Int32)) + (2 : Int32)))), .val (.int ((((pl_end p1 (1 : Int32)) + (2 : Int32)) + ((pl_end p2 (1 : Int32)) + (2 : Int32))) + (0 : Int32)))]) rfl ?_
                    refine own_aload Xj hx (hb hby at_207) rfl rfl ?_
                    refine own_iload Xj hx (hb hby at_209) rfl ?_
                    refine own_iload Xj hx (hb hby at_211) rfl ?_
                    refine own_callV Xj hx hZ (y := my16) (z := my16) hown (hw _ (List.mem_of_getElem? (i := 136) rfl)) (hw _ (List.mem_of_getElem? (i := 137) rfl)) (notFace_of_selects (args := #[]) (mvT hZ (hw _ (List.mem_of_getElem? (i := 139) rfl)))) (hw _ (List.mem_of_getElem? (i := 139) rfl)) (hw _ (List.mem_of_getElem? (i := 138) rfl)) (hw _ (List.mem_of_getElem? (i := 3) rfl)) (hw _ (List.mem_of_getElem? (i := 140) rfl)) (by decide) (rm16 l Z a0 hw [] b530 (2 : Int32) (0 : Int32) ys yf ks kf (2 : Int32) [o0, (.int ((0 : Int32) + ((pl_end p1 (1 : Int32)) + (2 : Int32)))), (.int (((0 : Int32) + ((pl_end p1 (1 : Int32)) + (2 : Int32))) + ((pl_end p2 (1 : Int32)) + (2 : Int32)))), o0, o0, o0, o0, o0, o0, o0, o0, o0, o0, o0, o0, o0] [(.int (pl_end p1 (0 : Int32))), (.int (pl_end p1 (1 : Int32))), (.int (pl_end p2 (0 : Int32))), (.int (pl_end p2 (1 : Int32))), (.int (pl_end p3 (0 : Int32))), (.int (pl_end p3 (1 : Int32))), o0, o0, o0, o0, o0, o0, o0, o0, o0, o0, o0, o0, o0, o0, o0, o0, o0, o0, o0, o0, o0, o0, o0, o0, o0, o0] (((0 : Int32) + ((pl_end p1 (1 : Int32)) + (2 : Int32))) + ((pl_end p2 (1 : Int32)) + (2 : Int32))) (0 : Int32) gj n0 Zj jf1 jf2 jf3 jV1 jV2 (by decide) rfl (fun q => absurd rfl q) (fun q => absurd rfl q)) 0 (by decide) (by decide) ej (by rw [hml]; rfl) b530 jE [(.int (2 : Int32)), (.int (0 : Int32))] [] rfl (lenOf pd_8 rfl) rfl (Nat.le_of_eq rfl) (hb hby at_213) (by decide) (by decide) ?_
                    rintro T542 _ L542 X542 ⟨rfl, N542q, e542⟩
                    have N542 := Fr.app Nj N542q
                    show own_R p e below s _ _ _ T542 (mkF m 216 #[.val (.int p0), .val (.int p1), .val (.int p2), .val (.int p3), .val (.int p4), .val (.int (2 : Int32)), .val (.int off), .val (.ref b529), .val (.ref b530), .val (.ref vw), .val (.int ((pl_end p1 (1 : Int32)) + (2 : Int32))), .val (.int ((pl_end p2 (1 : Int32)) + (2 : Int32))), .val (.int (2 : Int32)), .val (.int (0 : Int32)), .val (.int p3), .val (.int (((pl_end p1 (1 : Int32)) + (2 : Int32)) + ((pl_end p2 (1 : Int32)) + (2 : Int32)))), .val (.int ((((pl_end p1 (1 : Int32)) + (2 : Int32)) + ((pl_end p2 (1 : Int32)) + (2 : Int32))) + (0 : Int32)))] [(.int (pl_fs (((0 : Int32) + ((pl_end p1 (1 : Int32)) + (2 : Int32))) + ((pl_end p2 (1 : Int32)) + (2 : Int32))) (0 : Int32) (0 : Int32)))])
                    refine own_iload X542 hx (hb hby at_216) rfl ?_
                    refine own_icmp X542 hx (hb hby at_218) (pc' := 225) (by decide) (by decide) (fun hc => ?_) (fun hc => ?_)
                    · have hc218 : ¬ (pl_fs (((0 : Int32) + ((pl_end p1 (1 : Int32)) + (2 : Int32))) + ((pl_end p2 (1 : Int32)) + (2 : Int32))) (0 : Int32) (0 : Int32)) = ((((pl_end p1 (1 : Int32)) + (2 : Int32)) + ((pl_end p2 (1 : Int32)) + (2 : Int32))) + (0 : Int32)) := own_ne1 hc
                      exact absurd (by simp only [pl_fs, Int32.zero_add, if_true, if_false, show ((0 : Int32) = 0) = True from by decide]) hc218
                    · have hc218 : (pl_fs (((0 : Int32) + ((pl_end p1 (1 : Int32)) + (2 : Int32))) + ((pl_end p2 (1 : Int32)) + (2 : Int32))) (0 : Int32) (0 : Int32)) = ((((pl_end p1 (1 : Int32)) + (2 : Int32)) + ((pl_end p2 (1 : Int32)) + (2 : Int32))) + (0 : Int32)) := own_ne0 hc
                      clear hc
                      refine own_iconst X542 hx (1 : Int32) (hb hby at_221) rfl ?_
                      refine own_goto X542 hx (hb hby at_222) (pc' := 226) (by decide) (by decide) ?_
                      show own_R p e below s _ _ _ T542 (mkF m 226 #[.val (.int p0), .val (.int p1), .val (.int p2), .val (.int p3), .val (.int p4), .val (.int (2 : Int32)), .val (.int off), .val (.ref b529), .val (.ref b530), .val (.ref vw), .val (.int ((pl_end p1 (1 : Int32)) + (2 : Int32))), .val (.int ((pl_end p2 (1 : Int32)) + (2 : Int32))), .val (.int (2 : Int32)), .val (.int (0 : Int32)), .val (.int p3), .val (.int (((pl_end p1 (1 : Int32)) + (2 : Int32)) + ((pl_end p2 (1 : Int32)) + (2 : Int32)))), .val (.int ((((pl_end p1 (1 : Int32)) + (2 : Int32)) + ((pl_end p2 (1 : Int32)) + (2 : Int32))) + (0 : Int32)))] [(.int (1 : Int32))])
                      refine own_retN X542 hx (t := .boolean) Bd.returns (by simp) hlk (hb hby at_226) ?_ (by decide) (by decide)
                      exact ⟨rfl, N542⟩
                · have hc167 : (2 : Int32) = (1 : Int32) := own_ne0 hc
                  exact absurd hc167 (by decide)
              · have hc157 : (2 : Int32) = (0 : Int32) := own_ne0 hc
                exact absurd hc157 (by decide)
            · have hc145 : (2 : Int32) = (1 : Int32) := own_ne0 hc
              exact absurd hc145 (by decide)
          · have hc135 : (2 : Int32) = (0 : Int32) := own_ne0 hc
            exact absurd hc135 (by decide)
        ·
          show own_R p e below s _ _ _ Tj (mkF m 133 #[.val (.int p0), .val (.int p1), .val (.int p2), .val (.int p3), .val (.int p4), .val (.int (2 : Int32)), .val (.int off), .val (.ref b529), .val (.ref b530), .val (.ref vw), .val (.int ((pl_end p1 (1 : Int32)) + (2 : Int32))), .val (.int ((pl_end p2 (1 : Int32)) + (2 : Int32))), .val (.int (2 : Int32)), .val (.int (1 : Int32)), .unset, .unset, .unset] [])
          refine own_iload Xj hx (hb hby at_133) rfl ?_
          refine own_if Xj hx (hb hby at_135) (pc' := 142) (by decide) (by decide) (fun hc => ?_) (fun hc => ?_)
          · have hc135 : ¬ (2 : Int32) = (0 : Int32) := own_ne1 hc
            clear hc
            refine own_iload Xj hx (hb hby at_142) rfl ?_
            refine own_iconst Xj hx (1 : Int32) (hb hby at_144) rfl ?_
            refine own_icmp Xj hx (hb hby at_145) (pc' := 152) (by decide) (by decide) (fun hc => ?_) (fun hc => ?_)
            · have hc145 : ¬ (2 : Int32) = (1 : Int32) := own_ne1 hc
              clear hc
              refine own_iloadN Xj hx (hb hby at_152) rfl ?_
              refine own_istore Xj hx (hb hby at_153) (l' := #[.val (.int p0), .val (.int p1), .val (.int p2), .val (.int p3), .val (.int p4), .val (.int (2 : Int32)), .val (.int off), .val (.ref b529), .val (.ref b530), .val (.ref vw), .val (.int ((pl_end p1 (1 : Int32)) + (2 : Int32))), .val (.int ((pl_end p2 (1 : Int32)) + (2 : Int32))), .val (.int (2 : Int32)), .val (.int (1 : Int32)), .val (.int p3), .unset, .unset]) rfl ?_
              refine own_iload Xj hx (hb hby at_155) rfl ?_
              refine own_if Xj hx (hb hby at_157) (pc' := 164) (by decide) (by decide) (fun hc => ?_) (fun hc => ?_)
              · have hc157 : ¬ (2 : Int32) = (0 : Int32) := own_ne1 hc
                clear hc
                refine own_iload Xj hx (hb hby at_164) rfl ?_
                refine own_iconst Xj hx (1 : Int32) (hb hby at_166) rfl ?_
                refine own_icmp Xj hx (hb hby at_167) (pc' := 175) (by decide) (by decide) (fun hc => ?_) (fun hc => ?_)
                · have hc167 : ¬ (2 : Int32) = (1 : Int32) := own_ne1 hc
                  clear hc
                  refine own_iload Xj hx (hb hby at_175) rfl ?_
                  refine own_iload Xj hx (hb hby at_177) rfl ?_
                  refine own_iadd Xj hx (hb hby at_179) ?_
                  refine own_istore Xj hx (hb hby at_180) (l' := #[.val (.int p0), .val (.int p1), .val (.int p2), .val (.int p3), .val (.int p4), .val (.int (2 : Int32)), .val (.int off), .val (.ref b529), .val (.ref b530), .val (.ref vw), .val (.int ((pl_end p1 (1 : Int32)) + (2 : Int32))), .val (.int ((pl_end p2 (1 : Int32)) + (2 : Int32))), .val (.int (2 : Int32)), .val (.int (1 : Int32)), .val (.int p3), .val (.int (((pl_end p1 (1 : Int32)) + (2 : Int32)) + ((pl_end p2 (1 : Int32)) + (2 : Int32)))), .unset]) rfl ?_
                  refine own_iload Xj hx (hb hby at_182) rfl ?_
                  refine own_iload Xj hx (hb hby at_184) rfl ?_
                  refine own_if Xj hx (hb hby at_186) (pc' := 193) (by decide) (by decide) (fun hc => ?_) (fun hc => ?_)
                  · have hc186 : ¬ (1 : Int32) = (0 : Int32) := own_ne1 hc
                    clear hc
                    refine own_iload Xj hx (hb hby at_193) rfl ?_
                    refine own_iload Xj hx (hb hby at_195) rfl ?_
                    refine own_iconst Xj hx (1 : Int32) (hb hby at_197) rfl ?_
                    refine own_isub Xj hx (hb hby at_198) ?_
                    refine own_callS Xj hx hZ (y := my9) hown (hw _ (List.mem_of_getElem? (i := 95) rfl)) (hw _ (List.mem_of_getElem? (i := 96) rfl)) (hw _ (List.mem_of_getElem? (i := 93) rfl)) (hw _ (List.mem_of_getElem? (i := 97) rfl)) (by decide) (rm9 l Z a0 hw [] p3 (0 : Int32) gj n0 Zj) 1 (by decide) (by decide) ej (by rw [hml]; rfl) [(.int p3), (.int (0 : Int32))] [(.int (((pl_end p1 (1 : Int32)) + (2 : Int32)) + ((pl_end p2 (1 : Int32)) + (2 : Int32))))] rfl (lenOf pd_8 rfl) rfl (Nat.le_of_eq rfl) (hb hby at_199) (by decide) (by decide) ?_
                    rintro T543 _ L543 X543 ⟨rfl, N543q, e543⟩
                    have N543 := Fr.app Nj N543q
                    show own_R p e below s _ _ _ T543 (mkF m 202 #[.val (.int p0), .val (.int p1), .val (.int p2), .val (.int p3), .val (.int p4), .val (.int (2 : Int32)), .val (.int off), .val (.ref b529), .val (.ref b530), .val (.ref vw), .val (.int ((pl_end p1 (1 : Int32)) + (2 : Int32))), .val (.int ((pl_end p2 (1 : Int32)) + (2 : Int32))), .val (.int (2 : Int32)), .val (.int (1 : Int32)), .val (.int p3), .val (.int (((pl_end p1 (1 : Int32)) + (2 : Int32)) + ((pl_end p2 (1 : Int32)) + (2 : Int32)))), .unset] [(.int (pl_end p3 (0 : Int32))), (.int (((pl_end p1 (1 : Int32)) + (2 : Int32)) + ((pl_end p2 (1 : Int32)) + (2 : Int32))))])
                    refine own_iconst X543 hx (1 : Int32) (hb hby at_202) rfl ?_
                    refine own_iadd X543 hx (hb hby at_203) ?_
                    refine own_iadd X543 hx (hb hby at_204) ?_
                    refine own_istore X543 hx (hb hby at_205) (l' := #[.val (.int p0), .val (.int p1), .val (.int p2), .val (.int p3), .val (.int p4), .val (.int (2 : Int32)), .val (.int off), .val (.ref b529), .val (.ref b530), .val (.ref vw), .val (.int ((pl_end p1 (1 : Int32)) + (2 : Int32))), .val (.int ((pl_end p2 (1 : Int32)) + (2 : Int32))), .val (.int (2 : Int32)), .val (.int (1 : Int32)), .val (.int p3), .val (.int (((pl_end p1 (1 : Int32)) + (2 : Int32)) + ((pl_end p2 (1 : Int32)) + (2 : Int32)))), .val (.int ((((pl_end p1 (1 : Int32)) + (2 : Int32)) + ((pl_end p2 (1 : Int32)) + (2 : Int32))) + ((pl_end p3 (0 : Int32)) + (1 : Int32))))]) rfl ?_
                    refine own_aload X543 hx (hb hby at_207) rfl rfl ?_
                    refine own_iload X543 hx (hb hby at_209) rfl ?_
                    refine own_iload X543 hx (hb hby at_211) rfl ?_
                    refine own_callV X543 hx hZ (y := my16) (z := my16) hown (hw _ (List.mem_of_getElem? (i := 136) rfl)) (hw _ (List.mem_of_getElem? (i := 137) rfl)) (notFace_of_selects (args := #[]) (mvT hZ (hw _ (List.mem_of_getElem? (i := 139) rfl)))) (hw _ (List.mem_of_getElem? (i := 139) rfl)) (hw _ (List.mem_of_getElem? (i := 138) rfl)) (hw _ (List.mem_of_getElem? (i := 3) rfl)) (hw _ (List.mem_of_getElem? (i := 140) rfl)) (by decide) (rm16 l Z a0 hw [] b530 (2 : Int32) (1 : Int32) ys yf ks kf (2 : Int32) [o0, (.int ((0 : Int32) + ((pl_end p1 (1 : Int32)) + (2 : Int32)))), (.int (((0 : Int32) + ((pl_end p1 (1 : Int32)) + (2 : Int32))) + ((pl_end p2 (1 : Int32)) + (2 : Int32)))), o0, o0, o0, o0, o0, o0, o0, o0, o0, o0, o0, o0, o0] [(.int (pl_end p1 (0 : Int32))), (.int (pl_end p1 (1 : Int32))), (.int (pl_end p2 (0 : Int32))), (.int (pl_end p2 (1 : Int32))), (.int (pl_end p3 (0 : Int32))), (.int (pl_end p3 (1 : Int32))), o0, o0, o0, o0, o0, o0, o0, o0, o0, o0, o0, o0, o0, o0, o0, o0, o0, o0, o0, o0, o0, o0, o0, o0, o0, o0] (((0 : Int32) + ((pl_end p1 (1 : Int32)) + (2 : Int32))) + ((pl_end p2 (1 : Int32)) + (2 : Int32))) (pl_end p3 (0 : Int32)) gj n0 Zj jf1 jf2 jf3 jV1 jV2 (by decide) rfl (fun _ => by decide) (fun _ => rfl)) 0 (by decide) (by decide) e543 (by rw [hml]; rfl) b530 jE [(.int (2 : Int32)), (.int (1 : Int32))] [] rfl (lenOf pd_8 rfl) rfl (Nat.le_of_eq rfl) (hb hby at_213) (by decide) (by decide) ?_
                    rintro T544 _ L544 X544 ⟨rfl, N544q, e544⟩
                    have N544 := Fr.app N543 N544q
                    show own_R p e below s _ _ _ T544 (mkF m 216 #[.val (.int p0), .val (.int p1), .val (.int p2), .val (.int p3), .val (.int p4), .val (.int (2 : Int32)), .val (.int off), .val (.ref b529), .val (.ref b530), .val (.ref vw), .val (.int ((pl_end p1 (1 : Int32)) + (2 : Int32))), .val (.int ((pl_end p2 (1 : Int32)) + (2 : Int32))), .val (.int (2 : Int32)), .val (.int (1 : Int32)), .val (.int p3), .val (.int (((pl_end p1 (1 : Int32)) + (2 : Int32)) + ((pl_end p2 (1 : Int32)) + (2 : Int32)))), .val (.int ((((pl_end p1 (1 : Int32)) + (2 : Int32)) + ((pl_end p2 (1 : Int32)) + (2 : Int32))) + ((pl_end p3 (0 : Int32)) + (1 : Int32))))] [(.int (pl_fs (((0 : Int32) + ((pl_end p1 (1 : Int32)) + (2 : Int32))) + ((pl_end p2 (1 : Int32)) + (2 : Int32))) (pl_end p3 (0 : Int32)) (1 : Int32)))])
                    refine own_iload X544 hx (hb hby at_216) rfl ?_
                    refine own_icmp X544 hx (hb hby at_218) (pc' := 225) (by decide) (by decide) (fun hc => ?_) (fun hc => ?_)
                    · have hc218 : ¬ (pl_fs (((0 : Int32) + ((pl_end p1 (1 : Int32)) + (2 : Int32))) + ((pl_end p2 (1 : Int32)) + (2 : Int32))) (pl_end p3 (0 : Int32)) (1 : Int32)) = ((((pl_end p1 (1 : Int32)) + (2 : Int32)) + ((pl_end p2 (1 : Int32)) + (2 : Int32))) + ((pl_end p3 (0 : Int32)) + (1 : Int32))) := own_ne1 hc
                      exact absurd (by simp only [pl_fs, Int32.zero_add, if_true, if_false, show ((1 : Int32) = 0) = False from by decide]) hc218
                    · have hc218 : (pl_fs (((0 : Int32) + ((pl_end p1 (1 : Int32)) + (2 : Int32))) + ((pl_end p2 (1 : Int32)) + (2 : Int32))) (pl_end p3 (0 : Int32)) (1 : Int32)) = ((((pl_end p1 (1 : Int32)) + (2 : Int32)) + ((pl_end p2 (1 : Int32)) + (2 : Int32))) + ((pl_end p3 (0 : Int32)) + (1 : Int32))) := own_ne0 hc
                      clear hc
                      refine own_iconst X544 hx (1 : Int32) (hb hby at_221) rfl ?_
                      refine own_goto X544 hx (hb hby at_222) (pc' := 226) (by decide) (by decide) ?_
                      show own_R p e below s _ _ _ T544 (mkF m 226 #[.val (.int p0), .val (.int p1), .val (.int p2), .val (.int p3), .val (.int p4), .val (.int (2 : Int32)), .val (.int off), .val (.ref b529), .val (.ref b530), .val (.ref vw), .val (.int ((pl_end p1 (1 : Int32)) + (2 : Int32))), .val (.int ((pl_end p2 (1 : Int32)) + (2 : Int32))), .val (.int (2 : Int32)), .val (.int (1 : Int32)), .val (.int p3), .val (.int (((pl_end p1 (1 : Int32)) + (2 : Int32)) + ((pl_end p2 (1 : Int32)) + (2 : Int32)))), .val (.int ((((pl_end p1 (1 : Int32)) + (2 : Int32)) + ((pl_end p2 (1 : Int32)) + (2 : Int32))) + ((pl_end p3 (0 : Int32)) + (1 : Int32))))] [(.int (1 : Int32))])
                      refine own_retN X544 hx (t := .boolean) Bd.returns (by simp) hlk (hb hby at_226) ?_ (by decide) (by decide)
                      exact ⟨rfl, N544⟩
                  · have hc186 : (1 : Int32) = (0 : Int32) := own_ne0 hc
                    exact absurd hc186 (by decide)
                · have hc167 : (2 : Int32) = (1 : Int32) := own_ne0 hc
                  exact absurd hc167 (by decide)
              · have hc157 : (2 : Int32) = (0 : Int32) := own_ne0 hc
                exact absurd hc157 (by decide)
            · have hc145 : (2 : Int32) = (1 : Int32) := own_ne0 hc
              exact absurd hc145 (by decide)
          · have hc135 : (2 : Int32) = (0 : Int32) := own_ne0 hc
            exact absurd hc135 (by decide)
    refine own_iloadN X532 hx (hb hby at_40) rfl ?_
    refine own_iconst X532 hx (2 : Int32) (hb hby at_41) rfl ?_
    refine own_iushr X532 hx (hb hby at_42) ?_
    refine own_iconst X532 hx (1 : Int32) (hb hby at_43) rfl ?_
    refine own_iand X532 hx (hb hby at_44) ?_
    refine own_if X532 hx (hb hby at_45) (pc' := 68) (by decide) (by decide) (fun hc => ?_) (fun hc => ?_)
    · have hc45 : (((p0.toUInt32 >>> ((2 : Int32) &&& 31).toUInt32).toInt32) &&& (1 : Int32)) = (0 : Int32) := own_eq1 hc
      clear hc
      refine own_aload X532 hx (hb hby at_68) rfl rfl ?_
      refine own_aload X532 hx (hb hby at_70) rfl rfl ?_
      refine own_aload X532 hx (hb hby at_72) rfl rfl ?_
      refine own_iload X532 hx (hb hby at_74) rfl ?_
      refine own_iloadN X532 hx (hb hby at_76) rfl ?_
      refine own_iload X532 hx (hb hby at_77) rfl ?_
      have f545 := (Exa.keep Eh531 Kc532)
      have f546 := (F531_bytes.keep Kc532 (ninS ne_b530_vw (ninS ne_b530_ye nin0)))
      have f547 := (F531_starts.keep Kc532 (ninS ne_b530_vw (ninS ne_b530_ye nin0)))
      have f548 := (F531_ascii.keep Kc532 (ninS ne_b530_vw (ninS ne_b530_ye nin0)))
      have f549 := (F531_columns.keep Kc532 (ninS ne_b530_vw (ninS ne_b530_ye nin0)))
      have f550 := (F531_fieldEnds.keep Kc532 (ninS ne_b530_vw (ninS ne_b530_ye nin0)))
      have f551 := (F531_view.keep Kc532 (ninS ne_b530_vw (ninS ne_b530_ye nin0)))
      have f552 := (F531_size.keep Kc532 (ninS ne_b530_vw (ninS ne_b530_ye nin0)))
      have f553 := (F531_length.keep Kc532 (ninS ne_b530_vw (ninS ne_b530_ye nin0)))
      have f554 := (Vb531.keep Kc532 (ninS (Ne.symm ne_vw_yb) (ninS ne_yb_ye nin0)))
      have f555 := (Vs531.keep Kc532 (ninS (Ne.symm ne_vw_ys) (ninS ne2 nin0)))
      have f556 := (Vz531.keep Kc532 (ninS (Ne.symm ne_vw_yz) (ninS ne_yz_ye nin0)))
      have f557 := (((V_b529.ext E530).keep Kc531 (ninS ne_b529_b530 nin0)).keep Kc532 (ninS ne_b529_vw (ninS ne_b529_ye nin0)))
      refine own_callS X532 hx hZ (y := my8) hown (hw _ (List.mem_of_getElem? (i := 91) rfl)) (hw _ (List.mem_of_getElem? (i := 92) rfl)) (hw _ (List.mem_of_getElem? (i := 93) rfl)) (hw _ (List.mem_of_getElem? (i := 94) rfl)) (by decide) (rm8_2 l Z a0 hw [] b530 vw b529 p1 off yb ys yz yf ye kb ks kz kf ke k529 (0 : Int32) (0 : Int32) (List.replicate 4096 o0) [o0, o0, o0, o0, o0, o0, o0, o0, o0, o0, o0, o0, o0, o0, o0, o0] [o0, o0, o0, o0, o0, o0, o0, o0, o0, o0, o0, o0, o0, o0, o0, o0] [o0, o0, o0, o0, o0, o0, o0, o0, o0, o0, o0, o0, o0, o0, o0, o0, o0, o0, o0, o0, o0, o0, o0, o0, o0, o0, o0, o0, o0, o0, o0, o0] [(.int (0 : Int32)), (.int (0 : Int32)), (.int (0 : Int32)), (.int (0 : Int32)), (.int (0 : Int32)), (.int (0 : Int32)), (.int (0 : Int32)), (.int (0 : Int32)), (.int (0 : Int32)), (.int (0 : Int32)), (.int (0 : Int32)), (.int (0 : Int32)), (.int (0 : Int32)), (.int (0 : Int32)), (.int (0 : Int32)), (.int (0 : Int32)), (.int (0 : Int32)), (.int (0 : Int32)), (.int (0 : Int32)), (.int (0 : Int32)), (.int (0 : Int32)), (.int (0 : Int32)), (.int (0 : Int32)), (.int (0 : Int32)), (.int (0 : Int32)), (.int (0 : Int32)), (.int (0 : Int32)), (.int (0 : Int32)), (.int (0 : Int32)), (.int (0 : Int32)), (.int (0 : Int32)), (.int (0 : Int32)), (.int (0 : Int32)), (.int (0 : Int32)), (.int (0 : Int32)), (.int (0 : Int32)), (.int (0 : Int32)), (.int (0 : Int32)), (.int (0 : Int32)), (.int (0 : Int32))] o0 o0 (.int (-1 : Int32)) (.ref yb) o0 o0 T532.heap n0 (Nat.le_trans Z0 K532.1) f545 f546 f547 f548 f549 f550 f551 f552 f553 Ev532 G532_rowEnd G532_bytes G532_rowStart G532_ascii G532_fieldEnds f554 f555 f556 V_yf_535 V_ye_533 f557 ne1 ne2 ne3 (Ne.symm ne_b529_yb) n0_b530 n0_yb n0_yf n0_ys n0_yz n0_vw n0_ye (by decide) (by decide) hof rfl rfl (List.length_replicate ..) rfl) 0 (by decide) (by decide) rfl (by rw [hml]; rfl) [(.ref b530), (.ref vw), (.ref b529), (.int (2 : Int32)), (.int p1), (.int off)] [] rfl (lenOf pd_11 rfl) rfl (Nat.le_of_eq rfl) (hb hby at_79) (by decide) (by decide) ?_
      rintro T558 _ L558 X558 ⟨rfl, N558q, Kc558, Eh558, F558_bytes, F558_starts, F558_ascii, F558_columns, F558_fieldEnds, F558_view, F558_size, F558_length, ⟨bs558, lb558, Vb558⟩, Vf558, Vs558, ⟨zs558, lz558, Vz558⟩, Ev558, G558_rowEnd, G558_bytes, G558_fieldEnds, G558_rowStart, G558_ascii, Ve558⟩
      have N558 := Fr.app N532 N558q
      have K558 := K532.trans Kc558 (allS (P := fun x => x ∈ ([] : List Addr) ∨ h0.size ≤ x) (Or.inr sz_b530) (allS (P := fun x => x ∈ ([] : List Addr) ∨ h0.size ≤ x) (Or.inr sz_vw) (allS (P := fun x => x ∈ ([] : List Addr) ∨ h0.size ≤ x) (Or.inr sz_ye) (allS (P := fun x => x ∈ ([] : List Addr) ∨ h0.size ≤ x) (Or.inr sz_yb) (allS (P := fun x => x ∈ ([] : List Addr) ∨ h0.size ≤ x) (Or.inr sz_yf) (allS (P := fun x => x ∈ ([] : List Addr) ∨ h0.size ≤ x) (Or.inr sz_ys) (allS (P := fun x => x ∈ ([] : List Addr) ∨ h0.size ≤ x) (Or.inr sz_yz) all0)))))))
      show own_R p e below s _ _ _ T558 (mkF m 82 #[.val (.int p0), .val (.int p1), .val (.int p2), .val (.int p3), .val (.int p4), .val (.int (2 : Int32)), .val (.int off), .val (.ref b529), .val (.ref b530), .val (.ref vw), .unset, .unset, .unset, .unset, .unset, .unset, .unset] [(.int ((pl_end p1 (1 : Int32)) + (2 : Int32)))])
      have Fz558 : Fld Z T558.heap b530 cH "size" "I" (.int (1 : Int32)) := F558_size
      have V_ys_559 : Arv Z T558.heap ys ks .int (16 : Int32) [(.int (0 : Int32)), o0, o0, o0, o0, o0, o0, o0, o0, o0, o0, o0, o0, o0, o0, o0] o0 := Vs558
      have V_yf_560 : Arv Z T558.heap yf kf .int ((16 : Int32) * (2 : Int32)) [(.int (pl_end p1 (0 : Int32))), (.int (pl_end p1 (1 : Int32))), o0, o0, o0, o0, o0, o0, o0, o0, o0, o0, o0, o0, o0, o0, o0, o0, o0, o0, o0, o0, o0, o0, o0, o0, o0, o0, o0, o0, o0, o0] o0 := Vf558
      have V_ye_561 : Arv Z T558.heap ye ke .int (2 : Int32) [(.int (pl_end p1 (0 : Int32))), (.int (pl_end p1 (1 : Int32)))] o0 := Ve558
      have hl1 : 0 ≤ ((0 : Int32) + ((pl_end p1 (1 : Int32)) + (2 : Int32))).toInt ∧ ((0 : Int32) + ((pl_end p1 (1 : Int32)) + (2 : Int32))).toInt ≤ 100 := pl_b1 p1 (1 : Int32)
      refine own_istore X558 hx (hb hby at_82) (l' := #[.val (.int p0), .val (.int p1), .val (.int p2), .val (.int p3), .val (.int p4), .val (.int (2 : Int32)), .val (.int off), .val (.ref b529), .val (.ref b530), .val (.ref vw), .val (.int ((pl_end p1 (1 : Int32)) + (2 : Int32))), .unset, .unset, .unset, .unset, .unset, .unset]) rfl ?_
      refine own_aload X558 hx (hb hby at_84) rfl rfl ?_
      refine own_aload X558 hx (hb hby at_86) rfl rfl ?_
      refine own_aload X558 hx (hb hby at_88) rfl rfl ?_
      refine own_iload X558 hx (hb hby at_90) rfl ?_
      refine own_iloadN X558 hx (hb hby at_92) rfl ?_
      refine own_iload X558 hx (hb hby at_93) rfl ?_
      have f562 := (f557.keep Kc558 (ninS ne_b529_b530 (ninS ne_b529_vw (ninS ne_b529_ye (ninS ne_b529_yb (ninS ne_b529_yf (ninS ne_b529_ys (ninS ne_b529_yz nin0))))))))
      refine own_callS X558 hx hZ (y := my8) hown (hw _ (List.mem_of_getElem? (i := 91) rfl)) (hw _ (List.mem_of_getElem? (i := 92) rfl)) (hw _ (List.mem_of_getElem? (i := 93) rfl)) (hw _ (List.mem_of_getElem? (i := 94) rfl)) (by decide) (rm8_2 l Z a0 hw [] b530 vw b529 p2 off yb ys yz yf ye kb ks kz kf ke k529 (1 : Int32) ((0 : Int32) + ((pl_end p1 (1 : Int32)) + (2 : Int32))) bs558 [(.int (0 : Int32)), o0, o0, o0, o0, o0, o0, o0, o0, o0, o0, o0, o0, o0, o0, o0] zs558 [(.int (pl_end p1 (0 : Int32))), (.int (pl_end p1 (1 : Int32))), o0, o0, o0, o0, o0, o0, o0, o0, o0, o0, o0, o0, o0, o0, o0, o0, o0, o0, o0, o0, o0, o0, o0, o0, o0, o0, o0, o0, o0, o0] [(.int (0 : Int32)), (.int (0 : Int32)), (.int (0 : Int32)), (.int (0 : Int32)), (.int (0 : Int32)), (.int (0 : Int32)), (.int (0 : Int32)), (.int (0 : Int32)), (.int (0 : Int32)), (.int (0 : Int32)), (.int (0 : Int32)), (.int (0 : Int32)), (.int (0 : Int32)), (.int (0 : Int32)), (.int (0 : Int32)), (.int (0 : Int32)), (.int (0 : Int32)), (.int (0 : Int32)), (.int (0 : Int32)), (.int (0 : Int32)), (.int (0 : Int32)), (.int (0 : Int32)), (.int (0 : Int32)), (.int (0 : Int32)), (.int (0 : Int32)), (.int (0 : Int32)), (.int (0 : Int32)), (.int (0 : Int32)), (.int (0 : Int32)), (.int (0 : Int32)), (.int (0 : Int32)), (.int (0 : Int32)), (.int (0 : Int32)), (.int (0 : Int32)), (.int (0 : Int32)), (.int (0 : Int32)), (.int (0 : Int32)), (.int (0 : Int32)), (.int (0 : Int32)), (.int (0 : Int32))] (.int (pl_end p1 (0 : Int32))) (.int (pl_end p1 (1 : Int32))) (.int ((off + (pl_end p1 (1 : Int32))) + (1 : Int32))) (.ref b529) (.int off) (.int (1 : Int32)) T558.heap n0 (Nat.le_trans Z0 K558.1) Eh558 F558_bytes F558_starts F558_ascii F558_columns F558_fieldEnds F558_view Fz558 F558_length Ev558 G558_rowEnd G558_bytes G558_rowStart G558_ascii G558_fieldEnds Vb558 V_ys_559 Vz558 V_yf_560 V_ye_561 f562 ne1 ne2 ne3 (Ne.symm ne_b529_yb) n0_b530 n0_yb n0_yf n0_ys n0_yz n0_vw n0_ye (by decide) hl1 hof rfl rfl lb558 lz558) 0 (by decide) (by decide) rfl (by rw [hml]; rfl) [(.ref b530), (.ref vw), (.ref b529), (.int (2 : Int32)), (.int p2), (.int off)] [] rfl (lenOf pd_11 rfl) rfl (Nat.le_of_eq rfl) (hb hby at_95) (by decide) (by decide) ?_
      rintro T563 _ L563 X563 ⟨rfl, N563q, Kc563, Eh563, F563_bytes, F563_starts, F563_ascii, F563_columns, F563_fieldEnds, F563_view, F563_size, F563_length, ⟨bs563, lb563, Vb563⟩, Vf563, Vs563, ⟨zs563, lz563, Vz563⟩, Ev563, G563_rowEnd, G563_bytes, G563_fieldEnds, G563_rowStart, G563_ascii, Ve563⟩
      have N563 := Fr.app N558 N563q
      have K563 := K558.trans Kc563 (allS (P := fun x => x ∈ ([] : List Addr) ∨ h0.size ≤ x) (Or.inr sz_b530) (allS (P := fun x => x ∈ ([] : List Addr) ∨ h0.size ≤ x) (Or.inr sz_vw) (allS (P := fun x => x ∈ ([] : List Addr) ∨ h0.size ≤ x) (Or.inr sz_ye) (allS (P := fun x => x ∈ ([] : List Addr) ∨ h0.size ≤ x) (Or.inr sz_yb) (allS (P := fun x => x ∈ ([] : List Addr) ∨ h0.size ≤ x) (Or.inr sz_yf) (allS (P := fun x => x ∈ ([] : List Addr) ∨ h0.size ≤ x) (Or.inr sz_ys) (allS (P := fun x => x ∈ ([] : List Addr) ∨ h0.size ≤ x) (Or.inr sz_yz) all0)))))))
      show own_R p e below s _ _ _ T563 (mkF m 98 #[.val (.int p0), .val (.int p1), .val (.int p2), .val (.int p3), .val (.int p4), .val (.int (2 : Int32)), .val (.int off), .val (.ref b529), .val (.ref b530), .val (.ref vw), .val (.int ((pl_end p1 (1 : Int32)) + (2 : Int32))), .unset, .unset, .unset, .unset, .unset, .unset] [(.int ((pl_end p2 (1 : Int32)) + (2 : Int32)))])
      have Fz563 : Fld Z T563.heap b530 cH "size" "I" (.int (2 : Int32)) := F563_size
      have V_ys_564 : Arv Z T563.heap ys ks .int (16 : Int32) [(.int (0 : Int32)), (.int ((0 : Int32) + ((pl_end p1 (1 : Int32)) + (2 : Int32)))), o0, o0, o0, o0, o0, o0, o0, o0, o0, o0, o0, o0, o0, o0] o0 := Vs563
      have V_yf_565 : Arv Z T563.heap yf kf .int ((16 : Int32) * (2 : Int32)) [(.int (pl_end p1 (0 : Int32))), (.int (pl_end p1 (1 : Int32))), (.int (pl_end p2 (0 : Int32))), (.int (pl_end p2 (1 : Int32))), o0, o0, o0, o0, o0, o0, o0, o0, o0, o0, o0, o0, o0, o0, o0, o0, o0, o0, o0, o0, o0, o0, o0, o0, o0, o0, o0, o0] o0 := Vf563
      have V_ye_566 : Arv Z T563.heap ye ke .int (2 : Int32) [(.int (pl_end p2 (0 : Int32))), (.int (pl_end p2 (1 : Int32)))] o0 := Ve563
      have hl2 : 0 ≤ (((0 : Int32) + ((pl_end p1 (1 : Int32)) + (2 : Int32))) + ((pl_end p2 (1 : Int32)) + (2 : Int32))).toInt ∧ (((0 : Int32) + ((pl_end p1 (1 : Int32)) + (2 : Int32))) + ((pl_end p2 (1 : Int32)) + (2 : Int32))).toInt ≤ 100 := pl_b2 p1 p2 (1 : Int32)
      refine own_istore X563 hx (hb hby at_98) (l' := #[.val (.int p0), .val (.int p1), .val (.int p2), .val (.int p3), .val (.int p4), .val (.int (2 : Int32)), .val (.int off), .val (.ref b529), .val (.ref b530), .val (.ref vw), .val (.int ((pl_end p1 (1 : Int32)) + (2 : Int32))), .val (.int ((pl_end p2 (1 : Int32)) + (2 : Int32))), .unset, .unset, .unset, .unset, .unset]) rfl ?_
      refine own_aload X563 hx (hb hby at_100) rfl rfl ?_
      refine own_aload X563 hx (hb hby at_102) rfl rfl ?_
      refine own_aload X563 hx (hb hby at_104) rfl rfl ?_
      refine own_iload X563 hx (hb hby at_106) rfl ?_
      refine own_iloadN X563 hx (hb hby at_108) rfl ?_
      refine own_iload X563 hx (hb hby at_109) rfl ?_
      have f567 := (f562.keep Kc563 (ninS ne_b529_b530 (ninS ne_b529_vw (ninS ne_b529_ye (ninS ne_b529_yb (ninS ne_b529_yf (ninS ne_b529_ys (ninS ne_b529_yz nin0))))))))
      refine own_callS X563 hx hZ (y := my8) hown (hw _ (List.mem_of_getElem? (i := 91) rfl)) (hw _ (List.mem_of_getElem? (i := 92) rfl)) (hw _ (List.mem_of_getElem? (i := 93) rfl)) (hw _ (List.mem_of_getElem? (i := 94) rfl)) (by decide) (rm8_2 l Z a0 hw [] b530 vw b529 p3 off yb ys yz yf ye kb ks kz kf ke k529 (2 : Int32) (((0 : Int32) + ((pl_end p1 (1 : Int32)) + (2 : Int32))) + ((pl_end p2 (1 : Int32)) + (2 : Int32))) bs563 [(.int (0 : Int32)), (.int ((0 : Int32) + ((pl_end p1 (1 : Int32)) + (2 : Int32)))), o0, o0, o0, o0, o0, o0, o0, o0, o0, o0, o0, o0, o0, o0] zs563 [(.int (pl_end p1 (0 : Int32))), (.int (pl_end p1 (1 : Int32))), (.int (pl_end p2 (0 : Int32))), (.int (pl_end p2 (1 : Int32))), o0, o0, o0, o0, o0, o0, o0, o0, o0, o0, o0, o0, o0, o0, o0, o0, o0, o0, o0, o0, o0, o0, o0, o0, o0, o0, o0, o0] [(.int (0 : Int32)), (.int (0 : Int32)), (.int (0 : Int32)), (.int (0 : Int32)), (.int (0 : Int32)), (.int (0 : Int32)), (.int (0 : Int32)), (.int (0 : Int32)), (.int (0 : Int32)), (.int (0 : Int32)), (.int (0 : Int32)), (.int (0 : Int32)), (.int (0 : Int32)), (.int (0 : Int32)), (.int (0 : Int32)), (.int (0 : Int32)), (.int (0 : Int32)), (.int (0 : Int32)), (.int (0 : Int32)), (.int (0 : Int32)), (.int (0 : Int32)), (.int (0 : Int32)), (.int (0 : Int32)), (.int (0 : Int32)), (.int (0 : Int32)), (.int (0 : Int32)), (.int (0 : Int32)), (.int (0 : Int32)), (.int (0 : Int32)), (.int (0 : Int32)), (.int (0 : Int32)), (.int (0 : Int32)), (.int (0 : Int32)), (.int (0 : Int32)), (.int (0 : Int32)), (.int (0 : Int32)), (.int (0 : Int32)), (.int (0 : Int32)), (.int (0 : Int32)), (.int (0 : Int32))] (.int (pl_end p2 (0 : Int32))) (.int (pl_end p2 (1 : Int32))) (.int ((off + (pl_end p2 (1 : Int32))) + (1 : Int32))) (.ref b529) (.int off) (.int (1 : Int32)) T563.heap n0 (Nat.le_trans Z0 K563.1) Eh563 F563_bytes F563_starts F563_ascii F563_columns F563_fieldEnds F563_view Fz563 F563_length Ev563 G563_rowEnd G563_bytes G563_rowStart G563_ascii G563_fieldEnds Vb563 V_ys_564 Vz563 V_yf_565 V_ye_566 f567 ne1 ne2 ne3 (Ne.symm ne_b529_yb) n0_b530 n0_yb n0_yf n0_ys n0_yz n0_vw n0_ye (by decide) hl2 hof rfl rfl lb563 lz563) 0 (by decide) (by decide) rfl (by rw [hml]; rfl) [(.ref b530), (.ref vw), (.ref b529), (.int (2 : Int32)), (.int p3), (.int off)] [] rfl (lenOf pd_11 rfl) rfl (Nat.le_of_eq rfl) (hb hby at_111) (by decide) (by decide) ?_
      rintro T568 _ L568 X568 ⟨rfl, N568q, Kc568, Eh568, F568_bytes, F568_starts, F568_ascii, F568_columns, F568_fieldEnds, F568_view, F568_size, F568_length, ⟨bs568, lb568, Vb568⟩, Vf568, Vs568, ⟨zs568, lz568, Vz568⟩, Ev568, G568_rowEnd, G568_bytes, G568_fieldEnds, G568_rowStart, G568_ascii, Ve568⟩
      have N568 := Fr.app N563 N568q
      have K568 := K563.trans Kc568 (allS (P := fun x => x ∈ ([] : List Addr) ∨ h0.size ≤ x) (Or.inr sz_b530) (allS (P := fun x => x ∈ ([] : List Addr) ∨ h0.size ≤ x) (Or.inr sz_vw) (allS (P := fun x => x ∈ ([] : List Addr) ∨ h0.size ≤ x) (Or.inr sz_ye) (allS (P := fun x => x ∈ ([] : List Addr) ∨ h0.size ≤ x) (Or.inr sz_yb) (allS (P := fun x => x ∈ ([] : List Addr) ∨ h0.size ≤ x) (Or.inr sz_yf) (allS (P := fun x => x ∈ ([] : List Addr) ∨ h0.size ≤ x) (Or.inr sz_ys) (allS (P := fun x => x ∈ ([] : List Addr) ∨ h0.size ≤ x) (Or.inr sz_yz) all0)))))))
      show own_R p e below s _ _ _ T568 (mkF m 114 #[.val (.int p0), .val (.int p1), .val (.int p2), .val (.int p3), .val (.int p4), .val (.int (2 : Int32)), .val (.int off), .val (.ref b529), .val (.ref b530), .val (.ref vw), .val (.int ((pl_end p1 (1 : Int32)) + (2 : Int32))), .val (.int ((pl_end p2 (1 : Int32)) + (2 : Int32))), .unset, .unset, .unset, .unset, .unset] [(.int ((pl_end p3 (1 : Int32)) + (2 : Int32)))])
      have Fz568 : Fld Z T568.heap b530 cH "size" "I" (.int (3 : Int32)) := F568_size
      have V_ys_569 : Arv Z T568.heap ys ks .int (16 : Int32) [(.int (0 : Int32)), (.int ((0 : Int32) + ((pl_end p1 (1 : Int32)) + (2 : Int32)))), (.int (((0 : Int32) + ((pl_end p1 (1 : Int32)) + (2 : Int32))) + ((pl_end p2 (1 : Int32)) + (2 : Int32)))), o0, o0, o0, o0, o0, o0, o0, o0, o0, o0, o0, o0, o0] o0 := Vs568
      have V_yf_570 : Arv Z T568.heap yf kf .int ((16 : Int32) * (2 : Int32)) [(.int (pl_end p1 (0 : Int32))), (.int (pl_end p1 (1 : Int32))), (.int (pl_end p2 (0 : Int32))), (.int (pl_end p2 (1 : Int32))), (.int (pl_end p3 (0 : Int32))), (.int (pl_end p3 (1 : Int32))), o0, o0, o0, o0, o0, o0, o0, o0, o0, o0, o0, o0, o0, o0, o0, o0, o0, o0, o0, o0, o0, o0, o0, o0, o0, o0] o0 := Vf568
      have V_ye_571 : Arv Z T568.heap ye ke .int (2 : Int32) [(.int (pl_end p3 (0 : Int32))), (.int (pl_end p3 (1 : Int32)))] o0 := Ve568
      refine own_pop X568 hx (hb hby at_114) rfl ?_
      exact J115 _ _ _ X568 rfl N568 (Nat.le_trans Z0 K568.1) F568_starts F568_fieldEnds F568_columns Eh568 V_ys_569 V_yf_570
    · have hc45 : ¬ (((p0.toUInt32 >>> ((2 : Int32) &&& 31).toUInt32).toInt32) &&& (1 : Int32)) = (0 : Int32) := own_eq0 hc
      clear hc
      refine own_aload X532 hx (hb hby at_48) rfl rfl ?_
      refine own_aload X532 hx (hb hby at_50) rfl rfl ?_
      refine own_aload X532 hx (hb hby at_52) rfl rfl ?_
      refine own_iload X532 hx (hb hby at_54) rfl ?_
      refine own_iloadN X532 hx (hb hby at_56) rfl ?_
      refine own_iload X532 hx (hb hby at_57) rfl ?_
      have f572 := (Exa.keep Eh531 Kc532)
      have f573 := (F531_bytes.keep Kc532 (ninS ne_b530_vw (ninS ne_b530_ye nin0)))
      have f574 := (F531_starts.keep Kc532 (ninS ne_b530_vw (ninS ne_b530_ye nin0)))
      have f575 := (F531_ascii.keep Kc532 (ninS ne_b530_vw (ninS ne_b530_ye nin0)))
      have f576 := (F531_columns.keep Kc532 (ninS ne_b530_vw (ninS ne_b530_ye nin0)))
      have f577 := (F531_fieldEnds.keep Kc532 (ninS ne_b530_vw (ninS ne_b530_ye nin0)))
      have f578 := (F531_view.keep Kc532 (ninS ne_b530_vw (ninS ne_b530_ye nin0)))
      have f579 := (F531_size.keep Kc532 (ninS ne_b530_vw (ninS ne_b530_ye nin0)))
      have f580 := (F531_length.keep Kc532 (ninS ne_b530_vw (ninS ne_b530_ye nin0)))
      have f581 := (Vb531.keep Kc532 (ninS (Ne.symm ne_vw_yb) (ninS ne_yb_ye nin0)))
      have f582 := (Vs531.keep Kc532 (ninS (Ne.symm ne_vw_ys) (ninS ne2 nin0)))
      have f583 := (Vz531.keep Kc532 (ninS (Ne.symm ne_vw_yz) (ninS ne_yz_ye nin0)))
      have f584 := (((V_b529.ext E530).keep Kc531 (ninS ne_b529_b530 nin0)).keep Kc532 (ninS ne_b529_vw (ninS ne_b529_ye nin0)))
      refine own_callS X532 hx hZ (y := my8) hown (hw _ (List.mem_of_getElem? (i := 91) rfl)) (hw _ (List.mem_of_getElem? (i := 92) rfl)) (hw _ (List.mem_of_getElem? (i := 93) rfl)) (hw _ (List.mem_of_getElem? (i := 94) rfl)) (by decide) (rm8_2 l Z a0 hw [] b530 vw b529 p3 off yb ys yz yf ye kb ks kz kf ke k529 (0 : Int32) (0 : Int32) (List.replicate 4096 o0) [o0, o0, o0, o0, o0, o0, o0, o0, o0, o0, o0, o0, o0, o0, o0, o0] [o0, o0, o0, o0, o0, o0, o0, o0, o0, o0, o0, o0, o0, o0, o0, o0] [o0, o0, o0, o0, o0, o0, o0, o0, o0, o0, o0, o0, o0, o0, o0, o0, o0, o0, o0, o0, o0, o0, o0, o0, o0, o0, o0, o0, o0, o0, o0, o0] [(.int (0 : Int32)), (.int (0 : Int32)), (.int (0 : Int32)), (.int (0 : Int32)), (.int (0 : Int32)), (.int (0 : Int32)), (.int (0 : Int32)), (.int (0 : Int32)), (.int (0 : Int32)), (.int (0 : Int32)), (.int (0 : Int32)), (.int (0 : Int32)), (.int (0 : Int32)), (.int (0 : Int32)), (.int (0 : Int32)), (.int (0 : Int32)), (.int (0 : Int32)), (.int (0 : Int32)), (.int (0 : Int32)), (.int (0 : Int32)), (.int (0 : Int32)), (.int (0 : Int32)), (.int (0 : Int32)), (.int (0 : Int32)), (.int (0 : Int32)), (.int (0 : Int32)), (.int (0 : Int32)), (.int (0 : Int32)), (.int (0 : Int32)), (.int (0 : Int32)), (.int (0 : Int32)), (.int (0 : Int32)), (.int (0 : Int32)), (.int (0 : Int32)), (.int (0 : Int32)), (.int (0 : Int32)), (.int (0 : Int32)), (.int (0 : Int32)), (.int (0 : Int32)), (.int (0 : Int32))] o0 o0 (.int (-1 : Int32)) (.ref yb) o0 o0 T532.heap n0 (Nat.le_trans Z0 K532.1) f572 f573 f574 f575 f576 f577 f578 f579 f580 Ev532 G532_rowEnd G532_bytes G532_rowStart G532_ascii G532_fieldEnds f581 f582 f583 V_yf_535 V_ye_533 f584 ne1 ne2 ne3 (Ne.symm ne_b529_yb) n0_b530 n0_yb n0_yf n0_ys n0_yz n0_vw n0_ye (by decide) (by decide) hof rfl rfl (List.length_replicate ..) rfl) 0 (by decide) (by decide) rfl (by rw [hml]; rfl) [(.ref b530), (.ref vw), (.ref b529), (.int (2 : Int32)), (.int p3), (.int off)] [] rfl (lenOf pd_11 rfl) rfl (Nat.le_of_eq rfl) (hb hby at_59) (by decide) (by decide) ?_
      rintro T585 _ L585 X585 ⟨rfl, N585q, Kc585, Eh585, F585_bytes, F585_starts, F585_ascii, F585_columns, F585_fieldEnds, F585_view, F585_size, F585_length, ⟨bs585, lb585, Vb585⟩, Vf585, Vs585, ⟨zs585, lz585, Vz585⟩, Ev585, G585_rowEnd, G585_bytes, G585_fieldEnds, G585_rowStart, G585_ascii, Ve585⟩
      have N585 := Fr.app N532 N585q
      have K585 := K532.trans Kc585 (allS (P := fun x => x ∈ ([] : List Addr) ∨ h0.size ≤ x) (Or.inr sz_b530) (allS (P := fun x => x ∈ ([] : List Addr) ∨ h0.size ≤ x) (Or.inr sz_vw) (allS (P := fun x => x ∈ ([] : List Addr) ∨ h0.size ≤ x) (Or.inr sz_ye) (allS (P := fun x => x ∈ ([] : List Addr) ∨ h0.size ≤ x) (Or.inr sz_yb) (allS (P := fun x => x ∈ ([] : List Addr) ∨ h0.size ≤ x) (Or.inr sz_yf) (allS (P := fun x => x ∈ ([] : List Addr) ∨ h0.size ≤ x) (Or.inr sz_ys) (allS (P := fun x => x ∈ ([] : List Addr) ∨ h0.size ≤ x) (Or.inr sz_yz) all0)))))))
      show own_R p e below s _ _ _ T585 (mkF m 62 #[.val (.int p0), .val (.int p1), .val (.int p2), .val (.int p3), .val (.int p4), .val (.int (2 : Int32)), .val (.int off), .val (.ref b529), .val (.ref b530), .val (.ref vw), .unset, .unset, .unset, .unset, .unset, .unset, .unset] [(.int ((pl_end p3 (1 : Int32)) + (2 : Int32)))])
      have Fz585 : Fld Z T585.heap b530 cH "size" "I" (.int (1 : Int32)) := F585_size
      have V_ys_586 : Arv Z T585.heap ys ks .int (16 : Int32) [(.int (0 : Int32)), o0, o0, o0, o0, o0, o0, o0, o0, o0, o0, o0, o0, o0, o0, o0] o0 := Vs585
      have V_yf_587 : Arv Z T585.heap yf kf .int ((16 : Int32) * (2 : Int32)) [(.int (pl_end p3 (0 : Int32))), (.int (pl_end p3 (1 : Int32))), o0, o0, o0, o0, o0, o0, o0, o0, o0, o0, o0, o0, o0, o0, o0, o0, o0, o0, o0, o0, o0, o0, o0, o0, o0, o0, o0, o0, o0, o0] o0 := Vf585
      have V_ye_588 : Arv Z T585.heap ye ke .int (2 : Int32) [(.int (pl_end p3 (0 : Int32))), (.int (pl_end p3 (1 : Int32)))] o0 := Ve585
      refine own_pop X585 hx (hb hby at_62) rfl ?_
      refine own_aload X585 hx (hb hby at_63) rfl rfl ?_
      refine own_callV X585 hx hZ (y := my17) (z := my17) hown (hw _ (List.mem_of_getElem? (i := 141) rfl)) (hw _ (List.mem_of_getElem? (i := 142) rfl)) (notFace_of_selects (args := #[]) (mvT hZ (hw _ (List.mem_of_getElem? (i := 144) rfl)))) (hw _ (List.mem_of_getElem? (i := 144) rfl)) (hw _ (List.mem_of_getElem? (i := 143) rfl)) (hw _ (List.mem_of_getElem? (i := 3) rfl)) (hw _ (List.mem_of_getElem? (i := 145) rfl)) (by decide) (rm17 l Z a0 hw [] b530 vw yb ys yz yf (2 : Int32) (1 : Int32) ((0 : Int32) + ((pl_end p3 (1 : Int32)) + (2 : Int32))) T585.heap n0 (Nat.le_trans Z0 K585.1) Eh585 F585_bytes F585_starts F585_ascii F585_columns F585_fieldEnds F585_view Fz585 F585_length n0_b530) 0 (by decide) (by decide) rfl (by rw [hml]; rfl) b530 Eh585 [] [] rfl (lenOf pd_12 rfl) rfl (Nat.le_of_eq rfl) (hb hby at_65) (by decide) (by decide) ?_
      rintro T589 _ L589 X589 ⟨rfl, N589q, Kc589, Eh589, F589_bytes, F589_starts, F589_ascii, F589_columns, F589_fieldEnds, F589_view, F589_size, F589_length⟩
      have N589 := Fr.app N585 N589q
      have K589 := K585.trans Kc589 (allS (P := fun x => x ∈ ([] : List Addr) ∨ h0.size ≤ x) (Or.inr sz_b530) all0)
      show own_R p e below s _ _ _ T589 (mkF m 68 #[.val (.int p0), .val (.int p1), .val (.int p2), .val (.int p3), .val (.int p4), .val (.int (2 : Int32)), .val (.int off), .val (.ref b529), .val (.ref b530), .val (.ref vw), .unset, .unset, .unset, .unset, .unset, .unset, .unset] [])
      refine own_aload X589 hx (hb hby at_68) rfl rfl ?_
      refine own_aload X589 hx (hb hby at_70) rfl rfl ?_
      refine own_aload X589 hx (hb hby at_72) rfl rfl ?_
      refine own_iload X589 hx (hb hby at_74) rfl ?_
      refine own_iloadN X589 hx (hb hby at_76) rfl ?_
      refine own_iload X589 hx (hb hby at_77) rfl ?_
      have f590 := (Exa.keep Ev585 Kc589)
      have f591 := (G585_rowEnd.keep Kc589 (ninS (Ne.symm ne_b530_vw) nin0))
      have f592 := (G585_bytes.keep Kc589 (ninS (Ne.symm ne_b530_vw) nin0))
      have f593 := (G585_rowStart.keep Kc589 (ninS (Ne.symm ne_b530_vw) nin0))
      have f594 := (G585_ascii.keep Kc589 (ninS (Ne.symm ne_b530_vw) nin0))
      have f595 := (G585_fieldEnds.keep Kc589 (ninS (Ne.symm ne_b530_vw) nin0))
      have f596 := (Vb585.keep Kc589 (ninS (Ne.symm ne_b530_yb) nin0))
      have f597 := (V_ys_586.keep Kc589 (ninS (Ne.symm ne_b530_ys) nin0))
      have f598 := (Vz585.keep Kc589 (ninS (Ne.symm ne_b530_yz) nin0))
      have f599 := (V_yf_587.keep Kc589 (ninS (Ne.symm ne_b530_yf) nin0))
      have f600 := (V_ye_588.keep Kc589 (ninS (Ne.symm ne_b530_ye) nin0))
      have f601 := ((f584.keep Kc585 (ninS ne_b529_b530 (ninS ne_b529_vw (ninS ne_b529_ye (ninS ne_b529_yb (ninS ne_b529_yf (ninS ne_b529_ys (ninS ne_b529_yz nin0)))))))).keep Kc589 (ninS ne_b529_b530 nin0))
      refine own_callS X589 hx hZ (y := my8) hown (hw _ (List.mem_of_getElem? (i := 91) rfl)) (hw _ (List.mem_of_getElem? (i := 92) rfl)) (hw _ (List.mem_of_getElem? (i := 93) rfl)) (hw _ (List.mem_of_getElem? (i := 94) rfl)) (by decide) (rm8_2 l Z a0 hw [] b530 vw b529 p1 off yb ys yz yf ye kb ks kz kf ke k529 (0 : Int32) (0 : Int32) bs585 [(.int (0 : Int32)), o0, o0, o0, o0, o0, o0, o0, o0, o0, o0, o0, o0, o0, o0, o0] zs585 [(.int (pl_end p3 (0 : Int32))), (.int (pl_end p3 (1 : Int32))), o0, o0, o0, o0, o0, o0, o0, o0, o0, o0, o0, o0, o0, o0, o0, o0, o0, o0, o0, o0, o0, o0, o0, o0, o0, o0, o0, o0, o0, o0] [(.int (0 : Int32)), (.int (0 : Int32)), (.int (0 : Int32)), (.int (0 : Int32)), (.int (0 : Int32)), (.int (0 : Int32)), (.int (0 : Int32)), (.int (0 : Int32)), (.int (0 : Int32)), (.int (0 : Int32)), (.int (0 : Int32)), (.int (0 : Int32)), (.int (0 : Int32)), (.int (0 : Int32)), (.int (0 : Int32)), (.int (0 : Int32)), (.int (0 : Int32)), (.int (0 : Int32)), (.int (0 : Int32)), (.int (0 : Int32)), (.int (0 : Int32)), (.int (0 : Int32)), (.int (0 : Int32)), (.int (0 : Int32)), (.int (0 : Int32)), (.int (0 : Int32)), (.int (0 : Int32)), (.int (0 : Int32)), (.int (0 : Int32)), (.int (0 : Int32)), (.int (0 : Int32)), (.int (0 : Int32)), (.int (0 : Int32)), (.int (0 : Int32)), (.int (0 : Int32)), (.int (0 : Int32)), (.int (0 : Int32)), (.int (0 : Int32)), (.int (0 : Int32)), (.int (0 : Int32))] (.int (pl_end p3 (0 : Int32))) (.int (pl_end p3 (1 : Int32))) (.int ((off + (pl_end p3 (1 : Int32))) + (1 : Int32))) (.ref b529) (.int off) (.int (1 : Int32)) T589.heap n0 (Nat.le_trans Z0 K589.1) Eh589 F589_bytes F589_starts F589_ascii F589_columns F589_fieldEnds F589_view F589_size F589_length f590 f591 f592 f593 f594 f595 f596 f597 f598 f599 f600 f601 ne1 ne2 ne3 (Ne.symm ne_b529_yb) n0_b530 n0_yb n0_yf n0_ys n0_yz n0_vw n0_ye (by decide) (by decide) hof rfl rfl lb585 lz585) 0 (by decide) (by decide) rfl (by rw [hml]; rfl) [(.ref b530), (.ref vw), (.ref b529), (.int (2 : Int32)), (.int p1), (.int off)] [] rfl (lenOf pd_11 rfl) rfl (Nat.le_of_eq rfl) (hb hby at_79) (by decide) (by decide) ?_
      rintro T602 _ L602 X602 ⟨rfl, N602q, Kc602, Eh602, F602_bytes, F602_starts, F602_ascii, F602_columns, F602_fieldEnds, F602_view, F602_size, F602_length, ⟨bs602, lb602, Vb602⟩, Vf602, Vs602, ⟨zs602, lz602, Vz602⟩, Ev602, G602_rowEnd, G602_bytes, G602_fieldEnds, G602_rowStart, G602_ascii, Ve602⟩
      have N602 := Fr.app N589 N602q
      have K602 := K589.trans Kc602 (allS (P := fun x => x ∈ ([] : List Addr) ∨ h0.size ≤ x) (Or.inr sz_b530) (allS (P := fun x => x ∈ ([] : List Addr) ∨ h0.size ≤ x) (Or.inr sz_vw) (allS (P := fun x => x ∈ ([] : List Addr) ∨ h0.size ≤ x) (Or.inr sz_ye) (allS (P := fun x => x ∈ ([] : List Addr) ∨ h0.size ≤ x) (Or.inr sz_yb) (allS (P := fun x => x ∈ ([] : List Addr) ∨ h0.size ≤ x) (Or.inr sz_yf) (allS (P := fun x => x ∈ ([] : List Addr) ∨ h0.size ≤ x) (Or.inr sz_ys) (allS (P := fun x => x ∈ ([] : List Addr) ∨ h0.size ≤ x) (Or.inr sz_yz) all0)))))))
      show own_R p e below s _ _ _ T602 (mkF m 82 #[.val (.int p0), .val (.int p1), .val (.int p2), .val (.int p3), .val (.int p4), .val (.int (2 : Int32)), .val (.int off), .val (.ref b529), .val (.ref b530), .val (.ref vw), .unset, .unset, .unset, .unset, .unset, .unset, .unset] [(.int ((pl_end p1 (1 : Int32)) + (2 : Int32)))])
      have Fz602 : Fld Z T602.heap b530 cH "size" "I" (.int (1 : Int32)) := F602_size
      have V_ys_603 : Arv Z T602.heap ys ks .int (16 : Int32) [(.int (0 : Int32)), o0, o0, o0, o0, o0, o0, o0, o0, o0, o0, o0, o0, o0, o0, o0] o0 := Vs602
      have V_yf_604 : Arv Z T602.heap yf kf .int ((16 : Int32) * (2 : Int32)) [(.int (pl_end p1 (0 : Int32))), (.int (pl_end p1 (1 : Int32))), o0, o0, o0, o0, o0, o0, o0, o0, o0, o0, o0, o0, o0, o0, o0, o0, o0, o0, o0, o0, o0, o0, o0, o0, o0, o0, o0, o0, o0, o0] o0 := Vf602
      have V_ye_605 : Arv Z T602.heap ye ke .int (2 : Int32) [(.int (pl_end p1 (0 : Int32))), (.int (pl_end p1 (1 : Int32)))] o0 := Ve602
      have hl1 : 0 ≤ ((0 : Int32) + ((pl_end p1 (1 : Int32)) + (2 : Int32))).toInt ∧ ((0 : Int32) + ((pl_end p1 (1 : Int32)) + (2 : Int32))).toInt ≤ 100 := pl_b1 p1 (1 : Int32)
      refine own_istore X602 hx (hb hby at_82) (l' := #[.val (.int p0), .val (.int p1), .val (.int p2), .val (.int p3), .val (.int p4), .val (.int (2 : Int32)), .val (.int off), .val (.ref b529), .val (.ref b530), .val (.ref vw), .val (.int ((pl_end p1 (1 : Int32)) + (2 : Int32))), .unset, .unset, .unset, .unset, .unset, .unset]) rfl ?_
      refine own_aload X602 hx (hb hby at_84) rfl rfl ?_
      refine own_aload X602 hx (hb hby at_86) rfl rfl ?_
      refine own_aload X602 hx (hb hby at_88) rfl rfl ?_
      refine own_iload X602 hx (hb hby at_90) rfl ?_
      refine own_iloadN X602 hx (hb hby at_92) rfl ?_
      refine own_iload X602 hx (hb hby at_93) rfl ?_
      have f606 := (f601.keep Kc602 (ninS ne_b529_b530 (ninS ne_b529_vw (ninS ne_b529_ye (ninS ne_b529_yb (ninS ne_b529_yf (ninS ne_b529_ys (ninS ne_b529_yz nin0))))))))
      refine own_callS X602 hx hZ (y := my8) hown (hw _ (List.mem_of_getElem? (i := 91) rfl)) (hw _ (List.mem_of_getElem? (i := 92) rfl)) (hw _ (List.mem_of_getElem? (i := 93) rfl)) (hw _ (List.mem_of_getElem? (i := 94) rfl)) (by decide) (rm8_2 l Z a0 hw [] b530 vw b529 p2 off yb ys yz yf ye kb ks kz kf ke k529 (1 : Int32) ((0 : Int32) + ((pl_end p1 (1 : Int32)) + (2 : Int32))) bs602 [(.int (0 : Int32)), o0, o0, o0, o0, o0, o0, o0, o0, o0, o0, o0, o0, o0, o0, o0] zs602 [(.int (pl_end p1 (0 : Int32))), (.int (pl_end p1 (1 : Int32))), o0, o0, o0, o0, o0, o0, o0, o0, o0, o0, o0, o0, o0, o0, o0, o0, o0, o0, o0, o0, o0, o0, o0, o0, o0, o0, o0, o0, o0, o0] [(.int (0 : Int32)), (.int (0 : Int32)), (.int (0 : Int32)), (.int (0 : Int32)), (.int (0 : Int32)), (.int (0 : Int32)), (.int (0 : Int32)), (.int (0 : Int32)), (.int (0 : Int32)), (.int (0 : Int32)), (.int (0 : Int32)), (.int (0 : Int32)), (.int (0 : Int32)), (.int (0 : Int32)), (.int (0 : Int32)), (.int (0 : Int32)), (.int (0 : Int32)), (.int (0 : Int32)), (.int (0 : Int32)), (.int (0 : Int32)), (.int (0 : Int32)), (.int (0 : Int32)), (.int (0 : Int32)), (.int (0 : Int32)), (.int (0 : Int32)), (.int (0 : Int32)), (.int (0 : Int32)), (.int (0 : Int32)), (.int (0 : Int32)), (.int (0 : Int32)), (.int (0 : Int32)), (.int (0 : Int32)), (.int (0 : Int32)), (.int (0 : Int32)), (.int (0 : Int32)), (.int (0 : Int32)), (.int (0 : Int32)), (.int (0 : Int32)), (.int (0 : Int32)), (.int (0 : Int32))] (.int (pl_end p1 (0 : Int32))) (.int (pl_end p1 (1 : Int32))) (.int ((off + (pl_end p1 (1 : Int32))) + (1 : Int32))) (.ref b529) (.int off) (.int (1 : Int32)) T602.heap n0 (Nat.le_trans Z0 K602.1) Eh602 F602_bytes F602_starts F602_ascii F602_columns F602_fieldEnds F602_view Fz602 F602_length Ev602 G602_rowEnd G602_bytes G602_rowStart G602_ascii G602_fieldEnds Vb602 V_ys_603 Vz602 V_yf_604 V_ye_605 f606 ne1 ne2 ne3 (Ne.symm ne_b529_yb) n0_b530 n0_yb n0_yf n0_ys n0_yz n0_vw n0_ye (by decide) hl1 hof rfl rfl lb602 lz602) 0 (by decide) (by decide) rfl (by rw [hml]; rfl) [(.ref b530), (.ref vw), (.ref b529), (.int (2 : Int32)), (.int p2), (.int off)] [] rfl (lenOf pd_11 rfl) rfl (Nat.le_of_eq rfl) (hb hby at_95) (by decide) (by decide) ?_
      rintro T607 _ L607 X607 ⟨rfl, N607q, Kc607, Eh607, F607_bytes, F607_starts, F607_ascii, F607_columns, F607_fieldEnds, F607_view, F607_size, F607_length, ⟨bs607, lb607, Vb607⟩, Vf607, Vs607, ⟨zs607, lz607, Vz607⟩, Ev607, G607_rowEnd, G607_bytes, G607_fieldEnds, G607_rowStart, G607_ascii, Ve607⟩
      have N607 := Fr.app N602 N607q
      have K607 := K602.trans Kc607 (allS (P := fun x => x ∈ ([] : List Addr) ∨ h0.size ≤ x) (Or.inr sz_b530) (allS (P := fun x => x ∈ ([] : List Addr) ∨ h0.size ≤ x) (Or.inr sz_vw) (allS (P := fun x => x ∈ ([] : List Addr) ∨ h0.size ≤ x) (Or.inr sz_ye) (allS (P := fun x => x ∈ ([] : List Addr) ∨ h0.size ≤ x) (Or.inr sz_yb) (allS (P := fun x => x ∈ ([] : List Addr) ∨ h0.size ≤ x) (Or.inr sz_yf) (allS (P := fun x => x ∈ ([] : List Addr) ∨ h0.size ≤ x) (Or.inr sz_ys) (allS (P := fun x => x ∈ ([] : List Addr) ∨ h0.size ≤ x) (Or.inr sz_yz) all0)))))))
      show own_R p e below s _ _ _ T607 (mkF m 98 #[.val (.int p0), .val (.int p1), .val (.int p2), .val (.int p3), .val (.int p4), .val (.int (2 : Int32)), .val (.int off), .val (.ref b529), .val (.ref b530), .val (.ref vw), .val (.int ((pl_end p1 (1 : Int32)) + (2 : Int32))), .unset, .unset, .unset, .unset, .unset, .unset] [(.int ((pl_end p2 (1 : Int32)) + (2 : Int32)))])
      have Fz607 : Fld Z T607.heap b530 cH "size" "I" (.int (2 : Int32)) := F607_size
      have V_ys_608 : Arv Z T607.heap ys ks .int (16 : Int32) [(.int (0 : Int32)), (.int ((0 : Int32) + ((pl_end p1 (1 : Int32)) + (2 : Int32)))), o0, o0, o0, o0, o0, o0, o0, o0, o0, o0, o0, o0, o0, o0] o0 := Vs607
      have V_yf_609 : Arv Z T607.heap yf kf .int ((16 : Int32) * (2 : Int32)) [(.int (pl_end p1 (0 : Int32))), (.int (pl_end p1 (1 : Int32))), (.int (pl_end p2 (0 : Int32))), (.int (pl_end p2 (1 : Int32))), o0, o0, o0, o0, o0, o0, o0, o0, o0, o0, o0, o0, o0, o0, o0, o0, o0, o0, o0, o0, o0, o0, o0, o0, o0, o0, o0, o0] o0 := Vf607
      have V_ye_610 : Arv Z T607.heap ye ke .int (2 : Int32) [(.int (pl_end p2 (0 : Int32))), (.int (pl_end p2 (1 : Int32)))] o0 := Ve607
      have hl2 : 0 ≤ (((0 : Int32) + ((pl_end p1 (1 : Int32)) + (2 : Int32))) + ((pl_end p2 (1 : Int32)) + (2 : Int32))).toInt ∧ (((0 : Int32) + ((pl_end p1 (1 : Int32)) + (2 : Int32))) + ((pl_end p2 (1 : Int32)) + (2 : Int32))).toInt ≤ 100 := pl_b2 p1 p2 (1 : Int32)
      refine own_istore X607 hx (hb hby at_98) (l' := #[.val (.int p0), .val (.int p1), .val (.int p2), .val (.int p3), .val (.int p4), .val (.int (2 : Int32)), .val (.int off), .val (.ref b529), .val (.ref b530), .val (.ref vw), .val (.int ((pl_end p1 (1 : Int32)) + (2 : Int32))), .val (.int ((pl_end p2 (1 : Int32)) + (2 : Int32))), .unset, .unset, .unset, .unset, .unset]) rfl ?_
      refine own_aload X607 hx (hb hby at_100) rfl rfl ?_
      refine own_aload X607 hx (hb hby at_102) rfl rfl ?_
      refine own_aload X607 hx (hb hby at_104) rfl rfl ?_
      refine own_iload X607 hx (hb hby at_106) rfl ?_
      refine own_iloadN X607 hx (hb hby at_108) rfl ?_
      refine own_iload X607 hx (hb hby at_109) rfl ?_
      have f611 := (f606.keep Kc607 (ninS ne_b529_b530 (ninS ne_b529_vw (ninS ne_b529_ye (ninS ne_b529_yb (ninS ne_b529_yf (ninS ne_b529_ys (ninS ne_b529_yz nin0))))))))
      refine own_callS X607 hx hZ (y := my8) hown (hw _ (List.mem_of_getElem? (i := 91) rfl)) (hw _ (List.mem_of_getElem? (i := 92) rfl)) (hw _ (List.mem_of_getElem? (i := 93) rfl)) (hw _ (List.mem_of_getElem? (i := 94) rfl)) (by decide) (rm8_2 l Z a0 hw [] b530 vw b529 p3 off yb ys yz yf ye kb ks kz kf ke k529 (2 : Int32) (((0 : Int32) + ((pl_end p1 (1 : Int32)) + (2 : Int32))) + ((pl_end p2 (1 : Int32)) + (2 : Int32))) bs607 [(.int (0 : Int32)), (.int ((0 : Int32) + ((pl_end p1 (1 : Int32)) + (2 : Int32)))), o0, o0, o0, o0, o0, o0, o0, o0, o0, o0, o0, o0, o0, o0] zs607 [(.int (pl_end p1 (0 : Int32))), (.int (pl_end p1 (1 : Int32))), (.int (pl_end p2 (0 : Int32))), (.int (pl_end p2 (1 : Int32))), o0, o0, o0, o0, o0, o0, o0, o0, o0, o0, o0, o0, o0, o0, o0, o0, o0, o0, o0, o0, o0, o0, o0, o0, o0, o0, o0, o0] [(.int (0 : Int32)), (.int (0 : Int32)), (.int (0 : Int32)), (.int (0 : Int32)), (.int (0 : Int32)), (.int (0 : Int32)), (.int (0 : Int32)), (.int (0 : Int32)), (.int (0 : Int32)), (.int (0 : Int32)), (.int (0 : Int32)), (.int (0 : Int32)), (.int (0 : Int32)), (.int (0 : Int32)), (.int (0 : Int32)), (.int (0 : Int32)), (.int (0 : Int32)), (.int (0 : Int32)), (.int (0 : Int32)), (.int (0 : Int32)), (.int (0 : Int32)), (.int (0 : Int32)), (.int (0 : Int32)), (.int (0 : Int32)), (.int (0 : Int32)), (.int (0 : Int32)), (.int (0 : Int32)), (.int (0 : Int32)), (.int (0 : Int32)), (.int (0 : Int32)), (.int (0 : Int32)), (.int (0 : Int32)), (.int (0 : Int32)), (.int (0 : Int32)), (.int (0 : Int32)), (.int (0 : Int32)), (.int (0 : Int32)), (.int (0 : Int32)), (.int (0 : Int32)), (.int (0 : Int32))] (.int (pl_end p2 (0 : Int32))) (.int (pl_end p2 (1 : Int32))) (.int ((off + (pl_end p2 (1 : Int32))) + (1 : Int32))) (.ref b529) (.int off) (.int (1 : Int32)) T607.heap n0 (Nat.le_trans Z0 K607.1) Eh607 F607_bytes F607_starts F607_ascii F607_columns F607_fieldEnds F607_view Fz607 F607_length Ev607 G607_rowEnd G607_bytes G607_rowStart G607_ascii G607_fieldEnds Vb607 V_ys_608 Vz607 V_yf_609 V_ye_610 f611 ne1 ne2 ne3 (Ne.symm ne_b529_yb) n0_b530 n0_yb n0_yf n0_ys n0_yz n0_vw n0_ye (by decide) hl2 hof rfl rfl lb607 lz607) 0 (by decide) (by decide) rfl (by rw [hml]; rfl) [(.ref b530), (.ref vw), (.ref b529), (.int (2 : Int32)), (.int p3), (.int off)] [] rfl (lenOf pd_11 rfl) rfl (Nat.le_of_eq rfl) (hb hby at_111) (by decide) (by decide) ?_
      rintro T612 _ L612 X612 ⟨rfl, N612q, Kc612, Eh612, F612_bytes, F612_starts, F612_ascii, F612_columns, F612_fieldEnds, F612_view, F612_size, F612_length, ⟨bs612, lb612, Vb612⟩, Vf612, Vs612, ⟨zs612, lz612, Vz612⟩, Ev612, G612_rowEnd, G612_bytes, G612_fieldEnds, G612_rowStart, G612_ascii, Ve612⟩
      have N612 := Fr.app N607 N612q
      have K612 := K607.trans Kc612 (allS (P := fun x => x ∈ ([] : List Addr) ∨ h0.size ≤ x) (Or.inr sz_b530) (allS (P := fun x => x ∈ ([] : List Addr) ∨ h0.size ≤ x) (Or.inr sz_vw) (allS (P := fun x => x ∈ ([] : List Addr) ∨ h0.size ≤ x) (Or.inr sz_ye) (allS (P := fun x => x ∈ ([] : List Addr) ∨ h0.size ≤ x) (Or.inr sz_yb) (allS (P := fun x => x ∈ ([] : List Addr) ∨ h0.size ≤ x) (Or.inr sz_yf) (allS (P := fun x => x ∈ ([] : List Addr) ∨ h0.size ≤ x) (Or.inr sz_ys) (allS (P := fun x => x ∈ ([] : List Addr) ∨ h0.size ≤ x) (Or.inr sz_yz) all0)))))))
      show own_R p e below s _ _ _ T612 (mkF m 114 #[.val (.int p0), .val (.int p1), .val (.int p2), .val (.int p3), .val (.int p4), .val (.int (2 : Int32)), .val (.int off), .val (.ref b529), .val (.ref b530), .val (.ref vw), .val (.int ((pl_end p1 (1 : Int32)) + (2 : Int32))), .val (.int ((pl_end p2 (1 : Int32)) + (2 : Int32))), .unset, .unset, .unset, .unset, .unset] [(.int ((pl_end p3 (1 : Int32)) + (2 : Int32)))])
      have Fz612 : Fld Z T612.heap b530 cH "size" "I" (.int (3 : Int32)) := F612_size
      have V_ys_613 : Arv Z T612.heap ys ks .int (16 : Int32) [(.int (0 : Int32)), (.int ((0 : Int32) + ((pl_end p1 (1 : Int32)) + (2 : Int32)))), (.int (((0 : Int32) + ((pl_end p1 (1 : Int32)) + (2 : Int32))) + ((pl_end p2 (1 : Int32)) + (2 : Int32)))), o0, o0, o0, o0, o0, o0, o0, o0, o0, o0, o0, o0, o0] o0 := Vs612
      have V_yf_614 : Arv Z T612.heap yf kf .int ((16 : Int32) * (2 : Int32)) [(.int (pl_end p1 (0 : Int32))), (.int (pl_end p1 (1 : Int32))), (.int (pl_end p2 (0 : Int32))), (.int (pl_end p2 (1 : Int32))), (.int (pl_end p3 (0 : Int32))), (.int (pl_end p3 (1 : Int32))), o0, o0, o0, o0, o0, o0, o0, o0, o0, o0, o0, o0, o0, o0, o0, o0, o0, o0, o0, o0, o0, o0, o0, o0, o0, o0] o0 := Vf612
      have V_ye_615 : Arv Z T612.heap ye ke .int (2 : Int32) [(.int (pl_end p3 (0 : Int32))), (.int (pl_end p3 (1 : Int32)))] o0 := Ve612
      refine own_pop X612 hx (hb hby at_114) rfl ?_
      exact J115 _ _ _ X612 rfl N612 (Nat.le_trans Z0 K612.1) F612_starts F612_fieldEnds F612_columns Eh612 V_ys_613 V_yf_614
  ·
    show own_R p e below s _ _ _ s₁ (mkF m 15 #[.val (.int p0), .val (.int p1), .val (.int p2), .val (.int p3), .val (.int p4), .val (.int (3 : Int32)), .val (.int off), .unset, .unset, .unset, .unset, .unset, .unset, .unset, .unset, .unset, .unset] [])
    refine own_bipush X0 hx (40 : Int32) (hb hby at_15) rfl ?_
    refine own_newA X0 hx hZ (hw _ (List.mem_of_getElem? (i := 0) rfl)) e0 (hb hby at_17) (by decide) 40 (by decide) (by decide) (by decide) (by decide) (ad := "[B") (by decide) 40 ?_
    intro T616 h616 b616 k616 g616 X616 e616 E616 V616 A616
    have sz_b616 : h0.size ≤ b616 := Nat.le_trans K0.1 (Nat.le_of_eq g616.symm)
    have n0_b616 : n0 ≤ b616 := Nat.le_trans Z0 sz_b616
    have K616 := K0.ext E616
    have V_b616 : Arv Z h616 b616 k616 .byte (40 : Int32) [(.int (0 : Int32)), (.int (0 : Int32)), (.int (0 : Int32)), (.int (0 : Int32)), (.int (0 : Int32)), (.int (0 : Int32)), (.int (0 : Int32)), (.int (0 : Int32)), (.int (0 : Int32)), (.int (0 : Int32)), (.int (0 : Int32)), (.int (0 : Int32)), (.int (0 : Int32)), (.int (0 : Int32)), (.int (0 : Int32)), (.int (0 : Int32)), (.int (0 : Int32)), (.int (0 : Int32)), (.int (0 : Int32)), (.int (0 : Int32)), (.int (0 : Int32)), (.int (0 : Int32)), (.int (0 : Int32)), (.int (0 : Int32)), (.int (0 : Int32)), (.int (0 : Int32)), (.int (0 : Int32)), (.int (0 : Int32)), (.int (0 : Int32)), (.int (0 : Int32)), (.int (0 : Int32)), (.int (0 : Int32)), (.int (0 : Int32)), (.int (0 : Int32)), (.int (0 : Int32)), (.int (0 : Int32)), (.int (0 : Int32)), (.int (0 : Int32)), (.int (0 : Int32)), (.int (0 : Int32))] (.int (0 : Int32)) := V616
    refine own_astore X616 hx (hb hby at_19) rfl (l' := #[.val (.int p0), .val (.int p1), .val (.int p2), .val (.int p3), .val (.int p4), .val (.int (3 : Int32)), .val (.int off), .val (.ref b616), .unset, .unset, .unset, .unset, .unset, .unset, .unset, .unset, .unset]) rfl ?_
    refine own_new X616 hx hZ hown (hw _ (List.mem_of_getElem? (i := 1) rfl)) (hw _ (List.mem_of_getElem? (i := 2) rfl)) (hw _ (List.mem_of_getElem? (i := 3) rfl)) e616 (hb hby at_21) (by decide) (by decide) ?_
    intro T617 h617 b617 g617 X617 e617 E617 A617 D617
    have ne_b616_b617 : b616 ≠ b617 := Nat.ne_of_lt (Nat.lt_of_lt_of_le V_b616.lt (Nat.le_of_eq g617.symm))
    have sz_b617 : h0.size ≤ b617 := Nat.le_trans K616.1 (Nat.le_of_eq g617.symm)
    have n0_b617 : n0 ≤ b617 := Nat.le_trans Z0 sz_b617
    have K617 := K616.ext E617
    have F_bytes_b617 : Fld Z h617 b617 "com/example/termweave/termweave/release/HeldRows" "bytes" "[B" .null := D617 (Or.inl (hw _ (List.mem_of_getElem? (i := 11) rfl))) (ty := (.array .byte)) (by decide)
    have F_starts_b617 : Fld Z h617 b617 "com/example/termweave/termweave/release/HeldRows" "starts" "[I" .null := D617 (Or.inl (hw _ (List.mem_of_getElem? (i := 14) rfl))) (ty := (.array .int)) (by decide)
    have F_ascii_b617 : Fld Z h617 b617 "com/example/termweave/termweave/release/HeldRows" "ascii" "[Z" .null := D617 (Or.inl (hw _ (List.mem_of_getElem? (i := 17) rfl))) (ty := (.array .boolean)) (by decide)
    have F_sort_b617 : Fld Z h617 b617 "com/example/termweave/termweave/release/HeldRows" "sort" "Lcom/example/termweave/termweave/release/HeldRows$Sort;" .null := D617 (Or.inr (hw _ (List.mem_of_getElem? (i := 37) rfl))) (ty := (.object "com/example/termweave/termweave/release/HeldRows$Sort")) (by decide)
    have F_columns_b617 : Fld Z h617 b617 "com/example/termweave/termweave/release/HeldRows" "columns" "I" (.int (0 : Int32)) := D617 (Or.inr (hw _ (List.mem_of_getElem? (i := 39) rfl))) (ty := .int) (by decide)
    have F_fieldEnds_b617 : Fld Z h617 b617 "com/example/termweave/termweave/release/HeldRows" "fieldEnds" "[I" .null := D617 (Or.inl (hw _ (List.mem_of_getElem? (i := 41) rfl))) (ty := (.array .int)) (by decide)
    have F_view_b617 : Fld Z h617 b617 "com/example/termweave/termweave/release/HeldRows" "view" "Lcom/example/termweave/termweave/release/HeldRows$View;" .null := D617 (Or.inr (hw _ (List.mem_of_getElem? (i := 61) rfl))) (ty := (.object "com/example/termweave/termweave/release/HeldRows$View")) (by decide)
    have F_size_b617 : Fld Z h617 b617 "com/example/termweave/termweave/release/HeldRows" "size" "I" (.int (0 : Int32)) := D617 (Or.inl (hw _ (List.mem_of_getElem? (i := 77) rfl))) (ty := .int) (by decide)
    have F_length_b617 : Fld Z h617 b617 "com/example/termweave/termweave/release/HeldRows" "length" "I" (.int (0 : Int32)) := D617 (Or.inl (hw _ (List.mem_of_getElem? (i := 79) rfl))) (ty := .int) (by decide)
    refine own_dup X617 hx (hb hby at_24) rfl ?_
    refine own_iload X617 hx (hb hby at_25) rfl ?_
    refine own_callI X617 hx hZ (y := my1) rfl hown (hw _ (List.mem_of_getElem? (i := 4) rfl)) (hw _ (List.mem_of_getElem? (i := 5) rfl)) (hw _ (List.mem_of_getElem? (i := 3) rfl)) (hw _ (List.mem_of_getElem? (i := 6) rfl)) (by decide) (rm1 l Z a0 hw [] b617 (3 : Int32) h617 n0 (Nat.le_trans Z0 K617.1) (by decide) A617 n0_b617 F_bytes_b617 F_starts_b617 F_ascii_b617 F_sort_b617 F_columns_b617 F_fieldEnds_b617 F_view_b617 F_size_b617 F_length_b617) 1 (by decide) (by decide) e617 (by rw [hml]; rfl) b617 [(.int (3 : Int32))] [(.ref b617)] rfl (lenOf pd_2 rfl) rfl (Nat.le_of_eq rfl) (hb hby at_27) (by decide) (by decide) ?_
    rintro T618 _ L618 X618 ⟨rfl, N618q, Kc618, yb, ys, yz, yf, vw, ye, kb, ks, kz, kf, ke, nc_yb, nc_ys, nc_yz, nc_yf, nc_vw, nc_ye, Eh618, F618_bytes, F618_starts, F618_ascii, F618_columns, F618_fieldEnds, F618_view, F618_size, F618_length, Ev618, G618_rowEnd, G618_bytes, G618_rowStart, G618_ascii, Fe618, Vb618, Vs618, Vz618, Vf618, Ve618, ne1, ne2, ne3⟩
    have N618 := Fr.app N0 N618q
    have K618 := K617.trans Kc618 (allS (P := fun x => x ∈ ([] : List Addr) ∨ h0.size ≤ x) (Or.inr sz_b617) all0)
    show own_R p e below s _ _ _ T618 (mkF m 30 #[.val (.int p0), .val (.int p1), .val (.int p2), .val (.int p3), .val (.int p4), .val (.int (3 : Int32)), .val (.int off), .val (.ref b616), .unset, .unset, .unset, .unset, .unset, .unset, .unset, .unset, .unset] [(.ref b617)])
    have sz_yb : h0.size ≤ yb := Nat.le_trans K617.1 nc_yb
    have n0_yb : n0 ≤ yb := Nat.le_trans Z0 sz_yb
    have ne_b616_yb : b616 ≠ yb := Nat.ne_of_lt (Nat.lt_of_lt_of_le (V_b616.ext E617).lt nc_yb)
    have sz_ys : h0.size ≤ ys := Nat.le_trans K617.1 nc_ys
    have n0_ys : n0 ≤ ys := Nat.le_trans Z0 sz_ys
    have ne_b616_ys : b616 ≠ ys := Nat.ne_of_lt (Nat.lt_of_lt_of_le (V_b616.ext E617).lt nc_ys)
    have sz_yz : h0.size ≤ yz := Nat.le_trans K617.1 nc_yz
    have n0_yz : n0 ≤ yz := Nat.le_trans Z0 sz_yz
    have ne_b616_yz : b616 ≠ yz := Nat.ne_of_lt (Nat.lt_of_lt_of_le (V_b616.ext E617).lt nc_yz)
    have sz_yf : h0.size ≤ yf := Nat.le_trans K617.1 nc_yf
    have n0_yf : n0 ≤ yf := Nat.le_trans Z0 sz_yf
    have ne_b616_yf : b616 ≠ yf := Nat.ne_of_lt (Nat.lt_of_lt_of_le (V_b616.ext E617).lt nc_yf)
    have sz_vw : h0.size ≤ vw := Nat.le_trans K617.1 nc_vw
    have n0_vw : n0 ≤ vw := Nat.le_trans Z0 sz_vw
    have ne_b616_vw : b616 ≠ vw := Nat.ne_of_lt (Nat.lt_of_lt_of_le (V_b616.ext E617).lt nc_vw)
    have sz_ye : h0.size ≤ ye := Nat.le_trans K617.1 nc_ye
    have n0_ye : n0 ≤ ye := Nat.le_trans Z0 sz_ye
    have ne_b616_ye : b616 ≠ ye := Nat.ne_of_lt (Nat.lt_of_lt_of_le (V_b616.ext E617).lt nc_ye)
    have ne_b617_vw : b617 ≠ vw := (Exa.ne Eh618 Ev618 (by decide))
    have ne_b617_yb : b617 ≠ yb := (Exa.neArv Eh618 Vb618 (hw _ (List.mem_of_getElem? (i := 2) rfl)))
    have ne_b617_ys : b617 ≠ ys := (Exa.neArv Eh618 Vs618 (hw _ (List.mem_of_getElem? (i := 2) rfl)))
    have ne_b617_yz : b617 ≠ yz := (Exa.neArv Eh618 Vz618 (hw _ (List.mem_of_getElem? (i := 2) rfl)))
    have ne_b617_yf : b617 ≠ yf := (Exa.neArv Eh618 Vf618 (hw _ (List.mem_of_getElem? (i := 2) rfl)))
    have ne_b617_ye : b617 ≠ ye := (Exa.neArv Eh618 Ve618 (hw _ (List.mem_of_getElem? (i := 2) rfl)))
    have ne_vw_yb : vw ≠ yb := (Exa.neArv Ev618 Vb618 (hw _ (List.mem_of_getElem? (i := 43) rfl)))
    have ne_vw_ys : vw ≠ ys := (Exa.neArv Ev618 Vs618 (hw _ (List.mem_of_getElem? (i := 43) rfl)))
    have ne_vw_yz : vw ≠ yz := (Exa.neArv Ev618 Vz618 (hw _ (List.mem_of_getElem? (i := 43) rfl)))
    have ne_vw_yf : vw ≠ yf := (Exa.neArv Ev618 Vf618 (hw _ (List.mem_of_getElem? (i := 43) rfl)))
    have ne_vw_ye : vw ≠ ye := (Exa.neArv Ev618 Ve618 (hw _ (List.mem_of_getElem? (i := 43) rfl)))
    have ne_yb_ys : yb ≠ ys := (own_neA Vb618 Vs618 (by decide))
    have ne_yb_yz : yb ≠ yz := (own_neA Vb618 Vz618 (by decide))
    have ne_yb_yf : yb ≠ yf := (own_neA Vb618 Vf618 (by decide))
    have ne_yb_ye : yb ≠ ye := (own_neA Vb618 Ve618 (by decide))
    have ne_ys_yz : ys ≠ yz := (own_neA Vs618 Vz618 (by decide))
    have ne_yz_yf : yz ≠ yf := (own_neA Vz618 Vf618 (by decide))
    have ne_yz_ye : yz ≠ ye := (own_neA Vz618 Ve618 (by decide))
    refine own_astore X618 hx (hb hby at_30) rfl (l' := #[.val (.int p0), .val (.int p1), .val (.int p2), .val (.int p3), .val (.int p4), .val (.int (3 : Int32)), .val (.int off), .val (.ref b616), .val (.ref b617), .unset, .unset, .unset, .unset, .unset, .unset, .unset, .unset]) rfl ?_
    refine own_aload X618 hx (hb hby at_32) rfl rfl ?_
    refine own_iconst X618 hx (0 : Int32) (hb hby at_34) rfl ?_
    refine own_callV X618 hx hZ (y := my6) (z := my6) hown (hw _ (List.mem_of_getElem? (i := 62) rfl)) (hw _ (List.mem_of_getElem? (i := 63) rfl)) (notFace_of_selects (args := #[]) (mvT hZ (hw _ (List.mem_of_getElem? (i := 65) rfl)))) (hw _ (List.mem_of_getElem? (i := 65) rfl)) (hw _ (List.mem_of_getElem? (i := 64) rfl)) (hw _ (List.mem_of_getElem? (i := 3) rfl)) (hw _ (List.mem_of_getElem? (i := 66) rfl)) (by decide) (rm6 l Z a0 hw [] b617 vw yb ys yz yf ye kb ks kz kf ke (3 : Int32) T618.heap n0 (Nat.le_trans Z0 K618.1) (by decide) Eh618 F618_bytes F618_starts F618_ascii F618_columns F618_fieldEnds F618_view F618_size F618_length Ev618 G618_rowEnd G618_bytes G618_rowStart G618_ascii Fe618 Vb618 Vs618 Vz618 Vf618 Ve618 ne1 ne2 ne3 n0_vw n0_ye) 0 (by decide) (by decide) rfl (by rw [hml]; rfl) b617 Eh618 [(.int (0 : Int32))] [] rfl (lenOf pd_10 rfl) rfl (Nat.le_of_eq rfl) (hb hby at_35) (by decide) (by decide) ?_
    rintro T619 _ L619 X619 ⟨rfl, N619q, Kc619, Ev619, G619_rowEnd, G619_bytes, G619_fieldEnds, G619_rowStart, G619_ascii, Ve619⟩
    have N619 := Fr.app N618 N619q
    have K619 := K618.trans Kc619 (allS (P := fun x => x ∈ ([] : List Addr) ∨ h0.size ≤ x) (Or.inr sz_vw) (allS (P := fun x => x ∈ ([] : List Addr) ∨ h0.size ≤ x) (Or.inr sz_ye) all0))
    show own_R p e below s _ _ _ T619 (mkF m 38 #[.val (.int p0), .val (.int p1), .val (.int p2), .val (.int p3), .val (.int p4), .val (.int (3 : Int32)), .val (.int off), .val (.ref b616), .val (.ref b617), .unset, .unset, .unset, .unset, .unset, .unset, .unset, .unset] [(.ref vw)])
    have V_ye_620 : Arv Z T619.heap ye ke .int (3 : Int32) [o0, o0, o0] o0 := Ve619
    have f621 := (Vf618.keep Kc619 (ninS (Ne.symm ne_vw_yf) (ninS ne3 nin0)))
    have V_yf_622 : Arv Z T619.heap yf kf .int ((16 : Int32) * (3 : Int32)) [o0, o0, o0, o0, o0, o0, o0, o0, o0, o0, o0, o0, o0, o0, o0, o0, o0, o0, o0, o0, o0, o0, o0, o0, o0, o0, o0, o0, o0, o0, o0, o0, o0, o0, o0, o0, o0, o0, o0, o0, o0, o0, o0, o0, o0, o0, o0, o0] o0 := f621
    refine own_astore X619 hx (hb hby at_38) rfl (l' := #[.val (.int p0), .val (.int p1), .val (.int p2), .val (.int p3), .val (.int p4), .val (.int (3 : Int32)), .val (.int off), .val (.ref b616), .val (.ref b617), .val (.ref vw), .unset, .unset, .unset, .unset, .unset, .unset, .unset]) rfl ?_
    have J115 : ∀ (Tj : State) (lj : List Loc) (gj : Heap), Stand p l e room_1 s m #[(.int p0), (.int p1), (.int p2), (.int p3), (.int p4)] below meth c Tj lj 13 4305 → Tj.heap = gj → Fr n0 lj → n0 ≤ gj.size → Fld Z gj b617 cH "starts" "[I" (.ref ys) → Fld Z gj b617 cH "fieldEnds" "[I" (.ref yf) → Fld Z gj b617 cH "columns" "I" (.int (3 : Int32)) → Exa Z gj b617 cH → Arv Z gj ys ks .int (16 : Int32) [o0, (.int ((0 : Int32) + ((pl_end p1 (2 : Int32)) + (2 : Int32)))), (.int (((0 : Int32) + ((pl_end p1 (2 : Int32)) + (2 : Int32))) + ((pl_end p2 (2 : Int32)) + (2 : Int32)))), o0, o0, o0, o0, o0, o0, o0, o0, o0, o0, o0, o0, o0] o0 → Arv Z gj yf kf .int ((16 : Int32) * (3 : Int32)) [(.int (pl_end p1 (0 : Int32))), (.int (pl_end p1 (1 : Int32))), (.int (pl_end p1 (2 : Int32))), (.int (pl_end p2 (0 : Int32))), (.int (pl_end p2 (1 : Int32))), (.int (pl_end p2 (2 : Int32))), (.int (pl_end p3 (0 : Int32))), (.int (pl_end p3 (1 : Int32))), (.int (pl_end p3 (2 : Int32))), o0, o0, o0, o0, o0, o0, o0, o0, o0, o0, o0, o0, o0, o0, o0, o0, o0, o0, o0, o0, o0, o0, o0, o0, o0, o0, o0, o0, o0, o0, o0, o0, o0, o0, o0, o0, o0, o0, o0] o0 → own_R p e below s (Q0 Z p0 p1 p2 p3 p4 h0 n0) room_1.cells room_1.slots Tj (mkF m 115 #[.val (.int p0), .val (.int p1), .val (.int p2), .val (.int p3), .val (.int p4), .val (.int (3 : Int32)), .val (.int off), .val (.ref b616), .val (.ref b617), .val (.ref vw), .val (.int ((pl_end p1 (2 : Int32)) + (2 : Int32))), .val (.int ((pl_end p2 (2 : Int32)) + (2 : Int32))), .unset, .unset, .unset, .unset, .unset] []) := by
      intro Tj lj gj Xj ej Nj Zj jf1 jf2 jf3 jE jV1 jV2
      show own_R p e below s _ _ _ Tj (mkF m 115 #[.val (.int p0), .val (.int p1), .val (.int p2), .val (.int p3), .val (.int p4), .val (.int (3 : Int32)), .val (.int off), .val (.ref b616), .val (.ref b617), .val (.ref vw), .val (.int ((pl_end p1 (2 : Int32)) + (2 : Int32))), .val (.int ((pl_end p2 (2 : Int32)) + (2 : Int32))), .unset, .unset, .unset, .unset, .unset] [])
      refine own_iload Xj hx (hb hby at_115) rfl ?_
      refine own_ldc Xj hx hZ hown (hw _ (List.mem_of_getElem? (i := 135) rfl)) (hb hby at_117) ?_
      refine own_iand Xj hx (hb hby at_119) ?_
      refine own_iconst Xj hx (3 : Int32) (hb hby at_120) rfl ?_
      refine own_irem Xj hx (hb hby at_121) (by decide) ?_
      refine own_istore Xj hx (hb hby at_122) (l' := #[.val (.int p0), .val (.int p1), .val (.int p2), .val (.int p3), .val (.int p4), .val (.int (3 : Int32)), .val (.int off), .val (.ref b616), .val (.ref b617), .val (.ref vw), .val (.int ((pl_end p1 (2 : Int32)) + (2 : Int32))), .val (.int ((pl_end p2 (2 : Int32)) + (2 : Int32))), .val (.int ((p4 &&& (2147483647 : Int32)) % (3 : Int32))), .unset, .unset, .unset, .unset]) rfl ?_
      obtain ⟨ix, hix, hix3⟩ : ∃ z : Int32, z = ((p4 &&& (2147483647 : Int32)) % (3 : Int32)) ∧ (z = 0 ∨ z = 1 ∨ z = 2) := ⟨_, rfl, pl_ix _⟩
      rw [← hix]
      show own_R p e below s _ _ _ Tj (mkF m 124 #[.val (.int p0), .val (.int p1), .val (.int p2), .val (.int p3), .val (.int p4), .val (.int (3 : Int32)), .val (.int off), .val (.ref b616), .val (.ref b617), .val (.ref vw), .val (.int ((pl_end p1 (2 : Int32)) + (2 : Int32))), .val (.int ((pl_end p2 (2 : Int32)) + (2 : Int32))), .val (.int ix), .unset, .unset, .unset, .unset] [])
      refine own_iload Xj hx (hb hby at_124) rfl ?_
      refine own_iconst Xj hx (4 : Int32) (hb hby at_126) rfl ?_
      refine own_iushr Xj hx (hb hby at_127) ?_
      refine own_iload Xj hx (hb hby at_128) rfl ?_
      refine own_irem Xj hx (hb hby at_130) (by decide) ?_
      refine own_istore Xj hx (hb hby at_131) (l' := #[.val (.int p0), .val (.int p1), .val (.int p2), .val (.int p3), .val (.int p4), .val (.int (3 : Int32)), .val (.int off), .val (.ref b616), .val (.ref b617), .val (.ref vw), .val (.int ((pl_end p1 (2 : Int32)) + (2 : Int32))), .val (.int ((pl_end p2 (2 : Int32)) + (2 : Int32))), .val (.int ix), .val (.int (((p4.toUInt32 >>> ((4 : Int32) &&& 31).toUInt32).toInt32) % (3 : Int32))), .unset, .unset, .unset]) rfl ?_
      obtain ⟨cl, hcl, hcl4⟩ : ∃ z : Int32, z = (((p4.toUInt32 >>> ((4 : Int32) &&& 31).toUInt32).toInt32) % (3 : Int32)) ∧ (z = 0 ∨ z = 1 ∨ z = 2) := ⟨_, rfl, pl_cl3 _⟩
      rw [← hcl]
      show own_R p e below s _ _ _ Tj (mkF m 133 #[.val (.int p0), .val (.int p1), .val (.int p2), .val (.int p3), .val (.int p4), .val (.int (3 : Int32)), .val (.int off), .val (.ref b616), .val (.ref b617), .val (.ref vw), .val (.int ((pl_end p1 (2 : Int32)) + (2 : Int32))), .val (.int ((pl_end p2 (2 : Int32)) + (2 : Int32))), .val (.int ix), .val (.int cl), .unset, .unset, .unset] [])
      rcases hix3 with rfl | rfl | rfl
      ·
        rcases hcl4 with rfl | rfl | rfl
        ·
          show own_R p e below s _ _ _ Tj (mkF m 133 #[.val (.int p0), .val (.int p1), .val (.int p2), .val (.int p3), .val (.int p4), .val (.int (3 : Int32)), .val (.int off), .val (.ref b616), .val (.ref b617), .val (.ref vw), .val (.int ((pl_end p1 (2 : Int32)) + (2 : Int32))), .val (.int ((pl_end p2 (2 : Int32)) + (2 : Int32))), .val (.int (0 : Int32)), .val (.int (0 : Int32)), .unset, .unset, .unset] [])
          refine own_iload Xj hx (hb hby at_133) rfl ?_
          refine own_if Xj hx (hb hby at_135) (pc' := 142) (by decide) (by decide) (fun hc => ?_) (fun hc => ?_)
          · have hc135 : ¬ (0 : Int32) = (0 : Int32) := own_ne1 hc
            exact absurd (by decide) hc135
          · have hc135 : (0 : Int32) = (0 : Int32) := own_ne0 hc
            clear hc
            refine own_iloadN Xj hx (hb hby at_138) rfl ?_
            refine own_goto Xj hx (hb hby at_139) (pc' := 153) (by decide) (by decide) ?_
            show own_R p e below s _ _ _ Tj (mkF m 153 #[.val (.int p0), .val (.int p1), .val (.int p2), .val (.int p3), .val (.int p4), .val (.int (3 : Int32)), .val (.int off), .val (.ref b616), .val (.ref b617), .val (.ref vw), .val (.int ((pl_end p1 (2 : Int32)) + (2 : Int32))), .val (.int ((pl_end p2 (2 : Int32)) + (2 : Int32))), .val (.int (0 : Int32)), .val (.int (0 : Int32)), .unset, .unset, .unset] [(.int p1)])
            refine own_istore Xj hx (hb hby at_153) (l' := #[.val (.int p0), .val (.int p1), .val (.int p2), .val (.int p3), .val (.int p4), .val (.int (3 : Int32)), .val (.int off), .val (.ref b616), .val (.ref b617), .val (.ref vw), .val (.int ((pl_end p1 (2 : Int32)) + (2 : Int32))), .val (.int ((pl_end p2 (2 : Int32)) + (2 : Int32))), .val (.int (0 : Int32)), .val (.int (0 : Int32)), .val (.int p1), .unset, .unset]) rfl ?_
            refine own_iload Xj hx (hb hby at_155) rfl ?_
            refine own_if Xj hx (hb hby at_157) (pc' := 164) (by decide) (by decide) (fun hc => ?_) (fun hc => ?_)
            · have hc157 : ¬ (0 : Int32) = (0 : Int32) := own_ne1 hc
              exact absurd (by decide) hc157
            · have hc157 : (0 : Int32) = (0 : Int32) := own_ne0 hc
              clear hc
              refine own_iconst Xj hx (0 : Int32) (hb hby at_160) rfl ?_
              refine own_goto Xj hx (hb hby at_161) (pc' := 180) (by decide) (by decide) ?_
              show own_R p e below s _ _ _ Tj (mkF m 180 #[.val (.int p0), .val (.int p1), .val (.int p2), .val (.int p3), .val (.int p4), .val (.int (3 : Int32)), .val (.int off), .val (.ref b616), .val (.ref b617), .val (.ref vw), .val (.int ((pl_end p1 (2 : Int32)) + (2 : Int32))), .val (.int ((pl_end p2 (2 : Int32)) + (2 : Int32))), .val (.int (0 : Int32)), .val (.int (0 : Int32)), .val (.int p1), .unset, .unset] [(.int (0 : Int32))])
              refine own_istore Xj hx (hb hby at_180) (l' := #[.val (.int p0), .val (.int p1), .val (.int p2), .val (.int p3), .val (.int p4), .val (.int (3 : Int32)), .val (.int off), .val (.ref b616), .val (.ref b617), .val (.ref vw), .val (.int ((pl_end p1 (2 : Int32)) + (2 : Int32))), .val (.int ((pl_end p2 (2 : Int32)) + (2 : Int32))), .val (.int (0 : Int32)), .val (.int (0 : Int32)), .val (.int p1), .val (.int (0 : Int32)), .unset]) rfl ?_
              refine own_iload Xj hx (hb hby at_182) rfl ?_
              refine own_iload Xj hx (hb hby at_184) rfl ?_
              refine own_if Xj hx (hb hby at_186) (pc' := 193) (by decide) (by decide) (fun hc => ?_) (fun hc => ?_)
              · have hc186 : ¬ (0 : Int32) = (0 : Int32) := own_ne1 hc
                exact absurd (by decide) hc186
              · have hc186 : (0 : Int32) = (0 : Int32) := own_ne0 hc
                clear hc
                refine own_iconst Xj hx (0 : Int32) (hb hby at_189) rfl ?_
                refine own_goto Xj hx (hb hby at_190) (pc' := 204) (by decide) (by decide) ?_
                show own_R p e below s _ _ _ Tj (mkF m 204 #[.val (.int p0), .val (.int p1), .val (.int p2), .val (.int p3), .val (.int p4), .val (.int (3 : Int32)), .val (.int off), .val (.ref b616), .val (.ref b617), .val (.ref vw), .val (.int ((pl_end p1 (2 : Int32)) + (2 : Int32))), .val (.int ((pl_end p2 (2 : Int32)) + (2 : Int32))), .val (.int (0 : Int32)), .val (.int (0 : Int32)), .val (.int p1), .val (.int (0 : Int32)), .unset] [(.int (0 : Int32)), (.int (0 : Int32))])
                refine own_iadd Xj hx (hb hby at_204) ?_
                refine own_istore Xj hx (hb hby at_205) (l' := #[.val (.int p0), .val (.int p1), .val (.int p2), .val (.int p3), .val (.int p4), .val (.int (3 : Int32)), .val (.int off), .val (.ref b616), .val (.ref b617), .val (.ref vw), .val (.int ((pl_end p1 (2 : Int32)) + (2 : Int32))), .val (.int ((pl_end p2 (2 : Int32)) + (2 : Int32))), .val (.int (0 : Int32)), .val (.int (0 : Int32)), .val (.int p1), .val (.int (0 : Int32)), .val (.int (0 : Int32))]) rfl ?_
                refine own_aload Xj hx (hb hby at_207) rfl rfl ?_
                refine own_iload Xj hx (hb hby at_209) rfl ?_
                refine own_iload Xj hx (hb hby at_211) rfl ?_
                refine own_callV Xj hx hZ (y := my16) (z := my16) hown (hw _ (List.mem_of_getElem? (i := 136) rfl)) (hw _ (List.mem_of_getElem? (i := 137) rfl)) (notFace_of_selects (args := #[]) (mvT hZ (hw _ (List.mem_of_getElem? (i := 139) rfl)))) (hw _ (List.mem_of_getElem? (i := 139) rfl)) (hw _ (List.mem_of_getElem? (i := 138) rfl)) (hw _ (List.mem_of_getElem? (i := 3) rfl)) (hw _ (List.mem_of_getElem? (i := 140) rfl)) (by decide) (rm16 l Z a0 hw [] b617 (0 : Int32) (0 : Int32) ys yf ks kf (3 : Int32) [o0, (.int ((0 : Int32) + ((pl_end p1 (2 : Int32)) + (2 : Int32)))), (.int (((0 : Int32) + ((pl_end p1 (2 : Int32)) + (2 : Int32))) + ((pl_end p2 (2 : Int32)) + (2 : Int32)))), o0, o0, o0, o0, o0, o0, o0, o0, o0, o0, o0, o0, o0] [(.int (pl_end p1 (0 : Int32))), (.int (pl_end p1 (1 : Int32))), (.int (pl_end p1 (2 : Int32))), (.int (pl_end p2 (0 : Int32))), (.int (pl_end p2 (1 : Int32))), (.int (pl_end p2 (2 : Int32))), (.int (pl_end p3 (0 : Int32))), (.int (pl_end p3 (1 : Int32))), (.int (pl_end p3 (2 : Int32))), o0, o0, o0, o0, o0, o0, o0, o0, o0, o0, o0, o0, o0, o0, o0, o0, o0, o0, o0, o0, o0, o0, o0, o0, o0, o0, o0, o0, o0, o0, o0, o0, o0, o0, o0, o0, o0, o0, o0] (0 : Int32) (0 : Int32) gj n0 Zj jf1 jf2 jf3 jV1 jV2 (by decide) rfl (fun q => absurd rfl q) (fun q => absurd rfl q)) 0 (by decide) (by decide) ej (by rw [hml]; rfl) b617 jE [(.int (0 : Int32)), (.int (0 : Int32))] [] rfl (lenOf pd_8 rfl) rfl (Nat.le_of_eq rfl) (hb hby at_213) (by decide) (by decide) ?_
                rintro T623 _ L623 X623 ⟨rfl, N623q, e623⟩
                have N623 := Fr.app Nj N623q
                show own_R p e below s _ _ _ T623 (mkF m 216 #[.val (.int p0), .val (.int p1), .val (.int p2), .val (.int p3), .val (.int p4), .val (.int (3 : Int32)), .val (.int off), .val (.ref b616), .val (.ref b617), .val (.ref vw), .val (.int ((pl_end p1 (2 : Int32)) + (2 : Int32))), .val (.int ((pl_end p2 (2 : Int32)) + (2 : Int32))), .val (.int (0 : Int32)), .val (.int (0 : Int32)), .val (.int p1), .val (.int (0 : Int32)), .val (.int (0 : Int32))] [(.int (pl_fs (0 : Int32) (0 : Int32) (0 : Int32)))])
                refine own_iload X623 hx (hb hby at_216) rfl ?_
                refine own_icmp X623 hx (hb hby at_218) (pc' := 225) (by decide) (by decide) (fun hc => ?_) (fun hc => ?_)
                · have hc218 : ¬ (pl_fs (0 : Int32) (0 : Int32) (0 : Int32)) = (0 : Int32) := own_ne1 hc
                  exact absurd (by simp only [pl_fs, Int32.zero_add, if_true, if_false, show ((0 : Int32) = 0) = True from by decide]) hc218
                · have hc218 : (pl_fs (0 : Int32) (0 : Int32) (0 : Int32)) = (0 : Int32) := own_ne0 hc
                  clear hc
                  refine own_iconst X623 hx (1 : Int32) (hb hby at_221) rfl ?_
                  refine own_goto X623 hx (hb hby at_222) (pc' := 226) (by decide) (by decide) ?_
                  show own_R p e below s _ _ _ T623 (mkF m 226 #[.val (.int p0), .val (.int p1), .val (.int p2), .val (.int p3), .val (.int p4), .val (.int (3 : Int32)), .val (.int off), .val (.ref b616), .val (.ref b617), .val (.ref vw), .val (.int ((pl_end p1 (2 : Int32)) + (2 : Int32))), .val (.int ((pl_end p2 (2 : Int32)) + (2 : Int32))), .val (.int (0 : Int32)), .val (.int (0 : Int32)), .val (.int p1), .val (.int (0 : Int32)), .val (.int (0 : Int32))] [(.int (1 : Int32))])
                  refine own_retN X623 hx (t := .boolean) Bd.returns (by simp) hlk (hb hby at_226) ?_ (by decide) (by decide)
                  exact ⟨rfl, N623⟩
        ·
          show own_R p e below s _ _ _ Tj (mkF m 133 #[.val (.int p0), .val (.int p1), .val (.int p2), .val (.int p3), .val (.int p4), .val (.int (3 : Int32)), .val (.int off), .val (.ref b616), .val (.ref b617), .val (.ref vw), .val (.int ((pl_end p1 (2 : Int32)) + (2 : Int32))), .val (.int ((pl_end p2 (2 : Int32)) + (2 : Int32))), .val (.int (0 : Int32)), .val (.int (1 : Int32)), .unset, .unset, .unset] [])
          refine own_iload Xj hx (hb hby at_133) rfl ?_
          refine own_if Xj hx (hb hby at_135) (pc' := 142) (by decide) (by decide) (fun hc => ?_) (fun hc => ?_)
          · have hc135 : ¬ (0 : Int32) = (0 : Int32) := own_ne1 hc
            exact absurd (by decide) hc135
          · have hc135 : (0 : Int32) = (0 : Int32) := own_ne0 hc
            clear hc
            refine own_iloadN Xj hx (hb hby at_138) rfl ?_
            refine own_goto Xj hx (hb hby at_139) (pc' := 153) (by decide) (by decide) ?_
            show own_R p e below s _ _ _ Tj (mkF m 153 #[.val (.int p0), .val (.int p1), .val (.int p2), .val (.int p3), .val (.int p4), .val (.int (3 : Int32)), .val (.int off), .val (.ref b616), .val (.ref b617), .val (.ref vw), .val (.int ((pl_end p1 (2 : Int32)) + (2 : Int32))), .val (.int ((pl_end p2 (2 : Int32)) + (2 : Int32))), .val (.int (0 : Int32)), .val (.int (1 : Int32)), .unset, .unset, .unset] [(.int p1)])
            refine own_istore Xj hx (hb hby at_153) (l' := #[.val (.int p0), .val (.int p1), .val (.int p2), .val (.int p3), .val (.int p4), .val (.int (3 : Int32)), .val (.int off), .val (.ref b616), .val (.ref b617), .val (.ref vw), .val (.int ((pl_end p1 (2 : Int32)) + (2 : Int32))), .val (.int ((pl_end p2 (2 : Int32)) + (2 : Int32))), .val (.int (0 : Int32)), .val (.int (1 : Int32)), .val (.int p1), .unset, .unset]) rfl ?_
            refine own_iload Xj hx (hb hby at_155) rfl ?_
            refine own_if Xj hx (hb hby at_157) (pc' := 164) (by decide) (by decide) (fun hc => ?_) (fun hc => ?_)
            · have hc157 : ¬ (0 : Int32) = (0 : Int32) := own_ne1 hc
              exact absurd (by decide) hc157
            · have hc157 : (0 : Int32) = (0 : Int32) := own_ne0 hc
              clear hc
              refine own_iconst Xj hx (0 : Int32) (hb hby at_160) rfl ?_
              refine own_goto Xj hx (hb hby at_161) (pc' := 180) (by decide) (by decide) ?_
              show own_R p e below s _ _ _ Tj (mkF m 180 #[.val (.int p0), .val (.int p1), .val (.int p2), .val (.int p3), .val (.int p4), .val (.int (3 : Int32)), .val (.int off), .val (.ref b616), .val (.ref b617), .val (.ref vw), .val (.int ((pl_end p1 (2 : Int32)) + (2 : Int32))), .val (.int ((pl_end p2 (2 : Int32)) + (2 : Int32))), .val (.int (0 : Int32)), .val (.int (1 : Int32)), .val (.int p1), .unset, .unset] [(.int (0 : Int32))])
              refine own_istore Xj hx (hb hby at_180) (l' := #[.val (.int p0), .val (.int p1), .val (.int p2), .val (.int p3), .val (.int p4), .val (.int (3 : Int32)), .val (.int off), .val (.ref b616), .val (.ref b617), .val (.ref vw), .val (.int ((pl_end p1 (2 : Int32)) + (2 : Int32))), .val (.int ((pl_end p2 (2 : Int32)) + (2 : Int32))), .val (.int (0 : Int32)), .val (.int (1 : Int32)), .val (.int p1), .val (.int (0 : Int32)), .unset]) rfl ?_
              refine own_iload Xj hx (hb hby at_182) rfl ?_
              refine own_iload Xj hx (hb hby at_184) rfl ?_
              refine own_if Xj hx (hb hby at_186) (pc' := 193) (by decide) (by decide) (fun hc => ?_) (fun hc => ?_)
              · have hc186 : ¬ (1 : Int32) = (0 : Int32) := own_ne1 hc
                clear hc
                refine own_iload Xj hx (hb hby at_193) rfl ?_
                refine own_iload Xj hx (hb hby at_195) rfl ?_
                refine own_iconst Xj hx (1 : Int32) (hb hby at_197) rfl ?_
                refine own_isub Xj hx (hb hby at_198) ?_
                refine own_callS Xj hx hZ (y := my9) hown (hw _ (List.mem_of_getElem? (i := 95) rfl)) (hw _ (List.mem_of_getElem? (i := 96) rfl)) (hw _ (List.mem_of_getElem? (i := 93) rfl)) (hw _ (List.mem_of_getElem? (i := 97) rfl)) (by decide) (rm9 l Z a0 hw [] p1 (0 : Int32) gj n0 Zj) 1 (by decide) (by decide) ej (by rw [hml]; rfl) [(.int p1), (.int (0 : Int32))] [(.int (0 : Int32))] rfl (lenOf pd_8 rfl) rfl (Nat.le_of_eq rfl) (hb hby at_199) (by decide) (by decide) ?_
                rintro T624 _ L624 X624 ⟨rfl, N624q, e624⟩
                have N624 := Fr.app Nj N624q
                show own_R p e below s _ _ _ T624 (mkF m 202 #[.val (.int p0), .val (.int p1), .val (.int p2), .val (.int p3), .val (.int p4), .val (.int (3 : Int32)), .val (.int off), .val (.ref b616), .val (.ref b617), .val (.ref vw), .val (.int ((pl_end p1 (2 : Int32)) + (2 : Int32))), .val (.int ((pl_end p2 (2 : Int32)) + (2 : Int32))), .val (.int (0 : Int32)), .val (.int (1 : Int32)), .val (.int p1), .val (.int (0 : Int32)), .unset] [(.int (pl_end p1 (0 : Int32))), (.int (0 : Int32))])
                refine own_iconst X624 hx (1 : Int32) (hb hby at_202) rfl ?_
                refine own_iadd X624 hx (hb hby at_203) ?_
                refine own_iadd X624 hx (hb hby at_204) ?_
                refine own_istore X624 hx (hb hby at_205) (l' := #[.val (.int p0), .val (.int p1), .val (.int p2), .val (.int p3), .val (.int p4), .val (.int (3 : Int32)), .val (.int off), .val (.ref b616), .val (.ref b617), .val (.ref vw), .val (.int ((pl_end p1 (2 : Int32)) + (2 : Int32))), .val (.int ((pl_end p2 (2 : Int32)) + (2 : Int32))), .val (.int (0 : Int32)), .val (.int (1 : Int32)), .val (.int p1), .val (.int (0 : Int32)), .val (.int ((0 : Int32) + ((pl_end p1 (0 : Int32)) + (1 : Int32))))]) rfl ?_
                refine own_aload X624 hx (hb hby at_207) rfl rfl ?_
                refine own_iload X624 hx (hb hby at_209) rfl ?_
                refine own_iload X624 hx (hb hby at_211) rfl ?_
                refine own_callV X624 hx hZ (y := my16) (z := my16) hown (hw _ (List.mem_of_getElem? (i := 136) rfl)) (hw _ (List.mem_of_getElem? (i := 137) rfl)) (notFace_of_selects (args := #[]) (mvT hZ (hw _ (List.mem_of_getElem? (i := 139) rfl)))) (hw _ (List.mem_of_getElem? (i := 139) rfl)) (hw _ (List.mem_of_getElem? (i := 138) rfl)) (hw _ (List.mem_of_getElem? (i := 3) rfl)) (hw _ (List.mem_of_getElem? (i := 140) rfl)) (by decide) (rm16 l Z a0 hw [] b617 (0 : Int32) (1 : Int32) ys yf ks kf (3 : Int32) [o0, (.int ((0 : Int32) + ((pl_end p1 (2 : Int32)) + (2 : Int32)))), (.int (((0 : Int32) + ((pl_end p1 (2 : Int32)) + (2 : Int32))) + ((pl_end p2 (2 : Int32)) + (2 : Int32)))), o0, o0, o0, o0, o0, o0, o0, o0, o0, o0, o0, o0, o0] [(.int (pl_end p1 (0 : Int32))), (.int (pl_end p1 (1 : Int32))), (.int (pl_end p1 (2 : Int32))), (.int (pl_end p2 (0 : Int32))), (.int (pl_end p2 (1 : Int32))), (.int (pl_end p2 (2 : Int32))), (.int (pl_end p3 (0 : Int32))), (.int (pl_end p3 (1 : Int32))), (.int (pl_end p3 (2 : Int32))), o0, o0, o0, o0, o0, o0, o0, o0, o0, o0, o0, o0, o0, o0, o0, o0, o0, o0, o0, o0, o0, o0, o0, o0, o0, o0, o0, o0, o0, o0, o0, o0, o0, o0, o0, o0, o0, o0, o0] (0 : Int32) (pl_end p1 (0 : Int32)) gj n0 Zj jf1 jf2 jf3 jV1 jV2 (by decide) rfl (fun _ => by decide) (fun _ => rfl)) 0 (by decide) (by decide) e624 (by rw [hml]; rfl) b617 jE [(.int (0 : Int32)), (.int (1 : Int32))] [] rfl (lenOf pd_8 rfl) rfl (Nat.le_of_eq rfl) (hb hby at_213) (by decide) (by decide) ?_
                rintro T625 _ L625 X625 ⟨rfl, N625q, e625⟩
                have N625 := Fr.app N624 N625q
                show own_R p e below s _ _ _ T625 (mkF m 216 #[.val (.int p0), .val (.int p1), .val (.int p2), .val (.int p3), .val (.int p4), .val (.int (3 : Int32)), .val (.int off), .val (.ref b616), .val (.ref b617), .val (.ref vw), .val (.int ((pl_end p1 (2 : Int32)) + (2 : Int32))), .val (.int ((pl_end p2 (2 : Int32)) + (2 : Int32))), .val (.int (0 : Int32)), .val (.int (1 : Int32)), .val (.int p1), .val (.int (0 : Int32)), .val (.int ((0 : Int32) + ((pl_end p1 (0 : Int32)) + (1 : Int32))))] [(.int (pl_fs (0 : Int32) (pl_end p1 (0 : Int32)) (1 : Int32)))])
                refine own_iload X625 hx (hb hby at_216) rfl ?_
                refine own_icmp X625 hx (hb hby at_218) (pc' := 225) (by decide) (by decide) (fun hc => ?_) (fun hc => ?_)
                · have hc218 : ¬ (pl_fs (0 : Int32) (pl_end p1 (0 : Int32)) (1 : Int32)) = ((0 : Int32) + ((pl_end p1 (0 : Int32)) + (1 : Int32))) := own_ne1 hc
                  exact absurd (by simp only [pl_fs, Int32.zero_add, if_true, if_false, show ((1 : Int32) = 0) = False from by decide]) hc218
                · have hc218 : (pl_fs (0 : Int32) (pl_end p1 (0 : Int32)) (1 : Int32)) = ((0 : Int32) + ((pl_end p1 (0 : Int32)) + (1 : Int32))) := own_ne0 hc
                  clear hc
                  refine own_iconst X625 hx (1 : Int32) (hb hby at_221) rfl ?_
                  refine own_goto X625 hx (hb hby at_222) (pc' := 226) (by decide) (by decide) ?_
                  show own_R p e below s _ _ _ T625 (mkF m 226 #[.val (.int p0), .val (.int p1), .val (.int p2), .val (.int p3), .val (.int p4), .val (.int (3 : Int32)), .val (.int off), .val (.ref b616), .val (.ref b617), .val (.ref vw), .val (.int ((pl_end p1 (2 : Int32)) + (2 : Int32))), .val (.int ((pl_end p2 (2 : Int32)) + (2 : Int32))), .val (.int (0 : Int32)), .val (.int (1 : Int32)), .val (.int p1), .val (.int (0 : Int32)), .val (.int ((0 : Int32) + ((pl_end p1 (0 : Int32)) + (1 : Int32))))] [(.int (1 : Int32))])
                  refine own_retN X625 hx (t := .boolean) Bd.returns (by simp) hlk (hb hby at_226) ?_ (by decide) (by decide)
                  exact ⟨rfl, N625⟩
              · have hc186 : (1 : Int32) = (0 : Int32) := own_ne0 hc
                exact absurd hc186 (by decide)
        ·
          show own_R p e below s _ _ _ Tj (mkF m 133 #[.val (.int p0), .val (.int p1), .val (.int p2), .val (.int p3), .val (.int p4), .val (.int (3 : Int32)), .val (.int off), .val (.ref b616), .val (.ref b617), .val (.ref vw), .val (.int ((pl_end p1 (2 : Int32)) + (2 : Int32))), .val (.int ((pl_end p2 (2 : Int32)) + (2 : Int32))), .val (.int (0 : Int32)), .val (.int (2 : Int32)), .unset, .unset, .unset] [])
          refine own_iload Xj hx (hb hby at_133) rfl ?_
          refine own_if Xj hx (hb hby at_135) (pc' := 142) (by decide) (by decide) (fun hc => ?_) (fun hc => ?_)
          · have hc135 : ¬ (0 : Int32) = (0 : Int32) := own_ne1 hc
            exact absurd (by decide) hc135
          · have hc135 : (0 : Int32) = (0 : Int32) := own_ne0 hc
            clear hc
            refine own_iloadN Xj hx (hb hby at_138) rfl ?_
            refine own_goto Xj hx (hb hby at_139) (pc' := 153) (by decide) (by decide) ?_
            show own_R p e below s _ _ _ Tj (mkF m 153 #[.val (.int p0), .val (.int p1), .val (.int p2), .val (.int p3), .val (.int p4), .val (.int (3 : Int32)), .val (.int off), .val (.ref b616), .val (.ref b617), .val (.ref vw), .val (.int ((pl_end p1 (2 : Int32)) + (2 : Int32))), .val (.int ((pl_end p2 (2 : Int32)) + (2 : Int32))), .val (.int (0 : Int32)), .val (.int (2 : Int32)), .unset, .unset, .unset] [(.int p1)])
            refine own_istore Xj hx (hb hby at_153) (l' := #[.val (.int p0), .val (.int p1), .val (.int p2), .val (.int p3), .val (.int p4), .val (.int (3 : Int32)), .val (.int off), .val (.ref b616), .val (.ref b617), .val (.ref vw), .val (.int ((pl_end p1 (2 : Int32)) + (2 : Int32))), .val (.int ((pl_end p2 (2 : Int32)) + (2 : Int32))), .val (.int (0 : Int32)), .val (.int (2 : Int32)), .val (.int p1), .unset, .unset]) rfl ?_
            refine own_iload Xj hx (hb hby at_155) rfl ?_
            refine own_if Xj hx (hb hby at_157) (pc' := 164) (by decide) (by decide) (fun hc => ?_) (fun hc => ?_)
            · have hc157 : ¬ (0 : Int32) = (0 : Int32) := own_ne1 hc
              exact absurd (by decide) hc157
            · have hc157 : (0 : Int32) = (0 : Int32) := own_ne0 hc
              clear hc
              refine own_iconst Xj hx (0 : Int32) (hb hby at_160) rfl ?_
              refine own_goto Xj hx (hb hby at_161) (pc' := 180) (by decide) (by decide) ?_
              show own_R p e below s _ _ _ Tj (mkF m 180 #[.val (.int p0), .val (.int p1), .val (.int p2), .val (.int p3), .val (.int p4), .val (.int (3 : Int32)), .val (.int off), .val (.ref b616), .val (.ref b617), .val (.ref vw), .val (.int ((pl_end p1 (2 : Int32)) + (2 : Int32))), .val (.int ((pl_end p2 (2 : Int32)) + (2 : Int32))), .val (.int (0 : Int32)), .val (.int (2 : Int32)), .val (.int p1), .unset, .unset] [(.int (0 : Int32))])
              refine own_istore Xj hx (hb hby at_180) (l' := #[.val (.int p0), .val (.int p1), .val (.int p2), .val (.int p3), .val (.int p4), .val (.int (3 : Int32)), .val (.int off), .val (.ref b616), .val (.ref b617), .val (.ref vw), .val (.int ((pl_end p1 (2 : Int32)) + (2 : Int32))), .val (.int ((pl_end p2 (2 : Int32)) + (2 : Int32))), .val (.int (0 : Int32)), .val (.int (2 : Int32)), .val (.int p1), .val (.int (0 : Int32)), .unset]) rfl ?_
              refine own_iload Xj hx (hb hby at_182) rfl ?_
              refine own_iload Xj hx (hb hby at_184) rfl ?_
              refine own_if Xj hx (hb hby at_186) (pc' := 193) (by decide) (by decide) (fun hc => ?_) (fun hc => ?_)
              · have hc186 : ¬ (2 : Int32) = (0 : Int32) := own_ne1 hc
                clear hc
                refine own_iload Xj hx (hb hby at_193) rfl ?_
                refine own_iload Xj hx (hb hby at_195) rfl ?_
                refine own_iconst Xj hx (1 : Int32) (hb hby at_197) rfl ?_
                refine own_isub Xj hx (hb hby at_198) ?_
                refine own_callS Xj hx hZ (y := my9) hown (hw _ (List.mem_of_getElem? (i := 95) rfl)) (hw _ (List.mem_of_getElem? (i := 96) rfl)) (hw _ (List.mem_of_getElem? (i := 93) rfl)) (hw _ (List.mem_of_getElem? (i := 97) rfl)) (by decide) (rm9 l Z a0 hw [] p1 (1 : Int32) gj n0 Zj) 1 (by decide) (by decide) ej (by rw [hml]; rfl) [(.int p1), (.int (1 : Int32))] [(.int (0 : Int32))] rfl (lenOf pd_8 rfl) rfl (Nat.le_of_eq rfl) (hb hby at_199) (by decide) (by decide) ?_
                rintro T626 _ L626 X626 ⟨rfl, N626q, e626⟩
                have N626 := Fr.app Nj N626q
                show own_R p e below s _ _ _ T626 (mkF m 202 #[.val (.int p0), .val (.int p1), .val (.int p2), .val (.int p3), .val (.int p4), .val (.int (3 : Int32)), .val (.int off), .val (.ref b616), .val (.ref b617), .val (.ref vw), .val (.int ((pl_end p1 (2 : Int32)) + (2 : Int32))), .val (.int ((pl_end p2 (2 : Int32)) + (2 : Int32))), .val (.int (0 : Int32)), .val (.int (2 : Int32)), .val (.int p1), .val (.int (0 : Int32)), .unset] [(.int (pl_end p1 (1 : Int32))), (.int (0 : Int32))])
                refine own_iconst X626 hx (1 : Int32) (hb hby at_202) rfl ?_
                refine own_iadd X626 hx (hb hby at_203) ?_
                refine own_iadd X626 hx (hb hby at_204) ?_
                refine own_istore X626 hx (hb hby at_205) (l' := #[.val (.int p0), .val (.int p1), .val (.int p2), .val (.int p3), .val (.int p4), .val (.int (3 : Int32)), .val (.int off), .val (.ref b616), .val (.ref b617), .val (.ref vw), .val (.int ((pl_end p1 (2 : Int32)) + (2 : Int32))), .val (.int ((pl_end p2 (2 : Int32)) + (2 : Int32))), .val (.int (0 : Int32)), .val (.int (2 : Int32)), .val (.int p1), .val (.int (0 : Int32)), .val (.int ((0 : Int32) + ((pl_end p1 (1 : Int32)) + (1 : Int32))))]) rfl ?_
                refine own_aload X626 hx (hb hby at_207) rfl rfl ?_
                refine own_iload X626 hx (hb hby at_209) rfl ?_
                refine own_iload X626 hx (hb hby at_211) rfl ?_
                refine own_callV X626 hx hZ (y := my16) (z := my16) hown (hw _ (List.mem_of_getElem? (i := 136) rfl)) (hw _ (List.mem_of_getElem? (i := 137) rfl)) (notFace_of_selects (args := #[]) (mvT hZ (hw _ (List.mem_of_getElem? (i := 139) rfl)))) (hw _ (List.mem_of_getElem? (i := 139) rfl)) (hw _ (List.mem_of_getElem? (i := 138) rfl)) (hw _ (List.mem_of_getElem? (i := 3) rfl)) (hw _ (List.mem_of_getElem? (i := 140) rfl)) (by decide) (rm16 l Z a0 hw [] b617 (0 : Int32) (2 : Int32) ys yf ks kf (3 : Int32) [o0, (.int ((0 : Int32) + ((pl_end p1 (2 : Int32)) + (2 : Int32)))), (.int (((0 : Int32) + ((pl_end p1 (2 : Int32)) + (2 : Int32))) + ((pl_end p2 (2 : Int32)) + (2 : Int32)))), o0, o0, o0, o0, o0, o0, o0, o0, o0, o0, o0, o0, o0] [(.int (pl_end p1 (0 : Int32))), (.int (pl_end p1 (1 : Int32))), (.int (pl_end p1 (2 : Int32))), (.int (pl_end p2 (0 : Int32))), (.int (pl_end p2 (1 : Int32))), (.int (pl_end p2 (2 : Int32))), (.int (pl_end p3 (0 : Int32))), (.int (pl_end p3 (1 : Int32))), (.int (pl_end p3 (2 : Int32))), o0, o0, o0, o0, o0, o0, o0, o0, o0, o0, o0, o0, o0, o0, o0, o0, o0, o0, o0, o0, o0, o0, o0, o0, o0, o0, o0, o0, o0, o0, o0, o0, o0, o0, o0, o0, o0, o0, o0] (0 : Int32) (pl_end p1 (1 : Int32)) gj n0 Zj jf1 jf2 jf3 jV1 jV2 (by decide) rfl (fun _ => by decide) (fun _ => rfl)) 0 (by decide) (by decide) e626 (by rw [hml]; rfl) b617 jE [(.int (0 : Int32)), (.int (2 : Int32))] [] rfl (lenOf pd_8 rfl) rfl (Nat.le_of_eq rfl) (hb hby at_213) (by decide) (by decide) ?_
                rintro T627 _ L627 X627 ⟨rfl, N627q, e627⟩
                have N627 := Fr.app N626 N627q
                show own_R p e below s _ _ _ T627 (mkF m 216 #[.val (.int p0), .val (.int p1), .val (.int p2), .val (.int p3), .val (.int p4), .val (.int (3 : Int32)), .val (.int off), .val (.ref b616), .val (.ref b617), .val (.ref vw), .val (.int ((pl_end p1 (2 : Int32)) + (2 : Int32))), .val (.int ((pl_end p2 (2 : Int32)) + (2 : Int32))), .val (.int (0 : Int32)), .val (.int (2 : Int32)), .val (.int p1), .val (.int (0 : Int32)), .val (.int ((0 : Int32) + ((pl_end p1 (1 : Int32)) + (1 : Int32))))] [(.int (pl_fs (0 : Int32) (pl_end p1 (1 : Int32)) (2 : Int32)))])
                refine own_iload X627 hx (hb hby at_216) rfl ?_
                refine own_icmp X627 hx (hb hby at_218) (pc' := 225) (by decide) (by decide) (fun hc => ?_) (fun hc => ?_)
                · have hc218 : ¬ (pl_fs (0 : Int32) (pl_end p1 (1 : Int32)) (2 : Int32)) = ((0 : Int32) + ((pl_end p1 (1 : Int32)) + (1 : Int32))) := own_ne1 hc
                  exact absurd (by simp only [pl_fs, Int32.zero_add, if_true, if_false, show ((2 : Int32) = 0) = False from by decide]) hc218
                · have hc218 : (pl_fs (0 : Int32) (pl_end p1 (1 : Int32)) (2 : Int32)) = ((0 : Int32) + ((pl_end p1 (1 : Int32)) + (1 : Int32))) := own_ne0 hc
                  clear hc
                  refine own_iconst X627 hx (1 : Int32) (hb hby at_221) rfl ?_
                  refine own_goto X627 hx (hb hby at_222) (pc' := 226) (by decide) (by decide) ?_
                  show own_R p e below s _ _ _ T627 (mkF m 226 #[.val (.int p0), .val (.int p1), .val (.int p2), .val (.int p3), .val (.int p4), .val (.int (3 : Int32)), .val (.int off), .val (.ref b616), .val (.ref b617), .val (.ref vw), .val (.int ((pl_end p1 (2 : Int32)) + (2 : Int32))), .val (.int ((pl_end p2 (2 : Int32)) + (2 : Int32))), .val (.int (0 : Int32)), .val (.int (2 : Int32)), .val (.int p1), .val (.int (0 : Int32)), .val (.int ((0 : Int32) + ((pl_end p1 (1 : Int32)) + (1 : Int32))))] [(.int (1 : Int32))])
                  refine own_retN X627 hx (t := .boolean) Bd.returns (by simp) hlk (hb hby at_226) ?_ (by decide) (by decide)
                  exact ⟨rfl, N627⟩
              · have hc186 : (2 : Int32) = (0 : Int32) := own_ne0 hc
                exact absurd hc186 (by decide)
      ·
        rcases hcl4 with rfl | rfl | rfl
        ·
          show own_R p e below s _ _ _ Tj (mkF m 133 #[.val (.int p0), .val (.int p1), .val (.int p2), .val (.int p3), .val (.int p4), .val (.int (3 : Int32)), .val (.int off), .val (.ref b616), .val (.ref b617), .val (.ref vw), .val (.int ((pl_end p1 (2 : Int32)) + (2 : Int32))), .val (.int ((pl_end p2 (2 : Int32)) + (2 : Int32))), .val (.int (1 : Int32)), .val (.int (0 : Int32)), .unset, .unset, .unset] [])
          refine own_iload Xj hx (hb hby at_133) rfl ?_
          refine own_if Xj hx (hb hby at_135) (pc' := 142) (by decide) (by decide) (fun hc => ?_) (fun hc => ?_)
          · have hc135 : ¬ (1 : Int32) = (0 : Int32) := own_ne1 hc
            clear hc
            refine own_iload Xj hx (hb hby at_142) rfl ?_
            refine own_iconst Xj hx (1 : Int32) (hb hby at_144) rfl ?_
            refine own_icmp Xj hx (hb hby at_145) (pc' := 152) (by decide) (by decide) (fun hc => ?_) (fun hc => ?_)
            · have hc145 : ¬ (1 : Int32) = (1 : Int32) := own_ne1 hc
              exact absurd (by decide) hc145
            · have hc145 : (1 : Int32) = (1 : Int32) := own_ne0 hc
              clear hc
              refine own_iloadN Xj hx (hb hby at_148) rfl ?_
              refine own_goto Xj hx (hb hby at_149) (pc' := 153) (by decide) (by decide) ?_
              show own_R p e below s _ _ _ Tj (mkF m 153 #[.val (.int p0), .val (.int p1), .val (.int p2), .val (.int p3), .val (.int p4), .val (.int (3 : Int32)), .val (.int off), .val (.ref b616), .val (.ref b617), .val (.ref vw), .val (.int ((pl_end p1 (2 : Int32)) + (2 : Int32))), .val (.int ((pl_end p2 (2 : Int32)) + (2 : Int32))), .val (.int (1 : Int32)), .val (.int (0 : Int32)), .unset, .unset, .unset] [(.int p2)])
              refine own_istore Xj hx (hb hby at_153) (l' := #[.val (.int p0), .val (.int p1), .val (.int p2), .val (.int p3), .val (.int p4), .val (.int (3 : Int32)), .val (.int off), .val (.ref b616), .val (.ref b617), .val (.ref vw), .val (.int ((pl_end p1 (2 : Int32)) + (2 : Int32))), .val (.int ((pl_end p2 (2 : Int32)) + (2 : Int32))), .val (.int (1 : Int32)), .val (.int (0 : Int32)), .val (.int p2), .unset, .unset]) rfl ?_
              refine own_iload Xj hx (hb hby at_155) rfl ?_
              refine own_if Xj hx (hb hby at_157) (pc' := 164) (by decide) (by decide) (fun hc => ?_) (fun hc => ?_)
              · have hc157 : ¬ (1 : Int32) = (0 : Int32) := own_ne1 hc
                clear hc
                refine own_iload Xj hx (hb hby at_164) rfl ?_
                refine own_iconst Xj hx (1 : Int32) (hb hby at_166) rfl ?_
                refine own_icmp Xj hx (hb hby at_167) (pc' := 175) (by decide) (by decide) (fun hc => ?_) (fun hc => ?_)
                · have hc167 : ¬ (1 : Int32) = (1 : Int32) := own_ne1 hc
                  exact absurd (by decide) hc167
                · have hc167 : (1 : Int32) = (1 : Int32) := own_ne0 hc
                  clear hc
                  refine own_iload Xj hx (hb hby at_170) rfl ?_
                  refine own_goto Xj hx (hb hby at_172) (pc' := 180) (by decide) (by decide) ?_
                  show own_R p e below s _ _ _ Tj (mkF m 180 #[.val (.int p0), .val (.int p1), .val (.int p2), .val (.int p3), .val (.int p4), .val (.int (3 : Int32)), .val (.int off), .val (.ref b616), .val (.ref b617), .val (.ref vw), .val (.int ((pl_end p1 (2 : Int32)) + (2 : Int32))), .val (.int ((pl_end p2 (2 : Int32)) + (2 : Int32))), .val (.int (1 : Int32)), .val (.int (0 : Int32)), .val (.int p2), .unset, .unset] [(.int ((pl_end p1 (2 : Int32)) + (2 : Int32)))])
                  refine own_istore Xj hx (hb hby at_180) (l' := #[.val (.int p0), .val (.int p1), .val (.int p2), .val (.int p3), .val (.int p4), .val (.int (3 : Int32)), .val (.int off), .val (.ref b616), .val (.ref b617), .val (.ref vw), .val (.int ((pl_end p1 (2 : Int32)) + (2 : Int32))), .val (.int ((pl_end p2 (2 : Int32)) + (2 : Int32))), .val (.int (1 : Int32)), .val (.int (0 : Int32)), .val (.int p2), .val (.int ((pl_end p1 (2 : Int32)) + (2 : Int32))), .unset]) rfl ?_
                  refine own_iload Xj hx (hb hby at_182) rfl ?_
                  refine own_iload Xj hx (hb hby at_184) rfl ?_
                  refine own_if Xj hx (hb hby at_186) (pc' := 193) (by decide) (by decide) (fun hc => ?_) (fun hc => ?_)
                  · have hc186 : ¬ (0 : Int32) = (0 : Int32) := own_ne1 hc
                    exact absurd (by decide) hc186
                  · have hc186 : (0 : Int32) = (0 : Int32) := own_ne0 hc
                    clear hc
                    refine own_iconst Xj hx (0 : Int32) (hb hby at_189) rfl ?_
                    refine own_goto Xj hx (hb hby at_190) (pc' := 204) (by decide) (by decide) ?_
                    show own_R p e below s _ _ _ Tj (mkF m 204 #[.val (.int p0), .val (.int p1), .val (.int p2), .val (.int p3), .val (.int p4), .val (.int (3 : Int32)), .val (.int off), .val (.ref b616), .val (.ref b617), .val (.ref vw), .val (.int ((pl_end p1 (2 : Int32)) + (2 : Int32))), .val (.int ((pl_end p2 (2 : Int32)) + (2 : Int32))), .val (.int (1 : Int32)), .val (.int (0 : Int32)), .val (.int p2), .val (.int ((pl_end p1 (2 : Int32)) + (2 : Int32))), .unset] [(.int (0 : Int32)), (.int ((pl_end p1 (2 : Int32)) + (2 : Int32)))])
                    refine own_iadd Xj hx (hb hby at_204) ?_
                    refine own_istore Xj hx (hb hby at_205) (l' := #[.val (.int p0), .val (.int p1), .val (.int p2), .val (.int p3), .val (.int p4), .val (.int (3 : Int32)), .val (.int off), .val (.ref b616), .val (.ref b617), .val (.ref vw), .val (.int ((pl_end p1 (2 : Int32)) + (2 : Int32))), .val (.int ((pl_end p2 (2 : Int32)) + (2 : Int32))), .val (.int (1 : Int32)), .val (.int (0 : Int32)), .val (.int p2), .val (.int ((pl_end p1 (2 : Int32)) + (2 : Int32))), .val (.int (((pl_end p1 (2 : Int32)) + (2 : Int32)) + (0 : Int32)))]) rfl ?_
                    refine own_aload Xj hx (hb hby at_207) rfl rfl ?_
                    refine own_iload Xj hx (hb hby at_209) rfl ?_
                    refine own_iload Xj hx (hb hby at_211) rfl ?_
                    refine own_callV Xj hx hZ (y := my16) (z := my16) hown (hw _ (List.mem_of_getElem? (i := 136) rfl)) (hw _ (List.mem_of_getElem? (i := 137) rfl)) (notFace_of_selects (args := #[]) (mvT hZ (hw _ (List.mem_of_getElem? (i := 139) rfl)))) (hw _ (List.mem_of_getElem? (i := 139) rfl)) (hw _ (List.mem_of_getElem? (i := 138) rfl)) (hw _ (List.mem_of_getElem? (i := 3) rfl)) (hw _ (List.mem_of_getElem? (i := 140) rfl)) (by decide) (rm16 l Z a0 hw [] b617 (1 : Int32) (0 : Int32) ys yf ks kf (3 : Int32) [o0, (.int ((0 : Int32) + ((pl_end p1 (2 : Int32)) + (2 : Int32)))), (.int (((0 : Int32) + ((pl_end p1 (2 : Int32)) + (2 : Int32))) + ((pl_end p2 (2 : Int32)) + (2 : Int32)))), o0, o0, o0, o0, o0, o0, o0, o0, o0, o0, o0, o0, o0] [(.int (pl_end p1 (0 : Int32))), (.int (pl_end p1 (1 : Int32))), (.int (pl_end p1 (2 : Int32))), (.int (pl_end p2 (0 : Int32))), (.int (pl_end p2 (1 : Int32))), (.int (pl_end p2 (2 : Int32))), (.int (pl_end p3 (0 : Int32))), (.int (pl_end p3 (1 : Int32))), (.int (pl_end p3 (2 : Int32))), o0, o0, o0, o0, o0, o0, o0, o0, o0, o0, o0, o0, o0, o0, o0, o0, o0, o0, o0, o0, o0, o0, o0, o0, o0, o0, o0, o0, o0, o0, o0, o0, o0, o0, o0, o0, o0, o0, o0] ((0 : Int32) + ((pl_end p1 (2 : Int32)) + (2 : Int32))) (0 : Int32) gj n0 Zj jf1 jf2 jf3 jV1 jV2 (by decide) rfl (fun q => absurd rfl q) (fun q => absurd rfl q)) 0 (by decide) (by decide) ej (by rw [hml]; rfl) b617 jE [(.int (1 : Int32)), (.int (0 : Int32))] [] rfl (lenOf pd_8 rfl) rfl (Nat.le_of_eq rfl) (hb hby at_213) (by decide) (by decide) ?_
                    rintro T628 _ L628 X628 ⟨rfl, N628q, e628⟩
                    have N628 := Fr.app Nj N628q
                    show own_R p e below s _ _ _ T628 (mkF m 216 #[.val (.int p0), .val (.int p1), .val (.int p2), .val (.int p3), .val (.int p4), .val (.int (3 : Int32)), .val (.int off), .val (.ref b616), .val (.ref b617), .val (.ref vw), .val (.int ((pl_end p1 (2 : Int32)) + (2 : Int32))), .val (.int ((pl_end p2 (2 : Int32)) + (2 : Int32))), .val (.int (1 : Int32)), .val (.int (0 : Int32)), .val (.int p2), .val (.int ((pl_end p1 (2 : Int32)) + (2 : Int32))), .val (.int (((pl_end p1 (2 : Int32)) + (2 : Int32)) + (0 : Int32)))] [(.int (pl_fs ((0 : Int32) + ((pl_end p1 (2 : Int32)) + (2 : Int32))) (0 : Int32) (0 : Int32)))])
                    refine own_iload X628 hx (hb hby at_216) rfl ?_
                    refine own_icmp X628 hx (hb hby at_218) (pc' := 225) (by decide) (by decide) (fun hc => ?_) (fun hc => ?_)
                    · have hc218 : ¬ (pl_fs ((0 : Int32) + ((pl_end p1 (2 : Int32)) + (2 : Int32))) (0 : Int32) (0 : Int32)) = (((pl_end p1 (2 : Int32)) + (2 : Int32)) + (0 : Int32)) := own_ne1 hc
                      exact absurd (by simp only [pl_fs, Int32.zero_add, if_true, if_false, show ((0 : Int32) = 0) = True from by decide]) hc218
                    · have hc218 : (pl_fs ((0 : Int32) + ((pl_end p1 (2 : Int32)) + (2 : Int32))) (0 : Int32) (0 : Int32)) = (((pl_end p1 (2 : Int32)) + (2 : Int32)) + (0 : Int32)) := own_ne0 hc
                      clear hc
                      refine own_iconst X628 hx (1 : Int32) (hb hby at_221) rfl ?_
                      refine own_goto X628 hx (hb hby at_222) (pc' := 226) (by decide) (by decide) ?_
                      show own_R p e below s _ _ _ T628 (mkF m 226 #[.val (.int p0), .val (.int p1), .val (.int p2), .val (.int p3), .val (.int p4), .val (.int (3 : Int32)), .val (.int off), .val (.ref b616), .val (.ref b617), .val (.ref vw), .val (.int ((pl_end p1 (2 : Int32)) + (2 : Int32))), .val (.int ((pl_end p2 (2 : Int32)) + (2 : Int32))), .val (.int (1 : Int32)), .val (.int (0 : Int32)), .val (.int p2), .val (.int ((pl_end p1 (2 : Int32)) + (2 : Int32))), .val (.int (((pl_end p1 (2 : Int32)) + (2 : Int32)) + (0 : Int32)))] [(.int (1 : Int32))])
                      refine own_retN X628 hx (t := .boolean) Bd.returns (by simp) hlk (hb hby at_226) ?_ (by decide) (by decide)
                      exact ⟨rfl, N628⟩
              · have hc157 : (1 : Int32) = (0 : Int32) := own_ne0 hc
                exact absurd hc157 (by decide)
          · have hc135 : (1 : Int32) = (0 : Int32) := own_ne0 hc
            exact absurd hc135 (by decide)
        ·
          show own_R p e below s _ _ _ Tj (mkF m 133 #[.val (.int p0), .val (.int p1), .val (.int p2), .val (.int p3), .val (.int p4), .val (.int (3 : Int32)), .val (.int off), .val (.ref b616), .val (.ref b617), .val (.ref vw), .val (.int ((pl_end p1 (2 : Int32)) + (2 : Int32))), .val (.int ((pl_end p2 (2 : Int32)) + (2 : Int32))), .val (.int (1 : Int32)), .val (.int (1 : Int32)), .unset, .unset, .unset] [])
          refine own_iload Xj hx (hb hby at_133) rfl ?_
          refine own_if Xj hx (hb hby at_135) (pc' := 142) (by decide) (by decide) (fun hc => ?_) (fun hc => ?_)
          · have hc135 : ¬ (1 : Int32) = (0 : Int32) := own_ne1 hc
            clear hc
            refine own_iload Xj hx (hb hby at_142) rfl ?_
            refine own_iconst Xj hx (1 : Int32) (hb hby at_144) rfl ?_
            refine own_icmp Xj hx (hb hby at_145) (pc' := 152) (by decide) (by decide) (fun hc => ?_) (fun hc => ?_)
            · have hc145 : ¬ (1 : Int32) = (1 : Int32) := own_ne1 hc
              exact absurd (by decide) hc145
            · have hc145 : (1 : Int32) = (1 : Int32) := own_ne0 hc
              clear hc
              refine own_iloadN Xj hx (hb hby at_148) rfl ?_
              refine own_goto Xj hx (hb hby at_149) (pc' := 153) (by decide) (by decide) ?_
              show own_R p e below s _ _ _ Tj (mkF m 153 #[.val (.int p0), .val (.int p1), .val (.int p2), .val (.int p3), .val (.int p4), .val (.int (3 : Int32)), .val (.int off), .val (.ref b616), .val (.ref b617), .val (.ref vw), .val (.int ((pl_end p1 (2 : Int32)) + (2 : Int32))), .val (.int ((pl_end p2 (2 : Int32)) + (2 : Int32))), .val (.int (1 : Int32)), .val (.int (1 : Int32)), .unset, .unset, .unset] [(.int p2)])
              refine own_istore Xj hx (hb hby at_153) (l' := #[.val (.int p0), .val (.int p1), .val (.int p2), .val (.int p3), .val (.int p4), .val (.int (3 : Int32)), .val (.int off), .val (.ref b616), .val (.ref b617), .val (.ref vw), .val (.int ((pl_end p1 (2 : Int32)) + (2 : Int32))), .val (.int ((pl_end p2 (2 : Int32)) + (2 : Int32))), .val (.int (1 : Int32)), .val (.int (1 : Int32)), .val (.int p2), .unset, .unset]) rfl ?_
              refine own_iload Xj hx (hb hby at_155) rfl ?_
              refine own_if Xj hx (hb hby at_157) (pc' := 164) (by decide) (by decide) (fun hc => ?_) (fun hc => ?_)
              · have hc157 : ¬ (1 : Int32) = (0 : Int32) := own_ne1 hc
                clear hc
                refine own_iload Xj hx (hb hby at_164) rfl ?_
                refine own_iconst Xj hx (1 : Int32) (hb hby at_166) rfl ?_
                refine own_icmp Xj hx (hb hby at_167) (pc' := 175) (by decide) (by decide) (fun hc => ?_) (fun hc => ?_)
                · have hc167 : ¬ (1 : Int32) = (1 : Int32) := own_ne1 hc
                  exact absurd (by decide) hc167
                · have hc167 : (1 : Int32) = (1 : Int32) := own_ne0 hc
                  clear hc
                  refine own_iload Xj hx (hb hby at_170) rfl ?_
                  refine own_goto Xj hx (hb hby at_172) (pc' := 180) (by decide) (by decide) ?_
                  show own_R p e below s _ _ _ Tj (mkF m 180 #[.val (.int p0), .val (.int p1), .val (.int p2), .val (.int p3), .val (.int p4), .val (.int (3 : Int32)), .val (.int off), .val (.ref b616), .val (.ref b617), .val (.ref vw), .val (.int ((pl_end p1 (2 : Int32)) + (2 : Int32))), .val (.int ((pl_end p2 (2 : Int32)) + (2 : Int32))), .val (.int (1 : Int32)), .val (.int (1 : Int32)), .val (.int p2), .unset, .unset] [(.int ((pl_end p1 (2 : Int32)) + (2 : Int32)))])
                  refine own_istore Xj hx (hb hby at_180) (l' := #[.val (.int p0), .val (.int p1), .val (.int p2), .val (.int p3), .val (.int p4), .val (.int (3 : Int32)), .val (.int off), .val (.ref b616), .val (.ref b617), .val (.ref vw), .val (.int ((pl_end p1 (2 : Int32)) + (2 : Int32))), .val (.int ((pl_end p2 (2 : Int32)) + (2 : Int32))), .val (.int (1 : Int32)), .val (.int (1 : Int32)), .val (.int p2), .val (.int ((pl_end p1 (2 : Int32)) + (2 : Int32))), .unset]) rfl ?_
                  refine own_iload Xj hx (hb hby at_182) rfl ?_
                  refine own_iload Xj hx (hb hby at_184) rfl ?_
                  refine own_if Xj hx (hb hby at_186) (pc' := 193) (by decide) (by decide) (fun hc => ?_) (fun hc => ?_)
                  · have hc186 : ¬ (1 : Int32) = (0 : Int32) := own_ne1 hc
                    clear hc
                    refine own_iload Xj hx (hb hby at_193) rfl ?_
                    refine own_iload Xj hx (hb hby at_195) rfl ?_
                    refine own_iconst Xj hx (1 : Int32) (hb hby at_197) rfl ?_
                    refine own_isub Xj hx (hb hby at_198) ?_
                    refine own_callS Xj hx hZ (y := my9) hown (hw _ (List.mem_of_getElem? (i := 95) rfl)) (hw _ (List.mem_of_getElem? (i := 96) rfl)) (hw _ (List.mem_of_getElem? (i := 93) rfl)) (hw _ (List.mem_of_getElem? (i := 97) rfl)) (by decide) (rm9 l Z a0 hw [] p2 (0 : Int32) gj n0 Zj) 1 (by decide) (by decide) ej (by rw [hml]; rfl) [(.int p2), (.int (0 : Int32))] [(.int ((pl_end p1 (2 : Int32)) + (2 : Int32)))] rfl (lenOf pd_8 rfl) rfl (Nat.le_of_eq rfl) (hb hby at_199) (by decide) (by decide) ?_
                    rintro T629 _ L629 X629 ⟨rfl, N629q, e629⟩
                    have N629 := Fr.app Nj N629q
                    show own_R p e below s _ _ _ T629 (mkF m 202 #[.val (.int p0), .val (.int p1), .val (.int p2), .val (.int p3), .val (.int p4), .val (.int (3 : Int32)), .val (.int off), .val (.ref b616), .val (.ref b617), .val (.ref vw), .val (.int ((pl_end p1 (2 : Int32)) + (2 : Int32))), .val (.int ((pl_end p2 (2 : Int32)) + (2 : Int32))), .val (.int (1 : Int32)), .val (.int (1 : Int32)), .val (.int p2), .val (.int ((pl_end p1 (2 : Int32)) + (2 : Int32))), .unset] [(.int (pl_end p2 (0 : Int32))), (.int ((pl_end p1 (2 : Int32)) + (2 : Int32)))])
                    refine own_iconst X629 hx (1 : Int32) (hb hby at_202) rfl ?_
                    refine own_iadd X629 hx (hb hby at_203) ?_
                    refine own_iadd X629 hx (hb hby at_204) ?_
                    refine own_istore X629 hx (hb hby at_205) (l' := #[.val (.int p0), .val (.int p1), .val (.int p2), .val (.int p3), .val (.int p4), .val (.int (3 : Int32)), .val (.int off), .val (.ref b616), .val (.ref b617), .val (.ref vw), .val (.int ((pl_end p1 (2 : Int32)) + (2 : Int32))), .val (.int ((pl_end p2 (2 : Int32)) + (2 : Int32))), .val (.int (1 : Int32)), .val (.int (1 : Int32)), .val (.int p2), .val (.int ((pl_end p1 (2 : Int32)) + (2 : Int32))), .val (.int (((pl_end p1 (2 : Int32)) + (2 : Int32)) + ((pl_end p2 (0 : Int32)) + (1 : Int32))))]) rfl ?_
                    refine own_aload X629 hx (hb hby at_207) rfl rfl ?_
                    refine own_iload X629 hx (hb hby at_209) rfl ?_
                    refine own_iload X629 hx (hb hby at_211) rfl ?_
                    refine own_callV X629 hx hZ (y := my16) (z := my16) hown (hw _ (List.mem_of_getElem? (i := 136) rfl)) (hw _ (List.mem_of_getElem? (i := 137) rfl)) (notFace_of_selects (args := #[]) (mvT hZ (hw _ (List.mem_of_getElem? (i := 139) rfl)))) (hw _ (List.mem_of_getElem? (i := 139) rfl)) (hw _ (List.mem_of_getElem? (i := 138) rfl)) (hw _ (List.mem_of_getElem? (i := 3) rfl)) (hw _ (List.mem_of_getElem? (i := 140) rfl)) (by decide) (rm16 l Z a0 hw [] b617 (1 : Int32) (1 : Int32) ys yf ks kf (3 : Int32) [o0, (.int ((0 : Int32) + ((pl_end p1 (2 : Int32)) + (2 : Int32)))), (.int (((0 : Int32) + ((pl_end p1 (2 : Int32)) + (2 : Int32))) + ((pl_end p2 (2 : Int32)) + (2 : Int32)))), o0, o0, o0, o0, o0, o0, o0, o0, o0, o0, o0, o0, o0] [(.int (pl_end p1 (0 : Int32))), (.int (pl_end p1 (1 : Int32))), (.int (pl_end p1 (2 : Int32))), (.int (pl_end p2 (0 : Int32))), (.int (pl_end p2 (1 : Int32))), (.int (pl_end p2 (2 : Int32))), (.int (pl_end p3 (0 : Int32))), (.int (pl_end p3 (1 : Int32))), (.int (pl_end p3 (2 : Int32))), o0, o0, o0, o0, o0, o0, o0, o0, o0, o0, o0, o0, o0, o0, o0, o0, o0, o0, o0, o0, o0, o0, o0, o0, o0, o0, o0, o0, o0, o0, o0, o0, o0, o0, o0, o0, o0, o0, o0] ((0 : Int32) + ((pl_end p1 (2 : Int32)) + (2 : Int32))) (pl_end p2 (0 : Int32)) gj n0 Zj jf1 jf2 jf3 jV1 jV2 (by decide) rfl (fun _ => by decide) (fun _ => rfl)) 0 (by decide) (by decide) e629 (by rw [hml]; rfl) b617 jE [(.int (1 : Int32)), (.int (1 : Int32))] [] rfl (lenOf pd_8 rfl) rfl (Nat.le_of_eq rfl) (hb hby at_213) (by decide) (by decide) ?_
                    rintro T630 _ L630 X630 ⟨rfl, N630q, e630⟩
                    have N630 := Fr.app N629 N630q
                    show own_R p e below s _ _ _ T630 (mkF m 216 #[.val (.int p0), .val (.int p1), .val (.int p2), .val (.int p3), .val (.int p4), .val (.int (3 : Int32)), .val (.int off), .val (.ref b616), .val (.ref b617), .val (.ref vw), .val (.int ((pl_end p1 (2 : Int32)) + (2 : Int32))), .val (.int ((pl_end p2 (2 : Int32)) + (2 : Int32))), .val (.int (1 : Int32)), .val (.int (1 : Int32)), .val (.int p2), .val (.int ((pl_end p1 (2 : Int32)) + (2 : Int32))), .val (.int (((pl_end p1 (2 : Int32)) + (2 : Int32)) + ((pl_end p2 (0 : Int32)) + (1 : Int32))))] [(.int (pl_fs ((0 : Int32) + ((pl_end p1 (2 : Int32)) + (2 : Int32))) (pl_end p2 (0 : Int32)) (1 : Int32)))])
                    refine own_iload X630 hx (hb hby at_216) rfl ?_
                    refine own_icmp X630 hx (hb hby at_218) (pc' := 225) (by decide) (by decide) (fun hc => ?_) (fun hc => ?_)
                    · have hc218 : ¬ (pl_fs ((0 : Int32) + ((pl_end p1 (2 : Int32)) + (2 : Int32))) (pl_end p2 (0 : Int32)) (1 : Int32)) = (((pl_end p1 (2 : Int32)) + (2 : Int32)) + ((pl_end p2 (0 : Int32)) + (1 : Int32))) := own_ne1 hc
                      exact absurd (by simp only [pl_fs, Int32.zero_add, if_true, if_false, show ((1 : Int32) = 0) = False from by decide]) hc218
                    · have hc218 : (pl_fs ((0 : Int32) + ((pl_end p1 (2 : Int32)) + (2 : Int32))) (pl_end p2 (0 : Int32)) (1 : Int32)) = (((pl_end p1 (2 : Int32)) + (2 : Int32)) + ((pl_end p2 (0 : Int32)) + (1 : Int32))) := own_ne0 hc
                      clear hc
                      refine own_iconst X630 hx (1 : Int32) (hb hby at_221) rfl ?_
                      refine own_goto X630 hx (hb hby at_222) (pc' := 226) (by decide) (by decide) ?_
                      show own_R p e below s _ _ _ T630 (mkF m 226 #[.val (.int p0), .val (.int p1), .val (.int p2), .val (.int p3), .val (.int p4), .val (.int (3 : Int32)), .val (.int off), .val (.ref b616), .val (.ref b617), .val (.ref vw), .val (.int ((pl_end p1 (2 : Int32)) + (2 : Int32))), .val (.int ((pl_end p2 (2 : Int32)) + (2 : Int32))), .val (.int (1 : Int32)), .val (.int (1 : Int32)), .val (.int p2), .val (.int ((pl_end p1 (2 : Int32)) + (2 : Int32))), .val (.int (((pl_end p1 (2 : Int32)) + (2 : Int32)) + ((pl_end p2 (0 : Int32)) + (1 : Int32))))] [(.int (1 : Int32))])
                      refine own_retN X630 hx (t := .boolean) Bd.returns (by simp) hlk (hb hby at_226) ?_ (by decide) (by decide)
                      exact ⟨rfl, N630⟩
                  · have hc186 : (1 : Int32) = (0 : Int32) := own_ne0 hc
                    exact absurd hc186 (by decide)
              · have hc157 : (1 : Int32) = (0 : Int32) := own_ne0 hc
                exact absurd hc157 (by decide)
          · have hc135 : (1 : Int32) = (0 : Int32) := own_ne0 hc
            exact absurd hc135 (by decide)
        ·
          show own_R p e below s _ _ _ Tj (mkF m 133 #[.val (.int p0), .val (.int p1), .val (.int p2), .val (.int p3), .val (.int p4), .val (.int (3 : Int32)), .val (.int off), .val (.ref b616), .val (.ref b617), .val (.ref vw), .val (.int ((pl_end p1 (2 : Int32)) + (2 : Int32))), .val (.int ((pl_end p2 (2 : Int32)) + (2 : Int32))), .val (.int (1 : Int32)), .val (.int (2 : Int32)), .unset, .unset, .unset] [])
          refine own_iload Xj hx (hb hby at_133) rfl ?_
          refine own_if Xj hx (hb hby at_135) (pc' := 142) (by decide) (by decide) (fun hc => ?_) (fun hc => ?_)
          · have hc135 : ¬ (1 : Int32) = (0 : Int32) := own_ne1 hc
            clear hc
            refine own_iload Xj hx (hb hby at_142) rfl ?_
            refine own_iconst Xj hx (1 : Int32) (hb hby at_144) rfl ?_
            refine own_icmp Xj hx (hb hby at_145) (pc' := 152) (by decide) (by decide) (fun hc => ?_) (fun hc => ?_)
            · have hc145 : ¬ (1 : Int32) = (1 : Int32) := own_ne1 hc
              exact absurd (by decide) hc145
            · have hc145 : (1 : Int32) = (1 : Int32) := own_ne0 hc
              clear hc
              refine own_iloadN Xj hx (hb hby at_148) rfl ?_
              refine own_goto Xj hx (hb hby at_149) (pc' := 153) (by decide) (by decide) ?_
              show own_R p e below s _ _ _ Tj (mkF m 153 #[.val (.int p0), .val (.int p1), .val (.int p2), .val (.int p3), .val (.int p4), .val (.int (3 : Int32)), .val (.int off), .val (.ref b616), .val (.ref b617), .val (.ref vw), .val (.int ((pl_end p1 (2 : Int32)) + (2 : Int32))), .val (.int ((pl_end p2 (2 : Int32)) + (2 : Int32))), .val (.int (1 : Int32)), .val (.int (2 : Int32)), .unset, .unset, .unset] [(.int p2)])
              refine own_istore Xj hx (hb hby at_153) (l' := #[.val (.int p0), .val (.int p1), .val (.int p2), .val (.int p3), .val (.int p4), .val (.int (3 : Int32)), .val (.int off), .val (.ref b616), .val (.ref b617), .val (.ref vw), .val (.int ((pl_end p1 (2 : Int32)) + (2 : Int32))), .val (.int ((pl_end p2 (2 : Int32)) + (2 : Int32))), .val (.int (1 : Int32)), .val (.int (2 : Int32)), .val (.int p2), .unset, .unset]) rfl ?_
              refine own_iload Xj hx (hb hby at_155) rfl ?_
              refine own_if Xj hx (hb hby at_157) (pc' := 164) (by decide) (by decide) (fun hc => ?_) (fun hc => ?_)
              · have hc157 : ¬ (1 : Int32) = (0 : Int32) := own_ne1 hc
                clear hc
                refine own_iload Xj hx (hb hby at_164) rfl ?_
                refine own_iconst Xj hx (1 : Int32) (hb hby at_166) rfl ?_
                refine own_icmp Xj hx (hb hby at_167) (pc' := 175) (by decide) (by decide) (fun hc => ?_) (fun hc => ?_)
                · have hc167 : ¬ (1 : Int32) = (1 : Int32) := own_ne1 hc
                  exact absurd (by decide) hc167
                · have hc167 : (1 : Int32) = (1 : Int32) := own_ne0 hc
                  clear hc
                  refine own_iload Xj hx (hb hby at_170) rfl ?_
                  refine own_goto Xj hx (hb hby at_172) (pc' := 180) (by decide) (by decide) ?_
                  show own_R p e below s _ _ _ Tj (mkF m 180 #[.val (.int p0), .val (.int p1), .val (.int p2), .val (.int p3), .val (.int p4), .val (.int (3 : Int32)), .val (.int off), .val (.ref b616), .val (.ref b617), .val (.ref vw), .val (.int ((pl_end p1 (2 : Int32)) + (2 : Int32))), .val (.int ((pl_end p2 (2 : Int32)) + (2 : Int32))), .val (.int (1 : Int32)), .val (.int (2 : Int32)), .val (.int p2), .unset, .unset] [(.int ((pl_end p1 (2 : Int32)) + (2 : Int32)))])
                  refine own_istore Xj hx (hb hby at_180) (l' := #[.val (.int p0), .val (.int p1), .val (.int p2), .val (.int p3), .val (.int p4), .val (.int (3 : Int32)), .val (.int off), .val (.ref b616), .val (.ref b617), .val (.ref vw), .val (.int ((pl_end p1 (2 : Int32)) + (2 : Int32))), .val (.int ((pl_end p2 (2 : Int32)) + (2 : Int32))), .val (.int (1 : Int32)), .val (.int (2 : Int32)), .val (.int p2), .val (.int ((pl_end p1 (2 : Int32)) + (2 : Int32))), .unset]) rfl ?_
                  refine own_iload Xj hx (hb hby at_182) rfl ?_
                  refine own_iload Xj hx (hb hby at_184) rfl ?_
                  refine own_if Xj hx (hb hby at_186) (pc' := 193) (by decide) (by decide) (fun hc => ?_) (fun hc => ?_)
                  · have hc186 : ¬ (2 : Int32) = (0 : Int32) := own_ne1 hc
                    clear hc
                    refine own_iload Xj hx (hb hby at_193) rfl ?_
                    refine own_iload Xj hx (hb hby at_195) rfl ?_
                    refine own_iconst Xj hx (1 : Int32) (hb hby at_197) rfl ?_
                    refine own_isub Xj hx (hb hby at_198) ?_
                    refine own_callS Xj hx hZ (y := my9) hown (hw _ (List.mem_of_getElem? (i := 95) rfl)) (hw _ (List.mem_of_getElem? (i := 96) rfl)) (hw _ (List.mem_of_getElem? (i := 93) rfl)) (hw _ (List.mem_of_getElem? (i := 97) rfl)) (by decide) (rm9 l Z a0 hw [] p2 (1 : Int32) gj n0 Zj) 1 (by decide) (by decide) ej (by rw [hml]; rfl) [(.int p2), (.int (1 : Int32))] [(.int ((pl_end p1 (2 : Int32)) + (2 : Int32)))] rfl (lenOf pd_8 rfl) rfl (Nat.le_of_eq rfl) (hb hby at_199) (by decide) (by decide) ?_
                    rintro T631 _ L631 X631 ⟨rfl, N631q, e631⟩
                    have N631 := Fr.app Nj N631q
                    show own_R p e below s _ _ _ T631 (mkF m 202 #[.val (.int p0), .val (.int p1), .val (.int p2), .val (.int p3), .val (.int p4), .val (.int (3 : Int32)), .val (.int off), .val (.ref b616), .val (.ref b617), .val (.ref vw), .val (.int ((pl_end p1 (2 : Int32)) + (2 : Int32))), .val (.int ((pl_end p2 (2 : Int32)) + (2 : Int32))), .val (.int (1 : Int32)), .val (.int (2 : Int32)), .val (.int p2), .val (.int ((pl_end p1 (2 : Int32)) + (2 : Int32))), .unset] [(.int (pl_end p2 (1 : Int32))), (.int ((pl_end p1 (2 : Int32)) + (2 : Int32)))])
                    refine own_iconst X631 hx (1 : Int32) (hb hby at_202) rfl ?_
                    refine own_iadd X631 hx (hb hby at_203) ?_
                    refine own_iadd X631 hx (hb hby at_204) ?_
                    refine own_istore X631 hx (hb hby at_205) (l' := #[.val (.int p0), .val (.int p1), .val (.int p2), .val (.int p3), .val (.int p4), .val (.int (3 : Int32)), .val (.int off), .val (.ref b616), .val (.ref b617), .val (.ref vw), .val (.int ((pl_end p1 (2 : Int32)) + (2 : Int32))), .val (.int ((pl_end p2 (2 : Int32)) + (2 : Int32))), .val (.int (1 : Int32)), .val (.int (2 : Int32)), .val (.int p2), .val (.int ((pl_end p1 (2 : Int32)) + (2 : Int32))), .val (.int (((pl_end p1 (2 : Int32)) + (2 : Int32)) + ((pl_end p2 (1 : Int32)) + (1 : Int32))))]) rfl ?_
                    refine own_aload X631 hx (hb hby at_207) rfl rfl ?_
                    refine own_iload X631 hx (hb hby at_209) rfl ?_
                    refine own_iload X631 hx (hb hby at_211) rfl ?_
                    refine own_callV X631 hx hZ (y := my16) (z := my16) hown (hw _ (List.mem_of_getElem? (i := 136) rfl)) (hw _ (List.mem_of_getElem? (i := 137) rfl)) (notFace_of_selects (args := #[]) (mvT hZ (hw _ (List.mem_of_getElem? (i := 139) rfl)))) (hw _ (List.mem_of_getElem? (i := 139) rfl)) (hw _ (List.mem_of_getElem? (i := 138) rfl)) (hw _ (List.mem_of_getElem? (i := 3) rfl)) (hw _ (List.mem_of_getElem? (i := 140) rfl)) (by decide) (rm16 l Z a0 hw [] b617 (1 : Int32) (2 : Int32) ys yf ks kf (3 : Int32) [o0, (.int ((0 : Int32) + ((pl_end p1 (2 : Int32)) + (2 : Int32)))), (.int (((0 : Int32) + ((pl_end p1 (2 : Int32)) + (2 : Int32))) + ((pl_end p2 (2 : Int32)) + (2 : Int32)))), o0, o0, o0, o0, o0, o0, o0, o0, o0, o0, o0, o0, o0] [(.int (pl_end p1 (0 : Int32))), (.int (pl_end p1 (1 : Int32))), (.int (pl_end p1 (2 : Int32))), (.int (pl_end p2 (0 : Int32))), (.int (pl_end p2 (1 : Int32))), (.int (pl_end p2 (2 : Int32))), (.int (pl_end p3 (0 : Int32))), (.int (pl_end p3 (1 : Int32))), (.int (pl_end p3 (2 : Int32))), o0, o0, o0, o0, o0, o0, o0, o0, o0, o0, o0, o0, o0, o0, o0, o0, o0, o0, o0, o0, o0, o0, o0, o0, o0, o0, o0, o0, o0, o0, o0, o0, o0, o0, o0, o0, o0, o0, o0] ((0 : Int32) + ((pl_end p1 (2 : Int32)) + (2 : Int32))) (pl_end p2 (1 : Int32)) gj n0 Zj jf1 jf2 jf3 jV1 jV2 (by decide) rfl (fun _ => by decide) (fun _ => rfl)) 0 (by decide) (by decide) e631 (by rw [hml]; rfl) b617 jE [(.int (1 : Int32)), (.int (2 : Int32))] [] rfl (lenOf pd_8 rfl) rfl (Nat.le_of_eq rfl) (hb hby at_213) (by decide) (by decide) ?_
                    rintro T632 _ L632 X632 ⟨rfl, N632q, e632⟩
                    have N632 := Fr.app N631 N632q
                    show own_R p e below s _ _ _ T632 (mkF m 216 #[.val (.int p0), .val (.int p1), .val (.int p2), .val (.int p3), .val (.int p4), .val (.int (3 : Int32)), .val (.int off), .val (.ref b616), .val (.ref b617), .val (.ref vw), .val (.int ((pl_end p1 (2 : Int32)) + (2 : Int32))), .val (.int ((pl_end p2 (2 : Int32)) + (2 : Int32))), .val (.int (1 : Int32)), .val (.int (2 : Int32)), .val (.int p2), .val (.int ((pl_end p1 (2 : Int32)) + (2 : Int32))), .val (.int (((pl_end p1 (2 : Int32)) + (2 : Int32)) + ((pl_end p2 (1 : Int32)) + (1 : Int32))))] [(.int (pl_fs ((0 : Int32) + ((pl_end p1 (2 : Int32)) + (2 : Int32))) (pl_end p2 (1 : Int32)) (2 : Int32)))])
                    refine own_iload X632 hx (hb hby at_216) rfl ?_
                    refine own_icmp X632 hx (hb hby at_218) (pc' := 225) (by decide) (by decide) (fun hc => ?_) (fun hc => ?_)
                    · have hc218 : ¬ (pl_fs ((0 : Int32) + ((pl_end p1 (2 : Int32)) + (2 : Int32))) (pl_end p2 (1 : Int32)) (2 : Int32)) = (((pl_end p1 (2 : Int32)) + (2 : Int32)) + ((pl_end p2 (1 : Int32)) + (1 : Int32))) := own_ne1 hc
                      exact absurd (by simp only [pl_fs, Int32.zero_add, if_true, if_false, show ((2 : Int32) = 0) = False from by decide]) hc218
                    · have hc218 : (pl_fs ((0 : Int32) + ((pl_end p1 (2 : Int32)) + (2 : Int32))) (pl_end p2 (1 : Int32)) (2 : Int32)) = (((pl_end p1 (2 : Int32)) + (2 : Int32)) + ((pl_end p2 (1 : Int32)) + (1 : Int32))) := own_ne0 hc
                      clear hc
                      refine own_iconst X632 hx (1 : Int32) (hb hby at_221) rfl ?_
                      refine own_goto X632 hx (hb hby at_222) (pc' := 226) (by decide) (by decide) ?_
                      show own_R p e below s _ _ _ T632 (mkF m 226 #[.val (.int p0), .val (.int p1), .val (.int p2), .val (.int p3), .val (.int p4), .val (.int (3 : Int32)), .val (.int off), .val (.ref b616), .val (.ref b617), .val (.ref vw), .val (.int ((pl_end p1 (2 : Int32)) + (2 : Int32))), .val (.int ((pl_end p2 (2 : Int32)) + (2 : Int32))), .val (.int (1 : Int32)), .val (.int (2 : Int32)), .val (.int p2), .val (.int ((pl_end p1 (2 : Int32)) + (2 : Int32))), .val (.int (((pl_end p1 (2 : Int32)) + (2 : Int32)) + ((pl_end p2 (1 : Int32)) + (1 : Int32))))] [(.int (1 : Int32))])
                      refine own_retN X632 hx (t := .boolean) Bd.returns (by simp) hlk (hb hby at_226) ?_ (by decide) (by decide)
                      exact ⟨rfl, N632⟩
                  · have hc186 : (2 : Int32) = (0 : Int32) := own_ne0 hc
                    exact absurd hc186 (by decide)
              · have hc157 : (1 : Int32) = (0 : Int32) := own_ne0 hc
                exact absurd hc157 (by decide)
          · have hc135 : (1 : Int32) = (0 : Int32) := own_ne0 hc
            exact absurd hc135 (by decide)
      ·
        rcases hcl4 with rfl | rfl | rfl
        ·
          show own_R p e below s _ _ _ Tj (mkF m 133 #[.val (.int p0), .val (.int p1), .val (.int p2), .val (.int p3), .val (.int p4), .val (.int (3 : Int32)), .val (.int off), .val (.ref b616), .val (.ref b617), .val (.ref vw), .val (.int ((pl_end p1 (2 : Int32)) + (2 : Int32))), .val (.int ((pl_end p2 (2 : Int32)) + (2 : Int32))), .val (.int (2 : Int32)), .val (.int (0 : Int32)), .unset, .unset, .unset] [])
          refine own_iload Xj hx (hb hby at_133) rfl ?_
          refine own_if Xj hx (hb hby at_135) (pc' := 142) (by decide) (by decide) (fun hc => ?_) (fun hc => ?_)
          · have hc135 : ¬ (2 : Int32) = (0 : Int32) := own_ne1 hc
            clear hc
            refine own_iload Xj hx (hb hby at_142) rfl ?_
            refine own_iconst Xj hx (1 : Int32) (hb hby at_144) rfl ?_
            refine own_icmp Xj hx (hb hby at_145) (pc' := 152) (by decide) (by decide) (fun hc => ?_) (fun hc => ?_)
            · have hc145 : ¬ (2 : Int32) = (1 : Int32) := own_ne1 hc
              clear hc
              refine own_iloadN Xj hx (hb hby at_152) rfl ?_
              refine own_istore Xj hx (hb hby at_153) (l' := #[.val (.int p0), .val (.int p1), .val (.int p2), .val (.int p3), .val (.int p4), .val (.int (3 : Int32)), .val (.int off), .val (.ref b616), .val (.ref b617), .val (.ref vw), .val (.int ((pl_end p1 (2 : Int32)) + (2 : Int32))), .val (.int ((pl_end p2 (2 : Int32)) + (2 : Int32))), .val (.int (2 : Int32)), .val (.int (0 : Int32)), .val (.int p3), .unset, .unset]) rfl ?_
              refine own_iload Xj hx (hb hby at_155) rfl ?_
              refine own_if Xj hx (hb hby at_157) (pc' := 164) (by decide) (by decide) (fun hc => ?_) (fun hc => ?_)
              · have hc157 : ¬ (2 : Int32) = (0 : Int32) := own_ne1 hc
                clear hc
                refine own_iload Xj hx (hb hby at_164) rfl ?_
                refine own_iconst Xj hx (1 : Int32) (hb hby at_166) rfl ?_
                refine own_icmp Xj hx (hb hby at_167) (pc' := 175) (by decide) (by decide) (fun hc => ?_) (fun hc => ?_)
                · have hc167 : ¬ (2 : Int32) = (1 : Int32) := own_ne1 hc
                  clear hc
                  refine own_iload Xj hx (hb hby at_175) rfl ?_
                  refine own_iload Xj hx (hb hby at_177) rfl ?_
                  refine own_iadd Xj hx (hb hby at_179) ?_
                  refine own_istore Xj hx (hb hby at_180) (l' := #[.val (.int p0), .val (.int p1), .val (.int p2), .val (.int p3), .val (.int p4), .val (.int (3 : Int32)), .val (.int off), .val (.ref b616), .val (.ref b617), .val (.ref vw), .val (.int ((pl_end p1 (2 : Int32)) + (2 : Int32))), .val (.int ((pl_end p2 (2 : Int32)) + (2 : Int32))), .val (.int (2 : Int32)), .val (.int (0 : Int32)), .val (.int p3), .val (.int (((pl_end p1 (2 : Int32)) + (2 : Int32)) + ((pl_end p2 (2 : Int32)) + (2 : Int32)))), .unset]) rfl ?_
                  refine own_iload Xj hx (hb hby at_182) rfl ?_
                  refine own_iload Xj hx (hb hby at_184) rfl ?_
                  refine own_if Xj hx (hb hby at_186) (pc' := 193) (by decide) (by decide) (fun hc => ?_) (fun hc => ?_)
                  · have hc186 : ¬ (0 : Int32) = (0 : Int32) := own_ne1 hc
                    exact absurd (by decide) hc186
                  · have hc186 : (0 : Int32) = (0 : Int32) := own_ne0 hc
                    clear hc
                    refine own_iconst Xj hx (0 : Int32) (hb hby at_189) rfl ?_
                    refine own_goto Xj hx (hb hby at_190) (pc' := 204) (by decide) (by decide) ?_
                    show own_R p e below s _ _ _ Tj (mkF m 204 #[.val (.int p0), .val (.int p1), .val (.int p2), .val (.int p3), .val (.int p4), .val (.int (3 : Int32)), .val (.int off), .val (.ref b616), .val (.ref b617), .val (.ref vw), .val (.int ((pl_end p1 (2 : Int32)) + (2 : Int32))), .val (.int ((pl_end p2 (2 : Int32)) + (2 : Int32))), .val (.int (2 : Int32)), .val (.int (0 : Int32)), .val (.int p3), .val (.int (((pl_end p1 (2 : Int32)) + (2 : Int32)) + ((pl_end p2 (2 : Int32)) + (2 : Int32)))), .unset] [(.int (0 : Int32)), (.int (((pl_end p1 (2 : Int32)) + (2 : Int32)) + ((pl_end p2 (2 : Int32)) + (2 : Int32))))])
                    refine own_iadd Xj hx (hb hby at_204) ?_
                    refine own_istore Xj hx (hb hby at_205) (l' := #[.val (.int p0), .val (.int p1), .val (.int p2), .val (.int p3), .val (.int p4), .val (.int (3 : Int32)), .val (.int off), .val (.ref b616), .val (.ref b617), .val (.ref vw), .val (.int ((pl_end p1 (2 : Int32)) + (2 : Int32))), .val (.int ((pl_end p2 (2 : Int32)) + (2 : Int32))), .val (.int (2 : Int32)), .val (.int (0 : Int32)), .val (.int p3), .val (.int (((pl_end p1 (2 : Int32)) + (2 : Int32)) + ((pl_end p2 (2 : Int32)) + (2 : Int32)))), .val (.int ((((pl_end p1 (2 : Int32)) + (2 : Int32)) + ((pl_end p2 (2 : Int32)) + (2 : Int32))) + (0 : Int32)))]) rfl ?_
                    refine own_aload Xj hx (hb hby at_207) rfl rfl ?_
                    refine own_iload Xj hx (hb hby at_209) rfl ?_
                    refine own_iload Xj hx (hb hby at_211) rfl ?_
                    refine own_callV Xj hx hZ (y := my16) (z := my16) hown (hw _ (List.mem_of_getElem? (i := 136) rfl)) (hw _ (List.mem_of_getElem? (i := 137) rfl)) (notFace_of_selects (args := #[]) (mvT hZ (hw _ (List.mem_of_getElem? (i := 139) rfl)))) (hw _ (List.mem_of_getElem? (i := 139) rfl)) (hw _ (List.mem_of_getElem? (i := 138) rfl)) (hw _ (List.mem_of_getElem? (i := 3) rfl)) (hw _ (List.mem_of_getElem? (i := 140) rfl)) (by decide) (rm16 l Z a0 hw [] b617 (2 : Int32) (0 : Int32) ys yf ks kf (3 : Int32) [o0, (.int ((0 : Int32) + ((pl_end p1 (2 : Int32)) + (2 : Int32)))), (.int (((0 : Int32) + ((pl_end p1 (2 : Int32)) + (2 : Int32))) + ((pl_end p2 (2 : Int32)) + (2 : Int32)))), o0, o0, o0, o0, o0, o0, o0, o0, o0, o0, o0, o0, o0] [(.int (pl_end p1 (0 : Int32))), (.int (pl_end p1 (1 : Int32))), (.int (pl_end p1 (2 : Int32))), (.int (pl_end p2 (0 : Int32))), (.int (pl_end p2 (1 : Int32))), (.int (pl_end p2 (2 : Int32))), (.int (pl_end p3 (0 : Int32))), (.int (pl_end p3 (1 : Int32))), (.int (pl_end p3 (2 : Int32))), o0, o0, o0, o0, o0, o0, o0, o0, o0, o0, o0, o0, o0, o0, o0, o0, o0, o0, o0, o0, o0, o0, o0, o0, o0, o0, o0, o0, o0, o0, o0, o0, o0, o0, o0, o0, o0, o0, o0] (((0 : Int32) + ((pl_end p1 (2 : Int32)) + (2 : Int32))) + ((pl_end p2 (2 : Int32)) + (2 : Int32))) (0 : Int32) gj n0 Zj jf1 jf2 jf3 jV1 jV2 (by decide) rfl (fun q => absurd rfl q) (fun q => absurd rfl q)) 0 (by decide) (by decide) ej (by rw [hml]; rfl) b617 jE [(.int (2 : Int32)), (.int (0 : Int32))] [] rfl (lenOf pd_8 rfl) rfl (Nat.le_of_eq rfl) (hb hby at_213) (by decide) (by decide) ?_
                    rintro T633 _ L633 X633 ⟨rfl, N633q, e633⟩
                    have N633 := Fr.app Nj N633q
                    show own_R p e below s _ _ _ T633 (mkF m 216 #[.val (.int p0), .val (.int p1), .val (.int p2), .val (.int p3), .val (.int p4), .val (.int (3 : Int32)), .val (.int off), .val (.ref b616), .val (.ref b617), .val (.ref vw), .val (.int ((pl_end p1 (2 : Int32)) + (2 : Int32))), .val (.int ((pl_end p2 (2 : Int32)) + (2 : Int32))), .val (.int (2 : Int32)), .val (.int (0 : Int32)), .val (.int p3), .val (.int (((pl_end p1 (2 : Int32)) + (2 : Int32)) + ((pl_end p2 (2 : Int32)) + (2 : Int32)))), .val (.int ((((pl_end p1 (2 : Int32)) + (2 : Int32)) + ((pl_end p2 (2 : Int32)) + (2 : Int32))) + (0 : Int32)))] [(.int (pl_fs (((0 : Int32) + ((pl_end p1 (2 : Int32)) + (2 : Int32))) + ((pl_end p2 (2 : Int32)) + (2 : Int32))) (0 : Int32) (0 : Int32)))])
                    refine own_iload X633 hx (hb hby at_216) rfl ?_
                    refine own_icmp X633 hx (hb hby at_218) (pc' := 225) (by decide) (by decide) (fun hc => ?_) (fun hc => ?_)
                    · have hc218 : ¬ (pl_fs (((0 : Int32) + ((pl_end p1 (2 : Int32)) + (2 : Int32))) + ((pl_end p2 (2 : Int32)) + (2 : Int32))) (0 : Int32) (0 : Int32)) = ((((pl_end p1 (2 : Int32)) + (2 : Int32)) + ((pl_end p2 (2 : Int32)) + (2 : Int32))) + (0 : Int32)) := own_ne1 hc
                      exact absurd (by simp only [pl_fs, Int32.zero_add, if_true, if_false, show ((0 : Int32) = 0) = True from by decide]) hc218
                    · have hc218 : (pl_fs (((0 : Int32) + ((pl_end p1 (2 : Int32)) + (2 : Int32))) + ((pl_end p2 (2 : Int32)) + (2 : Int32))) (0 : Int32) (0 : Int32)) = ((((pl_end p1 (2 : Int32)) + (2 : Int32)) + ((pl_end p2 (2 : Int32)) + (2 : Int32))) + (0 : Int32)) := own_ne0 hc
                      clear hc
                      refine own_iconst X633 hx (1 : Int32) (hb hby at_221) rfl ?_
                      refine own_goto X633 hx (hb hby at_222) (pc' := 226) (by decide) (by decide) ?_
                      show own_R p e below s _ _ _ T633 (mkF m 226 #[.val (.int p0), .val (.int p1), .val (.int p2), .val (.int p3), .val (.int p4), .val (.int (3 : Int32)), .val (.int off), .val (.ref b616), .val (.ref b617), .val (.ref vw), .val (.int ((pl_end p1 (2 : Int32)) + (2 : Int32))), .val (.int ((pl_end p2 (2 : Int32)) + (2 : Int32))), .val (.int (2 : Int32)), .val (.int (0 : Int32)), .val (.int p3), .val (.int (((pl_end p1 (2 : Int32)) + (2 : Int32)) + ((pl_end p2 (2 : Int32)) + (2 : Int32)))), .val (.int ((((pl_end p1 (2 : Int32)) + (2 : Int32)) + ((pl_end p2 (2 : Int32)) + (2 : Int32))) + (0 : Int32)))] [(.int (1 : Int32))])
                      refine own_retN X633 hx (t := .boolean) Bd.returns (by simp) hlk (hb hby at_226) ?_ (by decide) (by decide)
                      exact ⟨rfl, N633⟩
                · have hc167 : (2 : Int32) = (1 : Int32) := own_ne0 hc
                  exact absurd hc167 (by decide)
              · have hc157 : (2 : Int32) = (0 : Int32) := own_ne0 hc
                exact absurd hc157 (by decide)
            · have hc145 : (2 : Int32) = (1 : Int32) := own_ne0 hc
              exact absurd hc145 (by decide)
          · have hc135 : (2 : Int32) = (0 : Int32) := own_ne0 hc
            exact absurd hc135 (by decide)
        ·
          show own_R p e below s _ _ _ Tj (mkF m 133 #[.val (.int p0), .val (.int p1), .val (.int p2), .val (.int p3), .val (.int p4), .val (.int (3 : Int32)), .val (.int off), .val (.ref b616), .val (.ref b617), .val (.ref vw), .val (.int ((pl_end p1 (2 : Int32)) + (2 : Int32))), .val (.int ((pl_end p2 (2 : Int32)) + (2 : Int32))), .val (.int (2 : Int32)), .val (.int (1 : Int32)), .unset, .unset, .unset] [])
          refine own_iload Xj hx (hb hby at_133) rfl ?_
          refine own_if Xj hx (hb hby at_135) (pc' := 142) (by decide) (by decide) (fun hc => ?_) (fun hc => ?_)
          · have hc135 : ¬ (2 : Int32) = (0 : Int32) := own_ne1 hc
            clear hc
            refine own_iload Xj hx (hb hby at_142) rfl ?_
            refine own_iconst Xj hx (1 : Int32) (hb hby at_144) rfl ?_
            refine own_icmp Xj hx (hb hby at_145) (pc' := 152) (by decide) (by decide) (fun hc => ?_) (fun hc => ?_)
            · have hc145 : ¬ (2 : Int32) = (1 : Int32) := own_ne1 hc
              clear hc
              refine own_iloadN Xj hx (hb hby at_152) rfl ?_
              refine own_istore Xj hx (hb hby at_153) (l' := #[.val (.int p0), .val (.int p1), .val (.int p2), .val (.int p3), .val (.int p4), .val (.int (3 : Int32)), .val (.int off), .val (.ref b616), .val (.ref b617), .val (.ref vw), .val (.int ((pl_end p1 (2 : Int32)) + (2 : Int32))), .val (.int ((pl_end p2 (2 : Int32)) + (2 : Int32))), .val (.int (2 : Int32)), .val (.int (1 : Int32)), .val (.int p3), .unset, .unset]) rfl ?_
              refine own_iload Xj hx (hb hby at_155) rfl ?_
              refine own_if Xj hx (hb hby at_157) (pc' := 164) (by decide) (by decide) (fun hc => ?_) (fun hc => ?_)
              · have hc157 : ¬ (2 : Int32) = (0 : Int32) := own_ne1 hc
                clear hc
                refine own_iload Xj hx (hb hby at_164) rfl ?_
                refine own_iconst Xj hx (1 : Int32) (hb hby at_166) rfl ?_
                refine own_icmp Xj hx (hb hby at_167) (pc' := 175) (by decide) (by decide) (fun hc => ?_) (fun hc => ?_)
                · have hc167 : ¬ (2 : Int32) = (1 : Int32) := own_ne1 hc
                  clear hc
                  refine own_iload Xj hx (hb hby at_175) rfl ?_
                  refine own_iload Xj hx (hb hby at_177) rfl ?_
                  refine own_iadd Xj hx (hb hby at_179) ?_
                  refine own_istore Xj hx (hb hby at_180) (l' := #[.val (.int p0), .val (.int p1), .val (.int p2), .val (.int p3), .val (.int p4), .val (.int (3 : Int32)), .val (.int off), .val (.ref b616), .val (.ref b617), .val (.ref vw), .val (.int ((pl_end p1 (2 : Int32)) + (2 : Int32))), .val (.int ((pl_end p2 (2 : Int32)) + (2 : Int32))), .val (.int (2 : Int32)), .val (.int (1 : Int32)), .val (.int p3), .val (.int (((pl_end p1 (2 : Int32)) + (2 : Int32)) + ((pl_end p2 (2 : Int32)) + (2 : Int32)))), .unset]) rfl ?_
                  refine own_iload Xj hx (hb hby at_182) rfl ?_
                  refine own_iload Xj hx (hb hby at_184) rfl ?_
                  refine own_if Xj hx (hb hby at_186) (pc' := 193) (by decide) (by decide) (fun hc => ?_) (fun hc => ?_)
                  · have hc186 : ¬ (1 : Int32) = (0 : Int32) := own_ne1 hc
                    clear hc
                    refine own_iload Xj hx (hb hby at_193) rfl ?_
                    refine own_iload Xj hx (hb hby at_195) rfl ?_
                    refine own_iconst Xj hx (1 : Int32) (hb hby at_197) rfl ?_
                    refine own_isub Xj hx (hb hby at_198) ?_
                    refine own_callS Xj hx hZ (y := my9) hown (hw _ (List.mem_of_getElem? (i := 95) rfl)) (hw _ (List.mem_of_getElem? (i := 96) rfl)) (hw _ (List.mem_of_getElem? (i := 93) rfl)) (hw _ (List.mem_of_getElem? (i := 97) rfl)) (by decide) (rm9 l Z a0 hw [] p3 (0 : Int32) gj n0 Zj) 1 (by decide) (by decide) ej (by rw [hml]; rfl) [(.int p3), (.int (0 : Int32))] [(.int (((pl_end p1 (2 : Int32)) + (2 : Int32)) + ((pl_end p2 (2 : Int32)) + (2 : Int32))))] rfl (lenOf pd_8 rfl) rfl (Nat.le_of_eq rfl) (hb hby at_199) (by decide) (by decide) ?_
                    rintro T634 _ L634 X634 ⟨rfl, N634q, e634⟩
                    have N634 := Fr.app Nj N634q
                    show own_R p e below s _ _ _ T634 (mkF m 202 #[.val (.int p0), .val (.int p1), .val (.int p2), .val (.int p3), .val (.int p4), .val (.int (3 : Int32)), .val (.int off), .val (.ref b616), .val (.ref b617), .val (.ref vw), .val (.int ((pl_end p1 (2 : Int32)) + (2 : Int32))), .val (.int ((pl_end p2 (2 : Int32)) + (2 : Int32))), .val (.int (2 : Int32)), .val (.int (1 : Int32)), .val (.int p3), .val (.int (((pl_end p1 (2 : Int32)) + (2 : Int32)) + ((pl_end p2 (2 : Int32)) + (2 : Int32)))), .unset] [(.int (pl_end p3 (0 : Int32))), (.int (((pl_end p1 (2 : Int32)) + (2 : Int32)) + ((pl_end p2 (2 : Int32)) + (2 : Int32))))])
                    refine own_iconst X634 hx (1 : Int32) (hb hby at_202) rfl ?_
                    refine own_iadd X634 hx (hb hby at_203) ?_
                    refine own_iadd X634 hx (hb hby at_204) ?_
                    refine own_istore X634 hx (hb hby at_205) (l' := #[.val (.int p0), .val (.int p1), .val (.int p2), .val (.int p3), .val (.int p4), .val (.int (3 : Int32)), .val (.int off), .val (.ref b616), .val (.ref b617), .val (.ref vw), .val (.int ((pl_end p1 (2 : Int32)) + (2 : Int32))), .val (.int ((pl_end p2 (2 : Int32)) + (2 : Int32))), .val (.int (2 : Int32)), .val (.int (1 : Int32)), .val (.int p3), .val (.int (((pl_end p1 (2 : Int32)) + (2 : Int32)) + ((pl_end p2 (2 : Int32)) + (2 : Int32)))), .val (.int ((((pl_end p1 (2 : Int32)) + (2 : Int32)) + ((pl_end p2 (2 : Int32)) + (2 : Int32))) + ((pl_end p3 (0 : Int32)) + (1 : Int32))))]) rfl ?_
                    refine own_aload X634 hx (hb hby at_207) rfl rfl ?_
                    refine own_iload X634 hx (hb hby at_209) rfl ?_
                    refine own_iload X634 hx (hb hby at_211) rfl ?_
                    refine own_callV X634 hx hZ (y := my16) (z := my16) hown (hw _ (List.mem_of_getElem? (i := 136) rfl)) (hw _ (List.mem_of_getElem? (i := 137) rfl)) (notFace_of_selects (args := #[]) (mvT hZ (hw _ (List.mem_of_getElem? (i := 139) rfl)))) (hw _ (List.mem_of_getElem? (i := 139) rfl)) (hw _ (List.mem_of_getElem? (i := 138) rfl)) (hw _ (List.mem_of_getElem? (i := 3) rfl)) (hw _ (List.mem_of_getElem? (i := 140) rfl)) (by decide) (rm16 l Z a0 hw [] b617 (2 : Int32) (1 : Int32) ys yf ks kf (3 : Int32) [o0, (.int ((0 : Int32) + ((pl_end p1 (2 : Int32)) + (2 : Int32)))), (.int (((0 : Int32) + ((pl_end p1 (2 : Int32)) + (2 : Int32))) + ((pl_end p2 (2 : Int32)) + (2 : Int32)))), o0, o0, o0, o0, o0, o0, o0, o0, o0, o0, o0, o0, o0] [(.int (pl_end p1 (0 : Int32))), (.int (pl_end p1 (1 : Int32))), (.int (pl_end p1 (2 : Int32))), (.int (pl_end p2 (0 : Int32))), (.int (pl_end p2 (1 : Int32))), (.int (pl_end p2 (2 : Int32))), (.int (pl_end p3 (0 : Int32))), (.int (pl_end p3 (1 : Int32))), (.int (pl_end p3 (2 : Int32))), o0, o0, o0, o0, o0, o0, o0, o0, o0, o0, o0, o0, o0, o0, o0, o0, o0, o0, o0, o0, o0, o0, o0, o0, o0, o0, o0, o0, o0, o0, o0, o0, o0, o0, o0, o0, o0, o0, o0] (((0 : Int32) + ((pl_end p1 (2 : Int32)) + (2 : Int32))) + ((pl_end p2 (2 : Int32)) + (2 : Int32))) (pl_end p3 (0 : Int32)) gj n0 Zj jf1 jf2 jf3 jV1 jV2 (by decide) rfl (fun _ => by decide) (fun _ => rfl)) 0 (by decide) (by decide) e634 (by rw [hml]; rfl) b617 jE [(.int (2 : Int32)), (.int (1 : Int32))] [] rfl (lenOf pd_8 rfl) rfl (Nat.le_of_eq rfl) (hb hby at_213) (by decide) (by decide) ?_
                    rintro T635 _ L635 X635 ⟨rfl, N635q, e635⟩
                    have N635 := Fr.app N634 N635q
                    show own_R p e below s _ _ _ T635 (mkF m 216 #[.val (.int p0), .val (.int p1), .val (.int p2), .val (.int p3), .val (.int p4), .val (.int (3 : Int32)), .val (.int off), .val (.ref b616), .val (.ref b617), .val (.ref vw), .val (.int ((pl_end p1 (2 : Int32)) + (2 : Int32))), .val (.int ((pl_end p2 (2 : Int32)) + (2 : Int32))), .val (.int (2 : Int32)), .val (.int (1 : Int32)), .val (.int p3), .val (.int (((pl_end p1 (2 : Int32)) + (2 : Int32)) + ((pl_end p2 (2 : Int32)) + (2 : Int32)))), .val (.int ((((pl_end p1 (2 : Int32)) + (2 : Int32)) + ((pl_end p2 (2 : Int32)) + (2 : Int32))) + ((pl_end p3 (0 : Int32)) + (1 : Int32))))] [(.int (pl_fs (((0 : Int32) + ((pl_end p1 (2 : Int32)) + (2 : Int32))) + ((pl_end p2 (2 : Int32)) + (2 : Int32))) (pl_end p3 (0 : Int32)) (1 : Int32)))])
                    refine own_iload X635 hx (hb hby at_216) rfl ?_
                    refine own_icmp X635 hx (hb hby at_218) (pc' := 225) (by decide) (by decide) (fun hc => ?_) (fun hc => ?_)
                    · have hc218 : ¬ (pl_fs (((0 : Int32) + ((pl_end p1 (2 : Int32)) + (2 : Int32))) + ((pl_end p2 (2 : Int32)) + (2 : Int32))) (pl_end p3 (0 : Int32)) (1 : Int32)) = ((((pl_end p1 (2 : Int32)) + (2 : Int32)) + ((pl_end p2 (2 : Int32)) + (2 : Int32))) + ((pl_end p3 (0 : Int32)) + (1 : Int32))) := own_ne1 hc
                      exact absurd (by simp only [pl_fs, Int32.zero_add, if_true, if_false, show ((1 : Int32) = 0) = False from by decide]) hc218
                    · have hc218 : (pl_fs (((0 : Int32) + ((pl_end p1 (2 : Int32)) + (2 : Int32))) + ((pl_end p2 (2 : Int32)) + (2 : Int32))) (pl_end p3 (0 : Int32)) (1 : Int32)) = ((((pl_end p1 (2 : Int32)) + (2 : Int32)) + ((pl_end p2 (2 : Int32)) + (2 : Int32))) + ((pl_end p3 (0 : Int32)) + (1 : Int32))) := own_ne0 hc
                      clear hc
                      refine own_iconst X635 hx (1 : Int32) (hb hby at_221) rfl ?_
                      refine own_goto X635 hx (hb hby at_222) (pc' := 226) (by decide) (by decide) ?_
                      show own_R p e below s _ _ _ T635 (mkF m 226 #[.val (.int p0), .val (.int p1), .val (.int p2), .val (.int p3), .val (.int p4), .val (.int (3 : Int32)), .val (.int off), .val (.ref b616), .val (.ref b617), .val (.ref vw), .val (.int ((pl_end p1 (2 : Int32)) + (2 : Int32))), .val (.int ((pl_end p2 (2 : Int32)) + (2 : Int32))), .val (.int (2 : Int32)), .val (.int (1 : Int32)), .val (.int p3), .val (.int (((pl_end p1 (2 : Int32)) + (2 : Int32)) + ((pl_end p2 (2 : Int32)) + (2 : Int32)))), .val (.int ((((pl_end p1 (2 : Int32)) + (2 : Int32)) + ((pl_end p2 (2 : Int32)) + (2 : Int32))) + ((pl_end p3 (0 : Int32)) + (1 : Int32))))] [(.int (1 : Int32))])
                      refine own_retN X635 hx (t := .boolean) Bd.returns (by simp) hlk (hb hby at_226) ?_ (by decide) (by decide)
                      exact ⟨rfl, N635⟩
                  · have hc186 : (1 : Int32) = (0 : Int32) := own_ne0 hc
                    exact absurd hc186 (by decide)
                · have hc167 : (2 : Int32) = (1 : Int32) := own_ne0 hc
                  exact absurd hc167 (by decide)
              · have hc157 : (2 : Int32) = (0 : Int32) := own_ne0 hc
                exact absurd hc157 (by decide)
            · have hc145 : (2 : Int32) = (1 : Int32) := own_ne0 hc
              exact absurd hc145 (by decide)
          · have hc135 : (2 : Int32) = (0 : Int32) := own_ne0 hc
            exact absurd hc135 (by decide)
        ·
          show own_R p e below s _ _ _ Tj (mkF m 133 #[.val (.int p0), .val (.int p1), .val (.int p2), .val (.int p3), .val (.int p4), .val (.int (3 : Int32)), .val (.int off), .val (.ref b616), .val (.ref b617), .val (.ref vw), .val (.int ((pl_end p1 (2 : Int32)) + (2 : Int32))), .val (.int ((pl_end p2 (2 : Int32)) + (2 : Int32))), .val (.int (2 : Int32)), .val (.int (2 : Int32)), .unset, .unset, .unset] [])
          refine own_iload Xj hx (hb hby at_133) rfl ?_
          refine own_if Xj hx (hb hby at_135) (pc' := 142) (by decide) (by decide) (fun hc => ?_) (fun hc => ?_)
          · have hc135 : ¬ (2 : Int32) = (0 : Int32) := own_ne1 hc
            clear hc
            refine own_iload Xj hx (hb hby at_142) rfl ?_
            refine own_iconst Xj hx (1 : Int32) (hb hby at_144) rfl ?_
            refine own_icmp Xj hx (hb hby at_145) (pc' := 152) (by decide) (by decide) (fun hc => ?_) (fun hc => ?_)
            · have hc145 : ¬ (2 : Int32) = (1 : Int32) := own_ne1 hc
              clear hc
              refine own_iloadN Xj hx (hb hby at_152) rfl ?_
              refine own_istore Xj hx (hb hby at_153) (l' := #[.val (.int p0), .val (.int p1), .val (.int p2), .val (.int p3), .val (.int p4), .val (.int (3 : Int32)), .val (.int off), .val (.ref b616), .val (.ref b617), .val (.ref vw), .val (.int ((pl_end p1 (2 : Int32)) + (2 : Int32))), .val (.int ((pl_end p2 (2 : Int32)) + (2 : Int32))), .val (.int (2 : Int32)), .val (.int (2 : Int32)), .val (.int p3), .unset, .unset]) rfl ?_
              refine own_iload Xj hx (hb hby at_155) rfl ?_
              refine own_if Xj hx (hb hby at_157) (pc' := 164) (by decide) (by decide) (fun hc => ?_) (fun hc => ?_)
              · have hc157 : ¬ (2 : Int32) = (0 : Int32) := own_ne1 hc
                clear hc
                refine own_iload Xj hx (hb hby at_164) rfl ?_
                refine own_iconst Xj hx (1 : Int32) (hb hby at_166) rfl ?_
                refine own_icmp Xj hx (hb hby at_167) (pc' := 175) (by decide) (by decide) (fun hc => ?_) (fun hc => ?_)
                · have hc167 : ¬ (2 : Int32) = (1 : Int32) := own_ne1 hc
                  clear hc
                  refine own_iload Xj hx (hb hby at_175) rfl ?_
                  refine own_iload Xj hx (hb hby at_177) rfl ?_
                  refine own_iadd Xj hx (hb hby at_179) ?_
                  refine own_istore Xj hx (hb hby at_180) (l' := #[.val (.int p0), .val (.int p1), .val (.int p2), .val (.int p3), .val (.int p4), .val (.int (3 : Int32)), .val (.int off), .val (.ref b616), .val (.ref b617), .val (.ref vw), .val (.int ((pl_end p1 (2 : Int32)) + (2 : Int32))), .val (.int ((pl_end p2 (2 : Int32)) + (2 : Int32))), .val (.int (2 : Int32)), .val (.int (2 : Int32)), .val (.int p3), .val (.int (((pl_end p1 (2 : Int32)) + (2 : Int32)) + ((pl_end p2 (2 : Int32)) + (2 : Int32)))), .unset]) rfl ?_
                  refine own_iload Xj hx (hb hby at_182) rfl ?_
                  refine own_iload Xj hx (hb hby at_184) rfl ?_
                  refine own_if Xj hx (hb hby at_186) (pc' := 193) (by decide) (by decide) (fun hc => ?_) (fun hc => ?_)
                  · have hc186 : ¬ (2 : Int32) = (0 : Int32) := own_ne1 hc
                    clear hc
                    refine own_iload Xj hx (hb hby at_193) rfl ?_
                    refine own_iload Xj hx (hb hby at_195) rfl ?_
                    refine own_iconst Xj hx (1 : Int32) (hb hby at_197) rfl ?_
                    refine own_isub Xj hx (hb hby at_198) ?_
                    refine own_callS Xj hx hZ (y := my9) hown (hw _ (List.mem_of_getElem? (i := 95) rfl)) (hw _ (List.mem_of_getElem? (i := 96) rfl)) (hw _ (List.mem_of_getElem? (i := 93) rfl)) (hw _ (List.mem_of_getElem? (i := 97) rfl)) (by decide) (rm9 l Z a0 hw [] p3 (1 : Int32) gj n0 Zj) 1 (by decide) (by decide) ej (by rw [hml]; rfl) [(.int p3), (.int (1 : Int32))] [(.int (((pl_end p1 (2 : Int32)) + (2 : Int32)) + ((pl_end p2 (2 : Int32)) + (2 : Int32))))] rfl (lenOf pd_8 rfl) rfl (Nat.le_of_eq rfl) (hb hby at_199) (by decide) (by decide) ?_
                    rintro T636 _ L636 X636 ⟨rfl, N636q, e636⟩
                    have N636 := Fr.app Nj N636q
                    show own_R p e below s _ _ _ T636 (mkF m 202 #[.val (.int p0), .val (.int p1), .val (.int p2), .val (.int p3), .val (.int p4), .val (.int (3 : Int32)), .val (.int off), .val (.ref b616), .val (.ref b617), .val (.ref vw), .val (.int ((pl_end p1 (2 : Int32)) + (2 : Int32))), .val (.int ((pl_end p2 (2 : Int32)) + (2 : Int32))), .val (.int (2 : Int32)), .val (.int (2 : Int32)), .val (.int p3), .val (.int (((pl_end p1 (2 : Int32)) + (2 : Int32)) + ((pl_end p2 (2 : Int32)) + (2 : Int32)))), .unset] [(.int (pl_end p3 (1 : Int32))), (.int (((pl_end p1 (2 : Int32)) + (2 : Int32)) + ((pl_end p2 (2 : Int32)) + (2 : Int32))))])
                    refine own_iconst X636 hx (1 : Int32) (hb hby at_202) rfl ?_
                    refine own_iadd X636 hx (hb hby at_203) ?_
                    refine own_iadd X636 hx (hb hby at_204) ?_
                    refine own_istore X636 hx (hb hby at_205) (l' := #[.val (.int p0), .val (.int p1), .val (.int p2), .val (.int p3), .val (.int p4), .val (.int (3 : Int32)), .val (.int off), .val (.ref b616), .val (.ref b617), .val (.ref vw), .val (.int ((pl_end p1 (2 : Int32)) + (2 : Int32))), .val (.int ((pl_end p2 (2 : Int32)) + (2 : Int32))), .val (.int (2 : Int32)), .val (.int (2 : Int32)), .val (.int p3), .val (.int (((pl_end p1 (2 : Int32)) + (2 : Int32)) + ((pl_end p2 (2 : Int32)) + (2 : Int32)))), .val (.int ((((pl_end p1 (2 : Int32)) + (2 : Int32)) + ((pl_end p2 (2 : Int32)) + (2 : Int32))) + ((pl_end p3 (1 : Int32)) + (1 : Int32))))]) rfl ?_
                    refine own_aload X636 hx (hb hby at_207) rfl rfl ?_
                    refine own_iload X636 hx (hb hby at_209) rfl ?_
                    refine own_iload X636 hx (hb hby at_211) rfl ?_
                    refine own_callV X636 hx hZ (y := my16) (z := my16) hown (hw _ (List.mem_of_getElem? (i := 136) rfl)) (hw _ (List.mem_of_getElem? (i := 137) rfl)) (notFace_of_selects (args := #[]) (mvT hZ (hw _ (List.mem_of_getElem? (i := 139) rfl)))) (hw _ (List.mem_of_getElem? (i := 139) rfl)) (hw _ (List.mem_of_getElem? (i := 138) rfl)) (hw _ (List.mem_of_getElem? (i := 3) rfl)) (hw _ (List.mem_of_getElem? (i := 140) rfl)) (by decide) (rm16 l Z a0 hw [] b617 (2 : Int32) (2 : Int32) ys yf ks kf (3 : Int32) [o0, (.int ((0 : Int32) + ((pl_end p1 (2 : Int32)) + (2 : Int32)))), (.int (((0 : Int32) + ((pl_end p1 (2 : Int32)) + (2 : Int32))) + ((pl_end p2 (2 : Int32)) + (2 : Int32)))), o0, o0, o0, o0, o0, o0, o0, o0, o0, o0, o0, o0, o0] [(.int (pl_end p1 (0 : Int32))), (.int (pl_end p1 (1 : Int32))), (.int (pl_end p1 (2 : Int32))), (.int (pl_end p2 (0 : Int32))), (.int (pl_end p2 (1 : Int32))), (.int (pl_end p2 (2 : Int32))), (.int (pl_end p3 (0 : Int32))), (.int (pl_end p3 (1 : Int32))), (.int (pl_end p3 (2 : Int32))), o0, o0, o0, o0, o0, o0, o0, o0, o0, o0, o0, o0, o0, o0, o0, o0, o0, o0, o0, o0, o0, o0, o0, o0, o0, o0, o0, o0, o0, o0, o0, o0, o0, o0, o0, o0, o0, o0, o0] (((0 : Int32) + ((pl_end p1 (2 : Int32)) + (2 : Int32))) + ((pl_end p2 (2 : Int32)) + (2 : Int32))) (pl_end p3 (1 : Int32)) gj n0 Zj jf1 jf2 jf3 jV1 jV2 (by decide) rfl (fun _ => by decide) (fun _ => rfl)) 0 (by decide) (by decide) e636 (by rw [hml]; rfl) b617 jE [(.int (2 : Int32)), (.int (2 : Int32))] [] rfl (lenOf pd_8 rfl) rfl (Nat.le_of_eq rfl) (hb hby at_213) (by decide) (by decide) ?_
                    rintro T637 _ L637 X637 ⟨rfl, N637q, e637⟩
                    have N637 := Fr.app N636 N637q
                    show own_R p e below s _ _ _ T637 (mkF m 216 #[.val (.int p0), .val (.int p1), .val (.int p2), .val (.int p3), .val (.int p4), .val (.int (3 : Int32)), .val (.int off), .val (.ref b616), .val (.ref b617), .val (.ref vw), .val (.int ((pl_end p1 (2 : Int32)) + (2 : Int32))), .val (.int ((pl_end p2 (2 : Int32)) + (2 : Int32))), .val (.int (2 : Int32)), .val (.int (2 : Int32)), .val (.int p3), .val (.int (((pl_end p1 (2 : Int32)) + (2 : Int32)) + ((pl_end p2 (2 : Int32)) + (2 : Int32)))), .val (.int ((((pl_end p1 (2 : Int32)) + (2 : Int32)) + ((pl_end p2 (2 : Int32)) + (2 : Int32))) + ((pl_end p3 (1 : Int32)) + (1 : Int32))))] [(.int (pl_fs (((0 : Int32) + ((pl_end p1 (2 : Int32)) + (2 : Int32))) + ((pl_end p2 (2 : Int32)) + (2 : Int32))) (pl_end p3 (1 : Int32)) (2 : Int32)))])
                    refine own_iload X637 hx (hb hby at_216) rfl ?_
                    refine own_icmp X637 hx (hb hby at_218) (pc' := 225) (by decide) (by decide) (fun hc => ?_) (fun hc => ?_)
                    · have hc218 : ¬ (pl_fs (((0 : Int32) + ((pl_end p1 (2 : Int32)) + (2 : Int32))) + ((pl_end p2 (2 : Int32)) + (2 : Int32))) (pl_end p3 (1 : Int32)) (2 : Int32)) = ((((pl_end p1 (2 : Int32)) + (2 : Int32)) + ((pl_end p2 (2 : Int32)) + (2 : Int32))) + ((pl_end p3 (1 : Int32)) + (1 : Int32))) := own_ne1 hc
                      exact absurd (by simp only [pl_fs, Int32.zero_add, if_true, if_false, show ((2 : Int32) = 0) = False from by decide]) hc218
                    · have hc218 : (pl_fs (((0 : Int32) + ((pl_end p1 (2 : Int32)) + (2 : Int32))) + ((pl_end p2 (2 : Int32)) + (2 : Int32))) (pl_end p3 (1 : Int32)) (2 : Int32)) = ((((pl_end p1 (2 : Int32)) + (2 : Int32)) + ((pl_end p2 (2 : Int32)) + (2 : Int32))) + ((pl_end p3 (1 : Int32)) + (1 : Int32))) := own_ne0 hc
                      clear hc
                      refine own_iconst X637 hx (1 : Int32) (hb hby at_221) rfl ?_
                      refine own_goto X637 hx (hb hby at_222) (pc' := 226) (by decide) (by decide) ?_
                      show own_R p e below s _ _ _ T637 (mkF m 226 #[.val (.int p0), .val (.int p1), .val (.int p2), .val (.int p3), .val (.int p4), .val (.int (3 : Int32)), .val (.int off), .val (.ref b616), .val (.ref b617), .val (.ref vw), .val (.int ((pl_end p1 (2 : Int32)) + (2 : Int32))), .val (.int ((pl_end p2 (2 : Int32)) + (2 : Int32))), .val (.int (2 : Int32)), .val (.int (2 : Int32)), .val (.int p3), .val (.int (((pl_end p1 (2 : Int32)) + (2 : Int32)) + ((pl_end p2 (2 : Int32)) + (2 : Int32)))), .val (.int ((((pl_end p1 (2 : Int32)) + (2 : Int32)) + ((pl_end p2 (2 : Int32)) + (2 : Int32))) + ((pl_end p3 (1 : Int32)) + (1 : Int32))))] [(.int (1 : Int32))])
                      refine own_retN X637 hx (t := .boolean) Bd.returns (by simp) hlk (hb hby at_226) ?_ (by decide) (by decide)
                      exact ⟨rfl, N637⟩
                  · have hc186 : (2 : Int32) = (0 : Int32) := own_ne0 hc
                    exact absurd hc186 (by decide)
                · have hc167 : (2 : Int32) = (1 : Int32) := own_ne0 hc
                  exact absurd hc167 (by decide)
              · have hc157 : (2 : Int32) = (0 : Int32) := own_ne0 hc
                exact absurd hc157 (by decide)
            · have hc145 : (2 : Int32) = (1 : Int32) := own_ne0 hc
              exact absurd hc145 (by decide)
          · have hc135 : (2 : Int32) = (0 : Int32) := own_ne0 hc
            exact absurd hc135 (by decide)
    refine own_iloadN X619 hx (hb hby at_40) rfl ?_
    refine own_iconst X619 hx (2 : Int32) (hb hby at_41) rfl ?_
    refine own_iushr X619 hx (hb hby at_42) ?_
    refine own_iconst X619 hx (1 : Int32) (hb hby at_43) rfl ?_
    refine own_iand X619 hx (hb hby at_44) ?_
    refine own_if X619 hx (hb hby at_45) (pc' := 68) (by decide) (by decide) (fun hc => ?_) (fun hc => ?_)
    · have hc45 : (((p0.toUInt32 >>> ((2 : Int32) &&& 31).toUInt32).toInt32) &&& (1 : Int32)) = (0 : Int32) := own_eq1 hc
      clear hc
      refine own_aload X619 hx (hb hby at_68) rfl rfl ?_
      refine own_aload X619 hx (hb hby at_70) rfl rfl ?_
      refine own_aload X619 hx (hb hby at_72) rfl rfl ?_
      refine own_iload X619 hx (hb hby at_74) rfl ?_
      refine own_iloadN X619 hx (hb hby at_76) rfl ?_
      refine own_iload X619 hx (hb hby at_77) rfl ?_
      have f638 := (Exa.keep Eh618 Kc619)
      have f639 := (F618_bytes.keep Kc619 (ninS ne_b617_vw (ninS ne_b617_ye nin0)))
      have f640 := (F618_starts.keep Kc619 (ninS ne_b617_vw (ninS ne_b617_ye nin0)))
      have f641 := (F618_ascii.keep Kc619 (ninS ne_b617_vw (ninS ne_b617_ye nin0)))
      have f642 := (F618_columns.keep Kc619 (ninS ne_b617_vw (ninS ne_b617_ye nin0)))
      have f643 := (F618_fieldEnds.keep Kc619 (ninS ne_b617_vw (ninS ne_b617_ye nin0)))
      have f644 := (F618_view.keep Kc619 (ninS ne_b617_vw (ninS ne_b617_ye nin0)))
      have f645 := (F618_size.keep Kc619 (ninS ne_b617_vw (ninS ne_b617_ye nin0)))
      have f646 := (F618_length.keep Kc619 (ninS ne_b617_vw (ninS ne_b617_ye nin0)))
      have f647 := (Vb618.keep Kc619 (ninS (Ne.symm ne_vw_yb) (ninS ne_yb_ye nin0)))
      have f648 := (Vs618.keep Kc619 (ninS (Ne.symm ne_vw_ys) (ninS ne2 nin0)))
      have f649 := (Vz618.keep Kc619 (ninS (Ne.symm ne_vw_yz) (ninS ne_yz_ye nin0)))
      have f650 := (((V_b616.ext E617).keep Kc618 (ninS ne_b616_b617 nin0)).keep Kc619 (ninS ne_b616_vw (ninS ne_b616_ye nin0)))
      refine own_callS X619 hx hZ (y := my8) hown (hw _ (List.mem_of_getElem? (i := 91) rfl)) (hw _ (List.mem_of_getElem? (i := 92) rfl)) (hw _ (List.mem_of_getElem? (i := 93) rfl)) (hw _ (List.mem_of_getElem? (i := 94) rfl)) (by decide) (rm8_3 l Z a0 hw [] b617 vw b616 p1 off yb ys yz yf ye kb ks kz kf ke k616 (0 : Int32) (0 : Int32) (List.replicate 4096 o0) [o0, o0, o0, o0, o0, o0, o0, o0, o0, o0, o0, o0, o0, o0, o0, o0] [o0, o0, o0, o0, o0, o0, o0, o0, o0, o0, o0, o0, o0, o0, o0, o0] [o0, o0, o0, o0, o0, o0, o0, o0, o0, o0, o0, o0, o0, o0, o0, o0, o0, o0, o0, o0, o0, o0, o0, o0, o0, o0, o0, o0, o0, o0, o0, o0, o0, o0, o0, o0, o0, o0, o0, o0, o0, o0, o0, o0, o0, o0, o0, o0] [(.int (0 : Int32)), (.int (0 : Int32)), (.int (0 : Int32)), (.int (0 : Int32)), (.int (0 : Int32)), (.int (0 : Int32)), (.int (0 : Int32)), (.int (0 : Int32)), (.int (0 : Int32)), (.int (0 : Int32)), (.int (0 : Int32)), (.int (0 : Int32)), (.int (0 : Int32)), (.int (0 : Int32)), (.int (0 : Int32)), (.int (0 : Int32)), (.int (0 : Int32)), (.int (0 : Int32)), (.int (0 : Int32)), (.int (0 : Int32)), (.int (0 : Int32)), (.int (0 : Int32)), (.int (0 : Int32)), (.int (0 : Int32)), (.int (0 : Int32)), (.int (0 : Int32)), (.int (0 : Int32)), (.int (0 : Int32)), (.int (0 : Int32)), (.int (0 : Int32)), (.int (0 : Int32)), (.int (0 : Int32)), (.int (0 : Int32)), (.int (0 : Int32)), (.int (0 : Int32)), (.int (0 : Int32)), (.int (0 : Int32)), (.int (0 : Int32)), (.int (0 : Int32)), (.int (0 : Int32))] o0 o0 o0 (.int (-1 : Int32)) (.ref yb) o0 o0 T619.heap n0 (Nat.le_trans Z0 K619.1) f638 f639 f640 f641 f642 f643 f644 f645 f646 Ev619 G619_rowEnd G619_bytes G619_rowStart G619_ascii G619_fieldEnds f647 f648 f649 V_yf_622 V_ye_620 f650 ne1 ne2 ne3 (Ne.symm ne_b616_yb) n0_b617 n0_yb n0_yf n0_ys n0_yz n0_vw n0_ye (by decide) (by decide) hof rfl rfl (List.length_replicate ..) rfl) 0 (by decide) (by decide) rfl (by rw [hml]; rfl) [(.ref b617), (.ref vw), (.ref b616), (.int (3 : Int32)), (.int p1), (.int off)] [] rfl (lenOf pd_11 rfl) rfl (Nat.le_of_eq rfl) (hb hby at_79) (by decide) (by decide) ?_
      rintro T651 _ L651 X651 ⟨rfl, N651q, Kc651, Eh651, F651_bytes, F651_starts, F651_ascii, F651_columns, F651_fieldEnds, F651_view, F651_size, F651_length, ⟨bs651, lb651, Vb651⟩, Vf651, Vs651, ⟨zs651, lz651, Vz651⟩, Ev651, G651_rowEnd, G651_bytes, G651_fieldEnds, G651_rowStart, G651_ascii, Ve651⟩
      have N651 := Fr.app N619 N651q
      have K651 := K619.trans Kc651 (allS (P := fun x => x ∈ ([] : List Addr) ∨ h0.size ≤ x) (Or.inr sz_b617) (allS (P := fun x => x ∈ ([] : List Addr) ∨ h0.size ≤ x) (Or.inr sz_vw) (allS (P := fun x => x ∈ ([] : List Addr) ∨ h0.size ≤ x) (Or.inr sz_ye) (allS (P := fun x => x ∈ ([] : List Addr) ∨ h0.size ≤ x) (Or.inr sz_yb) (allS (P := fun x => x ∈ ([] : List Addr) ∨ h0.size ≤ x) (Or.inr sz_yf) (allS (P := fun x => x ∈ ([] : List Addr) ∨ h0.size ≤ x) (Or.inr sz_ys) (allS (P := fun x => x ∈ ([] : List Addr) ∨ h0.size ≤ x) (Or.inr sz_yz) all0)))))))
      show own_R p e below s _ _ _ T651 (mkF m 82 #[.val (.int p0), .val (.int p1), .val (.int p2), .val (.int p3), .val (.int p4), .val (.int (3 : Int32)), .val (.int off), .val (.ref b616), .val (.ref b617), .val (.ref vw), .unset, .unset, .unset, .unset, .unset, .unset, .unset] [(.int ((pl_end p1 (2 : Int32)) + (2 : Int32)))])
      have Fz651 : Fld Z T651.heap b617 cH "size" "I" (.int (1 : Int32)) := F651_size
      have V_ys_652 : Arv Z T651.heap ys ks .int (16 : Int32) [(.int (0 : Int32)), o0, o0, o0, o0, o0, o0, o0, o0, o0, o0, o0, o0, o0, o0, o0] o0 := Vs651
      have V_yf_653 : Arv Z T651.heap yf kf .int ((16 : Int32) * (3 : Int32)) [(.int (pl_end p1 (0 : Int32))), (.int (pl_end p1 (1 : Int32))), (.int (pl_end p1 (2 : Int32))), o0, o0, o0, o0, o0, o0, o0, o0, o0, o0, o0, o0, o0, o0, o0, o0, o0, o0, o0, o0, o0, o0, o0, o0, o0, o0, o0, o0, o0, o0, o0, o0, o0, o0, o0, o0, o0, o0, o0, o0, o0, o0, o0, o0, o0] o0 := Vf651
      have V_ye_654 : Arv Z T651.heap ye ke .int (3 : Int32) [(.int (pl_end p1 (0 : Int32))), (.int (pl_end p1 (1 : Int32))), (.int (pl_end p1 (2 : Int32)))] o0 := Ve651
      have hl1 : 0 ≤ ((0 : Int32) + ((pl_end p1 (2 : Int32)) + (2 : Int32))).toInt ∧ ((0 : Int32) + ((pl_end p1 (2 : Int32)) + (2 : Int32))).toInt ≤ 100 := pl_b1 p1 (2 : Int32)
      refine own_istore X651 hx (hb hby at_82) (l' := #[.val (.int p0), .val (.int p1), .val (.int p2), .val (.int p3), .val (.int p4), .val (.int (3 : Int32)), .val (.int off), .val (.ref b616), .val (.ref b617), .val (.ref vw), .val (.int ((pl_end p1 (2 : Int32)) + (2 : Int32))), .unset, .unset, .unset, .unset, .unset, .unset]) rfl ?_
      refine own_aload X651 hx (hb hby at_84) rfl rfl ?_
      refine own_aload X651 hx (hb hby at_86) rfl rfl ?_
      refine own_aload X651 hx (hb hby at_88) rfl rfl ?_
      refine own_iload X651 hx (hb hby at_90) rfl ?_
      refine own_iloadN X651 hx (hb hby at_92) rfl ?_
      refine own_iload X651 hx (hb hby at_93) rfl ?_
      have f655 := (f650.keep Kc651 (ninS ne_b616_b617 (ninS ne_b616_vw (ninS ne_b616_ye (ninS ne_b616_yb (ninS ne_b616_yf (ninS ne_b616_ys (ninS ne_b616_yz nin0))))))))
      refine own_callS X651 hx hZ (y := my8) hown (hw _ (List.mem_of_getElem? (i := 91) rfl)) (hw _ (List.mem_of_getElem? (i := 92) rfl)) (hw _ (List.mem_of_getElem? (i := 93) rfl)) (hw _ (List.mem_of_getElem? (i := 94) rfl)) (by decide) (rm8_3 l Z a0 hw [] b617 vw b616 p2 off yb ys yz yf ye kb ks kz kf ke k616 (1 : Int32) ((0 : Int32) + ((pl_end p1 (2 : Int32)) + (2 : Int32))) bs651 [(.int (0 : Int32)), o0, o0, o0, o0, o0, o0, o0, o0, o0, o0, o0, o0, o0, o0, o0] zs651 [(.int (pl_end p1 (0 : Int32))), (.int (pl_end p1 (1 : Int32))), (.int (pl_end p1 (2 : Int32))), o0, o0, o0, o0, o0, o0, o0, o0, o0, o0, o0, o0, o0, o0, o0, o0, o0, o0, o0, o0, o0, o0, o0, o0, o0, o0, o0, o0, o0, o0, o0, o0, o0, o0, o0, o0, o0, o0, o0, o0, o0, o0, o0, o0, o0] [(.int (0 : Int32)), (.int (0 : Int32)), (.int (0 : Int32)), (.int (0 : Int32)), (.int (0 : Int32)), (.int (0 : Int32)), (.int (0 : Int32)), (.int (0 : Int32)), (.int (0 : Int32)), (.int (0 : Int32)), (.int (0 : Int32)), (.int (0 : Int32)), (.int (0 : Int32)), (.int (0 : Int32)), (.int (0 : Int32)), (.int (0 : Int32)), (.int (0 : Int32)), (.int (0 : Int32)), (.int (0 : Int32)), (.int (0 : Int32)), (.int (0 : Int32)), (.int (0 : Int32)), (.int (0 : Int32)), (.int (0 : Int32)), (.int (0 : Int32)), (.int (0 : Int32)), (.int (0 : Int32)), (.int (0 : Int32)), (.int (0 : Int32)), (.int (0 : Int32)), (.int (0 : Int32)), (.int (0 : Int32)), (.int (0 : Int32)), (.int (0 : Int32)), (.int (0 : Int32)), (.int (0 : Int32)), (.int (0 : Int32)), (.int (0 : Int32)), (.int (0 : Int32)), (.int (0 : Int32))] (.int (pl_end p1 (0 : Int32))) (.int (pl_end p1 (1 : Int32))) (.int (pl_end p1 (2 : Int32))) (.int ((off + (pl_end p1 (2 : Int32))) + (1 : Int32))) (.ref b616) (.int off) (.int (1 : Int32)) T651.heap n0 (Nat.le_trans Z0 K651.1) Eh651 F651_bytes F651_starts F651_ascii F651_columns F651_fieldEnds F651_view Fz651 F651_length Ev651 G651_rowEnd G651_bytes G651_rowStart G651_ascii G651_fieldEnds Vb651 V_ys_652 Vz651 V_yf_653 V_ye_654 f655 ne1 ne2 ne3 (Ne.symm ne_b616_yb) n0_b617 n0_yb n0_yf n0_ys n0_yz n0_vw n0_ye (by decide) hl1 hof rfl rfl lb651 lz651) 0 (by decide) (by decide) rfl (by rw [hml]; rfl) [(.ref b617), (.ref vw), (.ref b616), (.int (3 : Int32)), (.int p2), (.int off)] [] rfl (lenOf pd_11 rfl) rfl (Nat.le_of_eq rfl) (hb hby at_95) (by decide) (by decide) ?_
      rintro T656 _ L656 X656 ⟨rfl, N656q, Kc656, Eh656, F656_bytes, F656_starts, F656_ascii, F656_columns, F656_fieldEnds, F656_view, F656_size, F656_length, ⟨bs656, lb656, Vb656⟩, Vf656, Vs656, ⟨zs656, lz656, Vz656⟩, Ev656, G656_rowEnd, G656_bytes, G656_fieldEnds, G656_rowStart, G656_ascii, Ve656⟩
      have N656 := Fr.app N651 N656q
      have K656 := K651.trans Kc656 (allS (P := fun x => x ∈ ([] : List Addr) ∨ h0.size ≤ x) (Or.inr sz_b617) (allS (P := fun x => x ∈ ([] : List Addr) ∨ h0.size ≤ x) (Or.inr sz_vw) (allS (P := fun x => x ∈ ([] : List Addr) ∨ h0.size ≤ x) (Or.inr sz_ye) (allS (P := fun x => x ∈ ([] : List Addr) ∨ h0.size ≤ x) (Or.inr sz_yb) (allS (P := fun x => x ∈ ([] : List Addr) ∨ h0.size ≤ x) (Or.inr sz_yf) (allS (P := fun x => x ∈ ([] : List Addr) ∨ h0.size ≤ x) (Or.inr sz_ys) (allS (P := fun x => x ∈ ([] : List Addr) ∨ h0.size ≤ x) (Or.inr sz_yz) all0)))))))
      show own_R p e below s _ _ _ T656 (mkF m 98 #[.val (.int p0), .val (.int p1), .val (.int p2), .val (.int p3), .val (.int p4), .val (.int (3 : Int32)), .val (.int off), .val (.ref b616), .val (.ref b617), .val (.ref vw), .val (.int ((pl_end p1 (2 : Int32)) + (2 : Int32))), .unset, .unset, .unset, .unset, .unset, .unset] [(.int ((pl_end p2 (2 : Int32)) + (2 : Int32)))])
      have Fz656 : Fld Z T656.heap b617 cH "size" "I" (.int (2 : Int32)) := F656_size
      have V_ys_657 : Arv Z T656.heap ys ks .int (16 : Int32) [(.int (0 : Int32)), (.int ((0 : Int32) + ((pl_end p1 (2 : Int32)) + (2 : Int32)))), o0, o0, o0, o0, o0, o0, o0, o0, o0, o0, o0, o0, o0, o0] o0 := Vs656
      have V_yf_658 : Arv Z T656.heap yf kf .int ((16 : Int32) * (3 : Int32)) [(.int (pl_end p1 (0 : Int32))), (.int (pl_end p1 (1 : Int32))), (.int (pl_end p1 (2 : Int32))), (.int (pl_end p2 (0 : Int32))), (.int (pl_end p2 (1 : Int32))), (.int (pl_end p2 (2 : Int32))), o0, o0, o0, o0, o0, o0, o0, o0, o0, o0, o0, o0, o0, o0, o0, o0, o0, o0, o0, o0, o0, o0, o0, o0, o0, o0, o0, o0, o0, o0, o0, o0, o0, o0, o0, o0, o0, o0, o0, o0, o0, o0] o0 := Vf656
      have V_ye_659 : Arv Z T656.heap ye ke .int (3 : Int32) [(.int (pl_end p2 (0 : Int32))), (.int (pl_end p2 (1 : Int32))), (.int (pl_end p2 (2 : Int32)))] o0 := Ve656
      have hl2 : 0 ≤ (((0 : Int32) + ((pl_end p1 (2 : Int32)) + (2 : Int32))) + ((pl_end p2 (2 : Int32)) + (2 : Int32))).toInt ∧ (((0 : Int32) + ((pl_end p1 (2 : Int32)) + (2 : Int32))) + ((pl_end p2 (2 : Int32)) + (2 : Int32))).toInt ≤ 100 := pl_b2 p1 p2 (2 : Int32)
      refine own_istore X656 hx (hb hby at_98) (l' := #[.val (.int p0), .val (.int p1), .val (.int p2), .val (.int p3), .val (.int p4), .val (.int (3 : Int32)), .val (.int off), .val (.ref b616), .val (.ref b617), .val (.ref vw), .val (.int ((pl_end p1 (2 : Int32)) + (2 : Int32))), .val (.int ((pl_end p2 (2 : Int32)) + (2 : Int32))), .unset, .unset, .unset, .unset, .unset]) rfl ?_
      refine own_aload X656 hx (hb hby at_100) rfl rfl ?_
      refine own_aload X656 hx (hb hby at_102) rfl rfl ?_
      refine own_aload X656 hx (hb hby at_104) rfl rfl ?_
      refine own_iload X656 hx (hb hby at_106) rfl ?_
      refine own_iloadN X656 hx (hb hby at_108) rfl ?_
      refine own_iload X656 hx (hb hby at_109) rfl ?_
      have f660 := (f655.keep Kc656 (ninS ne_b616_b617 (ninS ne_b616_vw (ninS ne_b616_ye (ninS ne_b616_yb (ninS ne_b616_yf (ninS ne_b616_ys (ninS ne_b616_yz nin0))))))))
      refine own_callS X656 hx hZ (y := my8) hown (hw _ (List.mem_of_getElem? (i := 91) rfl)) (hw _ (List.mem_of_getElem? (i := 92) rfl)) (hw _ (List.mem_of_getElem? (i := 93) rfl)) (hw _ (List.mem_of_getElem? (i := 94) rfl)) (by decide) (rm8_3 l Z a0 hw [] b617 vw b616 p3 off yb ys yz yf ye kb ks kz kf ke k616 (2 : Int32) (((0 : Int32) + ((pl_end p1 (2 : Int32)) + (2 : Int32))) + ((pl_end p2 (2 : Int32)) + (2 : Int32))) bs656 [(.int (0 : Int32)), (.int ((0 : Int32) + ((pl_end p1 (2 : Int32)) + (2 : Int32)))), o0, o0, o0, o0, o0, o0, o0, o0, o0, o0, o0, o0, o0, o0] zs656 [(.int (pl_end p1 (0 : Int32))), (.int (pl_end p1 (1 : Int32))), (.int (pl_end p1 (2 : Int32))), (.int (pl_end p2 (0 : Int32))), (.int (pl_end p2 (1 : Int32))), (.int (pl_end p2 (2 : Int32))), o0, o0, o0, o0, o0, o0, o0, o0, o0, o0, o0, o0, o0, o0, o0, o0, o0, o0, o0, o0, o0, o0, o0, o0, o0, o0, o0, o0, o0, o0, o0, o0, o0, o0, o0, o0, o0, o0, o0, o0, o0, o0] [(.int (0 : Int32)), (.int (0 : Int32)), (.int (0 : Int32)), (.int (0 : Int32)), (.int (0 : Int32)), (.int (0 : Int32)), (.int (0 : Int32)), (.int (0 : Int32)), (.int (0 : Int32)), (.int (0 : Int32)), (.int (0 : Int32)), (.int (0 : Int32)), (.int (0 : Int32)), (.int (0 : Int32)), (.int (0 : Int32)), (.int (0 : Int32)), (.int (0 : Int32)), (.int (0 : Int32)), (.int (0 : Int32)), (.int (0 : Int32)), (.int (0 : Int32)), (.int (0 : Int32)), (.int (0 : Int32)), (.int (0 : Int32)), (.int (0 : Int32)), (.int (0 : Int32)), (.int (0 : Int32)), (.int (0 : Int32)), (.int (0 : Int32)), (.int (0 : Int32)), (.int (0 : Int32)), (.int (0 : Int32)), (.int (0 : Int32)), (.int (0 : Int32)), (.int (0 : Int32)), (.int (0 : Int32)), (.int (0 : Int32)), (.int (0 : Int32)), (.int (0 : Int32)), (.int (0 : Int32))] (.int (pl_end p2 (0 : Int32))) (.int (pl_end p2 (1 : Int32))) (.int (pl_end p2 (2 : Int32))) (.int ((off + (pl_end p2 (2 : Int32))) + (1 : Int32))) (.ref b616) (.int off) (.int (1 : Int32)) T656.heap n0 (Nat.le_trans Z0 K656.1) Eh656 F656_bytes F656_starts F656_ascii F656_columns F656_fieldEnds F656_view Fz656 F656_length Ev656 G656_rowEnd G656_bytes G656_rowStart G656_ascii G656_fieldEnds Vb656 V_ys_657 Vz656 V_yf_658 V_ye_659 f660 ne1 ne2 ne3 (Ne.symm ne_b616_yb) n0_b617 n0_yb n0_yf n0_ys n0_yz n0_vw n0_ye (by decide) hl2 hof rfl rfl lb656 lz656) 0 (by decide) (by decide) rfl (by rw [hml]; rfl) [(.ref b617), (.ref vw), (.ref b616), (.int (3 : Int32)), (.int p3), (.int off)] [] rfl (lenOf pd_11 rfl) rfl (Nat.le_of_eq rfl) (hb hby at_111) (by decide) (by decide) ?_
      rintro T661 _ L661 X661 ⟨rfl, N661q, Kc661, Eh661, F661_bytes, F661_starts, F661_ascii, F661_columns, F661_fieldEnds, F661_view, F661_size, F661_length, ⟨bs661, lb661, Vb661⟩, Vf661, Vs661, ⟨zs661, lz661, Vz661⟩, Ev661, G661_rowEnd, G661_bytes, G661_fieldEnds, G661_rowStart, G661_ascii, Ve661⟩
      have N661 := Fr.app N656 N661q
      have K661 := K656.trans Kc661 (allS (P := fun x => x ∈ ([] : List Addr) ∨ h0.size ≤ x) (Or.inr sz_b617) (allS (P := fun x => x ∈ ([] : List Addr) ∨ h0.size ≤ x) (Or.inr sz_vw) (allS (P := fun x => x ∈ ([] : List Addr) ∨ h0.size ≤ x) (Or.inr sz_ye) (allS (P := fun x => x ∈ ([] : List Addr) ∨ h0.size ≤ x) (Or.inr sz_yb) (allS (P := fun x => x ∈ ([] : List Addr) ∨ h0.size ≤ x) (Or.inr sz_yf) (allS (P := fun x => x ∈ ([] : List Addr) ∨ h0.size ≤ x) (Or.inr sz_ys) (allS (P := fun x => x ∈ ([] : List Addr) ∨ h0.size ≤ x) (Or.inr sz_yz) all0)))))))
      show own_R p e below s _ _ _ T661 (mkF m 114 #[.val (.int p0), .val (.int p1), .val (.int p2), .val (.int p3), .val (.int p4), .val (.int (3 : Int32)), .val (.int off), .val (.ref b616), .val (.ref b617), .val (.ref vw), .val (.int ((pl_end p1 (2 : Int32)) + (2 : Int32))), .val (.int ((pl_end p2 (2 : Int32)) + (2 : Int32))), .unset, .unset, .unset, .unset, .unset] [(.int ((pl_end p3 (2 : Int32)) + (2 : Int32)))])
      have Fz661 : Fld Z T661.heap b617 cH "size" "I" (.int (3 : Int32)) := F661_size
      have V_ys_662 : Arv Z T661.heap ys ks .int (16 : Int32) [(.int (0 : Int32)), (.int ((0 : Int32) + ((pl_end p1 (2 : Int32)) + (2 : Int32)))), (.int (((0 : Int32) + ((pl_end p1 (2 : Int32)) + (2 : Int32))) + ((pl_end p2 (2 : Int32)) + (2 : Int32)))), o0, o0, o0, o0, o0, o0, o0, o0, o0, o0, o0, o0, o0] o0 := Vs661
      have V_yf_663 : Arv Z T661.heap yf kf .int ((16 : Int32) * (3 : Int32)) [(.int (pl_end p1 (0 : Int32))), (.int (pl_end p1 (1 : Int32))), (.int (pl_end p1 (2 : Int32))), (.int (pl_end p2 (0 : Int32))), (.int (pl_end p2 (1 : Int32))), (.int (pl_end p2 (2 : Int32))), (.int (pl_end p3 (0 : Int32))), (.int (pl_end p3 (1 : Int32))), (.int (pl_end p3 (2 : Int32))), o0, o0, o0, o0, o0, o0, o0, o0, o0, o0, o0, o0, o0, o0, o0, o0, o0, o0, o0, o0, o0, o0, o0, o0, o0, o0, o0, o0, o0, o0, o0, o0, o0, o0, o0, o0, o0, o0, o0] o0 := Vf661
      have V_ye_664 : Arv Z T661.heap ye ke .int (3 : Int32) [(.int (pl_end p3 (0 : Int32))), (.int (pl_end p3 (1 : Int32))), (.int (pl_end p3 (2 : Int32)))] o0 := Ve661
      refine own_pop X661 hx (hb hby at_114) rfl ?_
      exact J115 _ _ _ X661 rfl N661 (Nat.le_trans Z0 K661.1) F661_starts F661_fieldEnds F661_columns Eh661 V_ys_662 V_yf_663
    · have hc45 : ¬ (((p0.toUInt32 >>> ((2 : Int32) &&& 31).toUInt32).toInt32) &&& (1 : Int32)) = (0 : Int32) := own_eq0 hc
      clear hc
      refine own_aload X619 hx (hb hby at_48) rfl rfl ?_
      refine own_aload X619 hx (hb hby at_50) rfl rfl ?_
      refine own_aload X619 hx (hb hby at_52) rfl rfl ?_
      refine own_iload X619 hx (hb hby at_54) rfl ?_
      refine own_iloadN X619 hx (hb hby at_56) rfl ?_
      refine own_iload X619 hx (hb hby at_57) rfl ?_
      have f665 := (Exa.keep Eh618 Kc619)
      have f666 := (F618_bytes.keep Kc619 (ninS ne_b617_vw (ninS ne_b617_ye nin0)))
      have f667 := (F618_starts.keep Kc619 (ninS ne_b617_vw (ninS ne_b617_ye nin0)))
      have f668 := (F618_ascii.keep Kc619 (ninS ne_b617_vw (ninS ne_b617_ye nin0)))
      have f669 := (F618_columns.keep Kc619 (ninS ne_b617_vw (ninS ne_b617_ye nin0)))
      have f670 := (F618_fieldEnds.keep Kc619 (ninS ne_b617_vw (ninS ne_b617_ye nin0)))
      have f671 := (F618_view.keep Kc619 (ninS ne_b617_vw (ninS ne_b617_ye nin0)))
      have f672 := (F618_size.keep Kc619 (ninS ne_b617_vw (ninS ne_b617_ye nin0)))
      have f673 := (F618_length.keep Kc619 (ninS ne_b617_vw (ninS ne_b617_ye nin0)))
      have f674 := (Vb618.keep Kc619 (ninS (Ne.symm ne_vw_yb) (ninS ne_yb_ye nin0)))
      have f675 := (Vs618.keep Kc619 (ninS (Ne.symm ne_vw_ys) (ninS ne2 nin0)))
      have f676 := (Vz618.keep Kc619 (ninS (Ne.symm ne_vw_yz) (ninS ne_yz_ye nin0)))
      have f677 := (((V_b616.ext E617).keep Kc618 (ninS ne_b616_b617 nin0)).keep Kc619 (ninS ne_b616_vw (ninS ne_b616_ye nin0)))
      refine own_callS X619 hx hZ (y := my8) hown (hw _ (List.mem_of_getElem? (i := 91) rfl)) (hw _ (List.mem_of_getElem? (i := 92) rfl)) (hw _ (List.mem_of_getElem? (i := 93) rfl)) (hw _ (List.mem_of_getElem? (i := 94) rfl)) (by decide) (rm8_3 l Z a0 hw [] b617 vw b616 p3 off yb ys yz yf ye kb ks kz kf ke k616 (0 : Int32) (0 : Int32) (List.replicate 4096 o0) [o0, o0, o0, o0, o0, o0, o0, o0, o0, o0, o0, o0, o0, o0, o0, o0] [o0, o0, o0, o0, o0, o0, o0, o0, o0, o0, o0, o0, o0, o0, o0, o0] [o0, o0, o0, o0, o0, o0, o0, o0, o0, o0, o0, o0, o0, o0, o0, o0, o0, o0, o0, o0, o0, o0, o0, o0, o0, o0, o0, o0, o0, o0, o0, o0, o0, o0, o0, o0, o0, o0, o0, o0, o0, o0, o0, o0, o0, o0, o0, o0] [(.int (0 : Int32)), (.int (0 : Int32)), (.int (0 : Int32)), (.int (0 : Int32)), (.int (0 : Int32)), (.int (0 : Int32)), (.int (0 : Int32)), (.int (0 : Int32)), (.int (0 : Int32)), (.int (0 : Int32)), (.int (0 : Int32)), (.int (0 : Int32)), (.int (0 : Int32)), (.int (0 : Int32)), (.int (0 : Int32)), (.int (0 : Int32)), (.int (0 : Int32)), (.int (0 : Int32)), (.int (0 : Int32)), (.int (0 : Int32)), (.int (0 : Int32)), (.int (0 : Int32)), (.int (0 : Int32)), (.int (0 : Int32)), (.int (0 : Int32)), (.int (0 : Int32)), (.int (0 : Int32)), (.int (0 : Int32)), (.int (0 : Int32)), (.int (0 : Int32)), (.int (0 : Int32)), (.int (0 : Int32)), (.int (0 : Int32)), (.int (0 : Int32)), (.int (0 : Int32)), (.int (0 : Int32)), (.int (0 : Int32)), (.int (0 : Int32)), (.int (0 : Int32)), (.int (0 : Int32))] o0 o0 o0 (.int (-1 : Int32)) (.ref yb) o0 o0 T619.heap n0 (Nat.le_trans Z0 K619.1) f665 f666 f667 f668 f669 f670 f671 f672 f673 Ev619 G619_rowEnd G619_bytes G619_rowStart G619_ascii G619_fieldEnds f674 f675 f676 V_yf_622 V_ye_620 f677 ne1 ne2 ne3 (Ne.symm ne_b616_yb) n0_b617 n0_yb n0_yf n0_ys n0_yz n0_vw n0_ye (by decide) (by decide) hof rfl rfl (List.length_replicate ..) rfl) 0 (by decide) (by decide) rfl (by rw [hml]; rfl) [(.ref b617), (.ref vw), (.ref b616), (.int (3 : Int32)), (.int p3), (.int off)] [] rfl (lenOf pd_11 rfl) rfl (Nat.le_of_eq rfl) (hb hby at_59) (by decide) (by decide) ?_
      rintro T678 _ L678 X678 ⟨rfl, N678q, Kc678, Eh678, F678_bytes, F678_starts, F678_ascii, F678_columns, F678_fieldEnds, F678_view, F678_size, F678_length, ⟨bs678, lb678, Vb678⟩, Vf678, Vs678, ⟨zs678, lz678, Vz678⟩, Ev678, G678_rowEnd, G678_bytes, G678_fieldEnds, G678_rowStart, G678_ascii, Ve678⟩
      have N678 := Fr.app N619 N678q
      have K678 := K619.trans Kc678 (allS (P := fun x => x ∈ ([] : List Addr) ∨ h0.size ≤ x) (Or.inr sz_b617) (allS (P := fun x => x ∈ ([] : List Addr) ∨ h0.size ≤ x) (Or.inr sz_vw) (allS (P := fun x => x ∈ ([] : List Addr) ∨ h0.size ≤ x) (Or.inr sz_ye) (allS (P := fun x => x ∈ ([] : List Addr) ∨ h0.size ≤ x) (Or.inr sz_yb) (allS (P := fun x => x ∈ ([] : List Addr) ∨ h0.size ≤ x) (Or.inr sz_yf) (allS (P := fun x => x ∈ ([] : List Addr) ∨ h0.size ≤ x) (Or.inr sz_ys) (allS (P := fun x => x ∈ ([] : List Addr) ∨ h0.size ≤ x) (Or.inr sz_yz) all0)))))))
      show own_R p e below s _ _ _ T678 (mkF m 62 #[.val (.int p0), .val (.int p1), .val (.int p2), .val (.int p3), .val (.int p4), .val (.int (3 : Int32)), .val (.int off), .val (.ref b616), .val (.ref b617), .val (.ref vw), .unset, .unset, .unset, .unset, .unset, .unset, .unset] [(.int ((pl_end p3 (2 : Int32)) + (2 : Int32)))])
      have Fz678 : Fld Z T678.heap b617 cH "size" "I" (.int (1 : Int32)) := F678_size
      have V_ys_679 : Arv Z T678.heap ys ks .int (16 : Int32) [(.int (0 : Int32)), o0, o0, o0, o0, o0, o0, o0, o0, o0, o0, o0, o0, o0, o0, o0] o0 := Vs678
      have V_yf_680 : Arv Z T678.heap yf kf .int ((16 : Int32) * (3 : Int32)) [(.int (pl_end p3 (0 : Int32))), (.int (pl_end p3 (1 : Int32))), (.int (pl_end p3 (2 : Int32))), o0, o0, o0, o0, o0, o0, o0, o0, o0, o0, o0, o0, o0, o0, o0, o0, o0, o0, o0, o0, o0, o0, o0, o0, o0, o0, o0, o0, o0, o0, o0, o0, o0, o0, o0, o0, o0, o0, o0, o0, o0, o0, o0, o0, o0] o0 := Vf678
      have V_ye_681 : Arv Z T678.heap ye ke .int (3 : Int32) [(.int (pl_end p3 (0 : Int32))), (.int (pl_end p3 (1 : Int32))), (.int (pl_end p3 (2 : Int32)))] o0 := Ve678
      refine own_pop X678 hx (hb hby at_62) rfl ?_
      refine own_aload X678 hx (hb hby at_63) rfl rfl ?_
      refine own_callV X678 hx hZ (y := my17) (z := my17) hown (hw _ (List.mem_of_getElem? (i := 141) rfl)) (hw _ (List.mem_of_getElem? (i := 142) rfl)) (notFace_of_selects (args := #[]) (mvT hZ (hw _ (List.mem_of_getElem? (i := 144) rfl)))) (hw _ (List.mem_of_getElem? (i := 144) rfl)) (hw _ (List.mem_of_getElem? (i := 143) rfl)) (hw _ (List.mem_of_getElem? (i := 3) rfl)) (hw _ (List.mem_of_getElem? (i := 145) rfl)) (by decide) (rm17 l Z a0 hw [] b617 vw yb ys yz yf (3 : Int32) (1 : Int32) ((0 : Int32) + ((pl_end p3 (2 : Int32)) + (2 : Int32))) T678.heap n0 (Nat.le_trans Z0 K678.1) Eh678 F678_bytes F678_starts F678_ascii F678_columns F678_fieldEnds F678_view Fz678 F678_length n0_b617) 0 (by decide) (by decide) rfl (by rw [hml]; rfl) b617 Eh678 [] [] rfl (lenOf pd_12 rfl) rfl (Nat.le_of_eq rfl) (hb hby at_65) (by decide) (by decide) ?_
      rintro T682 _ L682 X682 ⟨rfl, N682q, Kc682, Eh682, F682_bytes, F682_starts, F682_ascii, F682_columns, F682_fieldEnds, F682_view, F682_size, F682_length⟩
      have N682 := Fr.app N678 N682q
      have K682 := K678.trans Kc682 (allS (P := fun x => x ∈ ([] : List Addr) ∨ h0.size ≤ x) (Or.inr sz_b617) all0)
      show own_R p e below s _ _ _ T682 (mkF m 68 #[.val (.int p0), .val (.int p1), .val (.int p2), .val (.int p3), .val (.int p4), .val (.int (3 : Int32)), .val (.int off), .val (.ref b616), .val (.ref b617), .val (.ref vw), .unset, .unset, .unset, .unset, .unset, .unset, .unset] [])
      refine own_aload X682 hx (hb hby at_68) rfl rfl ?_
      refine own_aload X682 hx (hb hby at_70) rfl rfl ?_
      refine own_aload X682 hx (hb hby at_72) rfl rfl ?_
      refine own_iload X682 hx (hb hby at_74) rfl ?_
      refine own_iloadN X682 hx (hb hby at_76) rfl ?_
      refine own_iload X682 hx (hb hby at_77) rfl ?_
      have f683 := (Exa.keep Ev678 Kc682)
      have f684 := (G678_rowEnd.keep Kc682 (ninS (Ne.symm ne_b617_vw) nin0))
      have f685 := (G678_bytes.keep Kc682 (ninS (Ne.symm ne_b617_vw) nin0))
      have f686 := (G678_rowStart.keep Kc682 (ninS (Ne.symm ne_b617_vw) nin0))
      have f687 := (G678_ascii.keep Kc682 (ninS (Ne.symm ne_b617_vw) nin0))
      have f688 := (G678_fieldEnds.keep Kc682 (ninS (Ne.symm ne_b617_vw) nin0))
      have f689 := (Vb678.keep Kc682 (ninS (Ne.symm ne_b617_yb) nin0))
      have f690 := (V_ys_679.keep Kc682 (ninS (Ne.symm ne_b617_ys) nin0))
      have f691 := (Vz678.keep Kc682 (ninS (Ne.symm ne_b617_yz) nin0))
      have f692 := (V_yf_680.keep Kc682 (ninS (Ne.symm ne_b617_yf) nin0))
      have f693 := (V_ye_681.keep Kc682 (ninS (Ne.symm ne_b617_ye) nin0))
      have f694 := ((f677.keep Kc678 (ninS ne_b616_b617 (ninS ne_b616_vw (ninS ne_b616_ye (ninS ne_b616_yb (ninS ne_b616_yf (ninS ne_b616_ys (ninS ne_b616_yz nin0)))))))).keep Kc682 (ninS ne_b616_b617 nin0))
      refine own_callS X682 hx hZ (y := my8) hown (hw _ (List.mem_of_getElem? (i := 91) rfl)) (hw _ (List.mem_of_getElem? (i := 92) rfl)) (hw _ (List.mem_of_getElem? (i := 93) rfl)) (hw _ (List.mem_of_getElem? (i := 94) rfl)) (by decide) (rm8_3 l Z a0 hw [] b617 vw b616 p1 off yb ys yz yf ye kb ks kz kf ke k616 (0 : Int32) (0 : Int32) bs678 [(.int (0 : Int32)), o0, o0, o0, o0, o0, o0, o0, o0, o0, o0, o0, o0, o0, o0, o0] zs678 [(.int (pl_end p3 (0 : Int32))), (.int (pl_end p3 (1 : Int32))), (.int (pl_end p3 (2 : Int32))), o0, o0, o0, o0, o0, o0, o0, o0, o0, o0, o0, o0, o0, o0, o0, o0, o0, o0, o0, o0, o0, o0, o0, o0, o0, o0, o0, o0, o0, o0, o0, o0, o0, o0, o0, o0, o0, o0, o0, o0, o0, o0, o0, o0, o0] [(.int (0 : Int32)), (.int (0 : Int32)), (.int (0 : Int32)), (.int (0 : Int32)), (.int (0 : Int32)), (.int (0 : Int32)), (.int (0 : Int32)), (.int (0 : Int32)), (.int (0 : Int32)), (.int (0 : Int32)), (.int (0 : Int32)), (.int (0 : Int32)), (.int (0 : Int32)), (.int (0 : Int32)), (.int (0 : Int32)), (.int (0 : Int32)), (.int (0 : Int32)), (.int (0 : Int32)), (.int (0 : Int32)), (.int (0 : Int32)), (.int (0 : Int32)), (.int (0 : Int32)), (.int (0 : Int32)), (.int (0 : Int32)), (.int (0 : Int32)), (.int (0 : Int32)), (.int (0 : Int32)), (.int (0 : Int32)), (.int (0 : Int32)), (.int (0 : Int32)), (.int (0 : Int32)), (.int (0 : Int32)), (.int (0 : Int32)), (.int (0 : Int32)), (.int (0 : Int32)), (.int (0 : Int32)), (.int (0 : Int32)), (.int (0 : Int32)), (.int (0 : Int32)), (.int (0 : Int32))] (.int (pl_end p3 (0 : Int32))) (.int (pl_end p3 (1 : Int32))) (.int (pl_end p3 (2 : Int32))) (.int ((off + (pl_end p3 (2 : Int32))) + (1 : Int32))) (.ref b616) (.int off) (.int (1 : Int32)) T682.heap n0 (Nat.le_trans Z0 K682.1) Eh682 F682_bytes F682_starts F682_ascii F682_columns F682_fieldEnds F682_view F682_size F682_length f683 f684 f685 f686 f687 f688 f689 f690 f691 f692 f693 f694 ne1 ne2 ne3 (Ne.symm ne_b616_yb) n0_b617 n0_yb n0_yf n0_ys n0_yz n0_vw n0_ye (by decide) (by decide) hof rfl rfl lb678 lz678) 0 (by decide) (by decide) rfl (by rw [hml]; rfl) [(.ref b617), (.ref vw), (.ref b616), (.int (3 : Int32)), (.int p1), (.int off)] [] rfl (lenOf pd_11 rfl) rfl (Nat.le_of_eq rfl) (hb hby at_79) (by decide) (by decide) ?_
      rintro T695 _ L695 X695 ⟨rfl, N695q, Kc695, Eh695, F695_bytes, F695_starts, F695_ascii, F695_columns, F695_fieldEnds, F695_view, F695_size, F695_length, ⟨bs695, lb695, Vb695⟩, Vf695, Vs695, ⟨zs695, lz695, Vz695⟩, Ev695, G695_rowEnd, G695_bytes, G695_fieldEnds, G695_rowStart, G695_ascii, Ve695⟩
      have N695 := Fr.app N682 N695q
      have K695 := K682.trans Kc695 (allS (P := fun x => x ∈ ([] : List Addr) ∨ h0.size ≤ x) (Or.inr sz_b617) (allS (P := fun x => x ∈ ([] : List Addr) ∨ h0.size ≤ x) (Or.inr sz_vw) (allS (P := fun x => x ∈ ([] : List Addr) ∨ h0.size ≤ x) (Or.inr sz_ye) (allS (P := fun x => x ∈ ([] : List Addr) ∨ h0.size ≤ x) (Or.inr sz_yb) (allS (P := fun x => x ∈ ([] : List Addr) ∨ h0.size ≤ x) (Or.inr sz_yf) (allS (P := fun x => x ∈ ([] : List Addr) ∨ h0.size ≤ x) (Or.inr sz_ys) (allS (P := fun x => x ∈ ([] : List Addr) ∨ h0.size ≤ x) (Or.inr sz_yz) all0)))))))
      show own_R p e below s _ _ _ T695 (mkF m 82 #[.val (.int p0), .val (.int p1), .val (.int p2), .val (.int p3), .val (.int p4), .val (.int (3 : Int32)), .val (.int off), .val (.ref b616), .val (.ref b617), .val (.ref vw), .unset, .unset, .unset, .unset, .unset, .unset, .unset] [(.int ((pl_end p1 (2 : Int32)) + (2 : Int32)))])
      have Fz695 : Fld Z T695.heap b617 cH "size" "I" (.int (1 : Int32)) := F695_size
      have V_ys_696 : Arv Z T695.heap ys ks .int (16 : Int32) [(.int (0 : Int32)), o0, o0, o0, o0, o0, o0, o0, o0, o0, o0, o0, o0, o0, o0, o0] o0 := Vs695
      have V_yf_697 : Arv Z T695.heap yf kf .int ((16 : Int32) * (3 : Int32)) [(.int (pl_end p1 (0 : Int32))), (.int (pl_end p1 (1 : Int32))), (.int (pl_end p1 (2 : Int32))), o0, o0, o0, o0, o0, o0, o0, o0, o0, o0, o0, o0, o0, o0, o0, o0, o0, o0, o0, o0, o0, o0, o0, o0, o0, o0, o0, o0, o0, o0, o0, o0, o0, o0, o0, o0, o0, o0, o0, o0, o0, o0, o0, o0, o0] o0 := Vf695
      have V_ye_698 : Arv Z T695.heap ye ke .int (3 : Int32) [(.int (pl_end p1 (0 : Int32))), (.int (pl_end p1 (1 : Int32))), (.int (pl_end p1 (2 : Int32)))] o0 := Ve695
      have hl1 : 0 ≤ ((0 : Int32) + ((pl_end p1 (2 : Int32)) + (2 : Int32))).toInt ∧ ((0 : Int32) + ((pl_end p1 (2 : Int32)) + (2 : Int32))).toInt ≤ 100 := pl_b1 p1 (2 : Int32)
      refine own_istore X695 hx (hb hby at_82) (l' := #[.val (.int p0), .val (.int p1), .val (.int p2), .val (.int p3), .val (.int p4), .val (.int (3 : Int32)), .val (.int off), .val (.ref b616), .val (.ref b617), .val (.ref vw), .val (.int ((pl_end p1 (2 : Int32)) + (2 : Int32))), .unset, .unset, .unset, .unset, .unset, .unset]) rfl ?_
      refine own_aload X695 hx (hb hby at_84) rfl rfl ?_
      refine own_aload X695 hx (hb hby at_86) rfl rfl ?_
      refine own_aload X695 hx (hb hby at_88) rfl rfl ?_
      refine own_iload X695 hx (hb hby at_90) rfl ?_
      refine own_iloadN X695 hx (hb hby at_92) rfl ?_
      refine own_iload X695 hx (hb hby at_93) rfl ?_
      have f699 := (f694.keep Kc695 (ninS ne_b616_b617 (ninS ne_b616_vw (ninS ne_b616_ye (ninS ne_b616_yb (ninS ne_b616_yf (ninS ne_b616_ys (ninS ne_b616_yz nin0))))))))
      refine own_callS X695 hx hZ (y := my8) hown (hw _ (List.mem_of_getElem? (i := 91) rfl)) (hw _ (List.mem_of_getElem? (i := 92) rfl)) (hw _ (List.mem_of_getElem? (i := 93) rfl)) (hw _ (List.mem_of_getElem? (i := 94) rfl)) (by decide) (rm8_3 l Z a0 hw [] b617 vw b616 p2 off yb ys yz yf ye kb ks kz kf ke k616 (1 : Int32) ((0 : Int32) + ((pl_end p1 (2 : Int32)) + (2 : Int32))) bs695 [(.int (0 : Int32)), o0, o0, o0, o0, o0, o0, o0, o0, o0, o0, o0, o0, o0, o0, o0] zs695 [(.int (pl_end p1 (0 : Int32))), (.int (pl_end p1 (1 : Int32))), (.int (pl_end p1 (2 : Int32))), o0, o0, o0, o0, o0, o0, o0, o0, o0, o0, o0, o0, o0, o0, o0, o0, o0, o0, o0, o0, o0, o0, o0, o0, o0, o0, o0, o0, o0, o0, o0, o0, o0, o0, o0, o0, o0, o0, o0, o0, o0, o0, o0, o0, o0] [(.int (0 : Int32)), (.int (0 : Int32)), (.int (0 : Int32)), (.int (0 : Int32)), (.int (0 : Int32)), (.int (0 : Int32)), (.int (0 : Int32)), (.int (0 : Int32)), (.int (0 : Int32)), (.int (0 : Int32)), (.int (0 : Int32)), (.int (0 : Int32)), (.int (0 : Int32)), (.int (0 : Int32)), (.int (0 : Int32)), (.int (0 : Int32)), (.int (0 : Int32)), (.int (0 : Int32)), (.int (0 : Int32)), (.int (0 : Int32)), (.int (0 : Int32)), (.int (0 : Int32)), (.int (0 : Int32)), (.int (0 : Int32)), (.int (0 : Int32)), (.int (0 : Int32)), (.int (0 : Int32)), (.int (0 : Int32)), (.int (0 : Int32)), (.int (0 : Int32)), (.int (0 : Int32)), (.int (0 : Int32)), (.int (0 : Int32)), (.int (0 : Int32)), (.int (0 : Int32)), (.int (0 : Int32)), (.int (0 : Int32)), (.int (0 : Int32)), (.int (0 : Int32)), (.int (0 : Int32))] (.int (pl_end p1 (0 : Int32))) (.int (pl_end p1 (1 : Int32))) (.int (pl_end p1 (2 : Int32))) (.int ((off + (pl_end p1 (2 : Int32))) + (1 : Int32))) (.ref b616) (.int off) (.int (1 : Int32)) T695.heap n0 (Nat.le_trans Z0 K695.1) Eh695 F695_bytes F695_starts F695_ascii F695_columns F695_fieldEnds F695_view Fz695 F695_length Ev695 G695_rowEnd G695_bytes G695_rowStart G695_ascii G695_fieldEnds Vb695 V_ys_696 Vz695 V_yf_697 V_ye_698 f699 ne1 ne2 ne3 (Ne.symm ne_b616_yb) n0_b617 n0_yb n0_yf n0_ys n0_yz n0_vw n0_ye (by decide) hl1 hof rfl rfl lb695 lz695) 0 (by decide) (by decide) rfl (by rw [hml]; rfl) [(.ref b617), (.ref vw), (.ref b616), (.int (3 : Int32)), (.int p2), (.int off)] [] rfl (lenOf pd_11 rfl) rfl (Nat.le_of_eq rfl) (hb hby at_95) (by decide) (by decide) ?_
      rintro T700 _ L700 X700 ⟨rfl, N700q, Kc700, Eh700, F700_bytes, F700_starts, F700_ascii, F700_columns, F700_fieldEnds, F700_view, F700_size, F700_length, ⟨bs700, lb700, Vb700⟩, Vf700, Vs700, ⟨zs700, lz700, Vz700⟩, Ev700, G700_rowEnd, G700_bytes, G700_fieldEnds, G700_rowStart, G700_ascii, Ve700⟩
      have N700 := Fr.app N695 N700q
      have K700 := K695.trans Kc700 (allS (P := fun x => x ∈ ([] : List Addr) ∨ h0.size ≤ x) (Or.inr sz_b617) (allS (P := fun x => x ∈ ([] : List Addr) ∨ h0.size ≤ x) (Or.inr sz_vw) (allS (P := fun x => x ∈ ([] : List Addr) ∨ h0.size ≤ x) (Or.inr sz_ye) (allS (P := fun x => x ∈ ([] : List Addr) ∨ h0.size ≤ x) (Or.inr sz_yb) (allS (P := fun x => x ∈ ([] : List Addr) ∨ h0.size ≤ x) (Or.inr sz_yf) (allS (P := fun x => x ∈ ([] : List Addr) ∨ h0.size ≤ x) (Or.inr sz_ys) (allS (P := fun x => x ∈ ([] : List Addr) ∨ h0.size ≤ x) (Or.inr sz_yz) all0)))))))
      show own_R p e below s _ _ _ T700 (mkF m 98 #[.val (.int p0), .val (.int p1), .val (.int p2), .val (.int p3), .val (.int p4), .val (.int (3 : Int32)), .val (.int off), .val (.ref b616), .val (.ref b617), .val (.ref vw), .val (.int ((pl_end p1 (2 : Int32)) + (2 : Int32))), .unset, .unset, .unset, .unset, .unset, .unset] [(.int ((pl_end p2 (2 : Int32)) + (2 : Int32)))])
      have Fz700 : Fld Z T700.heap b617 cH "size" "I" (.int (2 : Int32)) := F700_size
      have V_ys_701 : Arv Z T700.heap ys ks .int (16 : Int32) [(.int (0 : Int32)), (.int ((0 : Int32) + ((pl_end p1 (2 : Int32)) + (2 : Int32)))), o0, o0, o0, o0, o0, o0, o0, o0, o0, o0, o0, o0, o0, o0] o0 := Vs700
      have V_yf_702 : Arv Z T700.heap yf kf .int ((16 : Int32) * (3 : Int32)) [(.int (pl_end p1 (0 : Int32))), (.int (pl_end p1 (1 : Int32))), (.int (pl_end p1 (2 : Int32))), (.int (pl_end p2 (0 : Int32))), (.int (pl_end p2 (1 : Int32))), (.int (pl_end p2 (2 : Int32))), o0, o0, o0, o0, o0, o0, o0, o0, o0, o0, o0, o0, o0, o0, o0, o0, o0, o0, o0, o0, o0, o0, o0, o0, o0, o0, o0, o0, o0, o0, o0, o0, o0, o0, o0, o0, o0, o0, o0, o0, o0, o0] o0 := Vf700
      have V_ye_703 : Arv Z T700.heap ye ke .int (3 : Int32) [(.int (pl_end p2 (0 : Int32))), (.int (pl_end p2 (1 : Int32))), (.int (pl_end p2 (2 : Int32)))] o0 := Ve700
      have hl2 : 0 ≤ (((0 : Int32) + ((pl_end p1 (2 : Int32)) + (2 : Int32))) + ((pl_end p2 (2 : Int32)) + (2 : Int32))).toInt ∧ (((0 : Int32) + ((pl_end p1 (2 : Int32)) + (2 : Int32))) + ((pl_end p2 (2 : Int32)) + (2 : Int32))).toInt ≤ 100 := pl_b2 p1 p2 (2 : Int32)
      refine own_istore X700 hx (hb hby at_98) (l' := #[.val (.int p0), .val (.int p1), .val (.int p2), .val (.int p3), .val (.int p4), .val (.int (3 : Int32)), .val (.int off), .val (.ref b616), .val (.ref b617), .val (.ref vw), .val (.int ((pl_end p1 (2 : Int32)) + (2 : Int32))), .val (.int ((pl_end p2 (2 : Int32)) + (2 : Int32))), .unset, .unset, .unset, .unset, .unset]) rfl ?_
      refine own_aload X700 hx (hb hby at_100) rfl rfl ?_
      refine own_aload X700 hx (hb hby at_102) rfl rfl ?_
      refine own_aload X700 hx (hb hby at_104) rfl rfl ?_
      refine own_iload X700 hx (hb hby at_106) rfl ?_
      refine own_iloadN X700 hx (hb hby at_108) rfl ?_
      refine own_iload X700 hx (hb hby at_109) rfl ?_
      have f704 := (f699.keep Kc700 (ninS ne_b616_b617 (ninS ne_b616_vw (ninS ne_b616_ye (ninS ne_b616_yb (ninS ne_b616_yf (ninS ne_b616_ys (ninS ne_b616_yz nin0))))))))
      refine own_callS X700 hx hZ (y := my8) hown (hw _ (List.mem_of_getElem? (i := 91) rfl)) (hw _ (List.mem_of_getElem? (i := 92) rfl)) (hw _ (List.mem_of_getElem? (i := 93) rfl)) (hw _ (List.mem_of_getElem? (i := 94) rfl)) (by decide) (rm8_3 l Z a0 hw [] b617 vw b616 p3 off yb ys yz yf ye kb ks kz kf ke k616 (2 : Int32) (((0 : Int32) + ((pl_end p1 (2 : Int32)) + (2 : Int32))) + ((pl_end p2 (2 : Int32)) + (2 : Int32))) bs700 [(.int (0 : Int32)), (.int ((0 : Int32) + ((pl_end p1 (2 : Int32)) + (2 : Int32)))), o0, o0, o0, o0, o0, o0, o0, o0, o0, o0, o0, o0, o0, o0] zs700 [(.int (pl_end p1 (0 : Int32))), (.int (pl_end p1 (1 : Int32))), (.int (pl_end p1 (2 : Int32))), (.int (pl_end p2 (0 : Int32))), (.int (pl_end p2 (1 : Int32))), (.int (pl_end p2 (2 : Int32))), o0, o0, o0, o0, o0, o0, o0, o0, o0, o0, o0, o0, o0, o0, o0, o0, o0, o0, o0, o0, o0, o0, o0, o0, o0, o0, o0, o0, o0, o0, o0, o0, o0, o0, o0, o0, o0, o0, o0, o0, o0, o0] [(.int (0 : Int32)), (.int (0 : Int32)), (.int (0 : Int32)), (.int (0 : Int32)), (.int (0 : Int32)), (.int (0 : Int32)), (.int (0 : Int32)), (.int (0 : Int32)), (.int (0 : Int32)), (.int (0 : Int32)), (.int (0 : Int32)), (.int (0 : Int32)), (.int (0 : Int32)), (.int (0 : Int32)), (.int (0 : Int32)), (.int (0 : Int32)), (.int (0 : Int32)), (.int (0 : Int32)), (.int (0 : Int32)), (.int (0 : Int32)), (.int (0 : Int32)), (.int (0 : Int32)), (.int (0 : Int32)), (.int (0 : Int32)), (.int (0 : Int32)), (.int (0 : Int32)), (.int (0 : Int32)), (.int (0 : Int32)), (.int (0 : Int32)), (.int (0 : Int32)), (.int (0 : Int32)), (.int (0 : Int32)), (.int (0 : Int32)), (.int (0 : Int32)), (.int (0 : Int32)), (.int (0 : Int32)), (.int (0 : Int32)), (.int (0 : Int32)), (.int (0 : Int32)), (.int (0 : Int32))] (.int (pl_end p2 (0 : Int32))) (.int (pl_end p2 (1 : Int32))) (.int (pl_end p2 (2 : Int32))) (.int ((off + (pl_end p2 (2 : Int32))) + (1 : Int32))) (.ref b616) (.int off) (.int (1 : Int32)) T700.heap n0 (Nat.le_trans Z0 K700.1) Eh700 F700_bytes F700_starts F700_ascii F700_columns F700_fieldEnds F700_view Fz700 F700_length Ev700 G700_rowEnd G700_bytes G700_rowStart G700_ascii G700_fieldEnds Vb700 V_ys_701 Vz700 V_yf_702 V_ye_703 f704 ne1 ne2 ne3 (Ne.symm ne_b616_yb) n0_b617 n0_yb n0_yf n0_ys n0_yz n0_vw n0_ye (by decide) hl2 hof rfl rfl lb700 lz700) 0 (by decide) (by decide) rfl (by rw [hml]; rfl) [(.ref b617), (.ref vw), (.ref b616), (.int (3 : Int32)), (.int p3), (.int off)] [] rfl (lenOf pd_11 rfl) rfl (Nat.le_of_eq rfl) (hb hby at_111) (by decide) (by decide) ?_
      rintro T705 _ L705 X705 ⟨rfl, N705q, Kc705, Eh705, F705_bytes, F705_starts, F705_ascii, F705_columns, F705_fieldEnds, F705_view, F705_size, F705_length, ⟨bs705, lb705, Vb705⟩, Vf705, Vs705, ⟨zs705, lz705, Vz705⟩, Ev705, G705_rowEnd, G705_bytes, G705_fieldEnds, G705_rowStart, G705_ascii, Ve705⟩
      have N705 := Fr.app N700 N705q
      have K705 := K700.trans Kc705 (allS (P := fun x => x ∈ ([] : List Addr) ∨ h0.size ≤ x) (Or.inr sz_b617) (allS (P := fun x => x ∈ ([] : List Addr) ∨ h0.size ≤ x) (Or.inr sz_vw) (allS (P := fun x => x ∈ ([] : List Addr) ∨ h0.size ≤ x) (Or.inr sz_ye) (allS (P := fun x => x ∈ ([] : List Addr) ∨ h0.size ≤ x) (Or.inr sz_yb) (allS (P := fun x => x ∈ ([] : List Addr) ∨ h0.size ≤ x) (Or.inr sz_yf) (allS (P := fun x => x ∈ ([] : List Addr) ∨ h0.size ≤ x) (Or.inr sz_ys) (allS (P := fun x => x ∈ ([] : List Addr) ∨ h0.size ≤ x) (Or.inr sz_yz) all0)))))))
      show own_R p e below s _ _ _ T705 (mkF m 114 #[.val (.int p0), .val (.int p1), .val (.int p2), .val (.int p3), .val (.int p4), .val (.int (3 : Int32)), .val (.int off), .val (.ref b616), .val (.ref b617), .val (.ref vw), .val (.int ((pl_end p1 (2 : Int32)) + (2 : Int32))), .val (.int ((pl_end p2 (2 : Int32)) + (2 : Int32))), .unset, .unset, .unset, .unset, .unset] [(.int ((pl_end p3 (2 : Int32)) + (2 : Int32)))])
      have Fz705 : Fld Z T705.heap b617 cH "size" "I" (.int (3 : Int32)) := F705_size
      have V_ys_706 : Arv Z T705.heap ys ks .int (16 : Int32) [(.int (0 : Int32)), (.int ((0 : Int32) + ((pl_end p1 (2 : Int32)) + (2 : Int32)))), (.int (((0 : Int32) + ((pl_end p1 (2 : Int32)) + (2 : Int32))) + ((pl_end p2 (2 : Int32)) + (2 : Int32)))), o0, o0, o0, o0, o0, o0, o0, o0, o0, o0, o0, o0, o0] o0 := Vs705
      have V_yf_707 : Arv Z T705.heap yf kf .int ((16 : Int32) * (3 : Int32)) [(.int (pl_end p1 (0 : Int32))), (.int (pl_end p1 (1 : Int32))), (.int (pl_end p1 (2 : Int32))), (.int (pl_end p2 (0 : Int32))), (.int (pl_end p2 (1 : Int32))), (.int (pl_end p2 (2 : Int32))), (.int (pl_end p3 (0 : Int32))), (.int (pl_end p3 (1 : Int32))), (.int (pl_end p3 (2 : Int32))), o0, o0, o0, o0, o0, o0, o0, o0, o0, o0, o0, o0, o0, o0, o0, o0, o0, o0, o0, o0, o0, o0, o0, o0, o0, o0, o0, o0, o0, o0, o0, o0, o0, o0, o0, o0, o0, o0, o0] o0 := Vf705
      have V_ye_708 : Arv Z T705.heap ye ke .int (3 : Int32) [(.int (pl_end p3 (0 : Int32))), (.int (pl_end p3 (1 : Int32))), (.int (pl_end p3 (2 : Int32)))] o0 := Ve705
      refine own_pop X705 hx (hb hby at_114) rfl ?_
      exact J115 _ _ _ X705 rfl N705 (Nat.le_trans Z0 K705.1) F705_starts F705_fieldEnds F705_columns Eh705 V_ys_706 V_yf_707
  ·
    show own_R p e below s _ _ _ s₁ (mkF m 15 #[.val (.int p0), .val (.int p1), .val (.int p2), .val (.int p3), .val (.int p4), .val (.int (4 : Int32)), .val (.int off), .unset, .unset, .unset, .unset, .unset, .unset, .unset, .unset, .unset, .unset] [])
    refine own_bipush X0 hx (40 : Int32) (hb hby at_15) rfl ?_
    refine own_newA X0 hx hZ (hw _ (List.mem_of_getElem? (i := 0) rfl)) e0 (hb hby at_17) (by decide) 40 (by decide) (by decide) (by decide) (by decide) (ad := "[B") (by decide) 40 ?_
    intro T709 h709 b709 k709 g709 X709 e709 E709 V709 A709
    have sz_b709 : h0.size ≤ b709 := Nat.le_trans K0.1 (Nat.le_of_eq g709.symm)
    have n0_b709 : n0 ≤ b709 := Nat.le_trans Z0 sz_b709
    have K709 := K0.ext E709
    have V_b709 : Arv Z h709 b709 k709 .byte (40 : Int32) [(.int (0 : Int32)), (.int (0 : Int32)), (.int (0 : Int32)), (.int (0 : Int32)), (.int (0 : Int32)), (.int (0 : Int32)), (.int (0 : Int32)), (.int (0 : Int32)), (.int (0 : Int32)), (.int (0 : Int32)), (.int (0 : Int32)), (.int (0 : Int32)), (.int (0 : Int32)), (.int (0 : Int32)), (.int (0 : Int32)), (.int (0 : Int32)), (.int (0 : Int32)), (.int (0 : Int32)), (.int (0 : Int32)), (.int (0 : Int32)), (.int (0 : Int32)), (.int (0 : Int32)), (.int (0 : Int32)), (.int (0 : Int32)), (.int (0 : Int32)), (.int (0 : Int32)), (.int (0 : Int32)), (.int (0 : Int32)), (.int (0 : Int32)), (.int (0 : Int32)), (.int (0 : Int32)), (.int (0 : Int32)), (.int (0 : Int32)), (.int (0 : Int32)), (.int (0 : Int32)), (.int (0 : Int32)), (.int (0 : Int32)), (.int (0 : Int32)), (.int (0 : Int32)), (.int (0 : Int32))] (.int (0 : Int32)) := V709
    refine own_astore X709 hx (hb hby at_19) rfl (l' := #[.val (.int p0), .val (.int p1), .val (.int p2), .val (.int p3), .val (.int p4), .val (.int (4 : Int32)), .val (.int off), .val (.ref b709), .unset, .unset, .unset, .unset, .unset, .unset, .unset, .unset, .unset]) rfl ?_
    refine own_new X709 hx hZ hown (hw _ (List.mem_of_getElem? (i := 1) rfl)) (hw _ (List.mem_of_getElem? (i := 2) rfl)) (hw _ (List.mem_of_getElem? (i := 3) rfl)) e709 (hb hby at_21) (by decide) (by decide) ?_
    intro T710 h710 b710 g710 X710 e710 E710 A710 D710
    have ne_b709_b710 : b709 ≠ b710 := Nat.ne_of_lt (Nat.lt_of_lt_of_le V_b709.lt (Nat.le_of_eq g710.symm))
    have sz_b710 : h0.size ≤ b710 := Nat.le_trans K709.1 (Nat.le_of_eq g710.symm)
    have n0_b710 : n0 ≤ b710 := Nat.le_trans Z0 sz_b710
    have K710 := K709.ext E710
    have F_bytes_b710 : Fld Z h710 b710 "com/example/termweave/termweave/release/HeldRows" "bytes" "[B" .null := D710 (Or.inl (hw _ (List.mem_of_getElem? (i := 11) rfl))) (ty := (.array .byte)) (by decide)
    have F_starts_b710 : Fld Z h710 b710 "com/example/termweave/termweave/release/HeldRows" "starts" "[I" .null := D710 (Or.inl (hw _ (List.mem_of_getElem? (i := 14) rfl))) (ty := (.array .int)) (by decide)
    have F_ascii_b710 : Fld Z h710 b710 "com/example/termweave/termweave/release/HeldRows" "ascii" "[Z" .null := D710 (Or.inl (hw _ (List.mem_of_getElem? (i := 17) rfl))) (ty := (.array .boolean)) (by decide)
    have F_sort_b710 : Fld Z h710 b710 "com/example/termweave/termweave/release/HeldRows" "sort" "Lcom/example/termweave/termweave/release/HeldRows$Sort;" .null := D710 (Or.inr (hw _ (List.mem_of_getElem? (i := 37) rfl))) (ty := (.object "com/example/termweave/termweave/release/HeldRows$Sort")) (by decide)
    have F_columns_b710 : Fld Z h710 b710 "com/example/termweave/termweave/release/HeldRows" "columns" "I" (.int (0 : Int32)) := D710 (Or.inr (hw _ (List.mem_of_getElem? (i := 39) rfl))) (ty := .int) (by decide)
    have F_fieldEnds_b710 : Fld Z h710 b710 "com/example/termweave/termweave/release/HeldRows" "fieldEnds" "[I" .null := D710 (Or.inl (hw _ (List.mem_of_getElem? (i := 41) rfl))) (ty := (.array .int)) (by decide)
    have F_view_b710 : Fld Z h710 b710 "com/example/termweave/termweave/release/HeldRows" "view" "Lcom/example/termweave/termweave/release/HeldRows$View;" .null := D710 (Or.inr (hw _ (List.mem_of_getElem? (i := 61) rfl))) (ty := (.object "com/example/termweave/termweave/release/HeldRows$View")) (by decide)
    have F_size_b710 : Fld Z h710 b710 "com/example/termweave/termweave/release/HeldRows" "size" "I" (.int (0 : Int32)) := D710 (Or.inl (hw _ (List.mem_of_getElem? (i := 77) rfl))) (ty := .int) (by decide)
    have F_length_b710 : Fld Z h710 b710 "com/example/termweave/termweave/release/HeldRows" "length" "I" (.int (0 : Int32)) := D710 (Or.inl (hw _ (List.mem_of_getElem? (i := 79) rfl))) (ty := .int) (by decide)
    refine own_dup X710 hx (hb hby at_24) rfl ?_
    refine own_iload X710 hx (hb hby at_25) rfl ?_
    refine own_callI X710 hx hZ (y := my1) rfl hown (hw _ (List.mem_of_getElem? (i := 4) rfl)) (hw _ (List.mem_of_getElem? (i := 5) rfl)) (hw _ (List.mem_of_getElem? (i := 3) rfl)) (hw _ (List.mem_of_getElem? (i := 6) rfl)) (by decide) (rm1 l Z a0 hw [] b710 (4 : Int32) h710 n0 (Nat.le_trans Z0 K710.1) (by decide) A710 n0_b710 F_bytes_b710 F_starts_b710 F_ascii_b710 F_sort_b710 F_columns_b710 F_fieldEnds_b710 F_view_b710 F_size_b710 F_length_b710) 1 (by decide) (by decide) e710 (by rw [hml]; rfl) b710 [(.int (4 : Int32))] [(.ref b710)] rfl (lenOf pd_2 rfl) rfl (Nat.le_of_eq rfl) (hb hby at_27) (by decide) (by decide) ?_
    rintro T711 _ L711 X711 ⟨rfl, N711q, Kc711, yb, ys, yz, yf, vw, ye, kb, ks, kz, kf, ke, nc_yb, nc_ys, nc_yz, nc_yf, nc_vw, nc_ye, Eh711, F711_bytes, F711_starts, F711_ascii, F711_columns, F711_fieldEnds, F711_view, F711_size, F711_length, Ev711, G711_rowEnd, G711_bytes, G711_rowStart, G711_ascii, Fe711, Vb711, Vs711, Vz711, Vf711, Ve711, ne1, ne2, ne3⟩
    have N711 := Fr.app N0 N711q
    have K711 := K710.trans Kc711 (allS (P := fun x => x ∈ ([] : List Addr) ∨ h0.size ≤ x) (Or.inr sz_b710) all0)
    show own_R p e below s _ _ _ T711 (mkF m 30 #[.val (.int p0), .val (.int p1), .val (.int p2), .val (.int p3), .val (.int p4), .val (.int (4 : Int32)), .val (.int off), .val (.ref b709), .unset, .unset, .unset, .unset, .unset, .unset, .unset, .unset, .unset] [(.ref b710)])
    have sz_yb : h0.size ≤ yb := Nat.le_trans K710.1 nc_yb
    have n0_yb : n0 ≤ yb := Nat.le_trans Z0 sz_yb
    have ne_b709_yb : b709 ≠ yb := Nat.ne_of_lt (Nat.lt_of_lt_of_le (V_b709.ext E710).lt nc_yb)
    have sz_ys : h0.size ≤ ys := Nat.le_trans K710.1 nc_ys
    have n0_ys : n0 ≤ ys := Nat.le_trans Z0 sz_ys
    have ne_b709_ys : b709 ≠ ys := Nat.ne_of_lt (Nat.lt_of_lt_of_le (V_b709.ext E710).lt nc_ys)
    have sz_yz : h0.size ≤ yz := Nat.le_trans K710.1 nc_yz
    have n0_yz : n0 ≤ yz := Nat.le_trans Z0 sz_yz
    have ne_b709_yz : b709 ≠ yz := Nat.ne_of_lt (Nat.lt_of_lt_of_le (V_b709.ext E710).lt nc_yz)
    have sz_yf : h0.size ≤ yf := Nat.le_trans K710.1 nc_yf
    have n0_yf : n0 ≤ yf := Nat.le_trans Z0 sz_yf
    have ne_b709_yf : b709 ≠ yf := Nat.ne_of_lt (Nat.lt_of_lt_of_le (V_b709.ext E710).lt nc_yf)
    have sz_vw : h0.size ≤ vw := Nat.le_trans K710.1 nc_vw
    have n0_vw : n0 ≤ vw := Nat.le_trans Z0 sz_vw
    have ne_b709_vw : b709 ≠ vw := Nat.ne_of_lt (Nat.lt_of_lt_of_le (V_b709.ext E710).lt nc_vw)
    have sz_ye : h0.size ≤ ye := Nat.le_trans K710.1 nc_ye
    have n0_ye : n0 ≤ ye := Nat.le_trans Z0 sz_ye
    have ne_b709_ye : b709 ≠ ye := Nat.ne_of_lt (Nat.lt_of_lt_of_le (V_b709.ext E710).lt nc_ye)
    have ne_b710_vw : b710 ≠ vw := (Exa.ne Eh711 Ev711 (by decide))
    have ne_b710_yb : b710 ≠ yb := (Exa.neArv Eh711 Vb711 (hw _ (List.mem_of_getElem? (i := 2) rfl)))
    have ne_b710_ys : b710 ≠ ys := (Exa.neArv Eh711 Vs711 (hw _ (List.mem_of_getElem? (i := 2) rfl)))
    have ne_b710_yz : b710 ≠ yz := (Exa.neArv Eh711 Vz711 (hw _ (List.mem_of_getElem? (i := 2) rfl)))
    have ne_b710_yf : b710 ≠ yf := (Exa.neArv Eh711 Vf711 (hw _ (List.mem_of_getElem? (i := 2) rfl)))
    have ne_b710_ye : b710 ≠ ye := (Exa.neArv Eh711 Ve711 (hw _ (List.mem_of_getElem? (i := 2) rfl)))
    have ne_vw_yb : vw ≠ yb := (Exa.neArv Ev711 Vb711 (hw _ (List.mem_of_getElem? (i := 43) rfl)))
    have ne_vw_ys : vw ≠ ys := (Exa.neArv Ev711 Vs711 (hw _ (List.mem_of_getElem? (i := 43) rfl)))
    have ne_vw_yz : vw ≠ yz := (Exa.neArv Ev711 Vz711 (hw _ (List.mem_of_getElem? (i := 43) rfl)))
    have ne_vw_yf : vw ≠ yf := (Exa.neArv Ev711 Vf711 (hw _ (List.mem_of_getElem? (i := 43) rfl)))
    have ne_vw_ye : vw ≠ ye := (Exa.neArv Ev711 Ve711 (hw _ (List.mem_of_getElem? (i := 43) rfl)))
    have ne_yb_ys : yb ≠ ys := (own_neA Vb711 Vs711 (by decide))
    have ne_yb_yz : yb ≠ yz := (own_neA Vb711 Vz711 (by decide))
    have ne_yb_yf : yb ≠ yf := (own_neA Vb711 Vf711 (by decide))
    have ne_yb_ye : yb ≠ ye := (own_neA Vb711 Ve711 (by decide))
    have ne_ys_yz : ys ≠ yz := (own_neA Vs711 Vz711 (by decide))
    have ne_yz_yf : yz ≠ yf := (own_neA Vz711 Vf711 (by decide))
    have ne_yz_ye : yz ≠ ye := (own_neA Vz711 Ve711 (by decide))
    refine own_astore X711 hx (hb hby at_30) rfl (l' := #[.val (.int p0), .val (.int p1), .val (.int p2), .val (.int p3), .val (.int p4), .val (.int (4 : Int32)), .val (.int off), .val (.ref b709), .val (.ref b710), .unset, .unset, .unset, .unset, .unset, .unset, .unset, .unset]) rfl ?_
    refine own_aload X711 hx (hb hby at_32) rfl rfl ?_
    refine own_iconst X711 hx (0 : Int32) (hb hby at_34) rfl ?_
    refine own_callV X711 hx hZ (y := my6) (z := my6) hown (hw _ (List.mem_of_getElem? (i := 62) rfl)) (hw _ (List.mem_of_getElem? (i := 63) rfl)) (notFace_of_selects (args := #[]) (mvT hZ (hw _ (List.mem_of_getElem? (i := 65) rfl)))) (hw _ (List.mem_of_getElem? (i := 65) rfl)) (hw _ (List.mem_of_getElem? (i := 64) rfl)) (hw _ (List.mem_of_getElem? (i := 3) rfl)) (hw _ (List.mem_of_getElem? (i := 66) rfl)) (by decide) (rm6 l Z a0 hw [] b710 vw yb ys yz yf ye kb ks kz kf ke (4 : Int32) T711.heap n0 (Nat.le_trans Z0 K711.1) (by decide) Eh711 F711_bytes F711_starts F711_ascii F711_columns F711_fieldEnds F711_view F711_size F711_length Ev711 G711_rowEnd G711_bytes G711_rowStart G711_ascii Fe711 Vb711 Vs711 Vz711 Vf711 Ve711 ne1 ne2 ne3 n0_vw n0_ye) 0 (by decide) (by decide) rfl (by rw [hml]; rfl) b710 Eh711 [(.int (0 : Int32))] [] rfl (lenOf pd_10 rfl) rfl (Nat.le_of_eq rfl) (hb hby at_35) (by decide) (by decide) ?_
    rintro T712 _ L712 X712 ⟨rfl, N712q, Kc712, Ev712, G712_rowEnd, G712_bytes, G712_fieldEnds, G712_rowStart, G712_ascii, Ve712⟩
    have N712 := Fr.app N711 N712q
    have K712 := K711.trans Kc712 (allS (P := fun x => x ∈ ([] : List Addr) ∨ h0.size ≤ x) (Or.inr sz_vw) (allS (P := fun x => x ∈ ([] : List Addr) ∨ h0.size ≤ x) (Or.inr sz_ye) all0))
    show own_R p e below s _ _ _ T712 (mkF m 38 #[.val (.int p0), .val (.int p1), .val (.int p2), .val (.int p3), .val (.int p4), .val (.int (4 : Int32)), .val (.int off), .val (.ref b709), .val (.ref b710), .unset, .unset, .unset, .unset, .unset, .unset, .unset, .unset] [(.ref vw)])
    have V_ye_713 : Arv Z T712.heap ye ke .int (4 : Int32) [o0, o0, o0, o0] o0 := Ve712
    have f714 := (Vf711.keep Kc712 (ninS (Ne.symm ne_vw_yf) (ninS ne3 nin0)))
    have V_yf_715 : Arv Z T712.heap yf kf .int ((16 : Int32) * (4 : Int32)) [o0, o0, o0, o0, o0, o0, o0, o0, o0, o0, o0, o0, o0, o0, o0, o0, o0, o0, o0, o0, o0, o0, o0, o0, o0, o0, o0, o0, o0, o0, o0, o0, o0, o0, o0, o0, o0, o0, o0, o0, o0, o0, o0, o0, o0, o0, o0, o0, o0, o0, o0, o0, o0, o0, o0, o0, o0, o0, o0, o0, o0, o0, o0, o0] o0 := f714
    refine own_astore X712 hx (hb hby at_38) rfl (l' := #[.val (.int p0), .val (.int p1), .val (.int p2), .val (.int p3), .val (.int p4), .val (.int (4 : Int32)), .val (.int off), .val (.ref b709), .val (.ref b710), .val (.ref vw), .unset, .unset, .unset, .unset, .unset, .unset, .unset]) rfl ?_
    have J115 : ∀ (Tj : State) (lj : List Loc) (gj : Heap), Stand p l e room_1 s m #[(.int p0), (.int p1), (.int p2), (.int p3), (.int p4)] below meth c Tj lj 13 4305 → Tj.heap = gj → Fr n0 lj → n0 ≤ gj.size → Fld Z gj b710 cH "starts" "[I" (.ref ys) → Fld Z gj b710 cH "fieldEnds" "[I" (.ref yf) → Fld Z gj b710 cH "columns" "I" (.int (4 : Int32)) → Exa Z gj b710 cH → Arv Z gj ys ks .int (16 : Int32) [o0, (.int ((0 : Int32) + ((pl_end p1 (3 : Int32)) + (2 : Int32)))), (.int (((0 : Int32) + ((pl_end p1 (3 : Int32)) + (2 : Int32))) + ((pl_end p2 (3 : Int32)) + (2 : Int32)))), o0, o0, o0, o0, o0, o0, o0, o0, o0, o0, o0, o0, o0] o0 → Arv Z gj yf kf .int ((16 : Int32) * (4 : Int32)) [(.int (pl_end p1 (0 : Int32))), (.int (pl_end p1 (1 : Int32))), (.int (pl_end p1 (2 : Int32))), (.int (pl_end p1 (3 : Int32))), (.int (pl_end p2 (0 : Int32))), (.int (pl_end p2 (1 : Int32))), (.int (pl_end p2 (2 : Int32))), (.int (pl_end p2 (3 : Int32))), (.int (pl_end p3 (0 : Int32))), (.int (pl_end p3 (1 : Int32))), (.int (pl_end p3 (2 : Int32))), (.int (pl_end p3 (3 : Int32))), o0, o0, o0, o0, o0, o0, o0, o0, o0, o0, o0, o0, o0, o0, o0, o0, o0, o0, o0, o0, o0, o0, o0, o0, o0, o0, o0, o0, o0, o0, o0, o0, o0, o0, o0, o0, o0, o0, o0, o0, o0, o0, o0, o0, o0, o0, o0, o0, o0, o0, o0, o0] o0 → own_R p e below s (Q0 Z p0 p1 p2 p3 p4 h0 n0) room_1.cells room_1.slots Tj (mkF m 115 #[.val (.int p0), .val (.int p1), .val (.int p2), .val (.int p3), .val (.int p4), .val (.int (4 : Int32)), .val (.int off), .val (.ref b709), .val (.ref b710), .val (.ref vw), .val (.int ((pl_end p1 (3 : Int32)) + (2 : Int32))), .val (.int ((pl_end p2 (3 : Int32)) + (2 : Int32))), .unset, .unset, .unset, .unset, .unset] []) := by
      intro Tj lj gj Xj ej Nj Zj jf1 jf2 jf3 jE jV1 jV2
      show own_R p e below s _ _ _ Tj (mkF m 115 #[.val (.int p0), .val (.int p1), .val (.int p2), .val (.int p3), .val (.int p4), .val (.int (4 : Int32)), .val (.int off), .val (.ref b709), .val (.ref b710), .val (.ref vw), .val (.int ((pl_end p1 (3 : Int32)) + (2 : Int32))), .val (.int ((pl_end p2 (3 : Int32)) + (2 : Int32))), .unset, .unset, .unset, .unset, .unset] [])
      refine own_iload Xj hx (hb hby at_115) rfl ?_
      refine own_ldc Xj hx hZ hown (hw _ (List.mem_of_getElem? (i := 135) rfl)) (hb hby at_117) ?_
      refine own_iand Xj hx (hb hby at_119) ?_
      refine own_iconst Xj hx (3 : Int32) (hb hby at_120) rfl ?_
      refine own_irem Xj hx (hb hby at_121) (by decide) ?_
      refine own_istore Xj hx (hb hby at_122) (l' := #[.val (.int p0), .val (.int p1), .val (.int p2), .val (.int p3), .val (.int p4), .val (.int (4 : Int32)), .val (.int off), .val (.ref b709), .val (.ref b710), .val (.ref vw), .val (.int ((pl_end p1 (3 : Int32)) + (2 : Int32))), .val (.int ((pl_end p2 (3 : Int32)) + (2 : Int32))), .val (.int ((p4 &&& (2147483647 : Int32)) % (3 : Int32))), .unset, .unset, .unset, .unset]) rfl ?_
      obtain ⟨ix, hix, hix3⟩ : ∃ z : Int32, z = ((p4 &&& (2147483647 : Int32)) % (3 : Int32)) ∧ (z = 0 ∨ z = 1 ∨ z = 2) := ⟨_, rfl, pl_ix _⟩
      rw [← hix]
      show own_R p e below s _ _ _ Tj (mkF m 124 #[.val (.int p0), .val (.int p1), .val (.int p2), .val (.int p3), .val (.int p4), .val (.int (4 : Int32)), .val (.int off), .val (.ref b709), .val (.ref b710), .val (.ref vw), .val (.int ((pl_end p1 (3 : Int32)) + (2 : Int32))), .val (.int ((pl_end p2 (3 : Int32)) + (2 : Int32))), .val (.int ix), .unset, .unset, .unset, .unset] [])
      refine own_iload Xj hx (hb hby at_124) rfl ?_
      refine own_iconst Xj hx (4 : Int32) (hb hby at_126) rfl ?_
      refine own_iushr Xj hx (hb hby at_127) ?_
      refine own_iload Xj hx (hb hby at_128) rfl ?_
      refine own_irem Xj hx (hb hby at_130) (by decide) ?_
      refine own_istore Xj hx (hb hby at_131) (l' := #[.val (.int p0), .val (.int p1), .val (.int p2), .val (.int p3), .val (.int p4), .val (.int (4 : Int32)), .val (.int off), .val (.ref b709), .val (.ref b710), .val (.ref vw), .val (.int ((pl_end p1 (3 : Int32)) + (2 : Int32))), .val (.int ((pl_end p2 (3 : Int32)) + (2 : Int32))), .val (.int ix), .val (.int (((p4.toUInt32 >>> ((4 : Int32) &&& 31).toUInt32).toInt32) % (4 : Int32))), .unset, .unset, .unset]) rfl ?_
      obtain ⟨cl, hcl, hcl4⟩ : ∃ z : Int32, z = (((p4.toUInt32 >>> ((4 : Int32) &&& 31).toUInt32).toInt32) % (4 : Int32)) ∧ (z = 0 ∨ z = 1 ∨ z = 2 ∨ z = 3) := ⟨_, rfl, pl_cl4 _⟩
      rw [← hcl]
      show own_R p e below s _ _ _ Tj (mkF m 133 #[.val (.int p0), .val (.int p1), .val (.int p2), .val (.int p3), .val (.int p4), .val (.int (4 : Int32)), .val (.int off), .val (.ref b709), .val (.ref b710), .val (.ref vw), .val (.int ((pl_end p1 (3 : Int32)) + (2 : Int32))), .val (.int ((pl_end p2 (3 : Int32)) + (2 : Int32))), .val (.int ix), .val (.int cl), .unset, .unset, .unset] [])
      rcases hix3 with rfl | rfl | rfl
      ·
        rcases hcl4 with rfl | rfl | rfl | rfl
        ·
          show own_R p e below s _ _ _ Tj (mkF m 133 #[.val (.int p0), .val (.int p1), .val (.int p2), .val (.int p3), .val (.int p4), .val (.int (4 : Int32)), .val (.int off), .val (.ref b709), .val (.ref b710), .val (.ref vw), .val (.int ((pl_end p1 (3 : Int32)) + (2 : Int32))), .val (.int ((pl_end p2 (3 : Int32)) + (2 : Int32))), .val (.int (0 : Int32)), .val (.int (0 : Int32)), .unset, .unset, .unset] [])
          refine own_iload Xj hx (hb hby at_133) rfl ?_
          refine own_if Xj hx (hb hby at_135) (pc' := 142) (by decide) (by decide) (fun hc => ?_) (fun hc => ?_)
          · have hc135 : ¬ (0 : Int32) = (0 : Int32) := own_ne1 hc
            exact absurd (by decide) hc135
          · have hc135 : (0 : Int32) = (0 : Int32) := own_ne0 hc
            clear hc
            refine own_iloadN Xj hx (hb hby at_138) rfl ?_
            refine own_goto Xj hx (hb hby at_139) (pc' := 153) (by decide) (by decide) ?_
            show own_R p e below s _ _ _ Tj (mkF m 153 #[.val (.int p0), .val (.int p1), .val (.int p2), .val (.int p3), .val (.int p4), .val (.int (4 : Int32)), .val (.int off), .val (.ref b709), .val (.ref b710), .val (.ref vw), .val (.int ((pl_end p1 (3 : Int32)) + (2 : Int32))), .val (.int ((pl_end p2 (3 : Int32)) + (2 : Int32))), .val (.int (0 : Int32)), .val (.int (0 : Int32)), .unset, .unset, .unset] [(.int p1)])
            refine own_istore Xj hx (hb hby at_153) (l' := #[.val (.int p0), .val (.int p1), .val (.int p2), .val (.int p3), .val (.int p4), .val (.int (4 : Int32)), .val (.int off), .val (.ref b709), .val (.ref b710), .val (.ref vw), .val (.int ((pl_end p1 (3 : Int32)) + (2 : Int32))), .val (.int ((pl_end p2 (3 : Int32)) + (2 : Int32))), .val (.int (0 : Int32)), .val (.int (0 : Int32)), .val (.int p1), .unset, .unset]) rfl ?_
            refine own_iload Xj hx (hb hby at_155) rfl ?_
            refine own_if Xj hx (hb hby at_157) (pc' := 164) (by decide) (by decide) (fun hc => ?_) (fun hc => ?_)
            · have hc157 : ¬ (0 : Int32) = (0 : Int32) := own_ne1 hc
              exact absurd (by decide) hc157
            · have hc157 : (0 : Int32) = (0 : Int32) := own_ne0 hc
              clear hc
              refine own_iconst Xj hx (0 : Int32) (hb hby at_160) rfl ?_
              refine own_goto Xj hx (hb hby at_161) (pc' := 180) (by decide) (by decide) ?_
              show own_R p e below s _ _ _ Tj (mkF m 180 #[.val (.int p0), .val (.int p1), .val (.int p2), .val (.int p3), .val (.int p4), .val (.int (4 : Int32)), .val (.int off), .val (.ref b709), .val (.ref b710), .val (.ref vw), .val (.int ((pl_end p1 (3 : Int32)) + (2 : Int32))), .val (.int ((pl_end p2 (3 : Int32)) + (2 : Int32))), .val (.int (0 : Int32)), .val (.int (0 : Int32)), .val (.int p1), .unset, .unset] [(.int (0 : Int32))])
              refine own_istore Xj hx (hb hby at_180) (l' := #[.val (.int p0), .val (.int p1), .val (.int p2), .val (.int p3), .val (.int p4), .val (.int (4 : Int32)), .val (.int off), .val (.ref b709), .val (.ref b710), .val (.ref vw), .val (.int ((pl_end p1 (3 : Int32)) + (2 : Int32))), .val (.int ((pl_end p2 (3 : Int32)) + (2 : Int32))), .val (.int (0 : Int32)), .val (.int (0 : Int32)), .val (.int p1), .val (.int (0 : Int32)), .unset]) rfl ?_
              refine own_iload Xj hx (hb hby at_182) rfl ?_
              refine own_iload Xj hx (hb hby at_184) rfl ?_
              refine own_if Xj hx (hb hby at_186) (pc' := 193) (by decide) (by decide) (fun hc => ?_) (fun hc => ?_)
              · have hc186 : ¬ (0 : Int32) = (0 : Int32) := own_ne1 hc
                exact absurd (by decide) hc186
              · have hc186 : (0 : Int32) = (0 : Int32) := own_ne0 hc
                clear hc
                refine own_iconst Xj hx (0 : Int32) (hb hby at_189) rfl ?_
                refine own_goto Xj hx (hb hby at_190) (pc' := 204) (by decide) (by decide) ?_
                show own_R p e below s _ _ _ Tj (mkF m 204 #[.val (.int p0), .val (.int p1), .val (.int p2), .val (.int p3), .val (.int p4), .val (.int (4 : Int32)), .val (.int off), .val (.ref b709), .val (.ref b710), .val (.ref vw), .val (.int ((pl_end p1 (3 : Int32)) + (2 : Int32))), .val (.int ((pl_end p2 (3 : Int32)) + (2 : Int32))), .val (.int (0 : Int32)), .val (.int (0 : Int32)), .val (.int p1), .val (.int (0 : Int32)), .unset] [(.int (0 : Int32)), (.int (0 : Int32))])
                refine own_iadd Xj hx (hb hby at_204) ?_
                refine own_istore Xj hx (hb hby at_205) (l' := #[.val (.int p0), .val (.int p1), .val (.int p2), .val (.int p3), .val (.int p4), .val (.int (4 : Int32)), .val (.int off), .val (.ref b709), .val (.ref b710), .val (.ref vw), .val (.int ((pl_end p1 (3 : Int32)) + (2 : Int32))), .val (.int ((pl_end p2 (3 : Int32)) + (2 : Int32))), .val (.int (0 : Int32)), .val (.int (0 : Int32)), .val (.int p1), .val (.int (0 : Int32)), .val (.int (0 : Int32))]) rfl ?_
                refine own_aload Xj hx (hb hby at_207) rfl rfl ?_
                refine own_iload Xj hx (hb hby at_209) rfl ?_
                refine own_iload Xj hx (hb hby at_211) rfl ?_
                refine own_callV Xj hx hZ (y := my16) (z := my16) hown (hw _ (List.mem_of_getElem? (i := 136) rfl)) (hw _ (List.mem_of_getElem? (i := 137) rfl)) (notFace_of_selects (args := #[]) (mvT hZ (hw _ (List.mem_of_getElem? (i := 139) rfl)))) (hw _ (List.mem_of_getElem? (i := 139) rfl)) (hw _ (List.mem_of_getElem? (i := 138) rfl)) (hw _ (List.mem_of_getElem? (i := 3) rfl)) (hw _ (List.mem_of_getElem? (i := 140) rfl)) (by decide) (rm16 l Z a0 hw [] b710 (0 : Int32) (0 : Int32) ys yf ks kf (4 : Int32) [o0, (.int ((0 : Int32) + ((pl_end p1 (3 : Int32)) + (2 : Int32)))), (.int (((0 : Int32) + ((pl_end p1 (3 : Int32)) + (2 : Int32))) + ((pl_end p2 (3 : Int32)) + (2 : Int32)))), o0, o0, o0, o0, o0, o0, o0, o0, o0, o0, o0, o0, o0] [(.int (pl_end p1 (0 : Int32))), (.int (pl_end p1 (1 : Int32))), (.int (pl_end p1 (2 : Int32))), (.int (pl_end p1 (3 : Int32))), (.int (pl_end p2 (0 : Int32))), (.int (pl_end p2 (1 : Int32))), (.int (pl_end p2 (2 : Int32))), (.int (pl_end p2 (3 : Int32))), (.int (pl_end p3 (0 : Int32))), (.int (pl_end p3 (1 : Int32))), (.int (pl_end p3 (2 : Int32))), (.int (pl_end p3 (3 : Int32))), o0, o0, o0, o0, o0, o0, o0, o0, o0, o0, o0, o0, o0, o0, o0, o0, o0, o0, o0, o0, o0, o0, o0, o0, o0, o0, o0, o0, o0, o0, o0, o0, o0, o0, o0, o0, o0, o0, o0, o0, o0, o0, o0, o0, o0, o0, o0, o0, o0, o0, o0, o0] (0 : Int32) (0 : Int32) gj n0 Zj jf1 jf2 jf3 jV1 jV2 (by decide) rfl (fun q => absurd rfl q) (fun q => absurd rfl q)) 0 (by decide) (by decide) ej (by rw [hml]; rfl) b710 jE [(.int (0 : Int32)), (.int (0 : Int32))] [] rfl (lenOf pd_8 rfl) rfl (Nat.le_of_eq rfl) (hb hby at_213) (by decide) (by decide) ?_
                rintro T716 _ L716 X716 ⟨rfl, N716q, e716⟩
                have N716 := Fr.app Nj N716q
                show own_R p e below s _ _ _ T716 (mkF m 216 #[.val (.int p0), .val (.int p1), .val (.int p2), .val (.int p3), .val (.int p4), .val (.int (4 : Int32)), .val (.int off), .val (.ref b709), .val (.ref b710), .val (.ref vw), .val (.int ((pl_end p1 (3 : Int32)) + (2 : Int32))), .val (.int ((pl_end p2 (3 : Int32)) + (2 : Int32))), .val (.int (0 : Int32)), .val (.int (0 : Int32)), .val (.int p1), .val (.int (0 : Int32)), .val (.int (0 : Int32))] [(.int (pl_fs (0 : Int32) (0 : Int32) (0 : Int32)))])
                refine own_iload X716 hx (hb hby at_216) rfl ?_
                refine own_icmp X716 hx (hb hby at_218) (pc' := 225) (by decide) (by decide) (fun hc => ?_) (fun hc => ?_)
                · have hc218 : ¬ (pl_fs (0 : Int32) (0 : Int32) (0 : Int32)) = (0 : Int32) := own_ne1 hc
                  exact absurd (by simp only [pl_fs, Int32.zero_add, if_true, if_false, show ((0 : Int32) = 0) = True from by decide]) hc218
                · have hc218 : (pl_fs (0 : Int32) (0 : Int32) (0 : Int32)) = (0 : Int32) := own_ne0 hc
                  clear hc
                  refine own_iconst X716 hx (1 : Int32) (hb hby at_221) rfl ?_
                  refine own_goto X716 hx (hb hby at_222) (pc' := 226) (by decide) (by decide) ?_
                  show own_R p e below s _ _ _ T716 (mkF m 226 #[.val (.int p0), .val (.int p1), .val (.int p2), .val (.int p3), .val (.int p4), .val (.int (4 : Int32)), .val (.int off), .val (.ref b709), .val (.ref b710), .val (.ref vw), .val (.int ((pl_end p1 (3 : Int32)) + (2 : Int32))), .val (.int ((pl_end p2 (3 : Int32)) + (2 : Int32))), .val (.int (0 : Int32)), .val (.int (0 : Int32)), .val (.int p1), .val (.int (0 : Int32)), .val (.int (0 : Int32))] [(.int (1 : Int32))])
                  refine own_retN X716 hx (t := .boolean) Bd.returns (by simp) hlk (hb hby at_226) ?_ (by decide) (by decide)
                  exact ⟨rfl, N716⟩
        ·
          show own_R p e below s _ _ _ Tj (mkF m 133 #[.val (.int p0), .val (.int p1), .val (.int p2), .val (.int p3), .val (.int p4), .val (.int (4 : Int32)), .val (.int off), .val (.ref b709), .val (.ref b710), .val (.ref vw), .val (.int ((pl_end p1 (3 : Int32)) + (2 : Int32))), .val (.int ((pl_end p2 (3 : Int32)) + (2 : Int32))), .val (.int (0 : Int32)), .val (.int (1 : Int32)), .unset, .unset, .unset] [])
          refine own_iload Xj hx (hb hby at_133) rfl ?_
          refine own_if Xj hx (hb hby at_135) (pc' := 142) (by decide) (by decide) (fun hc => ?_) (fun hc => ?_)
          · have hc135 : ¬ (0 : Int32) = (0 : Int32) := own_ne1 hc
            exact absurd (by decide) hc135
          · have hc135 : (0 : Int32) = (0 : Int32) := own_ne0 hc
            clear hc
            refine own_iloadN Xj hx (hb hby at_138) rfl ?_
            refine own_goto Xj hx (hb hby at_139) (pc' := 153) (by decide) (by decide) ?_
            show own_R p e below s _ _ _ Tj (mkF m 153 #[.val (.int p0), .val (.int p1), .val (.int p2), .val (.int p3), .val (.int p4), .val (.int (4 : Int32)), .val (.int off), .val (.ref b709), .val (.ref b710), .val (.ref vw), .val (.int ((pl_end p1 (3 : Int32)) + (2 : Int32))), .val (.int ((pl_end p2 (3 : Int32)) + (2 : Int32))), .val (.int (0 : Int32)), .val (.int (1 : Int32)), .unset, .unset, .unset] [(.int p1)])
            refine own_istore Xj hx (hb hby at_153) (l' := #[.val (.int p0), .val (.int p1), .val (.int p2), .val (.int p3), .val (.int p4), .val (.int (4 : Int32)), .val (.int off), .val (.ref b709), .val (.ref b710), .val (.ref vw), .val (.int ((pl_end p1 (3 : Int32)) + (2 : Int32))), .val (.int ((pl_end p2 (3 : Int32)) + (2 : Int32))), .val (.int (0 : Int32)), .val (.int (1 : Int32)), .val (.int p1), .unset, .unset]) rfl ?_
            refine own_iload Xj hx (hb hby at_155) rfl ?_
            refine own_if Xj hx (hb hby at_157) (pc' := 164) (by decide) (by decide) (fun hc => ?_) (fun hc => ?_)
            · have hc157 : ¬ (0 : Int32) = (0 : Int32) := own_ne1 hc
              exact absurd (by decide) hc157
            · have hc157 : (0 : Int32) = (0 : Int32) := own_ne0 hc
              clear hc
              refine own_iconst Xj hx (0 : Int32) (hb hby at_160) rfl ?_
              refine own_goto Xj hx (hb hby at_161) (pc' := 180) (by decide) (by decide) ?_
              show own_R p e below s _ _ _ Tj (mkF m 180 #[.val (.int p0), .val (.int p1), .val (.int p2), .val (.int p3), .val (.int p4), .val (.int (4 : Int32)), .val (.int off), .val (.ref b709), .val (.ref b710), .val (.ref vw), .val (.int ((pl_end p1 (3 : Int32)) + (2 : Int32))), .val (.int ((pl_end p2 (3 : Int32)) + (2 : Int32))), .val (.int (0 : Int32)), .val (.int (1 : Int32)), .val (.int p1), .unset, .unset] [(.int (0 : Int32))])
              refine own_istore Xj hx (hb hby at_180) (l' := #[.val (.int p0), .val (.int p1), .val (.int p2), .val (.int p3), .val (.int p4), .val (.int (4 : Int32)), .val (.int off), .val (.ref b709), .val (.ref b710), .val (.ref vw), .val (.int ((pl_end p1 (3 : Int32)) + (2 : Int32))), .val (.int ((pl_end p2 (3 : Int32)) + (2 : Int32))), .val (.int (0 : Int32)), .val (.int (1 : Int32)), .val (.int p1), .val (.int (0 : Int32)), .unset]) rfl ?_
              refine own_iload Xj hx (hb hby at_182) rfl ?_
              refine own_iload Xj hx (hb hby at_184) rfl ?_
              refine own_if Xj hx (hb hby at_186) (pc' := 193) (by decide) (by decide) (fun hc => ?_) (fun hc => ?_)
              · have hc186 : ¬ (1 : Int32) = (0 : Int32) := own_ne1 hc
                clear hc
                refine own_iload Xj hx (hb hby at_193) rfl ?_
                refine own_iload Xj hx (hb hby at_195) rfl ?_
                refine own_iconst Xj hx (1 : Int32) (hb hby at_197) rfl ?_
                refine own_isub Xj hx (hb hby at_198) ?_
                refine own_callS Xj hx hZ (y := my9) hown (hw _ (List.mem_of_getElem? (i := 95) rfl)) (hw _ (List.mem_of_getElem? (i := 96) rfl)) (hw _ (List.mem_of_getElem? (i := 93) rfl)) (hw _ (List.mem_of_getElem? (i := 97) rfl)) (by decide) (rm9 l Z a0 hw [] p1 (0 : Int32) gj n0 Zj) 1 (by decide) (by decide) ej (by rw [hml]; rfl) [(.int p1), (.int (0 : Int32))] [(.int (0 : Int32))] rfl (lenOf pd_8 rfl) rfl (Nat.le_of_eq rfl) (hb hby at_199) (by decide) (by decide) ?_
                rintro T717 _ L717 X717 ⟨rfl, N717q, e717⟩
                have N717 := Fr.app Nj N717q
                show own_R p e below s _ _ _ T717 (mkF m 202 #[.val (.int p0), .val (.int p1), .val (.int p2), .val (.int p3), .val (.int p4), .val (.int (4 : Int32)), .val (.int off), .val (.ref b709), .val (.ref b710), .val (.ref vw), .val (.int ((pl_end p1 (3 : Int32)) + (2 : Int32))), .val (.int ((pl_end p2 (3 : Int32)) + (2 : Int32))), .val (.int (0 : Int32)), .val (.int (1 : Int32)), .val (.int p1), .val (.int (0 : Int32)), .unset] [(.int (pl_end p1 (0 : Int32))), (.int (0 : Int32))])
                refine own_iconst X717 hx (1 : Int32) (hb hby at_202) rfl ?_
                refine own_iadd X717 hx (hb hby at_203) ?_
                refine own_iadd X717 hx (hb hby at_204) ?_
                refine own_istore X717 hx (hb hby at_205) (l' := #[.val (.int p0), .val (.int p1), .val (.int p2), .val (.int p3), .val (.int p4), .val (.int (4 : Int32)), .val (.int off), .val (.ref b709), .val (.ref b710), .val (.ref vw), .val (.int ((pl_end p1 (3 : Int32)) + (2 : Int32))), .val (.int ((pl_end p2 (3 : Int32)) + (2 : Int32))), .val (.int (0 : Int32)), .val (.int (1 : Int32)), .val (.int p1), .val (.int (0 : Int32)), .val (.int ((0 : Int32) + ((pl_end p1 (0 : Int32)) + (1 : Int32))))]) rfl ?_
                refine own_aload X717 hx (hb hby at_207) rfl rfl ?_
                refine own_iload X717 hx (hb hby at_209) rfl ?_
                refine own_iload X717 hx (hb hby at_211) rfl ?_
                refine own_callV X717 hx hZ (y := my16) (z := my16) hown (hw _ (List.mem_of_getElem? (i := 136) rfl)) (hw _ (List.mem_of_getElem? (i := 137) rfl)) (notFace_of_selects (args := #[]) (mvT hZ (hw _ (List.mem_of_getElem? (i := 139) rfl)))) (hw _ (List.mem_of_getElem? (i := 139) rfl)) (hw _ (List.mem_of_getElem? (i := 138) rfl)) (hw _ (List.mem_of_getElem? (i := 3) rfl)) (hw _ (List.mem_of_getElem? (i := 140) rfl)) (by decide) (rm16 l Z a0 hw [] b710 (0 : Int32) (1 : Int32) ys yf ks kf (4 : Int32) [o0, (.int ((0 : Int32) + ((pl_end p1 (3 : Int32)) + (2 : Int32)))), (.int (((0 : Int32) + ((pl_end p1 (3 : Int32)) + (2 : Int32))) + ((pl_end p2 (3 : Int32)) + (2 : Int32)))), o0, o0, o0, o0, o0, o0, o0, o0, o0, o0, o0, o0, o0] [(.int (pl_end p1 (0 : Int32))), (.int (pl_end p1 (1 : Int32))), (.int (pl_end p1 (2 : Int32))), (.int (pl_end p1 (3 : Int32))), (.int (pl_end p2 (0 : Int32))), (.int (pl_end p2 (1 : Int32))), (.int (pl_end p2 (2 : Int32))), (.int (pl_end p2 (3 : Int32))), (.int (pl_end p3 (0 : Int32))), (.int (pl_end p3 (1 : Int32))), (.int (pl_end p3 (2 : Int32))), (.int (pl_end p3 (3 : Int32))), o0, o0, o0, o0, o0, o0, o0, o0, o0, o0, o0, o0, o0, o0, o0, o0, o0, o0, o0, o0, o0, o0, o0, o0, o0, o0, o0, o0, o0, o0, o0, o0, o0, o0, o0, o0, o0, o0, o0, o0, o0, o0, o0, o0, o0, o0, o0, o0, o0, o0, o0, o0] (0 : Int32) (pl_end p1 (0 : Int32)) gj n0 Zj jf1 jf2 jf3 jV1 jV2 (by decide) rfl (fun _ => by decide) (fun _ => rfl)) 0 (by decide) (by decide) e717 (by rw [hml]; rfl) b710 jE [(.int (0 : Int32)), (.int (1 : Int32))] [] rfl (lenOf pd_8 rfl) rfl (Nat.le_of_eq rfl) (hb hby at_213) (by decide) (by decide) ?_
                rintro T718 _ L718 X718 ⟨rfl, N718q, e718⟩
                have N718 := Fr.app N717 N718q
                show own_R p e below s _ _ _ T718 (mkF m 216 #[.val (.int p0), .val (.int p1), .val (.int p2), .val (.int p3), .val (.int p4), .val (.int (4 : Int32)), .val (.int off), .val (.ref b709), .val (.ref b710), .val (.ref vw), .val (.int ((pl_end p1 (3 : Int32)) + (2 : Int32))), .val (.int ((pl_end p2 (3 : Int32)) + (2 : Int32))), .val (.int (0 : Int32)), .val (.int (1 : Int32)), .val (.int p1), .val (.int (0 : Int32)), .val (.int ((0 : Int32) + ((pl_end p1 (0 : Int32)) + (1 : Int32))))] [(.int (pl_fs (0 : Int32) (pl_end p1 (0 : Int32)) (1 : Int32)))])
                refine own_iload X718 hx (hb hby at_216) rfl ?_
                refine own_icmp X718 hx (hb hby at_218) (pc' := 225) (by decide) (by decide) (fun hc => ?_) (fun hc => ?_)
                · have hc218 : ¬ (pl_fs (0 : Int32) (pl_end p1 (0 : Int32)) (1 : Int32)) = ((0 : Int32) + ((pl_end p1 (0 : Int32)) + (1 : Int32))) := own_ne1 hc
                  exact absurd (by simp only [pl_fs, Int32.zero_add, if_true, if_false, show ((1 : Int32) = 0) = False from by decide]) hc218
                · have hc218 : (pl_fs (0 : Int32) (pl_end p1 (0 : Int32)) (1 : Int32)) = ((0 : Int32) + ((pl_end p1 (0 : Int32)) + (1 : Int32))) := own_ne0 hc
                  clear hc
                  refine own_iconst X718 hx (1 : Int32) (hb hby at_221) rfl ?_
                  refine own_goto X718 hx (hb hby at_222) (pc' := 226) (by decide) (by decide) ?_
                  show own_R p e below s _ _ _ T718 (mkF m 226 #[.val (.int p0), .val (.int p1), .val (.int p2), .val (.int p3), .val (.int p4), .val (.int (4 : Int32)), .val (.int off), .val (.ref b709), .val (.ref b710), .val (.ref vw), .val (.int ((pl_end p1 (3 : Int32)) + (2 : Int32))), .val (.int ((pl_end p2 (3 : Int32)) + (2 : Int32))), .val (.int (0 : Int32)), .val (.int (1 : Int32)), .val (.int p1), .val (.int (0 : Int32)), .val (.int ((0 : Int32) + ((pl_end p1 (0 : Int32)) + (1 : Int32))))] [(.int (1 : Int32))])
                  refine own_retN X718 hx (t := .boolean) Bd.returns (by simp) hlk (hb hby at_226) ?_ (by decide) (by decide)
                  exact ⟨rfl, N718⟩
              · have hc186 : (1 : Int32) = (0 : Int32) := own_ne0 hc
                exact absurd hc186 (by decide)
        ·
          show own_R p e below s _ _ _ Tj (mkF m 133 #[.val (.int p0), .val (.int p1), .val (.int p2), .val (.int p3), .val (.int p4), .val (.int (4 : Int32)), .val (.int off), .val (.ref b709), .val (.ref b710), .val (.ref vw), .val (.int ((pl_end p1 (3 : Int32)) + (2 : Int32))), .val (.int ((pl_end p2 (3 : Int32)) + (2 : Int32))), .val (.int (0 : Int32)), .val (.int (2 : Int32)), .unset, .unset, .unset] [])
          refine own_iload Xj hx (hb hby at_133) rfl ?_
          refine own_if Xj hx (hb hby at_135) (pc' := 142) (by decide) (by decide) (fun hc => ?_) (fun hc => ?_)
          · have hc135 : ¬ (0 : Int32) = (0 : Int32) := own_ne1 hc
            exact absurd (by decide) hc135
          · have hc135 : (0 : Int32) = (0 : Int32) := own_ne0 hc
            clear hc
            refine own_iloadN Xj hx (hb hby at_138) rfl ?_
            refine own_goto Xj hx (hb hby at_139) (pc' := 153) (by decide) (by decide) ?_
            show own_R p e below s _ _ _ Tj (mkF m 153 #[.val (.int p0), .val (.int p1), .val (.int p2), .val (.int p3), .val (.int p4), .val (.int (4 : Int32)), .val (.int off), .val (.ref b709), .val (.ref b710), .val (.ref vw), .val (.int ((pl_end p1 (3 : Int32)) + (2 : Int32))), .val (.int ((pl_end p2 (3 : Int32)) + (2 : Int32))), .val (.int (0 : Int32)), .val (.int (2 : Int32)), .unset, .unset, .unset] [(.int p1)])
            refine own_istore Xj hx (hb hby at_153) (l' := #[.val (.int p0), .val (.int p1), .val (.int p2), .val (.int p3), .val (.int p4), .val (.int (4 : Int32)), .val (.int off), .val (.ref b709), .val (.ref b710), .val (.ref vw), .val (.int ((pl_end p1 (3 : Int32)) + (2 : Int32))), .val (.int ((pl_end p2 (3 : Int32)) + (2 : Int32))), .val (.int (0 : Int32)), .val (.int (2 : Int32)), .val (.int p1), .unset, .unset]) rfl ?_
            refine own_iload Xj hx (hb hby at_155) rfl ?_
            refine own_if Xj hx (hb hby at_157) (pc' := 164) (by decide) (by decide) (fun hc => ?_) (fun hc => ?_)
            · have hc157 : ¬ (0 : Int32) = (0 : Int32) := own_ne1 hc
              exact absurd (by decide) hc157
            · have hc157 : (0 : Int32) = (0 : Int32) := own_ne0 hc
              clear hc
              refine own_iconst Xj hx (0 : Int32) (hb hby at_160) rfl ?_
              refine own_goto Xj hx (hb hby at_161) (pc' := 180) (by decide) (by decide) ?_
              show own_R p e below s _ _ _ Tj (mkF m 180 #[.val (.int p0), .val (.int p1), .val (.int p2), .val (.int p3), .val (.int p4), .val (.int (4 : Int32)), .val (.int off), .val (.ref b709), .val (.ref b710), .val (.ref vw), .val (.int ((pl_end p1 (3 : Int32)) + (2 : Int32))), .val (.int ((pl_end p2 (3 : Int32)) + (2 : Int32))), .val (.int (0 : Int32)), .val (.int (2 : Int32)), .val (.int p1), .unset, .unset] [(.int (0 : Int32))])
              refine own_istore Xj hx (hb hby at_180) (l' := #[.val (.int p0), .val (.int p1), .val (.int p2), .val (.int p3), .val (.int p4), .val (.int (4 : Int32)), .val (.int off), .val (.ref b709), .val (.ref b710), .val (.ref vw), .val (.int ((pl_end p1 (3 : Int32)) + (2 : Int32))), .val (.int ((pl_end p2 (3 : Int32)) + (2 : Int32))), .val (.int (0 : Int32)), .val (.int (2 : Int32)), .val (.int p1), .val (.int (0 : Int32)), .unset]) rfl ?_
              refine own_iload Xj hx (hb hby at_182) rfl ?_
              refine own_iload Xj hx (hb hby at_184) rfl ?_
              refine own_if Xj hx (hb hby at_186) (pc' := 193) (by decide) (by decide) (fun hc => ?_) (fun hc => ?_)
              · have hc186 : ¬ (2 : Int32) = (0 : Int32) := own_ne1 hc
                clear hc
                refine own_iload Xj hx (hb hby at_193) rfl ?_
                refine own_iload Xj hx (hb hby at_195) rfl ?_
                refine own_iconst Xj hx (1 : Int32) (hb hby at_197) rfl ?_
                refine own_isub Xj hx (hb hby at_198) ?_
                refine own_callS Xj hx hZ (y := my9) hown (hw _ (List.mem_of_getElem? (i := 95) rfl)) (hw _ (List.mem_of_getElem? (i := 96) rfl)) (hw _ (List.mem_of_getElem? (i := 93) rfl)) (hw _ (List.mem_of_getElem? (i := 97) rfl)) (by decide) (rm9 l Z a0 hw [] p1 (1 : Int32) gj n0 Zj) 1 (by decide) (by decide) ej (by rw [hml]; rfl) [(.int p1), (.int (1 : Int32))] [(.int (0 : Int32))] rfl (lenOf pd_8 rfl) rfl (Nat.le_of_eq rfl) (hb hby at_199) (by decide) (by decide) ?_
                rintro T719 _ L719 X719 ⟨rfl, N719q, e719⟩
                have N719 := Fr.app Nj N719q
                show own_R p e below s _ _ _ T719 (mkF m 202 #[.val (.int p0), .val (.int p1), .val (.int p2), .val (.int p3), .val (.int p4), .val (.int (4 : Int32)), .val (.int off), .val (.ref b709), .val (.ref b710), .val (.ref vw), .val (.int ((pl_end p1 (3 : Int32)) + (2 : Int32))), .val (.int ((pl_end p2 (3 : Int32)) + (2 : Int32))), .val (.int (0 : Int32)), .val (.int (2 : Int32)), .val (.int p1), .val (.int (0 : Int32)), .unset] [(.int (pl_end p1 (1 : Int32))), (.int (0 : Int32))])
                refine own_iconst X719 hx (1 : Int32) (hb hby at_202) rfl ?_
                refine own_iadd X719 hx (hb hby at_203) ?_
                refine own_iadd X719 hx (hb hby at_204) ?_
                refine own_istore X719 hx (hb hby at_205) (l' := #[.val (.int p0), .val (.int p1), .val (.int p2), .val (.int p3), .val (.int p4), .val (.int (4 : Int32)), .val (.int off), .val (.ref b709), .val (.ref b710), .val (.ref vw), .val (.int ((pl_end p1 (3 : Int32)) + (2 : Int32))), .val (.int ((pl_end p2 (3 : Int32)) + (2 : Int32))), .val (.int (0 : Int32)), .val (.int (2 : Int32)), .val (.int p1), .val (.int (0 : Int32)), .val (.int ((0 : Int32) + ((pl_end p1 (1 : Int32)) + (1 : Int32))))]) rfl ?_
                refine own_aload X719 hx (hb hby at_207) rfl rfl ?_
                refine own_iload X719 hx (hb hby at_209) rfl ?_
                refine own_iload X719 hx (hb hby at_211) rfl ?_
                refine own_callV X719 hx hZ (y := my16) (z := my16) hown (hw _ (List.mem_of_getElem? (i := 136) rfl)) (hw _ (List.mem_of_getElem? (i := 137) rfl)) (notFace_of_selects (args := #[]) (mvT hZ (hw _ (List.mem_of_getElem? (i := 139) rfl)))) (hw _ (List.mem_of_getElem? (i := 139) rfl)) (hw _ (List.mem_of_getElem? (i := 138) rfl)) (hw _ (List.mem_of_getElem? (i := 3) rfl)) (hw _ (List.mem_of_getElem? (i := 140) rfl)) (by decide) (rm16 l Z a0 hw [] b710 (0 : Int32) (2 : Int32) ys yf ks kf (4 : Int32) [o0, (.int ((0 : Int32) + ((pl_end p1 (3 : Int32)) + (2 : Int32)))), (.int (((0 : Int32) + ((pl_end p1 (3 : Int32)) + (2 : Int32))) + ((pl_end p2 (3 : Int32)) + (2 : Int32)))), o0, o0, o0, o0, o0, o0, o0, o0, o0, o0, o0, o0, o0] [(.int (pl_end p1 (0 : Int32))), (.int (pl_end p1 (1 : Int32))), (.int (pl_end p1 (2 : Int32))), (.int (pl_end p1 (3 : Int32))), (.int (pl_end p2 (0 : Int32))), (.int (pl_end p2 (1 : Int32))), (.int (pl_end p2 (2 : Int32))), (.int (pl_end p2 (3 : Int32))), (.int (pl_end p3 (0 : Int32))), (.int (pl_end p3 (1 : Int32))), (.int (pl_end p3 (2 : Int32))), (.int (pl_end p3 (3 : Int32))), o0, o0, o0, o0, o0, o0, o0, o0, o0, o0, o0, o0, o0, o0, o0, o0, o0, o0, o0, o0, o0, o0, o0, o0, o0, o0, o0, o0, o0, o0, o0, o0, o0, o0, o0, o0, o0, o0, o0, o0, o0, o0, o0, o0, o0, o0, o0, o0, o0, o0, o0, o0] (0 : Int32) (pl_end p1 (1 : Int32)) gj n0 Zj jf1 jf2 jf3 jV1 jV2 (by decide) rfl (fun _ => by decide) (fun _ => rfl)) 0 (by decide) (by decide) e719 (by rw [hml]; rfl) b710 jE [(.int (0 : Int32)), (.int (2 : Int32))] [] rfl (lenOf pd_8 rfl) rfl (Nat.le_of_eq rfl) (hb hby at_213) (by decide) (by decide) ?_
                rintro T720 _ L720 X720 ⟨rfl, N720q, e720⟩
                have N720 := Fr.app N719 N720q
                show own_R p e below s _ _ _ T720 (mkF m 216 #[.val (.int p0), .val (.int p1), .val (.int p2), .val (.int p3), .val (.int p4), .val (.int (4 : Int32)), .val (.int off), .val (.ref b709), .val (.ref b710), .val (.ref vw), .val (.int ((pl_end p1 (3 : Int32)) + (2 : Int32))), .val (.int ((pl_end p2 (3 : Int32)) + (2 : Int32))), .val (.int (0 : Int32)), .val (.int (2 : Int32)), .val (.int p1), .val (.int (0 : Int32)), .val (.int ((0 : Int32) + ((pl_end p1 (1 : Int32)) + (1 : Int32))))] [(.int (pl_fs (0 : Int32) (pl_end p1 (1 : Int32)) (2 : Int32)))])
                refine own_iload X720 hx (hb hby at_216) rfl ?_
                refine own_icmp X720 hx (hb hby at_218) (pc' := 225) (by decide) (by decide) (fun hc => ?_) (fun hc => ?_)
                · have hc218 : ¬ (pl_fs (0 : Int32) (pl_end p1 (1 : Int32)) (2 : Int32)) = ((0 : Int32) + ((pl_end p1 (1 : Int32)) + (1 : Int32))) := own_ne1 hc
                  exact absurd (by simp only [pl_fs, Int32.zero_add, if_true, if_false, show ((2 : Int32) = 0) = False from by decide]) hc218
                · have hc218 : (pl_fs (0 : Int32) (pl_end p1 (1 : Int32)) (2 : Int32)) = ((0 : Int32) + ((pl_end p1 (1 : Int32)) + (1 : Int32))) := own_ne0 hc
                  clear hc
                  refine own_iconst X720 hx (1 : Int32) (hb hby at_221) rfl ?_
                  refine own_goto X720 hx (hb hby at_222) (pc' := 226) (by decide) (by decide) ?_
                  show own_R p e below s _ _ _ T720 (mkF m 226 #[.val (.int p0), .val (.int p1), .val (.int p2), .val (.int p3), .val (.int p4), .val (.int (4 : Int32)), .val (.int off), .val (.ref b709), .val (.ref b710), .val (.ref vw), .val (.int ((pl_end p1 (3 : Int32)) + (2 : Int32))), .val (.int ((pl_end p2 (3 : Int32)) + (2 : Int32))), .val (.int (0 : Int32)), .val (.int (2 : Int32)), .val (.int p1), .val (.int (0 : Int32)), .val (.int ((0 : Int32) + ((pl_end p1 (1 : Int32)) + (1 : Int32))))] [(.int (1 : Int32))])
                  refine own_retN X720 hx (t := .boolean) Bd.returns (by simp) hlk (hb hby at_226) ?_ (by decide) (by decide)
                  exact ⟨rfl, N720⟩
              · have hc186 : (2 : Int32) = (0 : Int32) := own_ne0 hc
                exact absurd hc186 (by decide)
        ·
          show own_R p e below s _ _ _ Tj (mkF m 133 #[.val (.int p0), .val (.int p1), .val (.int p2), .val (.int p3), .val (.int p4), .val (.int (4 : Int32)), .val (.int off), .val (.ref b709), .val (.ref b710), .val (.ref vw), .val (.int ((pl_end p1 (3 : Int32)) + (2 : Int32))), .val (.int ((pl_end p2 (3 : Int32)) + (2 : Int32))), .val (.int (0 : Int32)), .val (.int (3 : Int32)), .unset, .unset, .unset] [])
          refine own_iload Xj hx (hb hby at_133) rfl ?_
          refine own_if Xj hx (hb hby at_135) (pc' := 142) (by decide) (by decide) (fun hc => ?_) (fun hc => ?_)
          · have hc135 : ¬ (0 : Int32) = (0 : Int32) := own_ne1 hc
            exact absurd (by decide) hc135
          · have hc135 : (0 : Int32) = (0 : Int32) := own_ne0 hc
            clear hc
            refine own_iloadN Xj hx (hb hby at_138) rfl ?_
            refine own_goto Xj hx (hb hby at_139) (pc' := 153) (by decide) (by decide) ?_
            show own_R p e below s _ _ _ Tj (mkF m 153 #[.val (.int p0), .val (.int p1), .val (.int p2), .val (.int p3), .val (.int p4), .val (.int (4 : Int32)), .val (.int off), .val (.ref b709), .val (.ref b710), .val (.ref vw), .val (.int ((pl_end p1 (3 : Int32)) + (2 : Int32))), .val (.int ((pl_end p2 (3 : Int32)) + (2 : Int32))), .val (.int (0 : Int32)), .val (.int (3 : Int32)), .unset, .unset, .unset] [(.int p1)])
            refine own_istore Xj hx (hb hby at_153) (l' := #[.val (.int p0), .val (.int p1), .val (.int p2), .val (.int p3), .val (.int p4), .val (.int (4 : Int32)), .val (.int off), .val (.ref b709), .val (.ref b710), .val (.ref vw), .val (.int ((pl_end p1 (3 : Int32)) + (2 : Int32))), .val (.int ((pl_end p2 (3 : Int32)) + (2 : Int32))), .val (.int (0 : Int32)), .val (.int (3 : Int32)), .val (.int p1), .unset, .unset]) rfl ?_
            refine own_iload Xj hx (hb hby at_155) rfl ?_
            refine own_if Xj hx (hb hby at_157) (pc' := 164) (by decide) (by decide) (fun hc => ?_) (fun hc => ?_)
            · have hc157 : ¬ (0 : Int32) = (0 : Int32) := own_ne1 hc
              exact absurd (by decide) hc157
            · have hc157 : (0 : Int32) = (0 : Int32) := own_ne0 hc
              clear hc
              refine own_iconst Xj hx (0 : Int32) (hb hby at_160) rfl ?_
              refine own_goto Xj hx (hb hby at_161) (pc' := 180) (by decide) (by decide) ?_
              show own_R p e below s _ _ _ Tj (mkF m 180 #[.val (.int p0), .val (.int p1), .val (.int p2), .val (.int p3), .val (.int p4), .val (.int (4 : Int32)), .val (.int off), .val (.ref b709), .val (.ref b710), .val (.ref vw), .val (.int ((pl_end p1 (3 : Int32)) + (2 : Int32))), .val (.int ((pl_end p2 (3 : Int32)) + (2 : Int32))), .val (.int (0 : Int32)), .val (.int (3 : Int32)), .val (.int p1), .unset, .unset] [(.int (0 : Int32))])
              refine own_istore Xj hx (hb hby at_180) (l' := #[.val (.int p0), .val (.int p1), .val (.int p2), .val (.int p3), .val (.int p4), .val (.int (4 : Int32)), .val (.int off), .val (.ref b709), .val (.ref b710), .val (.ref vw), .val (.int ((pl_end p1 (3 : Int32)) + (2 : Int32))), .val (.int ((pl_end p2 (3 : Int32)) + (2 : Int32))), .val (.int (0 : Int32)), .val (.int (3 : Int32)), .val (.int p1), .val (.int (0 : Int32)), .unset]) rfl ?_
              refine own_iload Xj hx (hb hby at_182) rfl ?_
              refine own_iload Xj hx (hb hby at_184) rfl ?_
              refine own_if Xj hx (hb hby at_186) (pc' := 193) (by decide) (by decide) (fun hc => ?_) (fun hc => ?_)
              · have hc186 : ¬ (3 : Int32) = (0 : Int32) := own_ne1 hc
                clear hc
                refine own_iload Xj hx (hb hby at_193) rfl ?_
                refine own_iload Xj hx (hb hby at_195) rfl ?_
                refine own_iconst Xj hx (1 : Int32) (hb hby at_197) rfl ?_
                refine own_isub Xj hx (hb hby at_198) ?_
                refine own_callS Xj hx hZ (y := my9) hown (hw _ (List.mem_of_getElem? (i := 95) rfl)) (hw _ (List.mem_of_getElem? (i := 96) rfl)) (hw _ (List.mem_of_getElem? (i := 93) rfl)) (hw _ (List.mem_of_getElem? (i := 97) rfl)) (by decide) (rm9 l Z a0 hw [] p1 (2 : Int32) gj n0 Zj) 1 (by decide) (by decide) ej (by rw [hml]; rfl) [(.int p1), (.int (2 : Int32))] [(.int (0 : Int32))] rfl (lenOf pd_8 rfl) rfl (Nat.le_of_eq rfl) (hb hby at_199) (by decide) (by decide) ?_
                rintro T721 _ L721 X721 ⟨rfl, N721q, e721⟩
                have N721 := Fr.app Nj N721q
                show own_R p e below s _ _ _ T721 (mkF m 202 #[.val (.int p0), .val (.int p1), .val (.int p2), .val (.int p3), .val (.int p4), .val (.int (4 : Int32)), .val (.int off), .val (.ref b709), .val (.ref b710), .val (.ref vw), .val (.int ((pl_end p1 (3 : Int32)) + (2 : Int32))), .val (.int ((pl_end p2 (3 : Int32)) + (2 : Int32))), .val (.int (0 : Int32)), .val (.int (3 : Int32)), .val (.int p1), .val (.int (0 : Int32)), .unset] [(.int (pl_end p1 (2 : Int32))), (.int (0 : Int32))])
                refine own_iconst X721 hx (1 : Int32) (hb hby at_202) rfl ?_
                refine own_iadd X721 hx (hb hby at_203) ?_
                refine own_iadd X721 hx (hb hby at_204) ?_
                refine own_istore X721 hx (hb hby at_205) (l' := #[.val (.int p0), .val (.int p1), .val (.int p2), .val (.int p3), .val (.int p4), .val (.int (4 : Int32)), .val (.int off), .val (.ref b709), .val (.ref b710), .val (.ref vw), .val (.int ((pl_end p1 (3 : Int32)) + (2 : Int32))), .val (.int ((pl_end p2 (3 : Int32)) + (2 : Int32))), .val (.int (0 : Int32)), .val (.int (3 : Int32)), .val (.int p1), .val (.int (0 : Int32)), .val (.int ((0 : Int32) + ((pl_end p1 (2 : Int32)) + (1 : Int32))))]) rfl ?_
                refine own_aload X721 hx (hb hby at_207) rfl rfl ?_
                refine own_iload X721 hx (hb hby at_209) rfl ?_
                refine own_iload X721 hx (hb hby at_211) rfl ?_
                refine own_callV X721 hx hZ (y := my16) (z := my16) hown (hw _ (List.mem_of_getElem? (i := 136) rfl)) (hw _ (List.mem_of_getElem? (i := 137) rfl)) (notFace_of_selects (args := #[]) (mvT hZ (hw _ (List.mem_of_getElem? (i := 139) rfl)))) (hw _ (List.mem_of_getElem? (i := 139) rfl)) (hw _ (List.mem_of_getElem? (i := 138) rfl)) (hw _ (List.mem_of_getElem? (i := 3) rfl)) (hw _ (List.mem_of_getElem? (i := 140) rfl)) (by decide) (rm16 l Z a0 hw [] b710 (0 : Int32) (3 : Int32) ys yf ks kf (4 : Int32) [o0, (.int ((0 : Int32) + ((pl_end p1 (3 : Int32)) + (2 : Int32)))), (.int (((0 : Int32) + ((pl_end p1 (3 : Int32)) + (2 : Int32))) + ((pl_end p2 (3 : Int32)) + (2 : Int32)))), o0, o0, o0, o0, o0, o0, o0, o0, o0, o0, o0, o0, o0] [(.int (pl_end p1 (0 : Int32))), (.int (pl_end p1 (1 : Int32))), (.int (pl_end p1 (2 : Int32))), (.int (pl_end p1 (3 : Int32))), (.int (pl_end p2 (0 : Int32))), (.int (pl_end p2 (1 : Int32))), (.int (pl_end p2 (2 : Int32))), (.int (pl_end p2 (3 : Int32))), (.int (pl_end p3 (0 : Int32))), (.int (pl_end p3 (1 : Int32))), (.int (pl_end p3 (2 : Int32))), (.int (pl_end p3 (3 : Int32))), o0, o0, o0, o0, o0, o0, o0, o0, o0, o0, o0, o0, o0, o0, o0, o0, o0, o0, o0, o0, o0, o0, o0, o0, o0, o0, o0, o0, o0, o0, o0, o0, o0, o0, o0, o0, o0, o0, o0, o0, o0, o0, o0, o0, o0, o0, o0, o0, o0, o0, o0, o0] (0 : Int32) (pl_end p1 (2 : Int32)) gj n0 Zj jf1 jf2 jf3 jV1 jV2 (by decide) rfl (fun _ => by decide) (fun _ => rfl)) 0 (by decide) (by decide) e721 (by rw [hml]; rfl) b710 jE [(.int (0 : Int32)), (.int (3 : Int32))] [] rfl (lenOf pd_8 rfl) rfl (Nat.le_of_eq rfl) (hb hby at_213) (by decide) (by decide) ?_
                rintro T722 _ L722 X722 ⟨rfl, N722q, e722⟩
                have N722 := Fr.app N721 N722q
                show own_R p e below s _ _ _ T722 (mkF m 216 #[.val (.int p0), .val (.int p1), .val (.int p2), .val (.int p3), .val (.int p4), .val (.int (4 : Int32)), .val (.int off), .val (.ref b709), .val (.ref b710), .val (.ref vw), .val (.int ((pl_end p1 (3 : Int32)) + (2 : Int32))), .val (.int ((pl_end p2 (3 : Int32)) + (2 : Int32))), .val (.int (0 : Int32)), .val (.int (3 : Int32)), .val (.int p1), .val (.int (0 : Int32)), .val (.int ((0 : Int32) + ((pl_end p1 (2 : Int32)) + (1 : Int32))))] [(.int (pl_fs (0 : Int32) (pl_end p1 (2 : Int32)) (3 : Int32)))])
                refine own_iload X722 hx (hb hby at_216) rfl ?_
                refine own_icmp X722 hx (hb hby at_218) (pc' := 225) (by decide) (by decide) (fun hc => ?_) (fun hc => ?_)
                · have hc218 : ¬ (pl_fs (0 : Int32) (pl_end p1 (2 : Int32)) (3 : Int32)) = ((0 : Int32) + ((pl_end p1 (2 : Int32)) + (1 : Int32))) := own_ne1 hc
                  exact absurd (by simp only [pl_fs, Int32.zero_add, if_true, if_false, show ((3 : Int32) = 0) = False from by decide]) hc218
                · have hc218 : (pl_fs (0 : Int32) (pl_end p1 (2 : Int32)) (3 : Int32)) = ((0 : Int32) + ((pl_end p1 (2 : Int32)) + (1 : Int32))) := own_ne0 hc
                  clear hc
                  refine own_iconst X722 hx (1 : Int32) (hb hby at_221) rfl ?_
                  refine own_goto X722 hx (hb hby at_222) (pc' := 226) (by decide) (by decide) ?_
                  show own_R p e below s _ _ _ T722 (mkF m 226 #[.val (.int p0), .val (.int p1), .val (.int p2), .val (.int p3), .val (.int p4), .val (.int (4 : Int32)), .val (.int off), .val (.ref b709), .val (.ref b710), .val (.ref vw), .val (.int ((pl_end p1 (3 : Int32)) + (2 : Int32))), .val (.int ((pl_end p2 (3 : Int32)) + (2 : Int32))), .val (.int (0 : Int32)), .val (.int (3 : Int32)), .val (.int p1), .val (.int (0 : Int32)), .val (.int ((0 : Int32) + ((pl_end p1 (2 : Int32)) + (1 : Int32))))] [(.int (1 : Int32))])
                  refine own_retN X722 hx (t := .boolean) Bd.returns (by simp) hlk (hb hby at_226) ?_ (by decide) (by decide)
                  exact ⟨rfl, N722⟩
              · have hc186 : (3 : Int32) = (0 : Int32) := own_ne0 hc
                exact absurd hc186 (by decide)
      ·
        rcases hcl4 with rfl | rfl | rfl | rfl
        ·
          show own_R p e below s _ _ _ Tj (mkF m 133 #[.val (.int p0), .val (.int p1), .val (.int p2), .val (.int p3), .val (.int p4), .val (.int (4 : Int32)), .val (.int off), .val (.ref b709), .val (.ref b710), .val (.ref vw), .val (.int ((pl_end p1 (3 : Int32)) + (2 : Int32))), .val (.int ((pl_end p2 (3 : Int32)) + (2 : Int32))), .val (.int (1 : Int32)), .val (.int (0 : Int32)), .unset, .unset, .unset] [])
          refine own_iload Xj hx (hb hby at_133) rfl ?_
          refine own_if Xj hx (hb hby at_135) (pc' := 142) (by decide) (by decide) (fun hc => ?_) (fun hc => ?_)
          · have hc135 : ¬ (1 : Int32) = (0 : Int32) := own_ne1 hc
            clear hc
            refine own_iload Xj hx (hb hby at_142) rfl ?_
            refine own_iconst Xj hx (1 : Int32) (hb hby at_144) rfl ?_
            refine own_icmp Xj hx (hb hby at_145) (pc' := 152) (by decide) (by decide) (fun hc => ?_) (fun hc => ?_)
            · have hc145 : ¬ (1 : Int32) = (1 : Int32) := own_ne1 hc
              exact absurd (by decide) hc145
            · have hc145 : (1 : Int32) = (1 : Int32) := own_ne0 hc
              clear hc
              refine own_iloadN Xj hx (hb hby at_148) rfl ?_
              refine own_goto Xj hx (hb hby at_149) (pc' := 153) (by decide) (by decide) ?_
              show own_R p e below s _ _ _ Tj (mkF m 153 #[.val (.int p0), .val (.int p1), .val (.int p2), .val (.int p3), .val (.int p4), .val (.int (4 : Int32)), .val (.int off), .val (.ref b709), .val (.ref b710), .val (.ref vw), .val (.int ((pl_end p1 (3 : Int32)) + (2 : Int32))), .val (.int ((pl_end p2 (3 : Int32)) + (2 : Int32))), .val (.int (1 : Int32)), .val (.int (0 : Int32)), .unset, .unset, .unset] [(.int p2)])
              refine own_istore Xj hx (hb hby at_153) (l' := #[.val (.int p0), .val (.int p1), .val (.int p2), .val (.int p3), .val (.int p4), .val (.int (4 : Int32)), .val (.int off), .val (.ref b709), .val (.ref b710), .val (.ref vw), .val (.int ((pl_end p1 (3 : Int32)) + (2 : Int32))), .val (.int ((pl_end p2 (3 : Int32)) + (2 : Int32))), .val (.int (1 : Int32)), .val (.int (0 : Int32)), .val (.int p2), .unset, .unset]) rfl ?_
              refine own_iload Xj hx (hb hby at_155) rfl ?_
              refine own_if Xj hx (hb hby at_157) (pc' := 164) (by decide) (by decide) (fun hc => ?_) (fun hc => ?_)
              · have hc157 : ¬ (1 : Int32) = (0 : Int32) := own_ne1 hc
                clear hc
                refine own_iload Xj hx (hb hby at_164) rfl ?_
                refine own_iconst Xj hx (1 : Int32) (hb hby at_166) rfl ?_
                refine own_icmp Xj hx (hb hby at_167) (pc' := 175) (by decide) (by decide) (fun hc => ?_) (fun hc => ?_)
                · have hc167 : ¬ (1 : Int32) = (1 : Int32) := own_ne1 hc
                  exact absurd (by decide) hc167
                · have hc167 : (1 : Int32) = (1 : Int32) := own_ne0 hc
                  clear hc
                  refine own_iload Xj hx (hb hby at_170) rfl ?_
                  refine own_goto Xj hx (hb hby at_172) (pc' := 180) (by decide) (by decide) ?_
                  show own_R p e below s _ _ _ Tj (mkF m 180 #[.val (.int p0), .val (.int p1), .val (.int p2), .val (.int p3), .val (.int p4), .val (.int (4 : Int32)), .val (.int off), .val (.ref b709), .val (.ref b710), .val (.ref vw), .val (.int ((pl_end p1 (3 : Int32)) + (2 : Int32))), .val (.int ((pl_end p2 (3 : Int32)) + (2 : Int32))), .val (.int (1 : Int32)), .val (.int (0 : Int32)), .val (.int p2), .unset, .unset] [(.int ((pl_end p1 (3 : Int32)) + (2 : Int32)))])
                  refine own_istore Xj hx (hb hby at_180) (l' := #[.val (.int p0), .val (.int p1), .val (.int p2), .val (.int p3), .val (.int p4), .val (.int (4 : Int32)), .val (.int off), .val (.ref b709), .val (.ref b710), .val (.ref vw), .val (.int ((pl_end p1 (3 : Int32)) + (2 : Int32))), .val (.int ((pl_end p2 (3 : Int32)) + (2 : Int32))), .val (.int (1 : Int32)), .val (.int (0 : Int32)), .val (.int p2), .val (.int ((pl_end p1 (3 : Int32)) + (2 : Int32))), .unset]) rfl ?_
                  refine own_iload Xj hx (hb hby at_182) rfl ?_
                  refine own_iload Xj hx (hb hby at_184) rfl ?_
                  refine own_if Xj hx (hb hby at_186) (pc' := 193) (by decide) (by decide) (fun hc => ?_) (fun hc => ?_)
                  · have hc186 : ¬ (0 : Int32) = (0 : Int32) := own_ne1 hc
                    exact absurd (by decide) hc186
                  · have hc186 : (0 : Int32) = (0 : Int32) := own_ne0 hc
                    clear hc
                    refine own_iconst Xj hx (0 : Int32) (hb hby at_189) rfl ?_
                    refine own_goto Xj hx (hb hby at_190) (pc' := 204) (by decide) (by decide) ?_
                    show own_R p e below s _ _ _ Tj (mkF m 204 #[.val (.int p0), .val (.int p1), .val (.int p2), .val (.int p3), .val (.int p4), .val (.int (4 : Int32)), .val (.int off), .val (.ref b709), .val (.ref b710), .val (.ref vw), .val (.int ((pl_end p1 (3 : Int32)) + (2 : Int32))), .val (.int ((pl_end p2 (3 : Int32)) + (2 : Int32))), .val (.int (1 : Int32)), .val (.int (0 : Int32)), .val (.int p2), .val (.int ((pl_end p1 (3 : Int32)) + (2 : Int32))), .unset] [(.int (0 : Int32)), (.int ((pl_end p1 (3 : Int32)) + (2 : Int32)))])
                    refine own_iadd Xj hx (hb hby at_204) ?_
                    refine own_istore Xj hx (hb hby at_205) (l' := #[.val (.int p0), .val (.int p1), .val (.int p2), .val (.int p3), .val (.int p4), .val (.int (4 : Int32)), .val (.int off), .val (.ref b709), .val (.ref b710), .val (.ref vw), .val (.int ((pl_end p1 (3 : Int32)) + (2 : Int32))), .val (.int ((pl_end p2 (3 : Int32)) + (2 : Int32))), .val (.int (1 : Int32)), .val (.int (0 : Int32)), .val (.int p2), .val (.int ((pl_end p1 (3 : Int32)) + (2 : Int32))), .val (.int (((pl_end p1 (3 : Int32)) + (2 : Int32)) + (0 : Int32)))]) rfl ?_
                    refine own_aload Xj hx (hb hby at_207) rfl rfl ?_
                    refine own_iload Xj hx (hb hby at_209) rfl ?_
                    refine own_iload Xj hx (hb hby at_211) rfl ?_
                    refine own_callV Xj hx hZ (y := my16) (z := my16) hown (hw _ (List.mem_of_getElem? (i := 136) rfl)) (hw _ (List.mem_of_getElem? (i := 137) rfl)) (notFace_of_selects (args := #[]) (mvT hZ (hw _ (List.mem_of_getElem? (i := 139) rfl)))) (hw _ (List.mem_of_getElem? (i := 139) rfl)) (hw _ (List.mem_of_getElem? (i := 138) rfl)) (hw _ (List.mem_of_getElem? (i := 3) rfl)) (hw _ (List.mem_of_getElem? (i := 140) rfl)) (by decide) (rm16 l Z a0 hw [] b710 (1 : Int32) (0 : Int32) ys yf ks kf (4 : Int32) [o0, (.int ((0 : Int32) + ((pl_end p1 (3 : Int32)) + (2 : Int32)))), (.int (((0 : Int32) + ((pl_end p1 (3 : Int32)) + (2 : Int32))) + ((pl_end p2 (3 : Int32)) + (2 : Int32)))), o0, o0, o0, o0, o0, o0, o0, o0, o0, o0, o0, o0, o0] [(.int (pl_end p1 (0 : Int32))), (.int (pl_end p1 (1 : Int32))), (.int (pl_end p1 (2 : Int32))), (.int (pl_end p1 (3 : Int32))), (.int (pl_end p2 (0 : Int32))), (.int (pl_end p2 (1 : Int32))), (.int (pl_end p2 (2 : Int32))), (.int (pl_end p2 (3 : Int32))), (.int (pl_end p3 (0 : Int32))), (.int (pl_end p3 (1 : Int32))), (.int (pl_end p3 (2 : Int32))), (.int (pl_end p3 (3 : Int32))), o0, o0, o0, o0, o0, o0, o0, o0, o0, o0, o0, o0, o0, o0, o0, o0, o0, o0, o0, o0, o0, o0, o0, o0, o0, o0, o0, o0, o0, o0, o0, o0, o0, o0, o0, o0, o0, o0, o0, o0, o0, o0, o0, o0, o0, o0, o0, o0, o0, o0, o0, o0] ((0 : Int32) + ((pl_end p1 (3 : Int32)) + (2 : Int32))) (0 : Int32) gj n0 Zj jf1 jf2 jf3 jV1 jV2 (by decide) rfl (fun q => absurd rfl q) (fun q => absurd rfl q)) 0 (by decide) (by decide) ej (by rw [hml]; rfl) b710 jE [(.int (1 : Int32)), (.int (0 : Int32))] [] rfl (lenOf pd_8 rfl) rfl (Nat.le_of_eq rfl) (hb hby at_213) (by decide) (by decide) ?_
                    rintro T723 _ L723 X723 ⟨rfl, N723q, e723⟩
                    have N723 := Fr.app Nj N723q
                    show own_R p e below s _ _ _ T723 (mkF m 216 #[.val (.int p0), .val (.int p1), .val (.int p2), .val (.int p3), .val (.int p4), .val (.int (4 : Int32)), .val (.int off), .val (.ref b709), .val (.ref b710), .val (.ref vw), .val (.int ((pl_end p1 (3 : Int32)) + (2 : Int32))), .val (.int ((pl_end p2 (3 : Int32)) + (2 : Int32))), .val (.int (1 : Int32)), .val (.int (0 : Int32)), .val (.int p2), .val (.int ((pl_end p1 (3 : Int32)) + (2 : Int32))), .val (.int (((pl_end p1 (3 : Int32)) + (2 : Int32)) + (0 : Int32)))] [(.int (pl_fs ((0 : Int32) + ((pl_end p1 (3 : Int32)) + (2 : Int32))) (0 : Int32) (0 : Int32)))])
                    refine own_iload X723 hx (hb hby at_216) rfl ?_
                    refine own_icmp X723 hx (hb hby at_218) (pc' := 225) (by decide) (by decide) (fun hc => ?_) (fun hc => ?_)
                    · have hc218 : ¬ (pl_fs ((0 : Int32) + ((pl_end p1 (3 : Int32)) + (2 : Int32))) (0 : Int32) (0 : Int32)) = (((pl_end p1 (3 : Int32)) + (2 : Int32)) + (0 : Int32)) := own_ne1 hc
                      exact absurd (by simp only [pl_fs, Int32.zero_add, if_true, if_false, show ((0 : Int32) = 0) = True from by decide]) hc218
                    · have hc218 : (pl_fs ((0 : Int32) + ((pl_end p1 (3 : Int32)) + (2 : Int32))) (0 : Int32) (0 : Int32)) = (((pl_end p1 (3 : Int32)) + (2 : Int32)) + (0 : Int32)) := own_ne0 hc
                      clear hc
                      refine own_iconst X723 hx (1 : Int32) (hb hby at_221) rfl ?_
                      refine own_goto X723 hx (hb hby at_222) (pc' := 226) (by decide) (by decide) ?_
                      show own_R p e below s _ _ _ T723 (mkF m 226 #[.val (.int p0), .val (.int p1), .val (.int p2), .val (.int p3), .val (.int p4), .val (.int (4 : Int32)), .val (.int off), .val (.ref b709), .val (.ref b710), .val (.ref vw), .val (.int ((pl_end p1 (3 : Int32)) + (2 : Int32))), .val (.int ((pl_end p2 (3 : Int32)) + (2 : Int32))), .val (.int (1 : Int32)), .val (.int (0 : Int32)), .val (.int p2), .val (.int ((pl_end p1 (3 : Int32)) + (2 : Int32))), .val (.int (((pl_end p1 (3 : Int32)) + (2 : Int32)) + (0 : Int32)))] [(.int (1 : Int32))])
                      refine own_retN X723 hx (t := .boolean) Bd.returns (by simp) hlk (hb hby at_226) ?_ (by decide) (by decide)
                      exact ⟨rfl, N723⟩
              · have hc157 : (1 : Int32) = (0 : Int32) := own_ne0 hc
                exact absurd hc157 (by decide)
          · have hc135 : (1 : Int32) = (0 : Int32) := own_ne0 hc
            exact absurd hc135 (by decide)
        ·
          show own_R p e below s _ _ _ Tj (mkF m 133 #[.val (.int p0), .val (.int p1), .val (.int p2), .val (.int p3), .val (.int p4), .val (.int (4 : Int32)), .val (.int off), .val (.ref b709), .val (.ref b710), .val (.ref vw), .val (.int ((pl_end p1 (3 : Int32)) + (2 : Int32))), .val (.int ((pl_end p2 (3 : Int32)) + (2 : Int32))), .val (.int (1 : Int32)), .val (.int (1 : Int32)), .unset, .unset, .unset] [])
          refine own_iload Xj hx (hb hby at_133) rfl ?_
          refine own_if Xj hx (hb hby at_135) (pc' := 142) (by decide) (by decide) (fun hc => ?_) (fun hc => ?_)
          · have hc135 : ¬ (1 : Int32) = (0 : Int32) := own_ne1 hc
            clear hc
            refine own_iload Xj hx (hb hby at_142) rfl ?_
            refine own_iconst Xj hx (1 : Int32) (hb hby at_144) rfl ?_
            refine own_icmp Xj hx (hb hby at_145) (pc' := 152) (by decide) (by decide) (fun hc => ?_) (fun hc => ?_)
            · have hc145 : ¬ (1 : Int32) = (1 : Int32) := own_ne1 hc
              exact absurd (by decide) hc145
            · have hc145 : (1 : Int32) = (1 : Int32) := own_ne0 hc
              clear hc
              refine own_iloadN Xj hx (hb hby at_148) rfl ?_
              refine own_goto Xj hx (hb hby at_149) (pc' := 153) (by decide) (by decide) ?_
              show own_R p e below s _ _ _ Tj (mkF m 153 #[.val (.int p0), .val (.int p1), .val (.int p2), .val (.int p3), .val (.int p4), .val (.int (4 : Int32)), .val (.int off), .val (.ref b709), .val (.ref b710), .val (.ref vw), .val (.int ((pl_end p1 (3 : Int32)) + (2 : Int32))), .val (.int ((pl_end p2 (3 : Int32)) + (2 : Int32))), .val (.int (1 : Int32)), .val (.int (1 : Int32)), .unset, .unset, .unset] [(.int p2)])
              refine own_istore Xj hx (hb hby at_153) (l' := #[.val (.int p0), .val (.int p1), .val (.int p2), .val (.int p3), .val (.int p4), .val (.int (4 : Int32)), .val (.int off), .val (.ref b709), .val (.ref b710), .val (.ref vw), .val (.int ((pl_end p1 (3 : Int32)) + (2 : Int32))), .val (.int ((pl_end p2 (3 : Int32)) + (2 : Int32))), .val (.int (1 : Int32)), .val (.int (1 : Int32)), .val (.int p2), .unset, .unset]) rfl ?_
              refine own_iload Xj hx (hb hby at_155) rfl ?_
              refine own_if Xj hx (hb hby at_157) (pc' := 164) (by decide) (by decide) (fun hc => ?_) (fun hc => ?_)
              · have hc157 : ¬ (1 : Int32) = (0 : Int32) := own_ne1 hc
                clear hc
                refine own_iload Xj hx (hb hby at_164) rfl ?_
                refine own_iconst Xj hx (1 : Int32) (hb hby at_166) rfl ?_
                refine own_icmp Xj hx (hb hby at_167) (pc' := 175) (by decide) (by decide) (fun hc => ?_) (fun hc => ?_)
                · have hc167 : ¬ (1 : Int32) = (1 : Int32) := own_ne1 hc
                  exact absurd (by decide) hc167
                · have hc167 : (1 : Int32) = (1 : Int32) := own_ne0 hc
                  clear hc
                  refine own_iload Xj hx (hb hby at_170) rfl ?_
                  refine own_goto Xj hx (hb hby at_172) (pc' := 180) (by decide) (by decide) ?_
                  show own_R p e below s _ _ _ Tj (mkF m 180 #[.val (.int p0), .val (.int p1), .val (.int p2), .val (.int p3), .val (.int p4), .val (.int (4 : Int32)), .val (.int off), .val (.ref b709), .val (.ref b710), .val (.ref vw), .val (.int ((pl_end p1 (3 : Int32)) + (2 : Int32))), .val (.int ((pl_end p2 (3 : Int32)) + (2 : Int32))), .val (.int (1 : Int32)), .val (.int (1 : Int32)), .val (.int p2), .unset, .unset] [(.int ((pl_end p1 (3 : Int32)) + (2 : Int32)))])
                  refine own_istore Xj hx (hb hby at_180) (l' := #[.val (.int p0), .val (.int p1), .val (.int p2), .val (.int p3), .val (.int p4), .val (.int (4 : Int32)), .val (.int off), .val (.ref b709), .val (.ref b710), .val (.ref vw), .val (.int ((pl_end p1 (3 : Int32)) + (2 : Int32))), .val (.int ((pl_end p2 (3 : Int32)) + (2 : Int32))), .val (.int (1 : Int32)), .val (.int (1 : Int32)), .val (.int p2), .val (.int ((pl_end p1 (3 : Int32)) + (2 : Int32))), .unset]) rfl ?_
                  refine own_iload Xj hx (hb hby at_182) rfl ?_
                  refine own_iload Xj hx (hb hby at_184) rfl ?_
                  refine own_if Xj hx (hb hby at_186) (pc' := 193) (by decide) (by decide) (fun hc => ?_) (fun hc => ?_)
                  · have hc186 : ¬ (1 : Int32) = (0 : Int32) := own_ne1 hc
                    clear hc
                    refine own_iload Xj hx (hb hby at_193) rfl ?_
                    refine own_iload Xj hx (hb hby at_195) rfl ?_
                    refine own_iconst Xj hx (1 : Int32) (hb hby at_197) rfl ?_
                    refine own_isub Xj hx (hb hby at_198) ?_
                    refine own_callS Xj hx hZ (y := my9) hown (hw _ (List.mem_of_getElem? (i := 95) rfl)) (hw _ (List.mem_of_getElem? (i := 96) rfl)) (hw _ (List.mem_of_getElem? (i := 93) rfl)) (hw _ (List.mem_of_getElem? (i := 97) rfl)) (by decide) (rm9 l Z a0 hw [] p2 (0 : Int32) gj n0 Zj) 1 (by decide) (by decide) ej (by rw [hml]; rfl) [(.int p2), (.int (0 : Int32))] [(.int ((pl_end p1 (3 : Int32)) + (2 : Int32)))] rfl (lenOf pd_8 rfl) rfl (Nat.le_of_eq rfl) (hb hby at_199) (by decide) (by decide) ?_
                    rintro T724 _ L724 X724 ⟨rfl, N724q, e724⟩
                    have N724 := Fr.app Nj N724q
                    show own_R p e below s _ _ _ T724 (mkF m 202 #[.val (.int p0), .val (.int p1), .val (.int p2), .val (.int p3), .val (.int p4), .val (.int (4 : Int32)), .val (.int off), .val (.ref b709), .val (.ref b710), .val (.ref vw), .val (.int ((pl_end p1 (3 : Int32)) + (2 : Int32))), .val (.int ((pl_end p2 (3 : Int32)) + (2 : Int32))), .val (.int (1 : Int32)), .val (.int (1 : Int32)), .val (.int p2), .val (.int ((pl_end p1 (3 : Int32)) + (2 : Int32))), .unset] [(.int (pl_end p2 (0 : Int32))), (.int ((pl_end p1 (3 : Int32)) + (2 : Int32)))])
                    refine own_iconst X724 hx (1 : Int32) (hb hby at_202) rfl ?_
                    refine own_iadd X724 hx (hb hby at_203) ?_
                    refine own_iadd X724 hx (hb hby at_204) ?_
                    refine own_istore X724 hx (hb hby at_205) (l' := #[.val (.int p0), .val (.int p1), .val (.int p2), .val (.int p3), .val (.int p4), .val (.int (4 : Int32)), .val (.int off), .val (.ref b709), .val (.ref b710), .val (.ref vw), .val (.int ((pl_end p1 (3 : Int32)) + (2 : Int32))), .val (.int ((pl_end p2 (3 : Int32)) + (2 : Int32))), .val (.int (1 : Int32)), .val (.int (1 : Int32)), .val (.int p2), .val (.int ((pl_end p1 (3 : Int32)) + (2 : Int32))), .val (.int (((pl_end p1 (3 : Int32)) + (2 : Int32)) + ((pl_end p2 (0 : Int32)) + (1 : Int32))))]) rfl ?_
                    refine own_aload X724 hx (hb hby at_207) rfl rfl ?_
                    refine own_iload X724 hx (hb hby at_209) rfl ?_
                    refine own_iload X724 hx (hb hby at_211) rfl ?_
                    refine own_callV X724 hx hZ (y := my16) (z := my16) hown (hw _ (List.mem_of_getElem? (i := 136) rfl)) (hw _ (List.mem_of_getElem? (i := 137) rfl)) (notFace_of_selects (args := #[]) (mvT hZ (hw _ (List.mem_of_getElem? (i := 139) rfl)))) (hw _ (List.mem_of_getElem? (i := 139) rfl)) (hw _ (List.mem_of_getElem? (i := 138) rfl)) (hw _ (List.mem_of_getElem? (i := 3) rfl)) (hw _ (List.mem_of_getElem? (i := 140) rfl)) (by decide) (rm16 l Z a0 hw [] b710 (1 : Int32) (1 : Int32) ys yf ks kf (4 : Int32) [o0, (.int ((0 : Int32) + ((pl_end p1 (3 : Int32)) + (2 : Int32)))), (.int (((0 : Int32) + ((pl_end p1 (3 : Int32)) + (2 : Int32))) + ((pl_end p2 (3 : Int32)) + (2 : Int32)))), o0, o0, o0, o0, o0, o0, o0, o0, o0, o0, o0, o0, o0] [(.int (pl_end p1 (0 : Int32))), (.int (pl_end p1 (1 : Int32))), (.int (pl_end p1 (2 : Int32))), (.int (pl_end p1 (3 : Int32))), (.int (pl_end p2 (0 : Int32))), (.int (pl_end p2 (1 : Int32))), (.int (pl_end p2 (2 : Int32))), (.int (pl_end p2 (3 : Int32))), (.int (pl_end p3 (0 : Int32))), (.int (pl_end p3 (1 : Int32))), (.int (pl_end p3 (2 : Int32))), (.int (pl_end p3 (3 : Int32))), o0, o0, o0, o0, o0, o0, o0, o0, o0, o0, o0, o0, o0, o0, o0, o0, o0, o0, o0, o0, o0, o0, o0, o0, o0, o0, o0, o0, o0, o0, o0, o0, o0, o0, o0, o0, o0, o0, o0, o0, o0, o0, o0, o0, o0, o0, o0, o0, o0, o0, o0, o0] ((0 : Int32) + ((pl_end p1 (3 : Int32)) + (2 : Int32))) (pl_end p2 (0 : Int32)) gj n0 Zj jf1 jf2 jf3 jV1 jV2 (by decide) rfl (fun _ => by decide) (fun _ => rfl)) 0 (by decide) (by decide) e724 (by rw [hml]; rfl) b710 jE [(.int (1 : Int32)), (.int (1 : Int32))] [] rfl (lenOf pd_8 rfl) rfl (Nat.le_of_eq rfl) (hb hby at_213) (by decide) (by decide) ?_
                    rintro T725 _ L725 X725 ⟨rfl, N725q, e725⟩
                    have N725 := Fr.app N724 N725q
                    show own_R p e below s _ _ _ T725 (mkF m 216 #[.val (.int p0), .val (.int p1), .val (.int p2), .val (.int p3), .val (.int p4), .val (.int (4 : Int32)), .val (.int off), .val (.ref b709), .val (.ref b710), .val (.ref vw), .val (.int ((pl_end p1 (3 : Int32)) + (2 : Int32))), .val (.int ((pl_end p2 (3 : Int32)) + (2 : Int32))), .val (.int (1 : Int32)), .val (.int (1 : Int32)), .val (.int p2), .val (.int ((pl_end p1 (3 : Int32)) + (2 : Int32))), .val (.int (((pl_end p1 (3 : Int32)) + (2 : Int32)) + ((pl_end p2 (0 : Int32)) + (1 : Int32))))] [(.int (pl_fs ((0 : Int32) + ((pl_end p1 (3 : Int32)) + (2 : Int32))) (pl_end p2 (0 : Int32)) (1 : Int32)))])
                    refine own_iload X725 hx (hb hby at_216) rfl ?_
                    refine own_icmp X725 hx (hb hby at_218) (pc' := 225) (by decide) (by decide) (fun hc => ?_) (fun hc => ?_)
                    · have hc218 : ¬ (pl_fs ((0 : Int32) + ((pl_end p1 (3 : Int32)) + (2 : Int32))) (pl_end p2 (0 : Int32)) (1 : Int32)) = (((pl_end p1 (3 : Int32)) + (2 : Int32)) + ((pl_end p2 (0 : Int32)) + (1 : Int32))) := own_ne1 hc
                      exact absurd (by simp only [pl_fs, Int32.zero_add, if_true, if_false, show ((1 : Int32) = 0) = False from by decide]) hc218
                    · have hc218 : (pl_fs ((0 : Int32) + ((pl_end p1 (3 : Int32)) + (2 : Int32))) (pl_end p2 (0 : Int32)) (1 : Int32)) = (((pl_end p1 (3 : Int32)) + (2 : Int32)) + ((pl_end p2 (0 : Int32)) + (1 : Int32))) := own_ne0 hc
                      clear hc
                      refine own_iconst X725 hx (1 : Int32) (hb hby at_221) rfl ?_
                      refine own_goto X725 hx (hb hby at_222) (pc' := 226) (by decide) (by decide) ?_
                      show own_R p e below s _ _ _ T725 (mkF m 226 #[.val (.int p0), .val (.int p1), .val (.int p2), .val (.int p3), .val (.int p4), .val (.int (4 : Int32)), .val (.int off), .val (.ref b709), .val (.ref b710), .val (.ref vw), .val (.int ((pl_end p1 (3 : Int32)) + (2 : Int32))), .val (.int ((pl_end p2 (3 : Int32)) + (2 : Int32))), .val (.int (1 : Int32)), .val (.int (1 : Int32)), .val (.int p2), .val (.int ((pl_end p1 (3 : Int32)) + (2 : Int32))), .val (.int (((pl_end p1 (3 : Int32)) + (2 : Int32)) + ((pl_end p2 (0 : Int32)) + (1 : Int32))))] [(.int (1 : Int32))])
                      refine own_retN X725 hx (t := .boolean) Bd.returns (by simp) hlk (hb hby at_226) ?_ (by decide) (by decide)
                      exact ⟨rfl, N725⟩
                  · have hc186 : (1 : Int32) = (0 : Int32) := own_ne0 hc
                    exact absurd hc186 (by decide)
              · have hc157 : (1 : Int32) = (0 : Int32) := own_ne0 hc
                exact absurd hc157 (by decide)
          · have hc135 : (1 : Int32) = (0 : Int32) := own_ne0 hc
            exact absurd hc135 (by decide)
        ·
          show own_R p e below s _ _ _ Tj (mkF m 133 #[.val (.int p0), .val (.int p1), .val (.int p2), .val (.int p3), .val (.int p4), .val (.int (4 : Int32)), .val (.int off), .val (.ref b709), .val (.ref b710), .val (.ref vw), .val (.int ((pl_end p1 (3 : Int32)) + (2 : Int32))), .val (.int ((pl_end p2 (3 : Int32)) + (2 : Int32))), .val (.int (1 : Int32)), .val (.int (2 : Int32)), .unset, .unset, .unset] [])
          refine own_iload Xj hx (hb hby at_133) rfl ?_
          refine own_if Xj hx (hb hby at_135) (pc' := 142) (by decide) (by decide) (fun hc => ?_) (fun hc => ?_)
          · have hc135 : ¬ (1 : Int32) = (0 : Int32) := own_ne1 hc
            clear hc
            refine own_iload Xj hx (hb hby at_142) rfl ?_
            refine own_iconst Xj hx (1 : Int32) (hb hby at_144) rfl ?_
            refine own_icmp Xj hx (hb hby at_145) (pc' := 152) (by decide) (by decide) (fun hc => ?_) (fun hc => ?_)
            · have hc145 : ¬ (1 : Int32) = (1 : Int32) := own_ne1 hc
              exact absurd (by decide) hc145
            · have hc145 : (1 : Int32) = (1 : Int32) := own_ne0 hc
              clear hc
              refine own_iloadN Xj hx (hb hby at_148) rfl ?_
              refine own_goto Xj hx (hb hby at_149) (pc' := 153) (by decide) (by decide) ?_
              show own_R p e below s _ _ _ Tj (mkF m 153 #[.val (.int p0), .val (.int p1), .val (.int p2), .val (.int p3), .val (.int p4), .val (.int (4 : Int32)), .val (.int off), .val (.ref b709), .val (.ref b710), .val (.ref vw), .val (.int ((pl_end p1 (3 : Int32)) + (2 : Int32))), .val (.int ((pl_end p2 (3 : Int32)) + (2 : Int32))), .val (.int (1 : Int32)), .val (.int (2 : Int32)), .unset, .unset, .unset] [(.int p2)])
              refine own_istore Xj hx (hb hby at_153) (l' := #[.val (.int p0), .val (.int p1), .val (.int p2), .val (.int p3), .val (.int p4), .val (.int (4 : Int32)), .val (.int off), .val (.ref b709), .val (.ref b710), .val (.ref vw), .val (.int ((pl_end p1 (3 : Int32)) + (2 : Int32))), .val (.int ((pl_end p2 (3 : Int32)) + (2 : Int32))), .val (.int (1 : Int32)), .val (.int (2 : Int32)), .val (.int p2), .unset, .unset]) rfl ?_
              refine own_iload Xj hx (hb hby at_155) rfl ?_
              refine own_if Xj hx (hb hby at_157) (pc' := 164) (by decide) (by decide) (fun hc => ?_) (fun hc => ?_)
              · have hc157 : ¬ (1 : Int32) = (0 : Int32) := own_ne1 hc
                clear hc
                refine own_iload Xj hx (hb hby at_164) rfl ?_
                refine own_iconst Xj hx (1 : Int32) (hb hby at_166) rfl ?_
                refine own_icmp Xj hx (hb hby at_167) (pc' := 175) (by decide) (by decide) (fun hc => ?_) (fun hc => ?_)
                · have hc167 : ¬ (1 : Int32) = (1 : Int32) := own_ne1 hc
                  exact absurd (by decide) hc167
                · have hc167 : (1 : Int32) = (1 : Int32) := own_ne0 hc
                  clear hc
                  refine own_iload Xj hx (hb hby at_170) rfl ?_
                  refine own_goto Xj hx (hb hby at_172) (pc' := 180) (by decide) (by decide) ?_
                  show own_R p e below s _ _ _ Tj (mkF m 180 #[.val (.int p0), .val (.int p1), .val (.int p2), .val (.int p3), .val (.int p4), .val (.int (4 : Int32)), .val (.int off), .val (.ref b709), .val (.ref b710), .val (.ref vw), .val (.int ((pl_end p1 (3 : Int32)) + (2 : Int32))), .val (.int ((pl_end p2 (3 : Int32)) + (2 : Int32))), .val (.int (1 : Int32)), .val (.int (2 : Int32)), .val (.int p2), .unset, .unset] [(.int ((pl_end p1 (3 : Int32)) + (2 : Int32)))])
                  refine own_istore Xj hx (hb hby at_180) (l' := #[.val (.int p0), .val (.int p1), .val (.int p2), .val (.int p3), .val (.int p4), .val (.int (4 : Int32)), .val (.int off), .val (.ref b709), .val (.ref b710), .val (.ref vw), .val (.int ((pl_end p1 (3 : Int32)) + (2 : Int32))), .val (.int ((pl_end p2 (3 : Int32)) + (2 : Int32))), .val (.int (1 : Int32)), .val (.int (2 : Int32)), .val (.int p2), .val (.int ((pl_end p1 (3 : Int32)) + (2 : Int32))), .unset]) rfl ?_
                  refine own_iload Xj hx (hb hby at_182) rfl ?_
                  refine own_iload Xj hx (hb hby at_184) rfl ?_
                  refine own_if Xj hx (hb hby at_186) (pc' := 193) (by decide) (by decide) (fun hc => ?_) (fun hc => ?_)
                  · have hc186 : ¬ (2 : Int32) = (0 : Int32) := own_ne1 hc
                    clear hc
                    refine own_iload Xj hx (hb hby at_193) rfl ?_
                    refine own_iload Xj hx (hb hby at_195) rfl ?_
                    refine own_iconst Xj hx (1 : Int32) (hb hby at_197) rfl ?_
                    refine own_isub Xj hx (hb hby at_198) ?_
                    refine own_callS Xj hx hZ (y := my9) hown (hw _ (List.mem_of_getElem? (i := 95) rfl)) (hw _ (List.mem_of_getElem? (i := 96) rfl)) (hw _ (List.mem_of_getElem? (i := 93) rfl)) (hw _ (List.mem_of_getElem? (i := 97) rfl)) (by decide) (rm9 l Z a0 hw [] p2 (1 : Int32) gj n0 Zj) 1 (by decide) (by decide) ej (by rw [hml]; rfl) [(.int p2), (.int (1 : Int32))] [(.int ((pl_end p1 (3 : Int32)) + (2 : Int32)))] rfl (lenOf pd_8 rfl) rfl (Nat.le_of_eq rfl) (hb hby at_199) (by decide) (by decide) ?_
                    rintro T726 _ L726 X726 ⟨rfl, N726q, e726⟩
                    have N726 := Fr.app Nj N726q
                    show own_R p e below s _ _ _ T726 (mkF m 202 #[.val (.int p0), .val (.int p1), .val (.int p2), .val (.int p3), .val (.int p4), .val (.int (4 : Int32)), .val (.int off), .val (.ref b709), .val (.ref b710), .val (.ref vw), .val (.int ((pl_end p1 (3 : Int32)) + (2 : Int32))), .val (.int ((pl_end p2 (3 : Int32)) + (2 : Int32))), .val (.int (1 : Int32)), .val (.int (2 : Int32)), .val (.int p2), .val (.int ((pl_end p1 (3 : Int32)) + (2 : Int32))), .unset] [(.int (pl_end p2 (1 : Int32))), (.int ((pl_end p1 (3 : Int32)) + (2 : Int32)))])
                    refine own_iconst X726 hx (1 : Int32) (hb hby at_202) rfl ?_
                    refine own_iadd X726 hx (hb hby at_203) ?_
                    refine own_iadd X726 hx (hb hby at_204) ?_
                    refine own_istore X726 hx (hb hby at_205) (l' := #[.val (.int p0), .val (.int p1), .val (.int p2), .val (.int p3), .val (.int p4), .val (.int (4 : Int32)), .val (.int off), .val (.ref b709), .val (.ref b710), .val (.ref vw), .val (.int ((pl_end p1 (3 : Int32)) + (2 : Int32))), .val (.int ((pl_end p2 (3 : Int32)) + (2 : Int32))), .val (.int (1 : Int32)), .val (.int (2 : Int32)), .val (.int p2), .val (.int ((pl_end p1 (3 : Int32)) + (2 : Int32))), .val (.int (((pl_end p1 (3 : Int32)) + (2 : Int32)) + ((pl_end p2 (1 : Int32)) + (1 : Int32))))]) rfl ?_
                    refine own_aload X726 hx (hb hby at_207) rfl rfl ?_
                    refine own_iload X726 hx (hb hby at_209) rfl ?_
                    refine own_iload X726 hx (hb hby at_211) rfl ?_
                    refine own_callV X726 hx hZ (y := my16) (z := my16) hown (hw _ (List.mem_of_getElem? (i := 136) rfl)) (hw _ (List.mem_of_getElem? (i := 137) rfl)) (notFace_of_selects (args := #[]) (mvT hZ (hw _ (List.mem_of_getElem? (i := 139) rfl)))) (hw _ (List.mem_of_getElem? (i := 139) rfl)) (hw _ (List.mem_of_getElem? (i := 138) rfl)) (hw _ (List.mem_of_getElem? (i := 3) rfl)) (hw _ (List.mem_of_getElem? (i := 140) rfl)) (by decide) (rm16 l Z a0 hw [] b710 (1 : Int32) (2 : Int32) ys yf ks kf (4 : Int32) [o0, (.int ((0 : Int32) + ((pl_end p1 (3 : Int32)) + (2 : Int32)))), (.int (((0 : Int32) + ((pl_end p1 (3 : Int32)) + (2 : Int32))) + ((pl_end p2 (3 : Int32)) + (2 : Int32)))), o0, o0, o0, o0, o0, o0, o0, o0, o0, o0, o0, o0, o0] [(.int (pl_end p1 (0 : Int32))), (.int (pl_end p1 (1 : Int32))), (.int (pl_end p1 (2 : Int32))), (.int (pl_end p1 (3 : Int32))), (.int (pl_end p2 (0 : Int32))), (.int (pl_end p2 (1 : Int32))), (.int (pl_end p2 (2 : Int32))), (.int (pl_end p2 (3 : Int32))), (.int (pl_end p3 (0 : Int32))), (.int (pl_end p3 (1 : Int32))), (.int (pl_end p3 (2 : Int32))), (.int (pl_end p3 (3 : Int32))), o0, o0, o0, o0, o0, o0, o0, o0, o0, o0, o0, o0, o0, o0, o0, o0, o0, o0, o0, o0, o0, o0, o0, o0, o0, o0, o0, o0, o0, o0, o0, o0, o0, o0, o0, o0, o0, o0, o0, o0, o0, o0, o0, o0, o0, o0, o0, o0, o0, o0, o0, o0] ((0 : Int32) + ((pl_end p1 (3 : Int32)) + (2 : Int32))) (pl_end p2 (1 : Int32)) gj n0 Zj jf1 jf2 jf3 jV1 jV2 (by decide) rfl (fun _ => by decide) (fun _ => rfl)) 0 (by decide) (by decide) e726 (by rw [hml]; rfl) b710 jE [(.int (1 : Int32)), (.int (2 : Int32))] [] rfl (lenOf pd_8 rfl) rfl (Nat.le_of_eq rfl) (hb hby at_213) (by decide) (by decide) ?_
                    rintro T727 _ L727 X727 ⟨rfl, N727q, e727⟩
                    have N727 := Fr.app N726 N727q
                    show own_R p e below s _ _ _ T727 (mkF m 216 #[.val (.int p0), .val (.int p1), .val (.int p2), .val (.int p3), .val (.int p4), .val (.int (4 : Int32)), .val (.int off), .val (.ref b709), .val (.ref b710), .val (.ref vw), .val (.int ((pl_end p1 (3 : Int32)) + (2 : Int32))), .val (.int ((pl_end p2 (3 : Int32)) + (2 : Int32))), .val (.int (1 : Int32)), .val (.int (2 : Int32)), .val (.int p2), .val (.int ((pl_end p1 (3 : Int32)) + (2 : Int32))), .val (.int (((pl_end p1 (3 : Int32)) + (2 : Int32)) + ((pl_end p2 (1 : Int32)) + (1 : Int32))))] [(.int (pl_fs ((0 : Int32) + ((pl_end p1 (3 : Int32)) + (2 : Int32))) (pl_end p2 (1 : Int32)) (2 : Int32)))])
                    refine own_iload X727 hx (hb hby at_216) rfl ?_
                    refine own_icmp X727 hx (hb hby at_218) (pc' := 225) (by decide) (by decide) (fun hc => ?_) (fun hc => ?_)
                    · have hc218 : ¬ (pl_fs ((0 : Int32) + ((pl_end p1 (3 : Int32)) + (2 : Int32))) (pl_end p2 (1 : Int32)) (2 : Int32)) = (((pl_end p1 (3 : Int32)) + (2 : Int32)) + ((pl_end p2 (1 : Int32)) + (1 : Int32))) := own_ne1 hc
                      exact absurd (by simp only [pl_fs, Int32.zero_add, if_true, if_false, show ((2 : Int32) = 0) = False from by decide]) hc218
                    · have hc218 : (pl_fs ((0 : Int32) + ((pl_end p1 (3 : Int32)) + (2 : Int32))) (pl_end p2 (1 : Int32)) (2 : Int32)) = (((pl_end p1 (3 : Int32)) + (2 : Int32)) + ((pl_end p2 (1 : Int32)) + (1 : Int32))) := own_ne0 hc
                      clear hc
                      refine own_iconst X727 hx (1 : Int32) (hb hby at_221) rfl ?_
                      refine own_goto X727 hx (hb hby at_222) (pc' := 226) (by decide) (by decide) ?_
                      show own_R p e below s _ _ _ T727 (mkF m 226 #[.val (.int p0), .val (.int p1), .val (.int p2), .val (.int p3), .val (.int p4), .val (.int (4 : Int32)), .val (.int off), .val (.ref b709), .val (.ref b710), .val (.ref vw), .val (.int ((pl_end p1 (3 : Int32)) + (2 : Int32))), .val (.int ((pl_end p2 (3 : Int32)) + (2 : Int32))), .val (.int (1 : Int32)), .val (.int (2 : Int32)), .val (.int p2), .val (.int ((pl_end p1 (3 : Int32)) + (2 : Int32))), .val (.int (((pl_end p1 (3 : Int32)) + (2 : Int32)) + ((pl_end p2 (1 : Int32)) + (1 : Int32))))] [(.int (1 : Int32))])
                      refine own_retN X727 hx (t := .boolean) Bd.returns (by simp) hlk (hb hby at_226) ?_ (by decide) (by decide)
                      exact ⟨rfl, N727⟩
                  · have hc186 : (2 : Int32) = (0 : Int32) := own_ne0 hc
                    exact absurd hc186 (by decide)
              · have hc157 : (1 : Int32) = (0 : Int32) := own_ne0 hc
                exact absurd hc157 (by decide)
          · have hc135 : (1 : Int32) = (0 : Int32) := own_ne0 hc
            exact absurd hc135 (by decide)
        ·
          show own_R p e below s _ _ _ Tj (mkF m 133 #[.val (.int p0), .val (.int p1), .val (.int p2), .val (.int p3), .val (.int p4), .val (.int (4 : Int32)), .val (.int off), .val (.ref b709), .val (.ref b710), .val (.ref vw), .val (.int ((pl_end p1 (3 : Int32)) + (2 : Int32))), .val (.int ((pl_end p2 (3 : Int32)) + (2 : Int32))), .val (.int (1 : Int32)), .val (.int (3 : Int32)), .unset, .unset, .unset] [])
          refine own_iload Xj hx (hb hby at_133) rfl ?_
          refine own_if Xj hx (hb hby at_135) (pc' := 142) (by decide) (by decide) (fun hc => ?_) (fun hc => ?_)
          · have hc135 : ¬ (1 : Int32) = (0 : Int32) := own_ne1 hc
            clear hc
            refine own_iload Xj hx (hb hby at_142) rfl ?_
            refine own_iconst Xj hx (1 : Int32) (hb hby at_144) rfl ?_
            refine own_icmp Xj hx (hb hby at_145) (pc' := 152) (by decide) (by decide) (fun hc => ?_) (fun hc => ?_)
            · have hc145 : ¬ (1 : Int32) = (1 : Int32) := own_ne1 hc
              exact absurd (by decide) hc145
            · have hc145 : (1 : Int32) = (1 : Int32) := own_ne0 hc
              clear hc
              refine own_iloadN Xj hx (hb hby at_148) rfl ?_
              refine own_goto Xj hx (hb hby at_149) (pc' := 153) (by decide) (by decide) ?_
              show own_R p e below s _ _ _ Tj (mkF m 153 #[.val (.int p0), .val (.int p1), .val (.int p2), .val (.int p3), .val (.int p4), .val (.int (4 : Int32)), .val (.int off), .val (.ref b709), .val (.ref b710), .val (.ref vw), .val (.int ((pl_end p1 (3 : Int32)) + (2 : Int32))), .val (.int ((pl_end p2 (3 : Int32)) + (2 : Int32))), .val (.int (1 : Int32)), .val (.int (3 : Int32)), .unset, .unset, .unset] [(.int p2)])
              refine own_istore Xj hx (hb hby at_153) (l' := #[.val (.int p0), .val (.int p1), .val (.int p2), .val (.int p3), .val (.int p4), .val (.int (4 : Int32)), .val (.int off), .val (.ref b709), .val (.ref b710), .val (.ref vw), .val (.int ((pl_end p1 (3 : Int32)) + (2 : Int32))), .val (.int ((pl_end p2 (3 : Int32)) + (2 : Int32))), .val (.int (1 : Int32)), .val (.int (3 : Int32)), .val (.int p2), .unset, .unset]) rfl ?_
              refine own_iload Xj hx (hb hby at_155) rfl ?_
              refine own_if Xj hx (hb hby at_157) (pc' := 164) (by decide) (by decide) (fun hc => ?_) (fun hc => ?_)
              · have hc157 : ¬ (1 : Int32) = (0 : Int32) := own_ne1 hc
                clear hc
                refine own_iload Xj hx (hb hby at_164) rfl ?_
                refine own_iconst Xj hx (1 : Int32) (hb hby at_166) rfl ?_
                refine own_icmp Xj hx (hb hby at_167) (pc' := 175) (by decide) (by decide) (fun hc => ?_) (fun hc => ?_)
                · have hc167 : ¬ (1 : Int32) = (1 : Int32) := own_ne1 hc
                  exact absurd (by decide) hc167
                · have hc167 : (1 : Int32) = (1 : Int32) := own_ne0 hc
                  clear hc
                  refine own_iload Xj hx (hb hby at_170) rfl ?_
                  refine own_goto Xj hx (hb hby at_172) (pc' := 180) (by decide) (by decide) ?_
                  show own_R p e below s _ _ _ Tj (mkF m 180 #[.val (.int p0), .val (.int p1), .val (.int p2), .val (.int p3), .val (.int p4), .val (.int (4 : Int32)), .val (.int off), .val (.ref b709), .val (.ref b710), .val (.ref vw), .val (.int ((pl_end p1 (3 : Int32)) + (2 : Int32))), .val (.int ((pl_end p2 (3 : Int32)) + (2 : Int32))), .val (.int (1 : Int32)), .val (.int (3 : Int32)), .val (.int p2), .unset, .unset] [(.int ((pl_end p1 (3 : Int32)) + (2 : Int32)))])
                  refine own_istore Xj hx (hb hby at_180) (l' := #[.val (.int p0), .val (.int p1), .val (.int p2), .val (.int p3), .val (.int p4), .val (.int (4 : Int32)), .val (.int off), .val (.ref b709), .val (.ref b710), .val (.ref vw), .val (.int ((pl_end p1 (3 : Int32)) + (2 : Int32))), .val (.int ((pl_end p2 (3 : Int32)) + (2 : Int32))), .val (.int (1 : Int32)), .val (.int (3 : Int32)), .val (.int p2), .val (.int ((pl_end p1 (3 : Int32)) + (2 : Int32))), .unset]) rfl ?_
                  refine own_iload Xj hx (hb hby at_182) rfl ?_
                  refine own_iload Xj hx (hb hby at_184) rfl ?_
                  refine own_if Xj hx (hb hby at_186) (pc' := 193) (by decide) (by decide) (fun hc => ?_) (fun hc => ?_)
                  · have hc186 : ¬ (3 : Int32) = (0 : Int32) := own_ne1 hc
                    clear hc
                    refine own_iload Xj hx (hb hby at_193) rfl ?_
                    refine own_iload Xj hx (hb hby at_195) rfl ?_
                    refine own_iconst Xj hx (1 : Int32) (hb hby at_197) rfl ?_
                    refine own_isub Xj hx (hb hby at_198) ?_
                    refine own_callS Xj hx hZ (y := my9) hown (hw _ (List.mem_of_getElem? (i := 95) rfl)) (hw _ (List.mem_of_getElem? (i := 96) rfl)) (hw _ (List.mem_of_getElem? (i := 93) rfl)) (hw _ (List.mem_of_getElem? (i := 97) rfl)) (by decide) (rm9 l Z a0 hw [] p2 (2 : Int32) gj n0 Zj) 1 (by decide) (by decide) ej (by rw [hml]; rfl) [(.int p2), (.int (2 : Int32))] [(.int ((pl_end p1 (3 : Int32)) + (2 : Int32)))] rfl (lenOf pd_8 rfl) rfl (Nat.le_of_eq rfl) (hb hby at_199) (by decide) (by decide) ?_
                    rintro T728 _ L728 X728 ⟨rfl, N728q, e728⟩
                    have N728 := Fr.app Nj N728q
                    show own_R p e below s _ _ _ T728 (mkF m 202 #[.val (.int p0), .val (.int p1), .val (.int p2), .val (.int p3), .val (.int p4), .val (.int (4 : Int32)), .val (.int off), .val (.ref b709), .val (.ref b710), .val (.ref vw), .val (.int ((pl_end p1 (3 : Int32)) + (2 : Int32))), .val (.int ((pl_end p2 (3 : Int32)) + (2 : Int32))), .val (.int (1 : Int32)), .val (.int (3 : Int32)), .val (.int p2), .val (.int ((pl_end p1 (3 : Int32)) + (2 : Int32))), .unset] [(.int (pl_end p2 (2 : Int32))), (.int ((pl_end p1 (3 : Int32)) + (2 : Int32)))])
                    refine own_iconst X728 hx (1 : Int32) (hb hby at_202) rfl ?_
                    refine own_iadd X728 hx (hb hby at_203) ?_
                    refine own_iadd X728 hx (hb hby at_204) ?_
                    refine own_istore X728 hx (hb hby at_205) (l' := #[.val (.int p0), .val (.int p1), .val (.int p2), .val (.int p3), .val (.int p4), .val (.int (4 : Int32)), .val (.int off), .val (.ref b709), .val (.ref b710), .val (.ref vw), .val (.int ((pl_end p1 (3 : Int32)) + (2 : Int32))), .val (.int ((pl_end p2 (3 : Int32)) + (2 : Int32))), .val (.int (1 : Int32)), .val (.int (3 : Int32)), .val (.int p2), .val (.int ((pl_end p1 (3 : Int32)) + (2 : Int32))), .val (.int (((pl_end p1 (3 : Int32)) + (2 : Int32)) + ((pl_end p2 (2 : Int32)) + (1 : Int32))))]) rfl ?_
                    refine own_aload X728 hx (hb hby at_207) rfl rfl ?_
                    refine own_iload X728 hx (hb hby at_209) rfl ?_
                    refine own_iload X728 hx (hb hby at_211) rfl ?_
                    refine own_callV X728 hx hZ (y := my16) (z := my16) hown (hw _ (List.mem_of_getElem? (i := 136) rfl)) (hw _ (List.mem_of_getElem? (i := 137) rfl)) (notFace_of_selects (args := #[]) (mvT hZ (hw _ (List.mem_of_getElem? (i := 139) rfl)))) (hw _ (List.mem_of_getElem? (i := 139) rfl)) (hw _ (List.mem_of_getElem? (i := 138) rfl)) (hw _ (List.mem_of_getElem? (i := 3) rfl)) (hw _ (List.mem_of_getElem? (i := 140) rfl)) (by decide) (rm16 l Z a0 hw [] b710 (1 : Int32) (3 : Int32) ys yf ks kf (4 : Int32) [o0, (.int ((0 : Int32) + ((pl_end p1 (3 : Int32)) + (2 : Int32)))), (.int (((0 : Int32) + ((pl_end p1 (3 : Int32)) + (2 : Int32))) + ((pl_end p2 (3 : Int32)) + (2 : Int32)))), o0, o0, o0, o0, o0, o0, o0, o0, o0, o0, o0, o0, o0] [(.int (pl_end p1 (0 : Int32))), (.int (pl_end p1 (1 : Int32))), (.int (pl_end p1 (2 : Int32))), (.int (pl_end p1 (3 : Int32))), (.int (pl_end p2 (0 : Int32))), (.int (pl_end p2 (1 : Int32))), (.int (pl_end p2 (2 : Int32))), (.int (pl_end p2 (3 : Int32))), (.int (pl_end p3 (0 : Int32))), (.int (pl_end p3 (1 : Int32))), (.int (pl_end p3 (2 : Int32))), (.int (pl_end p3 (3 : Int32))), o0, o0, o0, o0, o0, o0, o0, o0, o0, o0, o0, o0, o0, o0, o0, o0, o0, o0, o0, o0, o0, o0, o0, o0, o0, o0, o0, o0, o0, o0, o0, o0, o0, o0, o0, o0, o0, o0, o0, o0, o0, o0, o0, o0, o0, o0, o0, o0, o0, o0, o0, o0] ((0 : Int32) + ((pl_end p1 (3 : Int32)) + (2 : Int32))) (pl_end p2 (2 : Int32)) gj n0 Zj jf1 jf2 jf3 jV1 jV2 (by decide) rfl (fun _ => by decide) (fun _ => rfl)) 0 (by decide) (by decide) e728 (by rw [hml]; rfl) b710 jE [(.int (1 : Int32)), (.int (3 : Int32))] [] rfl (lenOf pd_8 rfl) rfl (Nat.le_of_eq rfl) (hb hby at_213) (by decide) (by decide) ?_
                    rintro T729 _ L729 X729 ⟨rfl, N729q, e729⟩
                    have N729 := Fr.app N728 N729q
                    show own_R p e below s _ _ _ T729 (mkF m 216 #[.val (.int p0), .val (.int p1), .val (.int p2), .val (.int p3), .val (.int p4), .val (.int (4 : Int32)), .val (.int off), .val (.ref b709), .val (.ref b710), .val (.ref vw), .val (.int ((pl_end p1 (3 : Int32)) + (2 : Int32))), .val (.int ((pl_end p2 (3 : Int32)) + (2 : Int32))), .val (.int (1 : Int32)), .val (.int (3 : Int32)), .val (.int p2), .val (.int ((pl_end p1 (3 : Int32)) + (2 : Int32))), .val (.int (((pl_end p1 (3 : Int32)) + (2 : Int32)) + ((pl_end p2 (2 : Int32)) + (1 : Int32))))] [(.int (pl_fs ((0 : Int32) + ((pl_end p1 (3 : Int32)) + (2 : Int32))) (pl_end p2 (2 : Int32)) (3 : Int32)))])
                    refine own_iload X729 hx (hb hby at_216) rfl ?_
                    refine own_icmp X729 hx (hb hby at_218) (pc' := 225) (by decide) (by decide) (fun hc => ?_) (fun hc => ?_)
                    · have hc218 : ¬ (pl_fs ((0 : Int32) + ((pl_end p1 (3 : Int32)) + (2 : Int32))) (pl_end p2 (2 : Int32)) (3 : Int32)) = (((pl_end p1 (3 : Int32)) + (2 : Int32)) + ((pl_end p2 (2 : Int32)) + (1 : Int32))) := own_ne1 hc
                      exact absurd (by simp only [pl_fs, Int32.zero_add, if_true, if_false, show ((3 : Int32) = 0) = False from by decide]) hc218
                    · have hc218 : (pl_fs ((0 : Int32) + ((pl_end p1 (3 : Int32)) + (2 : Int32))) (pl_end p2 (2 : Int32)) (3 : Int32)) = (((pl_end p1 (3 : Int32)) + (2 : Int32)) + ((pl_end p2 (2 : Int32)) + (1 : Int32))) := own_ne0 hc
                      clear hc
                      refine own_iconst X729 hx (1 : Int32) (hb hby at_221) rfl ?_
                      refine own_goto X729 hx (hb hby at_222) (pc' := 226) (by decide) (by decide) ?_
                      show own_R p e below s _ _ _ T729 (mkF m 226 #[.val (.int p0), .val (.int p1), .val (.int p2), .val (.int p3), .val (.int p4), .val (.int (4 : Int32)), .val (.int off), .val (.ref b709), .val (.ref b710), .val (.ref vw), .val (.int ((pl_end p1 (3 : Int32)) + (2 : Int32))), .val (.int ((pl_end p2 (3 : Int32)) + (2 : Int32))), .val (.int (1 : Int32)), .val (.int (3 : Int32)), .val (.int p2), .val (.int ((pl_end p1 (3 : Int32)) + (2 : Int32))), .val (.int (((pl_end p1 (3 : Int32)) + (2 : Int32)) + ((pl_end p2 (2 : Int32)) + (1 : Int32))))] [(.int (1 : Int32))])
                      refine own_retN X729 hx (t := .boolean) Bd.returns (by simp) hlk (hb hby at_226) ?_ (by decide) (by decide)
                      exact ⟨rfl, N729⟩
                  · have hc186 : (3 : Int32) = (0 : Int32) := own_ne0 hc
                    exact absurd hc186 (by decide)
              · have hc157 : (1 : Int32) = (0 : Int32) := own_ne0 hc
                exact absurd hc157 (by decide)
          · have hc135 : (1 : Int32) = (0 : Int32) := own_ne0 hc
            exact absurd hc135 (by decide)
      ·
        rcases hcl4 with rfl | rfl | rfl | rfl
        ·
          show own_R p e below s _ _ _ Tj (mkF m 133 #[.val (.int p0), .val (.int p1), .val (.int p2), .val (.int p3), .val (.int p4), .val (.int (4 : Int32)), .val (.int off), .val (.ref b709), .val (.ref b710), .val (.ref vw), .val (.int ((pl_end p1 (3 : Int32)) + (2 : Int32))), .val (.int ((pl_end p2 (3 : Int32)) + (2 : Int32))), .val (.int (2 : Int32)), .val (.int (0 : Int32)), .unset, .unset, .unset] [])
          refine own_iload Xj hx (hb hby at_133) rfl ?_
          refine own_if Xj hx (hb hby at_135) (pc' := 142) (by decide) (by decide) (fun hc => ?_) (fun hc => ?_)
          · have hc135 : ¬ (2 : Int32) = (0 : Int32) := own_ne1 hc
            clear hc
            refine own_iload Xj hx (hb hby at_142) rfl ?_
            refine own_iconst Xj hx (1 : Int32) (hb hby at_144) rfl ?_
            refine own_icmp Xj hx (hb hby at_145) (pc' := 152) (by decide) (by decide) (fun hc => ?_) (fun hc => ?_)
            · have hc145 : ¬ (2 : Int32) = (1 : Int32) := own_ne1 hc
              clear hc
              refine own_iloadN Xj hx (hb hby at_152) rfl ?_
              refine own_istore Xj hx (hb hby at_153) (l' := #[.val (.int p0), .val (.int p1), .val (.int p2), .val (.int p3), .val (.int p4), .val (.int (4 : Int32)), .val (.int off), .val (.ref b709), .val (.ref b710), .val (.ref vw), .val (.int ((pl_end p1 (3 : Int32)) + (2 : Int32))), .val (.int ((pl_end p2 (3 : Int32)) + (2 : Int32))), .val (.int (2 : Int32)), .val (.int (0 : Int32)), .val (.int p3), .unset, .unset]) rfl ?_
              refine own_iload Xj hx (hb hby at_155) rfl ?_
              refine own_if Xj hx (hb hby at_157) (pc' := 164) (by decide) (by decide) (fun hc => ?_) (fun hc => ?_)
              · have hc157 : ¬ (2 : Int32) = (0 : Int32) := own_ne1 hc
                clear hc
                refine own_iload Xj hx (hb hby at_164) rfl ?_
                refine own_iconst Xj hx (1 : Int32) (hb hby at_166) rfl ?_
                refine own_icmp Xj hx (hb hby at_167) (pc' := 175) (by decide) (by decide) (fun hc => ?_) (fun hc => ?_)
                · have hc167 : ¬ (2 : Int32) = (1 : Int32) := own_ne1 hc
                  clear hc
                  refine own_iload Xj hx (hb hby at_175) rfl ?_
                  refine own_iload Xj hx (hb hby at_177) rfl ?_
                  refine own_iadd Xj hx (hb hby at_179) ?_
                  refine own_istore Xj hx (hb hby at_180) (l' := #[.val (.int p0), .val (.int p1), .val (.int p2), .val (.int p3), .val (.int p4), .val (.int (4 : Int32)), .val (.int off), .val (.ref b709), .val (.ref b710), .val (.ref vw), .val (.int ((pl_end p1 (3 : Int32)) + (2 : Int32))), .val (.int ((pl_end p2 (3 : Int32)) + (2 : Int32))), .val (.int (2 : Int32)), .val (.int (0 : Int32)), .val (.int p3), .val (.int (((pl_end p1 (3 : Int32)) + (2 : Int32)) + ((pl_end p2 (3 : Int32)) + (2 : Int32)))), .unset]) rfl ?_
                  refine own_iload Xj hx (hb hby at_182) rfl ?_
                  refine own_iload Xj hx (hb hby at_184) rfl ?_
                  refine own_if Xj hx (hb hby at_186) (pc' := 193) (by decide) (by decide) (fun hc => ?_) (fun hc => ?_)
                  · have hc186 : ¬ (0 : Int32) = (0 : Int32) := own_ne1 hc
                    exact absurd (by decide) hc186
                  · have hc186 : (0 : Int32) = (0 : Int32) := own_ne0 hc
                    clear hc
                    refine own_iconst Xj hx (0 : Int32) (hb hby at_189) rfl ?_
                    refine own_goto Xj hx (hb hby at_190) (pc' := 204) (by decide) (by decide) ?_
                    show own_R p e below s _ _ _ Tj (mkF m 204 #[.val (.int p0), .val (.int p1), .val (.int p2), .val (.int p3), .val (.int p4), .val (.int (4 : Int32)), .val (.int off), .val (.ref b709), .val (.ref b710), .val (.ref vw), .val (.int ((pl_end p1 (3 : Int32)) + (2 : Int32))), .val (.int ((pl_end p2 (3 : Int32)) + (2 : Int32))), .val (.int (2 : Int32)), .val (.int (0 : Int32)), .val (.int p3), .val (.int (((pl_end p1 (3 : Int32)) + (2 : Int32)) + ((pl_end p2 (3 : Int32)) + (2 : Int32)))), .unset] [(.int (0 : Int32)), (.int (((pl_end p1 (3 : Int32)) + (2 : Int32)) + ((pl_end p2 (3 : Int32)) + (2 : Int32))))])
                    refine own_iadd Xj hx (hb hby at_204) ?_
                    refine own_istore Xj hx (hb hby at_205) (l' := #[.val (.int p0), .val (.int p1), .val (.int p2), .val (.int p3), .val (.int p4), .val (.int (4 : Int32)), .val (.int off), .val (.ref b709), .val (.ref b710), .val (.ref vw), .val (.int ((pl_end p1 (3 : Int32)) + (2 : Int32))), .val (.int ((pl_end p2 (3 : Int32)) + (2 : Int32))), .val (.int (2 : Int32)), .val (.int (0 : Int32)), .val (.int p3), .val (.int (((pl_end p1 (3 : Int32)) + (2 : Int32)) + ((pl_end p2 (3 : Int32)) + (2 : Int32)))), .val (.int ((((pl_end p1 (3 : Int32)) + (2 : Int32)) + ((pl_end p2 (3 : Int32)) + (2 : Int32))) + (0 : Int32)))]) rfl ?_
                    refine own_aload Xj hx (hb hby at_207) rfl rfl ?_
                    refine own_iload Xj hx (hb hby at_209) rfl ?_
                    refine own_iload Xj hx (hb hby at_211) rfl ?_
                    refine own_callV Xj hx hZ (y := my16) (z := my16) hown (hw _ (List.mem_of_getElem? (i := 136) rfl)) (hw _ (List.mem_of_getElem? (i := 137) rfl)) (notFace_of_selects (args := #[]) (mvT hZ (hw _ (List.mem_of_getElem? (i := 139) rfl)))) (hw _ (List.mem_of_getElem? (i := 139) rfl)) (hw _ (List.mem_of_getElem? (i := 138) rfl)) (hw _ (List.mem_of_getElem? (i := 3) rfl)) (hw _ (List.mem_of_getElem? (i := 140) rfl)) (by decide) (rm16 l Z a0 hw [] b710 (2 : Int32) (0 : Int32) ys yf ks kf (4 : Int32) [o0, (.int ((0 : Int32) + ((pl_end p1 (3 : Int32)) + (2 : Int32)))), (.int (((0 : Int32) + ((pl_end p1 (3 : Int32)) + (2 : Int32))) + ((pl_end p2 (3 : Int32)) + (2 : Int32)))), o0, o0, o0, o0, o0, o0, o0, o0, o0, o0, o0, o0, o0] [(.int (pl_end p1 (0 : Int32))), (.int (pl_end p1 (1 : Int32))), (.int (pl_end p1 (2 : Int32))), (.int (pl_end p1 (3 : Int32))), (.int (pl_end p2 (0 : Int32))), (.int (pl_end p2 (1 : Int32))), (.int (pl_end p2 (2 : Int32))), (.int (pl_end p2 (3 : Int32))), (.int (pl_end p3 (0 : Int32))), (.int (pl_end p3 (1 : Int32))), (.int (pl_end p3 (2 : Int32))), (.int (pl_end p3 (3 : Int32))), o0, o0, o0, o0, o0, o0, o0, o0, o0, o0, o0, o0, o0, o0, o0, o0, o0, o0, o0, o0, o0, o0, o0, o0, o0, o0, o0, o0, o0, o0, o0, o0, o0, o0, o0, o0, o0, o0, o0, o0, o0, o0, o0, o0, o0, o0, o0, o0, o0, o0, o0, o0] (((0 : Int32) + ((pl_end p1 (3 : Int32)) + (2 : Int32))) + ((pl_end p2 (3 : Int32)) + (2 : Int32))) (0 : Int32) gj n0 Zj jf1 jf2 jf3 jV1 jV2 (by decide) rfl (fun q => absurd rfl q) (fun q => absurd rfl q)) 0 (by decide) (by decide) ej (by rw [hml]; rfl) b710 jE [(.int (2 : Int32)), (.int (0 : Int32))] [] rfl (lenOf pd_8 rfl) rfl (Nat.le_of_eq rfl) (hb hby at_213) (by decide) (by decide) ?_
                    rintro T730 _ L730 X730 ⟨rfl, N730q, e730⟩
                    have N730 := Fr.app Nj N730q
                    show own_R p e below s _ _ _ T730 (mkF m 216 #[.val (.int p0), .val (.int p1), .val (.int p2), .val (.int p3), .val (.int p4), .val (.int (4 : Int32)), .val (.int off), .val (.ref b709), .val (.ref b710), .val (.ref vw), .val (.int ((pl_end p1 (3 : Int32)) + (2 : Int32))), .val (.int ((pl_end p2 (3 : Int32)) + (2 : Int32))), .val (.int (2 : Int32)), .val (.int (0 : Int32)), .val (.int p3), .val (.int (((pl_end p1 (3 : Int32)) + (2 : Int32)) + ((pl_end p2 (3 : Int32)) + (2 : Int32)))), .val (.int ((((pl_end p1 (3 : Int32)) + (2 : Int32)) + ((pl_end p2 (3 : Int32)) + (2 : Int32))) + (0 : Int32)))] [(.int (pl_fs (((0 : Int32) + ((pl_end p1 (3 : Int32)) + (2 : Int32))) + ((pl_end p2 (3 : Int32)) + (2 : Int32))) (0 : Int32) (0 : Int32)))])
                    refine own_iload X730 hx (hb hby at_216) rfl ?_
                    refine own_icmp X730 hx (hb hby at_218) (pc' := 225) (by decide) (by decide) (fun hc => ?_) (fun hc => ?_)
                    · have hc218 : ¬ (pl_fs (((0 : Int32) + ((pl_end p1 (3 : Int32)) + (2 : Int32))) + ((pl_end p2 (3 : Int32)) + (2 : Int32))) (0 : Int32) (0 : Int32)) = ((((pl_end p1 (3 : Int32)) + (2 : Int32)) + ((pl_end p2 (3 : Int32)) + (2 : Int32))) + (0 : Int32)) := own_ne1 hc
                      exact absurd (by simp only [pl_fs, Int32.zero_add, if_true, if_false, show ((0 : Int32) = 0) = True from by decide]) hc218
                    · have hc218 : (pl_fs (((0 : Int32) + ((pl_end p1 (3 : Int32)) + (2 : Int32))) + ((pl_end p2 (3 : Int32)) + (2 : Int32))) (0 : Int32) (0 : Int32)) = ((((pl_end p1 (3 : Int32)) + (2 : Int32)) + ((pl_end p2 (3 : Int32)) + (2 : Int32))) + (0 : Int32)) := own_ne0 hc
                      clear hc
                      refine own_iconst X730 hx (1 : Int32) (hb hby at_221) rfl ?_
                      refine own_goto X730 hx (hb hby at_222) (pc' := 226) (by decide) (by decide) ?_
                      show own_R p e below s _ _ _ T730 (mkF m 226 #[.val (.int p0), .val (.int p1), .val (.int p2), .val (.int p3), .val (.int p4), .val (.int (4 : Int32)), .val (.int off), .val (.ref b709), .val (.ref b710), .val (.ref vw), .val (.int ((pl_end p1 (3 : Int32)) + (2 : Int32))), .val (.int ((pl_end p2 (3 : Int32)) + (2 : Int32))), .val (.int (2 : Int32)), .val (.int (0 : Int32)), .val (.int p3), .val (.int (((pl_end p1 (3 : Int32)) + (2 : Int32)) + ((pl_end p2 (3 : Int32)) + (2 : Int32)))), .val (.int ((((pl_end p1 (3 : Int32)) + (2 : Int32)) + ((pl_end p2 (3 : Int32)) + (2 : Int32))) + (0 : Int32)))] [(.int (1 : Int32))])
                      refine own_retN X730 hx (t := .boolean) Bd.returns (by simp) hlk (hb hby at_226) ?_ (by decide) (by decide)
                      exact ⟨rfl, N730⟩
                · have hc167 : (2 : Int32) = (1 : Int32) := own_ne0 hc
                  exact absurd hc167 (by decide)
              · have hc157 : (2 : Int32) = (0 : Int32) := own_ne0 hc
                exact absurd hc157 (by decide)
            · have hc145 : (2 : Int32) = (1 : Int32) := own_ne0 hc
              exact absurd hc145 (by decide)
          · have hc135 : (2 : Int32) = (0 : Int32) := own_ne0 hc
            exact absurd hc135 (by decide)
        ·
          show own_R p e below s _ _ _ Tj (mkF m 133 #[.val (.int p0), .val (.int p1), .val (.int p2), .val (.int p3), .val (.int p4), .val (.int (4 : Int32)), .val (.int off), .val (.ref b709), .val (.ref b710), .val (.ref vw), .val (.int ((pl_end p1 (3 : Int32)) + (2 : Int32))), .val (.int ((pl_end p2 (3 : Int32)) + (2 : Int32))), .val (.int (2 : Int32)), .val (.int (1 : Int32)), .unset, .unset, .unset] [])
          refine own_iload Xj hx (hb hby at_133) rfl ?_
          refine own_if Xj hx (hb hby at_135) (pc' := 142) (by decide) (by decide) (fun hc => ?_) (fun hc => ?_)
          · have hc135 : ¬ (2 : Int32) = (0 : Int32) := own_ne1 hc
            clear hc
            refine own_iload Xj hx (hb hby at_142) rfl ?_
            refine own_iconst Xj hx (1 : Int32) (hb hby at_144) rfl ?_
            refine own_icmp Xj hx (hb hby at_145) (pc' := 152) (by decide) (by decide) (fun hc => ?_) (fun hc => ?_)
            · have hc145 : ¬ (2 : Int32) = (1 : Int32) := own_ne1 hc
              clear hc
              refine own_iloadN Xj hx (hb hby at_152) rfl ?_
              refine own_istore Xj hx (hb hby at_153) (l' := #[.val (.int p0), .val (.int p1), .val (.int p2), .val (.int p3), .val (.int p4), .val (.int (4 : Int32)), .val (.int off), .val (.ref b709), .val (.ref b710), .val (.ref vw), .val (.int ((pl_end p1 (3 : Int32)) + (2 : Int32))), .val (.int ((pl_end p2 (3 : Int32)) + (2 : Int32))), .val (.int (2 : Int32)), .val (.int (1 : Int32)), .val (.int p3), .unset, .unset]) rfl ?_
              refine own_iload Xj hx (hb hby at_155) rfl ?_
              refine own_if Xj hx (hb hby at_157) (pc' := 164) (by decide) (by decide) (fun hc => ?_) (fun hc => ?_)
              · have hc157 : ¬ (2 : Int32) = (0 : Int32) := own_ne1 hc
                clear hc
                refine own_iload Xj hx (hb hby at_164) rfl ?_
                refine own_iconst Xj hx (1 : Int32) (hb hby at_166) rfl ?_
                refine own_icmp Xj hx (hb hby at_167) (pc' := 175) (by decide) (by decide) (fun hc => ?_) (fun hc => ?_)
                · have hc167 : ¬ (2 : Int32) = (1 : Int32) := own_ne1 hc
                  clear hc
                  refine own_iload Xj hx (hb hby at_175) rfl ?_
                  refine own_iload Xj hx (hb hby at_177) rfl ?_
                  refine own_iadd Xj hx (hb hby at_179) ?_
                  refine own_istore Xj hx (hb hby at_180) (l' := #[.val (.int p0), .val (.int p1), .val (.int p2), .val (.int p3), .val (.int p4), .val (.int (4 : Int32)), .val (.int off), .val (.ref b709), .val (.ref b710), .val (.ref vw), .val (.int ((pl_end p1 (3 : Int32)) + (2 : Int32))), .val (.int ((pl_end p2 (3 : Int32)) + (2 : Int32))), .val (.int (2 : Int32)), .val (.int (1 : Int32)), .val (.int p3), .val (.int (((pl_end p1 (3 : Int32)) + (2 : Int32)) + ((pl_end p2 (3 : Int32)) + (2 : Int32)))), .unset]) rfl ?_
                  refine own_iload Xj hx (hb hby at_182) rfl ?_
                  refine own_iload Xj hx (hb hby at_184) rfl ?_
                  refine own_if Xj hx (hb hby at_186) (pc' := 193) (by decide) (by decide) (fun hc => ?_) (fun hc => ?_)
                  · have hc186 : ¬ (1 : Int32) = (0 : Int32) := own_ne1 hc
                    clear hc
                    refine own_iload Xj hx (hb hby at_193) rfl ?_
                    refine own_iload Xj hx (hb hby at_195) rfl ?_
                    refine own_iconst Xj hx (1 : Int32) (hb hby at_197) rfl ?_
                    refine own_isub Xj hx (hb hby at_198) ?_
                    refine own_callS Xj hx hZ (y := my9) hown (hw _ (List.mem_of_getElem? (i := 95) rfl)) (hw _ (List.mem_of_getElem? (i := 96) rfl)) (hw _ (List.mem_of_getElem? (i := 93) rfl)) (hw _ (List.mem_of_getElem? (i := 97) rfl)) (by decide) (rm9 l Z a0 hw [] p3 (0 : Int32) gj n0 Zj) 1 (by decide) (by decide) ej (by rw [hml]; rfl) [(.int p3), (.int (0 : Int32))] [(.int (((pl_end p1 (3 : Int32)) + (2 : Int32)) + ((pl_end p2 (3 : Int32)) + (2 : Int32))))] rfl (lenOf pd_8 rfl) rfl (Nat.le_of_eq rfl) (hb hby at_199) (by decide) (by decide) ?_
                    rintro T731 _ L731 X731 ⟨rfl, N731q, e731⟩
                    have N731 := Fr.app Nj N731q
                    show own_R p e below s _ _ _ T731 (mkF m 202 #[.val (.int p0), .val (.int p1), .val (.int p2), .val (.int p3), .val (.int p4), .val (.int (4 : Int32)), .val (.int off), .val (.ref b709), .val (.ref b710), .val (.ref vw), .val (.int ((pl_end p1 (3 : Int32)) + (2 : Int32))), .val (.int ((pl_end p2 (3 : Int32)) + (2 : Int32))), .val (.int (2 : Int32)), .val (.int (1 : Int32)), .val (.int p3), .val (.int (((pl_end p1 (3 : Int32)) + (2 : Int32)) + ((pl_end p2 (3 : Int32)) + (2 : Int32)))), .unset] [(.int (pl_end p3 (0 : Int32))), (.int (((pl_end p1 (3 : Int32)) + (2 : Int32)) + ((pl_end p2 (3 : Int32)) + (2 : Int32))))])
                    refine own_iconst X731 hx (1 : Int32) (hb hby at_202) rfl ?_
                    refine own_iadd X731 hx (hb hby at_203) ?_
                    refine own_iadd X731 hx (hb hby at_204) ?_
                    refine own_istore X731 hx (hb hby at_205) (l' := #[.val (.int p0), .val (.int p1), .val (.int p2), .val (.int p3), .val (.int p4), .val (.int (4 : Int32)), .val (.int off), .val (.ref b709), .val (.ref b710), .val (.ref vw), .val (.int ((pl_end p1 (3 : Int32)) + (2 : Int32))), .val (.int ((pl_end p2 (3 : Int32)) + (2 : Int32))), .val (.int (2 : Int32)), .val (.int (1 : Int32)), .val (.int p3), .val (.int (((pl_end p1 (3 : Int32)) + (2 : Int32)) + ((pl_end p2 (3 : Int32)) + (2 : Int32)))), .val (.int ((((pl_end p1 (3 : Int32)) + (2 : Int32)) + ((pl_end p2 (3 : Int32)) + (2 : Int32))) + ((pl_end p3 (0 : Int32)) + (1 : Int32))))]) rfl ?_
                    refine own_aload X731 hx (hb hby at_207) rfl rfl ?_
                    refine own_iload X731 hx (hb hby at_209) rfl ?_
                    refine own_iload X731 hx (hb hby at_211) rfl ?_
                    refine own_callV X731 hx hZ (y := my16) (z := my16) hown (hw _ (List.mem_of_getElem? (i := 136) rfl)) (hw _ (List.mem_of_getElem? (i := 137) rfl)) (notFace_of_selects (args := #[]) (mvT hZ (hw _ (List.mem_of_getElem? (i := 139) rfl)))) (hw _ (List.mem_of_getElem? (i := 139) rfl)) (hw _ (List.mem_of_getElem? (i := 138) rfl)) (hw _ (List.mem_of_getElem? (i := 3) rfl)) (hw _ (List.mem_of_getElem? (i := 140) rfl)) (by decide) (rm16 l Z a0 hw [] b710 (2 : Int32) (1 : Int32) ys yf ks kf (4 : Int32) [o0, (.int ((0 : Int32) + ((pl_end p1 (3 : Int32)) + (2 : Int32)))), (.int (((0 : Int32) + ((pl_end p1 (3 : Int32)) + (2 : Int32))) + ((pl_end p2 (3 : Int32)) + (2 : Int32)))), o0, o0, o0, o0, o0, o0, o0, o0, o0, o0, o0, o0, o0] [(.int (pl_end p1 (0 : Int32))), (.int (pl_end p1 (1 : Int32))), (.int (pl_end p1 (2 : Int32))), (.int (pl_end p1 (3 : Int32))), (.int (pl_end p2 (0 : Int32))), (.int (pl_end p2 (1 : Int32))), (.int (pl_end p2 (2 : Int32))), (.int (pl_end p2 (3 : Int32))), (.int (pl_end p3 (0 : Int32))), (.int (pl_end p3 (1 : Int32))), (.int (pl_end p3 (2 : Int32))), (.int (pl_end p3 (3 : Int32))), o0, o0, o0, o0, o0, o0, o0, o0, o0, o0, o0, o0, o0, o0, o0, o0, o0, o0, o0, o0, o0, o0, o0, o0, o0, o0, o0, o0, o0, o0, o0, o0, o0, o0, o0, o0, o0, o0, o0, o0, o0, o0, o0, o0, o0, o0, o0, o0, o0, o0, o0, o0] (((0 : Int32) + ((pl_end p1 (3 : Int32)) + (2 : Int32))) + ((pl_end p2 (3 : Int32)) + (2 : Int32))) (pl_end p3 (0 : Int32)) gj n0 Zj jf1 jf2 jf3 jV1 jV2 (by decide) rfl (fun _ => by decide) (fun _ => rfl)) 0 (by decide) (by decide) e731 (by rw [hml]; rfl) b710 jE [(.int (2 : Int32)), (.int (1 : Int32))] [] rfl (lenOf pd_8 rfl) rfl (Nat.le_of_eq rfl) (hb hby at_213) (by decide) (by decide) ?_
                    rintro T732 _ L732 X732 ⟨rfl, N732q, e732⟩
                    have N732 := Fr.app N731 N732q
                    show own_R p e below s _ _ _ T732 (mkF m 216 #[.val (.int p0), .val (.int p1), .val (.int p2), .val (.int p3), .val (.int p4), .val (.int (4 : Int32)), .val (.int off), .val (.ref b709), .val (.ref b710), .val (.ref vw), .val (.int ((pl_end p1 (3 : Int32)) + (2 : Int32))), .val (.int ((pl_end p2 (3 : Int32)) + (2 : Int32))), .val (.int (2 : Int32)), .val (.int (1 : Int32)), .val (.int p3), .val (.int (((pl_end p1 (3 : Int32)) + (2 : Int32)) + ((pl_end p2 (3 : Int32)) + (2 : Int32)))), .val (.int ((((pl_end p1 (3 : Int32)) + (2 : Int32)) + ((pl_end p2 (3 : Int32)) + (2 : Int32))) + ((pl_end p3 (0 : Int32)) + (1 : Int32))))] [(.int (pl_fs (((0 : Int32) + ((pl_end p1 (3 : Int32)) + (2 : Int32))) + ((pl_end p2 (3 : Int32)) + (2 : Int32))) (pl_end p3 (0 : Int32)) (1 : Int32)))])
                    refine own_iload X732 hx (hb hby at_216) rfl ?_
                    refine own_icmp X732 hx (hb hby at_218) (pc' := 225) (by decide) (by decide) (fun hc => ?_) (fun hc => ?_)
                    · have hc218 : ¬ (pl_fs (((0 : Int32) + ((pl_end p1 (3 : Int32)) + (2 : Int32))) + ((pl_end p2 (3 : Int32)) + (2 : Int32))) (pl_end p3 (0 : Int32)) (1 : Int32)) = ((((pl_end p1 (3 : Int32)) + (2 : Int32)) + ((pl_end p2 (3 : Int32)) + (2 : Int32))) + ((pl_end p3 (0 : Int32)) + (1 : Int32))) := own_ne1 hc
                      exact absurd (by simp only [pl_fs, Int32.zero_add, if_true, if_false, show ((1 : Int32) = 0) = False from by decide]) hc218
                    · have hc218 : (pl_fs (((0 : Int32) + ((pl_end p1 (3 : Int32)) + (2 : Int32))) + ((pl_end p2 (3 : Int32)) + (2 : Int32))) (pl_end p3 (0 : Int32)) (1 : Int32)) = ((((pl_end p1 (3 : Int32)) + (2 : Int32)) + ((pl_end p2 (3 : Int32)) + (2 : Int32))) + ((pl_end p3 (0 : Int32)) + (1 : Int32))) := own_ne0 hc
                      clear hc
                      refine own_iconst X732 hx (1 : Int32) (hb hby at_221) rfl ?_
                      refine own_goto X732 hx (hb hby at_222) (pc' := 226) (by decide) (by decide) ?_
                      show own_R p e below s _ _ _ T732 (mkF m 226 #[.val (.int p0), .val (.int p1), .val (.int p2), .val (.int p3), .val (.int p4), .val (.int (4 : Int32)), .val (.int off), .val (.ref b709), .val (.ref b710), .val (.ref vw), .val (.int ((pl_end p1 (3 : Int32)) + (2 : Int32))), .val (.int ((pl_end p2 (3 : Int32)) + (2 : Int32))), .val (.int (2 : Int32)), .val (.int (1 : Int32)), .val (.int p3), .val (.int (((pl_end p1 (3 : Int32)) + (2 : Int32)) + ((pl_end p2 (3 : Int32)) + (2 : Int32)))), .val (.int ((((pl_end p1 (3 : Int32)) + (2 : Int32)) + ((pl_end p2 (3 : Int32)) + (2 : Int32))) + ((pl_end p3 (0 : Int32)) + (1 : Int32))))] [(.int (1 : Int32))])
                      refine own_retN X732 hx (t := .boolean) Bd.returns (by simp) hlk (hb hby at_226) ?_ (by decide) (by decide)
                      exact ⟨rfl, N732⟩
                  · have hc186 : (1 : Int32) = (0 : Int32) := own_ne0 hc
                    exact absurd hc186 (by decide)
                · have hc167 : (2 : Int32) = (1 : Int32) := own_ne0 hc
                  exact absurd hc167 (by decide)
              · have hc157 : (2 : Int32) = (0 : Int32) := own_ne0 hc
                exact absurd hc157 (by decide)
            · have hc145 : (2 : Int32) = (1 : Int32) := own_ne0 hc
              exact absurd hc145 (by decide)
          · have hc135 : (2 : Int32) = (0 : Int32) := own_ne0 hc
            exact absurd hc135 (by decide)
        ·
          show own_R p e below s _ _ _ Tj (mkF m 133 #[.val (.int p0), .val (.int p1), .val (.int p2), .val (.int p3), .val (.int p4), .val (.int (4 : Int32)), .val (.int off), .val (.ref b709), .val (.ref b710), .val (.ref vw), .val (.int ((pl_end p1 (3 : Int32)) + (2 : Int32))), .val (.int ((pl_end p2 (3 : Int32)) + (2 : Int32))), .val (.int (2 : Int32)), .val (.int (2 : Int32)), .unset, .unset, .unset] [])
          refine own_iload Xj hx (hb hby at_133) rfl ?_
          refine own_if Xj hx (hb hby at_135) (pc' := 142) (by decide) (by decide) (fun hc => ?_) (fun hc => ?_)
          · have hc135 : ¬ (2 : Int32) = (0 : Int32) := own_ne1 hc
            clear hc
            refine own_iload Xj hx (hb hby at_142) rfl ?_
            refine own_iconst Xj hx (1 : Int32) (hb hby at_144) rfl ?_
            refine own_icmp Xj hx (hb hby at_145) (pc' := 152) (by decide) (by decide) (fun hc => ?_) (fun hc => ?_)
            · have hc145 : ¬ (2 : Int32) = (1 : Int32) := own_ne1 hc
              clear hc
              refine own_iloadN Xj hx (hb hby at_152) rfl ?_
              refine own_istore Xj hx (hb hby at_153) (l' := #[.val (.int p0), .val (.int p1), .val (.int p2), .val (.int p3), .val (.int p4), .val (.int (4 : Int32)), .val (.int off), .val (.ref b709), .val (.ref b710), .val (.ref vw), .val (.int ((pl_end p1 (3 : Int32)) + (2 : Int32))), .val (.int ((pl_end p2 (3 : Int32)) + (2 : Int32))), .val (.int (2 : Int32)), .val (.int (2 : Int32)), .val (.int p3), .unset, .unset]) rfl ?_
              refine own_iload Xj hx (hb hby at_155) rfl ?_
              refine own_if Xj hx (hb hby at_157) (pc' := 164) (by decide) (by decide) (fun hc => ?_) (fun hc => ?_)
              · have hc157 : ¬ (2 : Int32) = (0 : Int32) := own_ne1 hc
                clear hc
                refine own_iload Xj hx (hb hby at_164) rfl ?_
                refine own_iconst Xj hx (1 : Int32) (hb hby at_166) rfl ?_
                refine own_icmp Xj hx (hb hby at_167) (pc' := 175) (by decide) (by decide) (fun hc => ?_) (fun hc => ?_)
                · have hc167 : ¬ (2 : Int32) = (1 : Int32) := own_ne1 hc
                  clear hc
                  refine own_iload Xj hx (hb hby at_175) rfl ?_
                  refine own_iload Xj hx (hb hby at_177) rfl ?_
                  refine own_iadd Xj hx (hb hby at_179) ?_
                  refine own_istore Xj hx (hb hby at_180) (l' := #[.val (.int p0), .val (.int p1), .val (.int p2), .val (.int p3), .val (.int p4), .val (.int (4 : Int32)), .val (.int off), .val (.ref b709), .val (.ref b710), .val (.ref vw), .val (.int ((pl_end p1 (3 : Int32)) + (2 : Int32))), .val (.int ((pl_end p2 (3 : Int32)) + (2 : Int32))), .val (.int (2 : Int32)), .val (.int (2 : Int32)), .val (.int p3), .val (.int (((pl_end p1 (3 : Int32)) + (2 : Int32)) + ((pl_end p2 (3 : Int32)) + (2 : Int32)))), .unset]) rfl ?_
                  refine own_iload Xj hx (hb hby at_182) rfl ?_
                  refine own_iload Xj hx (hb hby at_184) rfl ?_
                  refine own_if Xj hx (hb hby at_186) (pc' := 193) (by decide) (by decide) (fun hc => ?_) (fun hc => ?_)
                  · have hc186 : ¬ (2 : Int32) = (0 : Int32) := own_ne1 hc
                    clear hc
                    refine own_iload Xj hx (hb hby at_193) rfl ?_
                    refine own_iload Xj hx (hb hby at_195) rfl ?_
                    refine own_iconst Xj hx (1 : Int32) (hb hby at_197) rfl ?_
                    refine own_isub Xj hx (hb hby at_198) ?_
                    refine own_callS Xj hx hZ (y := my9) hown (hw _ (List.mem_of_getElem? (i := 95) rfl)) (hw _ (List.mem_of_getElem? (i := 96) rfl)) (hw _ (List.mem_of_getElem? (i := 93) rfl)) (hw _ (List.mem_of_getElem? (i := 97) rfl)) (by decide) (rm9 l Z a0 hw [] p3 (1 : Int32) gj n0 Zj) 1 (by decide) (by decide) ej (by rw [hml]; rfl) [(.int p3), (.int (1 : Int32))] [(.int (((pl_end p1 (3 : Int32)) + (2 : Int32)) + ((pl_end p2 (3 : Int32)) + (2 : Int32))))] rfl (lenOf pd_8 rfl) rfl (Nat.le_of_eq rfl) (hb hby at_199) (by decide) (by decide) ?_
                    rintro T733 _ L733 X733 ⟨rfl, N733q, e733⟩
                    have N733 := Fr.app Nj N733q
                    show own_R p e below s _ _ _ T733 (mkF m 202 #[.val (.int p0), .val (.int p1), .val (.int p2), .val (.int p3), .val (.int p4), .val (.int (4 : Int32)), .val (.int off), .val (.ref b709), .val (.ref b710), .val (.ref vw), .val (.int ((pl_end p1 (3 : Int32)) + (2 : Int32))), .val (.int ((pl_end p2 (3 : Int32)) + (2 : Int32))), .val (.int (2 : Int32)), .val (.int (2 : Int32)), .val (.int p3), .val (.int (((pl_end p1 (3 : Int32)) + (2 : Int32)) + ((pl_end p2 (3 : Int32)) + (2 : Int32)))), .unset] [(.int (pl_end p3 (1 : Int32))), (.int (((pl_end p1 (3 : Int32)) + (2 : Int32)) + ((pl_end p2 (3 : Int32)) + (2 : Int32))))])
                    refine own_iconst X733 hx (1 : Int32) (hb hby at_202) rfl ?_
                    refine own_iadd X733 hx (hb hby at_203) ?_
                    refine own_iadd X733 hx (hb hby at_204) ?_
                    refine own_istore X733 hx (hb hby at_205) (l' := #[.val (.int p0), .val (.int p1), .val (.int p2), .val (.int p3), .val (.int p4), .val (.int (4 : Int32)), .val (.int off), .val (.ref b709), .val (.ref b710), .val (.ref vw), .val (.int ((pl_end p1 (3 : Int32)) + (2 : Int32))), .val (.int ((pl_end p2 (3 : Int32)) + (2 : Int32))), .val (.int (2 : Int32)), .val (.int (2 : Int32)), .val (.int p3), .val (.int (((pl_end p1 (3 : Int32)) + (2 : Int32)) + ((pl_end p2 (3 : Int32)) + (2 : Int32)))), .val (.int ((((pl_end p1 (3 : Int32)) + (2 : Int32)) + ((pl_end p2 (3 : Int32)) + (2 : Int32))) + ((pl_end p3 (1 : Int32)) + (1 : Int32))))]) rfl ?_
                    refine own_aload X733 hx (hb hby at_207) rfl rfl ?_
                    refine own_iload X733 hx (hb hby at_209) rfl ?_
                    refine own_iload X733 hx (hb hby at_211) rfl ?_
                    refine own_callV X733 hx hZ (y := my16) (z := my16) hown (hw _ (List.mem_of_getElem? (i := 136) rfl)) (hw _ (List.mem_of_getElem? (i := 137) rfl)) (notFace_of_selects (args := #[]) (mvT hZ (hw _ (List.mem_of_getElem? (i := 139) rfl)))) (hw _ (List.mem_of_getElem? (i := 139) rfl)) (hw _ (List.mem_of_getElem? (i := 138) rfl)) (hw _ (List.mem_of_getElem? (i := 3) rfl)) (hw _ (List.mem_of_getElem? (i := 140) rfl)) (by decide) (rm16 l Z a0 hw [] b710 (2 : Int32) (2 : Int32) ys yf ks kf (4 : Int32) [o0, (.int ((0 : Int32) + ((pl_end p1 (3 : Int32)) + (2 : Int32)))), (.int (((0 : Int32) + ((pl_end p1 (3 : Int32)) + (2 : Int32))) + ((pl_end p2 (3 : Int32)) + (2 : Int32)))), o0, o0, o0, o0, o0, o0, o0, o0, o0, o0, o0, o0, o0] [(.int (pl_end p1 (0 : Int32))), (.int (pl_end p1 (1 : Int32))), (.int (pl_end p1 (2 : Int32))), (.int (pl_end p1 (3 : Int32))), (.int (pl_end p2 (0 : Int32))), (.int (pl_end p2 (1 : Int32))), (.int (pl_end p2 (2 : Int32))), (.int (pl_end p2 (3 : Int32))), (.int (pl_end p3 (0 : Int32))), (.int (pl_end p3 (1 : Int32))), (.int (pl_end p3 (2 : Int32))), (.int (pl_end p3 (3 : Int32))), o0, o0, o0, o0, o0, o0, o0, o0, o0, o0, o0, o0, o0, o0, o0, o0, o0, o0, o0, o0, o0, o0, o0, o0, o0, o0, o0, o0, o0, o0, o0, o0, o0, o0, o0, o0, o0, o0, o0, o0, o0, o0, o0, o0, o0, o0, o0, o0, o0, o0, o0, o0] (((0 : Int32) + ((pl_end p1 (3 : Int32)) + (2 : Int32))) + ((pl_end p2 (3 : Int32)) + (2 : Int32))) (pl_end p3 (1 : Int32)) gj n0 Zj jf1 jf2 jf3 jV1 jV2 (by decide) rfl (fun _ => by decide) (fun _ => rfl)) 0 (by decide) (by decide) e733 (by rw [hml]; rfl) b710 jE [(.int (2 : Int32)), (.int (2 : Int32))] [] rfl (lenOf pd_8 rfl) rfl (Nat.le_of_eq rfl) (hb hby at_213) (by decide) (by decide) ?_
                    rintro T734 _ L734 X734 ⟨rfl, N734q, e734⟩
                    have N734 := Fr.app N733 N734q
                    show own_R p e below s _ _ _ T734 (mkF m 216 #[.val (.int p0), .val (.int p1), .val (.int p2), .val (.int p3), .val (.int p4), .val (.int (4 : Int32)), .val (.int off), .val (.ref b709), .val (.ref b710), .val (.ref vw), .val (.int ((pl_end p1 (3 : Int32)) + (2 : Int32))), .val (.int ((pl_end p2 (3 : Int32)) + (2 : Int32))), .val (.int (2 : Int32)), .val (.int (2 : Int32)), .val (.int p3), .val (.int (((pl_end p1 (3 : Int32)) + (2 : Int32)) + ((pl_end p2 (3 : Int32)) + (2 : Int32)))), .val (.int ((((pl_end p1 (3 : Int32)) + (2 : Int32)) + ((pl_end p2 (3 : Int32)) + (2 : Int32))) + ((pl_end p3 (1 : Int32)) + (1 : Int32))))] [(.int (pl_fs (((0 : Int32) + ((pl_end p1 (3 : Int32)) + (2 : Int32))) + ((pl_end p2 (3 : Int32)) + (2 : Int32))) (pl_end p3 (1 : Int32)) (2 : Int32)))])
                    refine own_iload X734 hx (hb hby at_216) rfl ?_
                    refine own_icmp X734 hx (hb hby at_218) (pc' := 225) (by decide) (by decide) (fun hc => ?_) (fun hc => ?_)
                    · have hc218 : ¬ (pl_fs (((0 : Int32) + ((pl_end p1 (3 : Int32)) + (2 : Int32))) + ((pl_end p2 (3 : Int32)) + (2 : Int32))) (pl_end p3 (1 : Int32)) (2 : Int32)) = ((((pl_end p1 (3 : Int32)) + (2 : Int32)) + ((pl_end p2 (3 : Int32)) + (2 : Int32))) + ((pl_end p3 (1 : Int32)) + (1 : Int32))) := own_ne1 hc
                      exact absurd (by simp only [pl_fs, Int32.zero_add, if_true, if_false, show ((2 : Int32) = 0) = False from by decide]) hc218
                    · have hc218 : (pl_fs (((0 : Int32) + ((pl_end p1 (3 : Int32)) + (2 : Int32))) + ((pl_end p2 (3 : Int32)) + (2 : Int32))) (pl_end p3 (1 : Int32)) (2 : Int32)) = ((((pl_end p1 (3 : Int32)) + (2 : Int32)) + ((pl_end p2 (3 : Int32)) + (2 : Int32))) + ((pl_end p3 (1 : Int32)) + (1 : Int32))) := own_ne0 hc
                      clear hc
                      refine own_iconst X734 hx (1 : Int32) (hb hby at_221) rfl ?_
                      refine own_goto X734 hx (hb hby at_222) (pc' := 226) (by decide) (by decide) ?_
                      show own_R p e below s _ _ _ T734 (mkF m 226 #[.val (.int p0), .val (.int p1), .val (.int p2), .val (.int p3), .val (.int p4), .val (.int (4 : Int32)), .val (.int off), .val (.ref b709), .val (.ref b710), .val (.ref vw), .val (.int ((pl_end p1 (3 : Int32)) + (2 : Int32))), .val (.int ((pl_end p2 (3 : Int32)) + (2 : Int32))), .val (.int (2 : Int32)), .val (.int (2 : Int32)), .val (.int p3), .val (.int (((pl_end p1 (3 : Int32)) + (2 : Int32)) + ((pl_end p2 (3 : Int32)) + (2 : Int32)))), .val (.int ((((pl_end p1 (3 : Int32)) + (2 : Int32)) + ((pl_end p2 (3 : Int32)) + (2 : Int32))) + ((pl_end p3 (1 : Int32)) + (1 : Int32))))] [(.int (1 : Int32))])
                      refine own_retN X734 hx (t := .boolean) Bd.returns (by simp) hlk (hb hby at_226) ?_ (by decide) (by decide)
                      exact ⟨rfl, N734⟩
                  · have hc186 : (2 : Int32) = (0 : Int32) := own_ne0 hc
                    exact absurd hc186 (by decide)
                · have hc167 : (2 : Int32) = (1 : Int32) := own_ne0 hc
                  exact absurd hc167 (by decide)
              · have hc157 : (2 : Int32) = (0 : Int32) := own_ne0 hc
                exact absurd hc157 (by decide)
            · have hc145 : (2 : Int32) = (1 : Int32) := own_ne0 hc
              exact absurd hc145 (by decide)
          · have hc135 : (2 : Int32) = (0 : Int32) := own_ne0 hc
            exact absurd hc135 (by decide)
        ·
          show own_R p e below s _ _ _ Tj (mkF m 133 #[.val (.int p0), .val (.int p1), .val (.int p2), .val (.int p3), .val (.int p4), .val (.int (4 : Int32)), .val (.int off), .val (.ref b709), .val (.ref b710), .val (.ref vw), .val (.int ((pl_end p1 (3 : Int32)) + (2 : Int32))), .val (.int ((pl_end p2 (3 : Int32)) + (2 : Int32))), .val (.int (2 : Int32)), .val (.int (3 : Int32)), .unset, .unset, .unset] [])
          refine own_iload Xj hx (hb hby at_133) rfl ?_
          refine own_if Xj hx (hb hby at_135) (pc' := 142) (by decide) (by decide) (fun hc => ?_) (fun hc => ?_)
          · have hc135 : ¬ (2 : Int32) = (0 : Int32) := own_ne1 hc
            clear hc
            refine own_iload Xj hx (hb hby at_142) rfl ?_
            refine own_iconst Xj hx (1 : Int32) (hb hby at_144) rfl ?_
            refine own_icmp Xj hx (hb hby at_145) (pc' := 152) (by decide) (by decide) (fun hc => ?_) (fun hc => ?_)
            · have hc145 : ¬ (2 : Int32) = (1 : Int32) := own_ne1 hc
              clear hc
              refine own_iloadN Xj hx (hb hby at_152) rfl ?_
              refine own_istore Xj hx (hb hby at_153) (l' := #[.val (.int p0), .val (.int p1), .val (.int p2), .val (.int p3), .val (.int p4), .val (.int (4 : Int32)), .val (.int off), .val (.ref b709), .val (.ref b710), .val (.ref vw), .val (.int ((pl_end p1 (3 : Int32)) + (2 : Int32))), .val (.int ((pl_end p2 (3 : Int32)) + (2 : Int32))), .val (.int (2 : Int32)), .val (.int (3 : Int32)), .val (.int p3), .unset, .unset]) rfl ?_
              refine own_iload Xj hx (hb hby at_155) rfl ?_
              refine own_if Xj hx (hb hby at_157) (pc' := 164) (by decide) (by decide) (fun hc => ?_) (fun hc => ?_)
              · have hc157 : ¬ (2 : Int32) = (0 : Int32) := own_ne1 hc
                clear hc
                refine own_iload Xj hx (hb hby at_164) rfl ?_
                refine own_iconst Xj hx (1 : Int32) (hb hby at_166) rfl ?_
                refine own_icmp Xj hx (hb hby at_167) (pc' := 175) (by decide) (by decide) (fun hc => ?_) (fun hc => ?_)
                · have hc167 : ¬ (2 : Int32) = (1 : Int32) := own_ne1 hc
                  clear hc
                  refine own_iload Xj hx (hb hby at_175) rfl ?_
                  refine own_iload Xj hx (hb hby at_177) rfl ?_
                  refine own_iadd Xj hx (hb hby at_179) ?_
                  refine own_istore Xj hx (hb hby at_180) (l' := #[.val (.int p0), .val (.int p1), .val (.int p2), .val (.int p3), .val (.int p4), .val (.int (4 : Int32)), .val (.int off), .val (.ref b709), .val (.ref b710), .val (.ref vw), .val (.int ((pl_end p1 (3 : Int32)) + (2 : Int32))), .val (.int ((pl_end p2 (3 : Int32)) + (2 : Int32))), .val (.int (2 : Int32)), .val (.int (3 : Int32)), .val (.int p3), .val (.int (((pl_end p1 (3 : Int32)) + (2 : Int32)) + ((pl_end p2 (3 : Int32)) + (2 : Int32)))), .unset]) rfl ?_
                  refine own_iload Xj hx (hb hby at_182) rfl ?_
                  refine own_iload Xj hx (hb hby at_184) rfl ?_
                  refine own_if Xj hx (hb hby at_186) (pc' := 193) (by decide) (by decide) (fun hc => ?_) (fun hc => ?_)
                  · have hc186 : ¬ (3 : Int32) = (0 : Int32) := own_ne1 hc
                    clear hc
                    refine own_iload Xj hx (hb hby at_193) rfl ?_
                    refine own_iload Xj hx (hb hby at_195) rfl ?_
                    refine own_iconst Xj hx (1 : Int32) (hb hby at_197) rfl ?_
                    refine own_isub Xj hx (hb hby at_198) ?_
                    refine own_callS Xj hx hZ (y := my9) hown (hw _ (List.mem_of_getElem? (i := 95) rfl)) (hw _ (List.mem_of_getElem? (i := 96) rfl)) (hw _ (List.mem_of_getElem? (i := 93) rfl)) (hw _ (List.mem_of_getElem? (i := 97) rfl)) (by decide) (rm9 l Z a0 hw [] p3 (2 : Int32) gj n0 Zj) 1 (by decide) (by decide) ej (by rw [hml]; rfl) [(.int p3), (.int (2 : Int32))] [(.int (((pl_end p1 (3 : Int32)) + (2 : Int32)) + ((pl_end p2 (3 : Int32)) + (2 : Int32))))] rfl (lenOf pd_8 rfl) rfl (Nat.le_of_eq rfl) (hb hby at_199) (by decide) (by decide) ?_
                    rintro T735 _ L735 X735 ⟨rfl, N735q, e735⟩
                    have N735 := Fr.app Nj N735q
                    show own_R p e below s _ _ _ T735 (mkF m 202 #[.val (.int p0), .val (.int p1), .val (.int p2), .val (.int p3), .val (.int p4), .val (.int (4 : Int32)), .val (.int off), .val (.ref b709), .val (.ref b710), .val (.ref vw), .val (.int ((pl_end p1 (3 : Int32)) + (2 : Int32))), .val (.int ((pl_end p2 (3 : Int32)) + (2 : Int32))), .val (.int (2 : Int32)), .val (.int (3 : Int32)), .val (.int p3), .val (.int (((pl_end p1 (3 : Int32)) + (2 : Int32)) + ((pl_end p2 (3 : Int32)) + (2 : Int32)))), .unset] [(.int (pl_end p3 (2 : Int32))), (.int (((pl_end p1 (3 : Int32)) + (2 : Int32)) + ((pl_end p2 (3 : Int32)) + (2 : Int32))))])
                    refine own_iconst X735 hx (1 : Int32) (hb hby at_202) rfl ?_
                    refine own_iadd X735 hx (hb hby at_203) ?_
                    refine own_iadd X735 hx (hb hby at_204) ?_
                    refine own_istore X735 hx (hb hby at_205) (l' := #[.val (.int p0), .val (.int p1), .val (.int p2), .val (.int p3), .val (.int p4), .val (.int (4 : Int32)), .val (.int off), .val (.ref b709), .val (.ref b710), .val (.ref vw), .val (.int ((pl_end p1 (3 : Int32)) + (2 : Int32))), .val (.int ((pl_end p2 (3 : Int32)) + (2 : Int32))), .val (.int (2 : Int32)), .val (.int (3 : Int32)), .val (.int p3), .val (.int (((pl_end p1 (3 : Int32)) + (2 : Int32)) + ((pl_end p2 (3 : Int32)) + (2 : Int32)))), .val (.int ((((pl_end p1 (3 : Int32)) + (2 : Int32)) + ((pl_end p2 (3 : Int32)) + (2 : Int32))) + ((pl_end p3 (2 : Int32)) + (1 : Int32))))]) rfl ?_
                    refine own_aload X735 hx (hb hby at_207) rfl rfl ?_
                    refine own_iload X735 hx (hb hby at_209) rfl ?_
                    refine own_iload X735 hx (hb hby at_211) rfl ?_
                    refine own_callV X735 hx hZ (y := my16) (z := my16) hown (hw _ (List.mem_of_getElem? (i := 136) rfl)) (hw _ (List.mem_of_getElem? (i := 137) rfl)) (notFace_of_selects (args := #[]) (mvT hZ (hw _ (List.mem_of_getElem? (i := 139) rfl)))) (hw _ (List.mem_of_getElem? (i := 139) rfl)) (hw _ (List.mem_of_getElem? (i := 138) rfl)) (hw _ (List.mem_of_getElem? (i := 3) rfl)) (hw _ (List.mem_of_getElem? (i := 140) rfl)) (by decide) (rm16 l Z a0 hw [] b710 (2 : Int32) (3 : Int32) ys yf ks kf (4 : Int32) [o0, (.int ((0 : Int32) + ((pl_end p1 (3 : Int32)) + (2 : Int32)))), (.int (((0 : Int32) + ((pl_end p1 (3 : Int32)) + (2 : Int32))) + ((pl_end p2 (3 : Int32)) + (2 : Int32)))), o0, o0, o0, o0, o0, o0, o0, o0, o0, o0, o0, o0, o0] [(.int (pl_end p1 (0 : Int32))), (.int (pl_end p1 (1 : Int32))), (.int (pl_end p1 (2 : Int32))), (.int (pl_end p1 (3 : Int32))), (.int (pl_end p2 (0 : Int32))), (.int (pl_end p2 (1 : Int32))), (.int (pl_end p2 (2 : Int32))), (.int (pl_end p2 (3 : Int32))), (.int (pl_end p3 (0 : Int32))), (.int (pl_end p3 (1 : Int32))), (.int (pl_end p3 (2 : Int32))), (.int (pl_end p3 (3 : Int32))), o0, o0, o0, o0, o0, o0, o0, o0, o0, o0, o0, o0, o0, o0, o0, o0, o0, o0, o0, o0, o0, o0, o0, o0, o0, o0, o0, o0, o0, o0, o0, o0, o0, o0, o0, o0, o0, o0, o0, o0, o0, o0, o0, o0, o0, o0, o0, o0, o0, o0, o0, o0] (((0 : Int32) + ((pl_end p1 (3 : Int32)) + (2 : Int32))) + ((pl_end p2 (3 : Int32)) + (2 : Int32))) (pl_end p3 (2 : Int32)) gj n0 Zj jf1 jf2 jf3 jV1 jV2 (by decide) rfl (fun _ => by decide) (fun _ => rfl)) 0 (by decide) (by decide) e735 (by rw [hml]; rfl) b710 jE [(.int (2 : Int32)), (.int (3 : Int32))] [] rfl (lenOf pd_8 rfl) rfl (Nat.le_of_eq rfl) (hb hby at_213) (by decide) (by decide) ?_
                    rintro T736 _ L736 X736 ⟨rfl, N736q, e736⟩
                    have N736 := Fr.app N735 N736q
                    show own_R p e below s _ _ _ T736 (mkF m 216 #[.val (.int p0), .val (.int p1), .val (.int p2), .val (.int p3), .val (.int p4), .val (.int (4 : Int32)), .val (.int off), .val (.ref b709), .val (.ref b710), .val (.ref vw), .val (.int ((pl_end p1 (3 : Int32)) + (2 : Int32))), .val (.int ((pl_end p2 (3 : Int32)) + (2 : Int32))), .val (.int (2 : Int32)), .val (.int (3 : Int32)), .val (.int p3), .val (.int (((pl_end p1 (3 : Int32)) + (2 : Int32)) + ((pl_end p2 (3 : Int32)) + (2 : Int32)))), .val (.int ((((pl_end p1 (3 : Int32)) + (2 : Int32)) + ((pl_end p2 (3 : Int32)) + (2 : Int32))) + ((pl_end p3 (2 : Int32)) + (1 : Int32))))] [(.int (pl_fs (((0 : Int32) + ((pl_end p1 (3 : Int32)) + (2 : Int32))) + ((pl_end p2 (3 : Int32)) + (2 : Int32))) (pl_end p3 (2 : Int32)) (3 : Int32)))])
                    refine own_iload X736 hx (hb hby at_216) rfl ?_
                    refine own_icmp X736 hx (hb hby at_218) (pc' := 225) (by decide) (by decide) (fun hc => ?_) (fun hc => ?_)
                    · have hc218 : ¬ (pl_fs (((0 : Int32) + ((pl_end p1 (3 : Int32)) + (2 : Int32))) + ((pl_end p2 (3 : Int32)) + (2 : Int32))) (pl_end p3 (2 : Int32)) (3 : Int32)) = ((((pl_end p1 (3 : Int32)) + (2 : Int32)) + ((pl_end p2 (3 : Int32)) + (2 : Int32))) + ((pl_end p3 (2 : Int32)) + (1 : Int32))) := own_ne1 hc
                      exact absurd (by simp only [pl_fs, Int32.zero_add, if_true, if_false, show ((3 : Int32) = 0) = False from by decide]) hc218
                    · have hc218 : (pl_fs (((0 : Int32) + ((pl_end p1 (3 : Int32)) + (2 : Int32))) + ((pl_end p2 (3 : Int32)) + (2 : Int32))) (pl_end p3 (2 : Int32)) (3 : Int32)) = ((((pl_end p1 (3 : Int32)) + (2 : Int32)) + ((pl_end p2 (3 : Int32)) + (2 : Int32))) + ((pl_end p3 (2 : Int32)) + (1 : Int32))) := own_ne0 hc
                      clear hc
                      refine own_iconst X736 hx (1 : Int32) (hb hby at_221) rfl ?_
                      refine own_goto X736 hx (hb hby at_222) (pc' := 226) (by decide) (by decide) ?_
                      show own_R p e below s _ _ _ T736 (mkF m 226 #[.val (.int p0), .val (.int p1), .val (.int p2), .val (.int p3), .val (.int p4), .val (.int (4 : Int32)), .val (.int off), .val (.ref b709), .val (.ref b710), .val (.ref vw), .val (.int ((pl_end p1 (3 : Int32)) + (2 : Int32))), .val (.int ((pl_end p2 (3 : Int32)) + (2 : Int32))), .val (.int (2 : Int32)), .val (.int (3 : Int32)), .val (.int p3), .val (.int (((pl_end p1 (3 : Int32)) + (2 : Int32)) + ((pl_end p2 (3 : Int32)) + (2 : Int32)))), .val (.int ((((pl_end p1 (3 : Int32)) + (2 : Int32)) + ((pl_end p2 (3 : Int32)) + (2 : Int32))) + ((pl_end p3 (2 : Int32)) + (1 : Int32))))] [(.int (1 : Int32))])
                      refine own_retN X736 hx (t := .boolean) Bd.returns (by simp) hlk (hb hby at_226) ?_ (by decide) (by decide)
                      exact ⟨rfl, N736⟩
                  · have hc186 : (3 : Int32) = (0 : Int32) := own_ne0 hc
                    exact absurd hc186 (by decide)
                · have hc167 : (2 : Int32) = (1 : Int32) := own_ne0 hc
                  exact absurd hc167 (by decide)
              · have hc157 : (2 : Int32) = (0 : Int32) := own_ne0 hc
                exact absurd hc157 (by decide)
            · have hc145 : (2 : Int32) = (1 : Int32) := own_ne0 hc
              exact absurd hc145 (by decide)
          · have hc135 : (2 : Int32) = (0 : Int32) := own_ne0 hc
            exact absurd hc135 (by decide)
    refine own_iloadN X712 hx (hb hby at_40) rfl ?_
    refine own_iconst X712 hx (2 : Int32) (hb hby at_41) rfl ?_
    refine own_iushr X712 hx (hb hby at_42) ?_
    refine own_iconst X712 hx (1 : Int32) (hb hby at_43) rfl ?_
    refine own_iand X712 hx (hb hby at_44) ?_
    refine own_if X712 hx (hb hby at_45) (pc' := 68) (by decide) (by decide) (fun hc => ?_) (fun hc => ?_)
    · have hc45 : (((p0.toUInt32 >>> ((2 : Int32) &&& 31).toUInt32).toInt32) &&& (1 : Int32)) = (0 : Int32) := own_eq1 hc
      clear hc
      refine own_aload X712 hx (hb hby at_68) rfl rfl ?_
      refine own_aload X712 hx (hb hby at_70) rfl rfl ?_
      refine own_aload X712 hx (hb hby at_72) rfl rfl ?_
      refine own_iload X712 hx (hb hby at_74) rfl ?_
      refine own_iloadN X712 hx (hb hby at_76) rfl ?_
      refine own_iload X712 hx (hb hby at_77) rfl ?_
      have f737 := (Exa.keep Eh711 Kc712)
      have f738 := (F711_bytes.keep Kc712 (ninS ne_b710_vw (ninS ne_b710_ye nin0)))
      have f739 := (F711_starts.keep Kc712 (ninS ne_b710_vw (ninS ne_b710_ye nin0)))
      have f740 := (F711_ascii.keep Kc712 (ninS ne_b710_vw (ninS ne_b710_ye nin0)))
      have f741 := (F711_columns.keep Kc712 (ninS ne_b710_vw (ninS ne_b710_ye nin0)))
      have f742 := (F711_fieldEnds.keep Kc712 (ninS ne_b710_vw (ninS ne_b710_ye nin0)))
      have f743 := (F711_view.keep Kc712 (ninS ne_b710_vw (ninS ne_b710_ye nin0)))
      have f744 := (F711_size.keep Kc712 (ninS ne_b710_vw (ninS ne_b710_ye nin0)))
      have f745 := (F711_length.keep Kc712 (ninS ne_b710_vw (ninS ne_b710_ye nin0)))
      have f746 := (Vb711.keep Kc712 (ninS (Ne.symm ne_vw_yb) (ninS ne_yb_ye nin0)))
      have f747 := (Vs711.keep Kc712 (ninS (Ne.symm ne_vw_ys) (ninS ne2 nin0)))
      have f748 := (Vz711.keep Kc712 (ninS (Ne.symm ne_vw_yz) (ninS ne_yz_ye nin0)))
      have f749 := (((V_b709.ext E710).keep Kc711 (ninS ne_b709_b710 nin0)).keep Kc712 (ninS ne_b709_vw (ninS ne_b709_ye nin0)))
      refine own_callS X712 hx hZ (y := my8) hown (hw _ (List.mem_of_getElem? (i := 91) rfl)) (hw _ (List.mem_of_getElem? (i := 92) rfl)) (hw _ (List.mem_of_getElem? (i := 93) rfl)) (hw _ (List.mem_of_getElem? (i := 94) rfl)) (by decide) (rm8_4 l Z a0 hw [] b710 vw b709 p1 off yb ys yz yf ye kb ks kz kf ke k709 (0 : Int32) (0 : Int32) (List.replicate 4096 o0) [o0, o0, o0, o0, o0, o0, o0, o0, o0, o0, o0, o0, o0, o0, o0, o0] [o0, o0, o0, o0, o0, o0, o0, o0, o0, o0, o0, o0, o0, o0, o0, o0] [o0, o0, o0, o0, o0, o0, o0, o0, o0, o0, o0, o0, o0, o0, o0, o0, o0, o0, o0, o0, o0, o0, o0, o0, o0, o0, o0, o0, o0, o0, o0, o0, o0, o0, o0, o0, o0, o0, o0, o0, o0, o0, o0, o0, o0, o0, o0, o0, o0, o0, o0, o0, o0, o0, o0, o0, o0, o0, o0, o0, o0, o0, o0, o0] [(.int (0 : Int32)), (.int (0 : Int32)), (.int (0 : Int32)), (.int (0 : Int32)), (.int (0 : Int32)), (.int (0 : Int32)), (.int (0 : Int32)), (.int (0 : Int32)), (.int (0 : Int32)), (.int (0 : Int32)), (.int (0 : Int32)), (.int (0 : Int32)), (.int (0 : Int32)), (.int (0 : Int32)), (.int (0 : Int32)), (.int (0 : Int32)), (.int (0 : Int32)), (.int (0 : Int32)), (.int (0 : Int32)), (.int (0 : Int32)), (.int (0 : Int32)), (.int (0 : Int32)), (.int (0 : Int32)), (.int (0 : Int32)), (.int (0 : Int32)), (.int (0 : Int32)), (.int (0 : Int32)), (.int (0 : Int32)), (.int (0 : Int32)), (.int (0 : Int32)), (.int (0 : Int32)), (.int (0 : Int32)), (.int (0 : Int32)), (.int (0 : Int32)), (.int (0 : Int32)), (.int (0 : Int32)), (.int (0 : Int32)), (.int (0 : Int32)), (.int (0 : Int32)), (.int (0 : Int32))] o0 o0 o0 o0 (.int (-1 : Int32)) (.ref yb) o0 o0 T712.heap n0 (Nat.le_trans Z0 K712.1) f737 f738 f739 f740 f741 f742 f743 f744 f745 Ev712 G712_rowEnd G712_bytes G712_rowStart G712_ascii G712_fieldEnds f746 f747 f748 V_yf_715 V_ye_713 f749 ne1 ne2 ne3 (Ne.symm ne_b709_yb) n0_b710 n0_yb n0_yf n0_ys n0_yz n0_vw n0_ye (by decide) (by decide) hof rfl rfl (List.length_replicate ..) rfl) 0 (by decide) (by decide) rfl (by rw [hml]; rfl) [(.ref b710), (.ref vw), (.ref b709), (.int (4 : Int32)), (.int p1), (.int off)] [] rfl (lenOf pd_11 rfl) rfl (Nat.le_of_eq rfl) (hb hby at_79) (by decide) (by decide) ?_
      rintro T750 _ L750 X750 ⟨rfl, N750q, Kc750, Eh750, F750_bytes, F750_starts, F750_ascii, F750_columns, F750_fieldEnds, F750_view, F750_size, F750_length, ⟨bs750, lb750, Vb750⟩, Vf750, Vs750, ⟨zs750, lz750, Vz750⟩, Ev750, G750_rowEnd, G750_bytes, G750_fieldEnds, G750_rowStart, G750_ascii, Ve750⟩
      have N750 := Fr.app N712 N750q
      have K750 := K712.trans Kc750 (allS (P := fun x => x ∈ ([] : List Addr) ∨ h0.size ≤ x) (Or.inr sz_b710) (allS (P := fun x => x ∈ ([] : List Addr) ∨ h0.size ≤ x) (Or.inr sz_vw) (allS (P := fun x => x ∈ ([] : List Addr) ∨ h0.size ≤ x) (Or.inr sz_ye) (allS (P := fun x => x ∈ ([] : List Addr) ∨ h0.size ≤ x) (Or.inr sz_yb) (allS (P := fun x => x ∈ ([] : List Addr) ∨ h0.size ≤ x) (Or.inr sz_yf) (allS (P := fun x => x ∈ ([] : List Addr) ∨ h0.size ≤ x) (Or.inr sz_ys) (allS (P := fun x => x ∈ ([] : List Addr) ∨ h0.size ≤ x) (Or.inr sz_yz) all0)))))))
      show own_R p e below s _ _ _ T750 (mkF m 82 #[.val (.int p0), .val (.int p1), .val (.int p2), .val (.int p3), .val (.int p4), .val (.int (4 : Int32)), .val (.int off), .val (.ref b709), .val (.ref b710), .val (.ref vw), .unset, .unset, .unset, .unset, .unset, .unset, .unset] [(.int ((pl_end p1 (3 : Int32)) + (2 : Int32)))])
      have Fz750 : Fld Z T750.heap b710 cH "size" "I" (.int (1 : Int32)) := F750_size
      have V_ys_751 : Arv Z T750.heap ys ks .int (16 : Int32) [(.int (0 : Int32)), o0, o0, o0, o0, o0, o0, o0, o0, o0, o0, o0, o0, o0, o0, o0] o0 := Vs750
      have V_yf_752 : Arv Z T750.heap yf kf .int ((16 : Int32) * (4 : Int32)) [(.int (pl_end p1 (0 : Int32))), (.int (pl_end p1 (1 : Int32))), (.int (pl_end p1 (2 : Int32))), (.int (pl_end p1 (3 : Int32))), o0, o0, o0, o0, o0, o0, o0, o0, o0, o0, o0, o0, o0, o0, o0, o0, o0, o0, o0, o0, o0, o0, o0, o0, o0, o0, o0, o0, o0, o0, o0, o0, o0, o0, o0, o0, o0, o0, o0, o0, o0, o0, o0, o0, o0, o0, o0, o0, o0, o0, o0, o0, o0, o0, o0, o0, o0, o0, o0, o0] o0 := Vf750
      have V_ye_753 : Arv Z T750.heap ye ke .int (4 : Int32) [(.int (pl_end p1 (0 : Int32))), (.int (pl_end p1 (1 : Int32))), (.int (pl_end p1 (2 : Int32))), (.int (pl_end p1 (3 : Int32)))] o0 := Ve750
      have hl1 : 0 ≤ ((0 : Int32) + ((pl_end p1 (3 : Int32)) + (2 : Int32))).toInt ∧ ((0 : Int32) + ((pl_end p1 (3 : Int32)) + (2 : Int32))).toInt ≤ 100 := pl_b1 p1 (3 : Int32)
      refine own_istore X750 hx (hb hby at_82) (l' := #[.val (.int p0), .val (.int p1), .val (.int p2), .val (.int p3), .val (.int p4), .val (.int (4 : Int32)), .val (.int off), .val (.ref b709), .val (.ref b710), .val (.ref vw), .val (.int ((pl_end p1 (3 : Int32)) + (2 : Int32))), .unset, .unset, .unset, .unset, .unset, .unset]) rfl ?_
      refine own_aload X750 hx (hb hby at_84) rfl rfl ?_
      refine own_aload X750 hx (hb hby at_86) rfl rfl ?_
      refine own_aload X750 hx (hb hby at_88) rfl rfl ?_
      refine own_iload X750 hx (hb hby at_90) rfl ?_
      refine own_iloadN X750 hx (hb hby at_92) rfl ?_
      refine own_iload X750 hx (hb hby at_93) rfl ?_
      have f754 := (f749.keep Kc750 (ninS ne_b709_b710 (ninS ne_b709_vw (ninS ne_b709_ye (ninS ne_b709_yb (ninS ne_b709_yf (ninS ne_b709_ys (ninS ne_b709_yz nin0))))))))
      refine own_callS X750 hx hZ (y := my8) hown (hw _ (List.mem_of_getElem? (i := 91) rfl)) (hw _ (List.mem_of_getElem? (i := 92) rfl)) (hw _ (List.mem_of_getElem? (i := 93) rfl)) (hw _ (List.mem_of_getElem? (i := 94) rfl)) (by decide) (rm8_4 l Z a0 hw [] b710 vw b709 p2 off yb ys yz yf ye kb ks kz kf ke k709 (1 : Int32) ((0 : Int32) + ((pl_end p1 (3 : Int32)) + (2 : Int32))) bs750 [(.int (0 : Int32)), o0, o0, o0, o0, o0, o0, o0, o0, o0, o0, o0, o0, o0, o0, o0] zs750 [(.int (pl_end p1 (0 : Int32))), (.int (pl_end p1 (1 : Int32))), (.int (pl_end p1 (2 : Int32))), (.int (pl_end p1 (3 : Int32))), o0, o0, o0, o0, o0, o0, o0, o0, o0, o0, o0, o0, o0, o0, o0, o0, o0, o0, o0, o0, o0, o0, o0, o0, o0, o0, o0, o0, o0, o0, o0, o0, o0, o0, o0, o0, o0, o0, o0, o0, o0, o0, o0, o0, o0, o0, o0, o0, o0, o0, o0, o0, o0, o0, o0, o0, o0, o0, o0, o0] [(.int (0 : Int32)), (.int (0 : Int32)), (.int (0 : Int32)), (.int (0 : Int32)), (.int (0 : Int32)), (.int (0 : Int32)), (.int (0 : Int32)), (.int (0 : Int32)), (.int (0 : Int32)), (.int (0 : Int32)), (.int (0 : Int32)), (.int (0 : Int32)), (.int (0 : Int32)), (.int (0 : Int32)), (.int (0 : Int32)), (.int (0 : Int32)), (.int (0 : Int32)), (.int (0 : Int32)), (.int (0 : Int32)), (.int (0 : Int32)), (.int (0 : Int32)), (.int (0 : Int32)), (.int (0 : Int32)), (.int (0 : Int32)), (.int (0 : Int32)), (.int (0 : Int32)), (.int (0 : Int32)), (.int (0 : Int32)), (.int (0 : Int32)), (.int (0 : Int32)), (.int (0 : Int32)), (.int (0 : Int32)), (.int (0 : Int32)), (.int (0 : Int32)), (.int (0 : Int32)), (.int (0 : Int32)), (.int (0 : Int32)), (.int (0 : Int32)), (.int (0 : Int32)), (.int (0 : Int32))] (.int (pl_end p1 (0 : Int32))) (.int (pl_end p1 (1 : Int32))) (.int (pl_end p1 (2 : Int32))) (.int (pl_end p1 (3 : Int32))) (.int ((off + (pl_end p1 (3 : Int32))) + (1 : Int32))) (.ref b709) (.int off) (.int (1 : Int32)) T750.heap n0 (Nat.le_trans Z0 K750.1) Eh750 F750_bytes F750_starts F750_ascii F750_columns F750_fieldEnds F750_view Fz750 F750_length Ev750 G750_rowEnd G750_bytes G750_rowStart G750_ascii G750_fieldEnds Vb750 V_ys_751 Vz750 V_yf_752 V_ye_753 f754 ne1 ne2 ne3 (Ne.symm ne_b709_yb) n0_b710 n0_yb n0_yf n0_ys n0_yz n0_vw n0_ye (by decide) hl1 hof rfl rfl lb750 lz750) 0 (by decide) (by decide) rfl (by rw [hml]; rfl) [(.ref b710), (.ref vw), (.ref b709), (.int (4 : Int32)), (.int p2), (.int off)] [] rfl (lenOf pd_11 rfl) rfl (Nat.le_of_eq rfl) (hb hby at_95) (by decide) (by decide) ?_
      rintro T755 _ L755 X755 ⟨rfl, N755q, Kc755, Eh755, F755_bytes, F755_starts, F755_ascii, F755_columns, F755_fieldEnds, F755_view, F755_size, F755_length, ⟨bs755, lb755, Vb755⟩, Vf755, Vs755, ⟨zs755, lz755, Vz755⟩, Ev755, G755_rowEnd, G755_bytes, G755_fieldEnds, G755_rowStart, G755_ascii, Ve755⟩
      have N755 := Fr.app N750 N755q
      have K755 := K750.trans Kc755 (allS (P := fun x => x ∈ ([] : List Addr) ∨ h0.size ≤ x) (Or.inr sz_b710) (allS (P := fun x => x ∈ ([] : List Addr) ∨ h0.size ≤ x) (Or.inr sz_vw) (allS (P := fun x => x ∈ ([] : List Addr) ∨ h0.size ≤ x) (Or.inr sz_ye) (allS (P := fun x => x ∈ ([] : List Addr) ∨ h0.size ≤ x) (Or.inr sz_yb) (allS (P := fun x => x ∈ ([] : List Addr) ∨ h0.size ≤ x) (Or.inr sz_yf) (allS (P := fun x => x ∈ ([] : List Addr) ∨ h0.size ≤ x) (Or.inr sz_ys) (allS (P := fun x => x ∈ ([] : List Addr) ∨ h0.size ≤ x) (Or.inr sz_yz) all0)))))))
      show own_R p e below s _ _ _ T755 (mkF m 98 #[.val (.int p0), .val (.int p1), .val (.int p2), .val (.int p3), .val (.int p4), .val (.int (4 : Int32)), .val (.int off), .val (.ref b709), .val (.ref b710), .val (.ref vw), .val (.int ((pl_end p1 (3 : Int32)) + (2 : Int32))), .unset, .unset, .unset, .unset, .unset, .unset] [(.int ((pl_end p2 (3 : Int32)) + (2 : Int32)))])
      have Fz755 : Fld Z T755.heap b710 cH "size" "I" (.int (2 : Int32)) := F755_size
      have V_ys_756 : Arv Z T755.heap ys ks .int (16 : Int32) [(.int (0 : Int32)), (.int ((0 : Int32) + ((pl_end p1 (3 : Int32)) + (2 : Int32)))), o0, o0, o0, o0, o0, o0, o0, o0, o0, o0, o0, o0, o0, o0] o0 := Vs755
      have V_yf_757 : Arv Z T755.heap yf kf .int ((16 : Int32) * (4 : Int32)) [(.int (pl_end p1 (0 : Int32))), (.int (pl_end p1 (1 : Int32))), (.int (pl_end p1 (2 : Int32))), (.int (pl_end p1 (3 : Int32))), (.int (pl_end p2 (0 : Int32))), (.int (pl_end p2 (1 : Int32))), (.int (pl_end p2 (2 : Int32))), (.int (pl_end p2 (3 : Int32))), o0, o0, o0, o0, o0, o0, o0, o0, o0, o0, o0, o0, o0, o0, o0, o0, o0, o0, o0, o0, o0, o0, o0, o0, o0, o0, o0, o0, o0, o0, o0, o0, o0, o0, o0, o0, o0, o0, o0, o0, o0, o0, o0, o0, o0, o0, o0, o0, o0, o0, o0, o0, o0, o0, o0, o0] o0 := Vf755
      have V_ye_758 : Arv Z T755.heap ye ke .int (4 : Int32) [(.int (pl_end p2 (0 : Int32))), (.int (pl_end p2 (1 : Int32))), (.int (pl_end p2 (2 : Int32))), (.int (pl_end p2 (3 : Int32)))] o0 := Ve755
      have hl2 : 0 ≤ (((0 : Int32) + ((pl_end p1 (3 : Int32)) + (2 : Int32))) + ((pl_end p2 (3 : Int32)) + (2 : Int32))).toInt ∧ (((0 : Int32) + ((pl_end p1 (3 : Int32)) + (2 : Int32))) + ((pl_end p2 (3 : Int32)) + (2 : Int32))).toInt ≤ 100 := pl_b2 p1 p2 (3 : Int32)
      refine own_istore X755 hx (hb hby at_98) (l' := #[.val (.int p0), .val (.int p1), .val (.int p2), .val (.int p3), .val (.int p4), .val (.int (4 : Int32)), .val (.int off), .val (.ref b709), .val (.ref b710), .val (.ref vw), .val (.int ((pl_end p1 (3 : Int32)) + (2 : Int32))), .val (.int ((pl_end p2 (3 : Int32)) + (2 : Int32))), .unset, .unset, .unset, .unset, .unset]) rfl ?_
      refine own_aload X755 hx (hb hby at_100) rfl rfl ?_
      refine own_aload X755 hx (hb hby at_102) rfl rfl ?_
      refine own_aload X755 hx (hb hby at_104) rfl rfl ?_
      refine own_iload X755 hx (hb hby at_106) rfl ?_
      refine own_iloadN X755 hx (hb hby at_108) rfl ?_
      refine own_iload X755 hx (hb hby at_109) rfl ?_
      have f759 := (f754.keep Kc755 (ninS ne_b709_b710 (ninS ne_b709_vw (ninS ne_b709_ye (ninS ne_b709_yb (ninS ne_b709_yf (ninS ne_b709_ys (ninS ne_b709_yz nin0))))))))
      refine own_callS X755 hx hZ (y := my8) hown (hw _ (List.mem_of_getElem? (i := 91) rfl)) (hw _ (List.mem_of_getElem? (i := 92) rfl)) (hw _ (List.mem_of_getElem? (i := 93) rfl)) (hw _ (List.mem_of_getElem? (i := 94) rfl)) (by decide) (rm8_4 l Z a0 hw [] b710 vw b709 p3 off yb ys yz yf ye kb ks kz kf ke k709 (2 : Int32) (((0 : Int32) + ((pl_end p1 (3 : Int32)) + (2 : Int32))) + ((pl_end p2 (3 : Int32)) + (2 : Int32))) bs755 [(.int (0 : Int32)), (.int ((0 : Int32) + ((pl_end p1 (3 : Int32)) + (2 : Int32)))), o0, o0, o0, o0, o0, o0, o0, o0, o0, o0, o0, o0, o0, o0] zs755 [(.int (pl_end p1 (0 : Int32))), (.int (pl_end p1 (1 : Int32))), (.int (pl_end p1 (2 : Int32))), (.int (pl_end p1 (3 : Int32))), (.int (pl_end p2 (0 : Int32))), (.int (pl_end p2 (1 : Int32))), (.int (pl_end p2 (2 : Int32))), (.int (pl_end p2 (3 : Int32))), o0, o0, o0, o0, o0, o0, o0, o0, o0, o0, o0, o0, o0, o0, o0, o0, o0, o0, o0, o0, o0, o0, o0, o0, o0, o0, o0, o0, o0, o0, o0, o0, o0, o0, o0, o0, o0, o0, o0, o0, o0, o0, o0, o0, o0, o0, o0, o0, o0, o0, o0, o0, o0, o0, o0, o0] [(.int (0 : Int32)), (.int (0 : Int32)), (.int (0 : Int32)), (.int (0 : Int32)), (.int (0 : Int32)), (.int (0 : Int32)), (.int (0 : Int32)), (.int (0 : Int32)), (.int (0 : Int32)), (.int (0 : Int32)), (.int (0 : Int32)), (.int (0 : Int32)), (.int (0 : Int32)), (.int (0 : Int32)), (.int (0 : Int32)), (.int (0 : Int32)), (.int (0 : Int32)), (.int (0 : Int32)), (.int (0 : Int32)), (.int (0 : Int32)), (.int (0 : Int32)), (.int (0 : Int32)), (.int (0 : Int32)), (.int (0 : Int32)), (.int (0 : Int32)), (.int (0 : Int32)), (.int (0 : Int32)), (.int (0 : Int32)), (.int (0 : Int32)), (.int (0 : Int32)), (.int (0 : Int32)), (.int (0 : Int32)), (.int (0 : Int32)), (.int (0 : Int32)), (.int (0 : Int32)), (.int (0 : Int32)), (.int (0 : Int32)), (.int (0 : Int32)), (.int (0 : Int32)), (.int (0 : Int32))] (.int (pl_end p2 (0 : Int32))) (.int (pl_end p2 (1 : Int32))) (.int (pl_end p2 (2 : Int32))) (.int (pl_end p2 (3 : Int32))) (.int ((off + (pl_end p2 (3 : Int32))) + (1 : Int32))) (.ref b709) (.int off) (.int (1 : Int32)) T755.heap n0 (Nat.le_trans Z0 K755.1) Eh755 F755_bytes F755_starts F755_ascii F755_columns F755_fieldEnds F755_view Fz755 F755_length Ev755 G755_rowEnd G755_bytes G755_rowStart G755_ascii G755_fieldEnds Vb755 V_ys_756 Vz755 V_yf_757 V_ye_758 f759 ne1 ne2 ne3 (Ne.symm ne_b709_yb) n0_b710 n0_yb n0_yf n0_ys n0_yz n0_vw n0_ye (by decide) hl2 hof rfl rfl lb755 lz755) 0 (by decide) (by decide) rfl (by rw [hml]; rfl) [(.ref b710), (.ref vw), (.ref b709), (.int (4 : Int32)), (.int p3), (.int off)] [] rfl (lenOf pd_11 rfl) rfl (Nat.le_of_eq rfl) (hb hby at_111) (by decide) (by decide) ?_
      rintro T760 _ L760 X760 ⟨rfl, N760q, Kc760, Eh760, F760_bytes, F760_starts, F760_ascii, F760_columns, F760_fieldEnds, F760_view, F760_size, F760_length, ⟨bs760, lb760, Vb760⟩, Vf760, Vs760, ⟨zs760, lz760, Vz760⟩, Ev760, G760_rowEnd, G760_bytes, G760_fieldEnds, G760_rowStart, G760_ascii, Ve760⟩
      have N760 := Fr.app N755 N760q
      have K760 := K755.trans Kc760 (allS (P := fun x => x ∈ ([] : List Addr) ∨ h0.size ≤ x) (Or.inr sz_b710) (allS (P := fun x => x ∈ ([] : List Addr) ∨ h0.size ≤ x) (Or.inr sz_vw) (allS (P := fun x => x ∈ ([] : List Addr) ∨ h0.size ≤ x) (Or.inr sz_ye) (allS (P := fun x => x ∈ ([] : List Addr) ∨ h0.size ≤ x) (Or.inr sz_yb) (allS (P := fun x => x ∈ ([] : List Addr) ∨ h0.size ≤ x) (Or.inr sz_yf) (allS (P := fun x => x ∈ ([] : List Addr) ∨ h0.size ≤ x) (Or.inr sz_ys) (allS (P := fun x => x ∈ ([] : List Addr) ∨ h0.size ≤ x) (Or.inr sz_yz) all0)))))))
      show own_R p e below s _ _ _ T760 (mkF m 114 #[.val (.int p0), .val (.int p1), .val (.int p2), .val (.int p3), .val (.int p4), .val (.int (4 : Int32)), .val (.int off), .val (.ref b709), .val (.ref b710), .val (.ref vw), .val (.int ((pl_end p1 (3 : Int32)) + (2 : Int32))), .val (.int ((pl_end p2 (3 : Int32)) + (2 : Int32))), .unset, .unset, .unset, .unset, .unset] [(.int ((pl_end p3 (3 : Int32)) + (2 : Int32)))])
      have Fz760 : Fld Z T760.heap b710 cH "size" "I" (.int (3 : Int32)) := F760_size
      have V_ys_761 : Arv Z T760.heap ys ks .int (16 : Int32) [(.int (0 : Int32)), (.int ((0 : Int32) + ((pl_end p1 (3 : Int32)) + (2 : Int32)))), (.int (((0 : Int32) + ((pl_end p1 (3 : Int32)) + (2 : Int32))) + ((pl_end p2 (3 : Int32)) + (2 : Int32)))), o0, o0, o0, o0, o0, o0, o0, o0, o0, o0, o0, o0, o0] o0 := Vs760
      have V_yf_762 : Arv Z T760.heap yf kf .int ((16 : Int32) * (4 : Int32)) [(.int (pl_end p1 (0 : Int32))), (.int (pl_end p1 (1 : Int32))), (.int (pl_end p1 (2 : Int32))), (.int (pl_end p1 (3 : Int32))), (.int (pl_end p2 (0 : Int32))), (.int (pl_end p2 (1 : Int32))), (.int (pl_end p2 (2 : Int32))), (.int (pl_end p2 (3 : Int32))), (.int (pl_end p3 (0 : Int32))), (.int (pl_end p3 (1 : Int32))), (.int (pl_end p3 (2 : Int32))), (.int (pl_end p3 (3 : Int32))), o0, o0, o0, o0, o0, o0, o0, o0, o0, o0, o0, o0, o0, o0, o0, o0, o0, o0, o0, o0, o0, o0, o0, o0, o0, o0, o0, o0, o0, o0, o0, o0, o0, o0, o0, o0, o0, o0, o0, o0, o0, o0, o0, o0, o0, o0, o0, o0, o0, o0, o0, o0] o0 := Vf760
      have V_ye_763 : Arv Z T760.heap ye ke .int (4 : Int32) [(.int (pl_end p3 (0 : Int32))), (.int (pl_end p3 (1 : Int32))), (.int (pl_end p3 (2 : Int32))), (.int (pl_end p3 (3 : Int32)))] o0 := Ve760
      refine own_pop X760 hx (hb hby at_114) rfl ?_
      exact J115 _ _ _ X760 rfl N760 (Nat.le_trans Z0 K760.1) F760_starts F760_fieldEnds F760_columns Eh760 V_ys_761 V_yf_762
    · have hc45 : ¬ (((p0.toUInt32 >>> ((2 : Int32) &&& 31).toUInt32).toInt32) &&& (1 : Int32)) = (0 : Int32) := own_eq0 hc
      clear hc
      refine own_aload X712 hx (hb hby at_48) rfl rfl ?_
      refine own_aload X712 hx (hb hby at_50) rfl rfl ?_
      refine own_aload X712 hx (hb hby at_52) rfl rfl ?_
      refine own_iload X712 hx (hb hby at_54) rfl ?_
      refine own_iloadN X712 hx (hb hby at_56) rfl ?_
      refine own_iload X712 hx (hb hby at_57) rfl ?_
      have f764 := (Exa.keep Eh711 Kc712)
      have f765 := (F711_bytes.keep Kc712 (ninS ne_b710_vw (ninS ne_b710_ye nin0)))
      have f766 := (F711_starts.keep Kc712 (ninS ne_b710_vw (ninS ne_b710_ye nin0)))
      have f767 := (F711_ascii.keep Kc712 (ninS ne_b710_vw (ninS ne_b710_ye nin0)))
      have f768 := (F711_columns.keep Kc712 (ninS ne_b710_vw (ninS ne_b710_ye nin0)))
      have f769 := (F711_fieldEnds.keep Kc712 (ninS ne_b710_vw (ninS ne_b710_ye nin0)))
      have f770 := (F711_view.keep Kc712 (ninS ne_b710_vw (ninS ne_b710_ye nin0)))
      have f771 := (F711_size.keep Kc712 (ninS ne_b710_vw (ninS ne_b710_ye nin0)))
      have f772 := (F711_length.keep Kc712 (ninS ne_b710_vw (ninS ne_b710_ye nin0)))
      have f773 := (Vb711.keep Kc712 (ninS (Ne.symm ne_vw_yb) (ninS ne_yb_ye nin0)))
      have f774 := (Vs711.keep Kc712 (ninS (Ne.symm ne_vw_ys) (ninS ne2 nin0)))
      have f775 := (Vz711.keep Kc712 (ninS (Ne.symm ne_vw_yz) (ninS ne_yz_ye nin0)))
      have f776 := (((V_b709.ext E710).keep Kc711 (ninS ne_b709_b710 nin0)).keep Kc712 (ninS ne_b709_vw (ninS ne_b709_ye nin0)))
      refine own_callS X712 hx hZ (y := my8) hown (hw _ (List.mem_of_getElem? (i := 91) rfl)) (hw _ (List.mem_of_getElem? (i := 92) rfl)) (hw _ (List.mem_of_getElem? (i := 93) rfl)) (hw _ (List.mem_of_getElem? (i := 94) rfl)) (by decide) (rm8_4 l Z a0 hw [] b710 vw b709 p3 off yb ys yz yf ye kb ks kz kf ke k709 (0 : Int32) (0 : Int32) (List.replicate 4096 o0) [o0, o0, o0, o0, o0, o0, o0, o0, o0, o0, o0, o0, o0, o0, o0, o0] [o0, o0, o0, o0, o0, o0, o0, o0, o0, o0, o0, o0, o0, o0, o0, o0] [o0, o0, o0, o0, o0, o0, o0, o0, o0, o0, o0, o0, o0, o0, o0, o0, o0, o0, o0, o0, o0, o0, o0, o0, o0, o0, o0, o0, o0, o0, o0, o0, o0, o0, o0, o0, o0, o0, o0, o0, o0, o0, o0, o0, o0, o0, o0, o0, o0, o0, o0, o0, o0, o0, o0, o0, o0, o0, o0, o0, o0, o0, o0, o0] [(.int (0 : Int32)), (.int (0 : Int32)), (.int (0 : Int32)), (.int (0 : Int32)), (.int (0 : Int32)), (.int (0 : Int32)), (.int (0 : Int32)), (.int (0 : Int32)), (.int (0 : Int32)), (.int (0 : Int32)), (.int (0 : Int32)), (.int (0 : Int32)), (.int (0 : Int32)), (.int (0 : Int32)), (.int (0 : Int32)), (.int (0 : Int32)), (.int (0 : Int32)), (.int (0 : Int32)), (.int (0 : Int32)), (.int (0 : Int32)), (.int (0 : Int32)), (.int (0 : Int32)), (.int (0 : Int32)), (.int (0 : Int32)), (.int (0 : Int32)), (.int (0 : Int32)), (.int (0 : Int32)), (.int (0 : Int32)), (.int (0 : Int32)), (.int (0 : Int32)), (.int (0 : Int32)), (.int (0 : Int32)), (.int (0 : Int32)), (.int (0 : Int32)), (.int (0 : Int32)), (.int (0 : Int32)), (.int (0 : Int32)), (.int (0 : Int32)), (.int (0 : Int32)), (.int (0 : Int32))] o0 o0 o0 o0 (.int (-1 : Int32)) (.ref yb) o0 o0 T712.heap n0 (Nat.le_trans Z0 K712.1) f764 f765 f766 f767 f768 f769 f770 f771 f772 Ev712 G712_rowEnd G712_bytes G712_rowStart G712_ascii G712_fieldEnds f773 f774 f775 V_yf_715 V_ye_713 f776 ne1 ne2 ne3 (Ne.symm ne_b709_yb) n0_b710 n0_yb n0_yf n0_ys n0_yz n0_vw n0_ye (by decide) (by decide) hof rfl rfl (List.length_replicate ..) rfl) 0 (by decide) (by decide) rfl (by rw [hml]; rfl) [(.ref b710), (.ref vw), (.ref b709), (.int (4 : Int32)), (.int p3), (.int off)] [] rfl (lenOf pd_11 rfl) rfl (Nat.le_of_eq rfl) (hb hby at_59) (by decide) (by decide) ?_
      rintro T777 _ L777 X777 ⟨rfl, N777q, Kc777, Eh777, F777_bytes, F777_starts, F777_ascii, F777_columns, F777_fieldEnds, F777_view, F777_size, F777_length, ⟨bs777, lb777, Vb777⟩, Vf777, Vs777, ⟨zs777, lz777, Vz777⟩, Ev777, G777_rowEnd, G777_bytes, G777_fieldEnds, G777_rowStart, G777_ascii, Ve777⟩
      have N777 := Fr.app N712 N777q
      have K777 := K712.trans Kc777 (allS (P := fun x => x ∈ ([] : List Addr) ∨ h0.size ≤ x) (Or.inr sz_b710) (allS (P := fun x => x ∈ ([] : List Addr) ∨ h0.size ≤ x) (Or.inr sz_vw) (allS (P := fun x => x ∈ ([] : List Addr) ∨ h0.size ≤ x) (Or.inr sz_ye) (allS (P := fun x => x ∈ ([] : List Addr) ∨ h0.size ≤ x) (Or.inr sz_yb) (allS (P := fun x => x ∈ ([] : List Addr) ∨ h0.size ≤ x) (Or.inr sz_yf) (allS (P := fun x => x ∈ ([] : List Addr) ∨ h0.size ≤ x) (Or.inr sz_ys) (allS (P := fun x => x ∈ ([] : List Addr) ∨ h0.size ≤ x) (Or.inr sz_yz) all0)))))))
      show own_R p e below s _ _ _ T777 (mkF m 62 #[.val (.int p0), .val (.int p1), .val (.int p2), .val (.int p3), .val (.int p4), .val (.int (4 : Int32)), .val (.int off), .val (.ref b709), .val (.ref b710), .val (.ref vw), .unset, .unset, .unset, .unset, .unset, .unset, .unset] [(.int ((pl_end p3 (3 : Int32)) + (2 : Int32)))])
      have Fz777 : Fld Z T777.heap b710 cH "size" "I" (.int (1 : Int32)) := F777_size
      have V_ys_778 : Arv Z T777.heap ys ks .int (16 : Int32) [(.int (0 : Int32)), o0, o0, o0, o0, o0, o0, o0, o0, o0, o0, o0, o0, o0, o0, o0] o0 := Vs777
      have V_yf_779 : Arv Z T777.heap yf kf .int ((16 : Int32) * (4 : Int32)) [(.int (pl_end p3 (0 : Int32))), (.int (pl_end p3 (1 : Int32))), (.int (pl_end p3 (2 : Int32))), (.int (pl_end p3 (3 : Int32))), o0, o0, o0, o0, o0, o0, o0, o0, o0, o0, o0, o0, o0, o0, o0, o0, o0, o0, o0, o0, o0, o0, o0, o0, o0, o0, o0, o0, o0, o0, o0, o0, o0, o0, o0, o0, o0, o0, o0, o0, o0, o0, o0, o0, o0, o0, o0, o0, o0, o0, o0, o0, o0, o0, o0, o0, o0, o0, o0, o0] o0 := Vf777
      have V_ye_780 : Arv Z T777.heap ye ke .int (4 : Int32) [(.int (pl_end p3 (0 : Int32))), (.int (pl_end p3 (1 : Int32))), (.int (pl_end p3 (2 : Int32))), (.int (pl_end p3 (3 : Int32)))] o0 := Ve777
      refine own_pop X777 hx (hb hby at_62) rfl ?_
      refine own_aload X777 hx (hb hby at_63) rfl rfl ?_
      refine own_callV X777 hx hZ (y := my17) (z := my17) hown (hw _ (List.mem_of_getElem? (i := 141) rfl)) (hw _ (List.mem_of_getElem? (i := 142) rfl)) (notFace_of_selects (args := #[]) (mvT hZ (hw _ (List.mem_of_getElem? (i := 144) rfl)))) (hw _ (List.mem_of_getElem? (i := 144) rfl)) (hw _ (List.mem_of_getElem? (i := 143) rfl)) (hw _ (List.mem_of_getElem? (i := 3) rfl)) (hw _ (List.mem_of_getElem? (i := 145) rfl)) (by decide) (rm17 l Z a0 hw [] b710 vw yb ys yz yf (4 : Int32) (1 : Int32) ((0 : Int32) + ((pl_end p3 (3 : Int32)) + (2 : Int32))) T777.heap n0 (Nat.le_trans Z0 K777.1) Eh777 F777_bytes F777_starts F777_ascii F777_columns F777_fieldEnds F777_view Fz777 F777_length n0_b710) 0 (by decide) (by decide) rfl (by rw [hml]; rfl) b710 Eh777 [] [] rfl (lenOf pd_12 rfl) rfl (Nat.le_of_eq rfl) (hb hby at_65) (by decide) (by decide) ?_
      rintro T781 _ L781 X781 ⟨rfl, N781q, Kc781, Eh781, F781_bytes, F781_starts, F781_ascii, F781_columns, F781_fieldEnds, F781_view, F781_size, F781_length⟩
      have N781 := Fr.app N777 N781q
      have K781 := K777.trans Kc781 (allS (P := fun x => x ∈ ([] : List Addr) ∨ h0.size ≤ x) (Or.inr sz_b710) all0)
      show own_R p e below s _ _ _ T781 (mkF m 68 #[.val (.int p0), .val (.int p1), .val (.int p2), .val (.int p3), .val (.int p4), .val (.int (4 : Int32)), .val (.int off), .val (.ref b709), .val (.ref b710), .val (.ref vw), .unset, .unset, .unset, .unset, .unset, .unset, .unset] [])
      refine own_aload X781 hx (hb hby at_68) rfl rfl ?_
      refine own_aload X781 hx (hb hby at_70) rfl rfl ?_
      refine own_aload X781 hx (hb hby at_72) rfl rfl ?_
      refine own_iload X781 hx (hb hby at_74) rfl ?_
      refine own_iloadN X781 hx (hb hby at_76) rfl ?_
      refine own_iload X781 hx (hb hby at_77) rfl ?_
      have f782 := (Exa.keep Ev777 Kc781)
      have f783 := (G777_rowEnd.keep Kc781 (ninS (Ne.symm ne_b710_vw) nin0))
      have f784 := (G777_bytes.keep Kc781 (ninS (Ne.symm ne_b710_vw) nin0))
      have f785 := (G777_rowStart.keep Kc781 (ninS (Ne.symm ne_b710_vw) nin0))
      have f786 := (G777_ascii.keep Kc781 (ninS (Ne.symm ne_b710_vw) nin0))
      have f787 := (G777_fieldEnds.keep Kc781 (ninS (Ne.symm ne_b710_vw) nin0))
      have f788 := (Vb777.keep Kc781 (ninS (Ne.symm ne_b710_yb) nin0))
      have f789 := (V_ys_778.keep Kc781 (ninS (Ne.symm ne_b710_ys) nin0))
      have f790 := (Vz777.keep Kc781 (ninS (Ne.symm ne_b710_yz) nin0))
      have f791 := (V_yf_779.keep Kc781 (ninS (Ne.symm ne_b710_yf) nin0))
      have f792 := (V_ye_780.keep Kc781 (ninS (Ne.symm ne_b710_ye) nin0))
      have f793 := ((f776.keep Kc777 (ninS ne_b709_b710 (ninS ne_b709_vw (ninS ne_b709_ye (ninS ne_b709_yb (ninS ne_b709_yf (ninS ne_b709_ys (ninS ne_b709_yz nin0)))))))).keep Kc781 (ninS ne_b709_b710 nin0))
      refine own_callS X781 hx hZ (y := my8) hown (hw _ (List.mem_of_getElem? (i := 91) rfl)) (hw _ (List.mem_of_getElem? (i := 92) rfl)) (hw _ (List.mem_of_getElem? (i := 93) rfl)) (hw _ (List.mem_of_getElem? (i := 94) rfl)) (by decide) (rm8_4 l Z a0 hw [] b710 vw b709 p1 off yb ys yz yf ye kb ks kz kf ke k709 (0 : Int32) (0 : Int32) bs777 [(.int (0 : Int32)), o0, o0, o0, o0, o0, o0, o0, o0, o0, o0, o0, o0, o0, o0, o0] zs777 [(.int (pl_end p3 (0 : Int32))), (.int (pl_end p3 (1 : Int32))), (.int (pl_end p3 (2 : Int32))), (.int (pl_end p3 (3 : Int32))), o0, o0, o0, o0, o0, o0, o0, o0, o0, o0, o0, o0, o0, o0, o0, o0, o0, o0, o0, o0, o0, o0, o0, o0, o0, o0, o0, o0, o0, o0, o0, o0, o0, o0, o0, o0, o0, o0, o0, o0, o0, o0, o0, o0, o0, o0, o0, o0, o0, o0, o0, o0, o0, o0, o0, o0, o0, o0, o0, o0] [(.int (0 : Int32)), (.int (0 : Int32)), (.int (0 : Int32)), (.int (0 : Int32)), (.int (0 : Int32)), (.int (0 : Int32)), (.int (0 : Int32)), (.int (0 : Int32)), (.int (0 : Int32)), (.int (0 : Int32)), (.int (0 : Int32)), (.int (0 : Int32)), (.int (0 : Int32)), (.int (0 : Int32)), (.int (0 : Int32)), (.int (0 : Int32)), (.int (0 : Int32)), (.int (0 : Int32)), (.int (0 : Int32)), (.int (0 : Int32)), (.int (0 : Int32)), (.int (0 : Int32)), (.int (0 : Int32)), (.int (0 : Int32)), (.int (0 : Int32)), (.int (0 : Int32)), (.int (0 : Int32)), (.int (0 : Int32)), (.int (0 : Int32)), (.int (0 : Int32)), (.int (0 : Int32)), (.int (0 : Int32)), (.int (0 : Int32)), (.int (0 : Int32)), (.int (0 : Int32)), (.int (0 : Int32)), (.int (0 : Int32)), (.int (0 : Int32)), (.int (0 : Int32)), (.int (0 : Int32))] (.int (pl_end p3 (0 : Int32))) (.int (pl_end p3 (1 : Int32))) (.int (pl_end p3 (2 : Int32))) (.int (pl_end p3 (3 : Int32))) (.int ((off + (pl_end p3 (3 : Int32))) + (1 : Int32))) (.ref b709) (.int off) (.int (1 : Int32)) T781.heap n0 (Nat.le_trans Z0 K781.1) Eh781 F781_bytes F781_starts F781_ascii F781_columns F781_fieldEnds F781_view F781_size F781_length f782 f783 f784 f785 f786 f787 f788 f789 f790 f791 f792 f793 ne1 ne2 ne3 (Ne.symm ne_b709_yb) n0_b710 n0_yb n0_yf n0_ys n0_yz n0_vw n0_ye (by decide) (by decide) hof rfl rfl lb777 lz777) 0 (by decide) (by decide) rfl (by rw [hml]; rfl) [(.ref b710), (.ref vw), (.ref b709), (.int (4 : Int32)), (.int p1), (.int off)] [] rfl (lenOf pd_11 rfl) rfl (Nat.le_of_eq rfl) (hb hby at_79) (by decide) (by decide) ?_
      rintro T794 _ L794 X794 ⟨rfl, N794q, Kc794, Eh794, F794_bytes, F794_starts, F794_ascii, F794_columns, F794_fieldEnds, F794_view, F794_size, F794_length, ⟨bs794, lb794, Vb794⟩, Vf794, Vs794, ⟨zs794, lz794, Vz794⟩, Ev794, G794_rowEnd, G794_bytes, G794_fieldEnds, G794_rowStart, G794_ascii, Ve794⟩
      have N794 := Fr.app N781 N794q
      have K794 := K781.trans Kc794 (allS (P := fun x => x ∈ ([] : List Addr) ∨ h0.size ≤ x) (Or.inr sz_b710) (allS (P := fun x => x ∈ ([] : List Addr) ∨ h0.size ≤ x) (Or.inr sz_vw) (allS (P := fun x => x ∈ ([] : List Addr) ∨ h0.size ≤ x) (Or.inr sz_ye) (allS (P := fun x => x ∈ ([] : List Addr) ∨ h0.size ≤ x) (Or.inr sz_yb) (allS (P := fun x => x ∈ ([] : List Addr) ∨ h0.size ≤ x) (Or.inr sz_yf) (allS (P := fun x => x ∈ ([] : List Addr) ∨ h0.size ≤ x) (Or.inr sz_ys) (allS (P := fun x => x ∈ ([] : List Addr) ∨ h0.size ≤ x) (Or.inr sz_yz) all0)))))))
      show own_R p e below s _ _ _ T794 (mkF m 82 #[.val (.int p0), .val (.int p1), .val (.int p2), .val (.int p3), .val (.int p4), .val (.int (4 : Int32)), .val (.int off), .val (.ref b709), .val (.ref b710), .val (.ref vw), .unset, .unset, .unset, .unset, .unset, .unset, .unset] [(.int ((pl_end p1 (3 : Int32)) + (2 : Int32)))])
      have Fz794 : Fld Z T794.heap b710 cH "size" "I" (.int (1 : Int32)) := F794_size
      have V_ys_795 : Arv Z T794.heap ys ks .int (16 : Int32) [(.int (0 : Int32)), o0, o0, o0, o0, o0, o0, o0, o0, o0, o0, o0, o0, o0, o0, o0] o0 := Vs794
      have V_yf_796 : Arv Z T794.heap yf kf .int ((16 : Int32) * (4 : Int32)) [(.int (pl_end p1 (0 : Int32))), (.int (pl_end p1 (1 : Int32))), (.int (pl_end p1 (2 : Int32))), (.int (pl_end p1 (3 : Int32))), o0, o0, o0, o0, o0, o0, o0, o0, o0, o0, o0, o0, o0, o0, o0, o0, o0, o0, o0, o0, o0, o0, o0, o0, o0, o0, o0, o0, o0, o0, o0, o0, o0, o0, o0, o0, o0, o0, o0, o0, o0, o0, o0, o0, o0, o0, o0, o0, o0, o0, o0, o0, o0, o0, o0, o0, o0, o0, o0, o0] o0 := Vf794
      have V_ye_797 : Arv Z T794.heap ye ke .int (4 : Int32) [(.int (pl_end p1 (0 : Int32))), (.int (pl_end p1 (1 : Int32))), (.int (pl_end p1 (2 : Int32))), (.int (pl_end p1 (3 : Int32)))] o0 := Ve794
      have hl1 : 0 ≤ ((0 : Int32) + ((pl_end p1 (3 : Int32)) + (2 : Int32))).toInt ∧ ((0 : Int32) + ((pl_end p1 (3 : Int32)) + (2 : Int32))).toInt ≤ 100 := pl_b1 p1 (3 : Int32)
      refine own_istore X794 hx (hb hby at_82) (l' := #[.val (.int p0), .val (.int p1), .val (.int p2), .val (.int p3), .val (.int p4), .val (.int (4 : Int32)), .val (.int off), .val (.ref b709), .val (.ref b710), .val (.ref vw), .val (.int ((pl_end p1 (3 : Int32)) + (2 : Int32))), .unset, .unset, .unset, .unset, .unset, .unset]) rfl ?_
      refine own_aload X794 hx (hb hby at_84) rfl rfl ?_
      refine own_aload X794 hx (hb hby at_86) rfl rfl ?_
      refine own_aload X794 hx (hb hby at_88) rfl rfl ?_
      refine own_iload X794 hx (hb hby at_90) rfl ?_
      refine own_iloadN X794 hx (hb hby at_92) rfl ?_
      refine own_iload X794 hx (hb hby at_93) rfl ?_
      have f798 := (f793.keep Kc794 (ninS ne_b709_b710 (ninS ne_b709_vw (ninS ne_b709_ye (ninS ne_b709_yb (ninS ne_b709_yf (ninS ne_b709_ys (ninS ne_b709_yz nin0))))))))
      refine own_callS X794 hx hZ (y := my8) hown (hw _ (List.mem_of_getElem? (i := 91) rfl)) (hw _ (List.mem_of_getElem? (i := 92) rfl)) (hw _ (List.mem_of_getElem? (i := 93) rfl)) (hw _ (List.mem_of_getElem? (i := 94) rfl)) (by decide) (rm8_4 l Z a0 hw [] b710 vw b709 p2 off yb ys yz yf ye kb ks kz kf ke k709 (1 : Int32) ((0 : Int32) + ((pl_end p1 (3 : Int32)) + (2 : Int32))) bs794 [(.int (0 : Int32)), o0, o0, o0, o0, o0, o0, o0, o0, o0, o0, o0, o0, o0, o0, o0] zs794 [(.int (pl_end p1 (0 : Int32))), (.int (pl_end p1 (1 : Int32))), (.int (pl_end p1 (2 : Int32))), (.int (pl_end p1 (3 : Int32))), o0, o0, o0, o0, o0, o0, o0, o0, o0, o0, o0, o0, o0, o0, o0, o0, o0, o0, o0, o0, o0, o0, o0, o0, o0, o0, o0, o0, o0, o0, o0, o0, o0, o0, o0, o0, o0, o0, o0, o0, o0, o0, o0, o0, o0, o0, o0, o0, o0, o0, o0, o0, o0, o0, o0, o0, o0, o0, o0, o0] [(.int (0 : Int32)), (.int (0 : Int32)), (.int (0 : Int32)), (.int (0 : Int32)), (.int (0 : Int32)), (.int (0 : Int32)), (.int (0 : Int32)), (.int (0 : Int32)), (.int (0 : Int32)), (.int (0 : Int32)), (.int (0 : Int32)), (.int (0 : Int32)), (.int (0 : Int32)), (.int (0 : Int32)), (.int (0 : Int32)), (.int (0 : Int32)), (.int (0 : Int32)), (.int (0 : Int32)), (.int (0 : Int32)), (.int (0 : Int32)), (.int (0 : Int32)), (.int (0 : Int32)), (.int (0 : Int32)), (.int (0 : Int32)), (.int (0 : Int32)), (.int (0 : Int32)), (.int (0 : Int32)), (.int (0 : Int32)), (.int (0 : Int32)), (.int (0 : Int32)), (.int (0 : Int32)), (.int (0 : Int32)), (.int (0 : Int32)), (.int (0 : Int32)), (.int (0 : Int32)), (.int (0 : Int32)), (.int (0 : Int32)), (.int (0 : Int32)), (.int (0 : Int32)), (.int (0 : Int32))] (.int (pl_end p1 (0 : Int32))) (.int (pl_end p1 (1 : Int32))) (.int (pl_end p1 (2 : Int32))) (.int (pl_end p1 (3 : Int32))) (.int ((off + (pl_end p1 (3 : Int32))) + (1 : Int32))) (.ref b709) (.int off) (.int (1 : Int32)) T794.heap n0 (Nat.le_trans Z0 K794.1) Eh794 F794_bytes F794_starts F794_ascii F794_columns F794_fieldEnds F794_view Fz794 F794_length Ev794 G794_rowEnd G794_bytes G794_rowStart G794_ascii G794_fieldEnds Vb794 V_ys_795 Vz794 V_yf_796 V_ye_797 f798 ne1 ne2 ne3 (Ne.symm ne_b709_yb) n0_b710 n0_yb n0_yf n0_ys n0_yz n0_vw n0_ye (by decide) hl1 hof rfl rfl lb794 lz794) 0 (by decide) (by decide) rfl (by rw [hml]; rfl) [(.ref b710), (.ref vw), (.ref b709), (.int (4 : Int32)), (.int p2), (.int off)] [] rfl (lenOf pd_11 rfl) rfl (Nat.le_of_eq rfl) (hb hby at_95) (by decide) (by decide) ?_
      rintro T799 _ L799 X799 ⟨rfl, N799q, Kc799, Eh799, F799_bytes, F799_starts, F799_ascii, F799_columns, F799_fieldEnds, F799_view, F799_size, F799_length, ⟨bs799, lb799, Vb799⟩, Vf799, Vs799, ⟨zs799, lz799, Vz799⟩, Ev799, G799_rowEnd, G799_bytes, G799_fieldEnds, G799_rowStart, G799_ascii, Ve799⟩
      have N799 := Fr.app N794 N799q
      have K799 := K794.trans Kc799 (allS (P := fun x => x ∈ ([] : List Addr) ∨ h0.size ≤ x) (Or.inr sz_b710) (allS (P := fun x => x ∈ ([] : List Addr) ∨ h0.size ≤ x) (Or.inr sz_vw) (allS (P := fun x => x ∈ ([] : List Addr) ∨ h0.size ≤ x) (Or.inr sz_ye) (allS (P := fun x => x ∈ ([] : List Addr) ∨ h0.size ≤ x) (Or.inr sz_yb) (allS (P := fun x => x ∈ ([] : List Addr) ∨ h0.size ≤ x) (Or.inr sz_yf) (allS (P := fun x => x ∈ ([] : List Addr) ∨ h0.size ≤ x) (Or.inr sz_ys) (allS (P := fun x => x ∈ ([] : List Addr) ∨ h0.size ≤ x) (Or.inr sz_yz) all0)))))))
      show own_R p e below s _ _ _ T799 (mkF m 98 #[.val (.int p0), .val (.int p1), .val (.int p2), .val (.int p3), .val (.int p4), .val (.int (4 : Int32)), .val (.int off), .val (.ref b709), .val (.ref b710), .val (.ref vw), .val (.int ((pl_end p1 (3 : Int32)) + (2 : Int32))), .unset, .unset, .unset, .unset, .unset, .unset] [(.int ((pl_end p2 (3 : Int32)) + (2 : Int32)))])
      have Fz799 : Fld Z T799.heap b710 cH "size" "I" (.int (2 : Int32)) := F799_size
      have V_ys_800 : Arv Z T799.heap ys ks .int (16 : Int32) [(.int (0 : Int32)), (.int ((0 : Int32) + ((pl_end p1 (3 : Int32)) + (2 : Int32)))), o0, o0, o0, o0, o0, o0, o0, o0, o0, o0, o0, o0, o0, o0] o0 := Vs799
      have V_yf_801 : Arv Z T799.heap yf kf .int ((16 : Int32) * (4 : Int32)) [(.int (pl_end p1 (0 : Int32))), (.int (pl_end p1 (1 : Int32))), (.int (pl_end p1 (2 : Int32))), (.int (pl_end p1 (3 : Int32))), (.int (pl_end p2 (0 : Int32))), (.int (pl_end p2 (1 : Int32))), (.int (pl_end p2 (2 : Int32))), (.int (pl_end p2 (3 : Int32))), o0, o0, o0, o0, o0, o0, o0, o0, o0, o0, o0, o0, o0, o0, o0, o0, o0, o0, o0, o0, o0, o0, o0, o0, o0, o0, o0, o0, o0, o0, o0, o0, o0, o0, o0, o0, o0, o0, o0, o0, o0, o0, o0, o0, o0, o0, o0, o0, o0, o0, o0, o0, o0, o0, o0, o0] o0 := Vf799
      have V_ye_802 : Arv Z T799.heap ye ke .int (4 : Int32) [(.int (pl_end p2 (0 : Int32))), (.int (pl_end p2 (1 : Int32))), (.int (pl_end p2 (2 : Int32))), (.int (pl_end p2 (3 : Int32)))] o0 := Ve799
      have hl2 : 0 ≤ (((0 : Int32) + ((pl_end p1 (3 : Int32)) + (2 : Int32))) + ((pl_end p2 (3 : Int32)) + (2 : Int32))).toInt ∧ (((0 : Int32) + ((pl_end p1 (3 : Int32)) + (2 : Int32))) + ((pl_end p2 (3 : Int32)) + (2 : Int32))).toInt ≤ 100 := pl_b2 p1 p2 (3 : Int32)
      refine own_istore X799 hx (hb hby at_98) (l' := #[.val (.int p0), .val (.int p1), .val (.int p2), .val (.int p3), .val (.int p4), .val (.int (4 : Int32)), .val (.int off), .val (.ref b709), .val (.ref b710), .val (.ref vw), .val (.int ((pl_end p1 (3 : Int32)) + (2 : Int32))), .val (.int ((pl_end p2 (3 : Int32)) + (2 : Int32))), .unset, .unset, .unset, .unset, .unset]) rfl ?_
      refine own_aload X799 hx (hb hby at_100) rfl rfl ?_
      refine own_aload X799 hx (hb hby at_102) rfl rfl ?_
      refine own_aload X799 hx (hb hby at_104) rfl rfl ?_
      refine own_iload X799 hx (hb hby at_106) rfl ?_
      refine own_iloadN X799 hx (hb hby at_108) rfl ?_
      refine own_iload X799 hx (hb hby at_109) rfl ?_
      have f803 := (f798.keep Kc799 (ninS ne_b709_b710 (ninS ne_b709_vw (ninS ne_b709_ye (ninS ne_b709_yb (ninS ne_b709_yf (ninS ne_b709_ys (ninS ne_b709_yz nin0))))))))
      refine own_callS X799 hx hZ (y := my8) hown (hw _ (List.mem_of_getElem? (i := 91) rfl)) (hw _ (List.mem_of_getElem? (i := 92) rfl)) (hw _ (List.mem_of_getElem? (i := 93) rfl)) (hw _ (List.mem_of_getElem? (i := 94) rfl)) (by decide) (rm8_4 l Z a0 hw [] b710 vw b709 p3 off yb ys yz yf ye kb ks kz kf ke k709 (2 : Int32) (((0 : Int32) + ((pl_end p1 (3 : Int32)) + (2 : Int32))) + ((pl_end p2 (3 : Int32)) + (2 : Int32))) bs799 [(.int (0 : Int32)), (.int ((0 : Int32) + ((pl_end p1 (3 : Int32)) + (2 : Int32)))), o0, o0, o0, o0, o0, o0, o0, o0, o0, o0, o0, o0, o0, o0] zs799 [(.int (pl_end p1 (0 : Int32))), (.int (pl_end p1 (1 : Int32))), (.int (pl_end p1 (2 : Int32))), (.int (pl_end p1 (3 : Int32))), (.int (pl_end p2 (0 : Int32))), (.int (pl_end p2 (1 : Int32))), (.int (pl_end p2 (2 : Int32))), (.int (pl_end p2 (3 : Int32))), o0, o0, o0, o0, o0, o0, o0, o0, o0, o0, o0, o0, o0, o0, o0, o0, o0, o0, o0, o0, o0, o0, o0, o0, o0, o0, o0, o0, o0, o0, o0, o0, o0, o0, o0, o0, o0, o0, o0, o0, o0, o0, o0, o0, o0, o0, o0, o0, o0, o0, o0, o0, o0, o0, o0, o0] [(.int (0 : Int32)), (.int (0 : Int32)), (.int (0 : Int32)), (.int (0 : Int32)), (.int (0 : Int32)), (.int (0 : Int32)), (.int (0 : Int32)), (.int (0 : Int32)), (.int (0 : Int32)), (.int (0 : Int32)), (.int (0 : Int32)), (.int (0 : Int32)), (.int (0 : Int32)), (.int (0 : Int32)), (.int (0 : Int32)), (.int (0 : Int32)), (.int (0 : Int32)), (.int (0 : Int32)), (.int (0 : Int32)), (.int (0 : Int32)), (.int (0 : Int32)), (.int (0 : Int32)), (.int (0 : Int32)), (.int (0 : Int32)), (.int (0 : Int32)), (.int (0 : Int32)), (.int (0 : Int32)), (.int (0 : Int32)), (.int (0 : Int32)), (.int (0 : Int32)), (.int (0 : Int32)), (.int (0 : Int32)), (.int (0 : Int32)), (.int (0 : Int32)), (.int (0 : Int32)), (.int (0 : Int32)), (.int (0 : Int32)), (.int (0 : Int32)), (.int (0 : Int32)), (.int (0 : Int32))] (.int (pl_end p2 (0 : Int32))) (.int (pl_end p2 (1 : Int32))) (.int (pl_end p2 (2 : Int32))) (.int (pl_end p2 (3 : Int32))) (.int ((off + (pl_end p2 (3 : Int32))) + (1 : Int32))) (.ref b709) (.int off) (.int (1 : Int32)) T799.heap n0 (Nat.le_trans Z0 K799.1) Eh799 F799_bytes F799_starts F799_ascii F799_columns F799_fieldEnds F799_view Fz799 F799_length Ev799 G799_rowEnd G799_bytes G799_rowStart G799_ascii G799_fieldEnds Vb799 V_ys_800 Vz799 V_yf_801 V_ye_802 f803 ne1 ne2 ne3 (Ne.symm ne_b709_yb) n0_b710 n0_yb n0_yf n0_ys n0_yz n0_vw n0_ye (by decide) hl2 hof rfl rfl lb799 lz799) 0 (by decide) (by decide) rfl (by rw [hml]; rfl) [(.ref b710), (.ref vw), (.ref b709), (.int (4 : Int32)), (.int p3), (.int off)] [] rfl (lenOf pd_11 rfl) rfl (Nat.le_of_eq rfl) (hb hby at_111) (by decide) (by decide) ?_
      rintro T804 _ L804 X804 ⟨rfl, N804q, Kc804, Eh804, F804_bytes, F804_starts, F804_ascii, F804_columns, F804_fieldEnds, F804_view, F804_size, F804_length, ⟨bs804, lb804, Vb804⟩, Vf804, Vs804, ⟨zs804, lz804, Vz804⟩, Ev804, G804_rowEnd, G804_bytes, G804_fieldEnds, G804_rowStart, G804_ascii, Ve804⟩
      have N804 := Fr.app N799 N804q
      have K804 := K799.trans Kc804 (allS (P := fun x => x ∈ ([] : List Addr) ∨ h0.size ≤ x) (Or.inr sz_b710) (allS (P := fun x => x ∈ ([] : List Addr) ∨ h0.size ≤ x) (Or.inr sz_vw) (allS (P := fun x => x ∈ ([] : List Addr) ∨ h0.size ≤ x) (Or.inr sz_ye) (allS (P := fun x => x ∈ ([] : List Addr) ∨ h0.size ≤ x) (Or.inr sz_yb) (allS (P := fun x => x ∈ ([] : List Addr) ∨ h0.size ≤ x) (Or.inr sz_yf) (allS (P := fun x => x ∈ ([] : List Addr) ∨ h0.size ≤ x) (Or.inr sz_ys) (allS (P := fun x => x ∈ ([] : List Addr) ∨ h0.size ≤ x) (Or.inr sz_yz) all0)))))))
      show own_R p e below s _ _ _ T804 (mkF m 114 #[.val (.int p0), .val (.int p1), .val (.int p2), .val (.int p3), .val (.int p4), .val (.int (4 : Int32)), .val (.int off), .val (.ref b709), .val (.ref b710), .val (.ref vw), .val (.int ((pl_end p1 (3 : Int32)) + (2 : Int32))), .val (.int ((pl_end p2 (3 : Int32)) + (2 : Int32))), .unset, .unset, .unset, .unset, .unset] [(.int ((pl_end p3 (3 : Int32)) + (2 : Int32)))])
      have Fz804 : Fld Z T804.heap b710 cH "size" "I" (.int (3 : Int32)) := F804_size
      have V_ys_805 : Arv Z T804.heap ys ks .int (16 : Int32) [(.int (0 : Int32)), (.int ((0 : Int32) + ((pl_end p1 (3 : Int32)) + (2 : Int32)))), (.int (((0 : Int32) + ((pl_end p1 (3 : Int32)) + (2 : Int32))) + ((pl_end p2 (3 : Int32)) + (2 : Int32)))), o0, o0, o0, o0, o0, o0, o0, o0, o0, o0, o0, o0, o0] o0 := Vs804
      have V_yf_806 : Arv Z T804.heap yf kf .int ((16 : Int32) * (4 : Int32)) [(.int (pl_end p1 (0 : Int32))), (.int (pl_end p1 (1 : Int32))), (.int (pl_end p1 (2 : Int32))), (.int (pl_end p1 (3 : Int32))), (.int (pl_end p2 (0 : Int32))), (.int (pl_end p2 (1 : Int32))), (.int (pl_end p2 (2 : Int32))), (.int (pl_end p2 (3 : Int32))), (.int (pl_end p3 (0 : Int32))), (.int (pl_end p3 (1 : Int32))), (.int (pl_end p3 (2 : Int32))), (.int (pl_end p3 (3 : Int32))), o0, o0, o0, o0, o0, o0, o0, o0, o0, o0, o0, o0, o0, o0, o0, o0, o0, o0, o0, o0, o0, o0, o0, o0, o0, o0, o0, o0, o0, o0, o0, o0, o0, o0, o0, o0, o0, o0, o0, o0, o0, o0, o0, o0, o0, o0, o0, o0, o0, o0, o0, o0] o0 := Vf804
      have V_ye_807 : Arv Z T804.heap ye ke .int (4 : Int32) [(.int (pl_end p3 (0 : Int32))), (.int (pl_end p3 (1 : Int32))), (.int (pl_end p3 (2 : Int32))), (.int (pl_end p3 (3 : Int32)))] o0 := Ve804
      refine own_pop X804 hx (hb hby at_114) rfl ?_
      exact J115 _ _ _ X804 rfl N804 (Nat.le_trans Z0 K804.1) F804_starts F804_fieldEnds F804_columns Eh804 V_ys_805 V_yf_806
set_option maxRecDepth 65536 in
set_option maxHeartbeats 40000000 in
theorem comes_1 {Post : Tables → Env → Array Value → State → Outcome → State → Prop} (hpost : ∀ tb e args s v u, (limb_1_1.after args s (.returned v) u = true ∧ limb_1_2.after args s (.returned v) u = true) → FrameEnd s (.returned v) u (Jvm.fieldLocs frame_1_writes args s ++ Jvm.arrayLocs frame_1_arrays args s ++ Jvm.staticLocs frame_1_statics s) 40 8704 → Post tb e args s (.returned v) u) :
    ArmFor flags0 classFile x code maxLocals ret World_1 tables_1 room_1 Calls_1 rest_1 Pre_1 Post := by
  intro l hfl _ _ p e ha hc hk s m args below hf hA hF happ hP
  obtain ⟨hcalls, hrest, hpre⟩ := hP
  obtain ⟨-, -, -, hnamed, -, -, -, hat⟩ := (Spec.applies_iff hf).mp happ
  obtain ⟨hg, hn⟩ := and_e (Cond.before_iff.mp (show (Jvm.Cond.and given_1 narrow_1).before args s = true from hpre))
  obtain ⟨g1, g2⟩ := and_e hg
  obtain ⟨g3, g4⟩ := and_e g2
  obtain ⟨g5, g6⟩ := and_e g4
  obtain ⟨g7, g8⟩ := and_e g6
  obtain ⟨g9, g10⟩ := and_e g8
  obtain ⟨w0, w1, w2, w3, w4, rfl⟩ : ∃ w0 w1 w2 w3 w4 : Value, args = #[w0, w1, w2, w3, w4] := by
    have hs : args.size = 5 := by simpa [Cond.value, given_1] using g1
    obtain ⟨L⟩ := args
    match L, hs with
    | [w0, w1, w2, w3, w4], _ => exact ⟨w0, w1, w2, w3, w4, rfl⟩
  have hw := fun d (hd : d ∈ tables_1) => atoms_spec (ws := Jvm.Cond.code x code maxLocals ret :: tables_1) hat d (List.mem_cons_of_mem _ hd)
  obtain ⟨i0, ei0⟩ := is_v g3
  obtain rfl : w0 = (.int i0) := Option.some.inj ei0
  obtain ⟨i1, ei1⟩ := is_v g5
  obtain rfl : w1 = (.int i1) := Option.some.inj ei1
  obtain ⟨i2, ei2⟩ := is_v g7
  obtain rfl : w2 = (.int i2) := Option.some.inj ei2
  obtain ⟨i3, ei3⟩ := is_v g9
  obtain rfl : w3 = (.int i3) := Option.some.inj ei3
  obtain ⟨i4, ei4⟩ := is_v g10
  obtain rfl : w4 = (.int i4) := Option.some.inj ei4
  obtain ⟨n, o, h1, h2, h3, _, L, rfl, ⟨rfl, N⟩, hq⟩ := rm0 l s _ hw tables_1 i0 i1 i2 i3 i4 s.heap s.heap.size (Nat.le_refl _) p e ha hc hk s m _ below hf ((Spec.applies_iff_loose hf).mp happ).1 ⟨rfl, State.Warmed39.refl s, rfl⟩ trivial
  refine ⟨n, _, h1, h2, h3, hpost _ _ _ _ _ _ ⟨Cond.after_iff.mpr rfl, Cond.after_iff.mpr (eq_i res_at (Term.int_eval (1)) rfl)⟩ ⟨hq.1, hq.2.1, (hq.2.2.sift fun y hy => Or.inr (N y hy)).mono (by decide) (by decide)⟩⟩
theorem main_1_1 : Claimed_1_1 := comes_1 fun _ _ _ _ _ _ h hF => ⟨h.1, hF⟩
theorem main_1_2 : Claimed_1_2 := comes_1 fun _ _ _ _ _ _ h hF => ⟨h.2, hF⟩
end Jvm.Pilot.@@N@@
namespace Jvm.Pilot.@@N@@
open Jvm Jvm.ClassFile Sem Op Lib Jvm.Free Jvm.Stand Jvm.Pilot.@@N@@.Jvm.D
/-! MADE BY PROGRAM (witnessworld.py) out of the Statement's table words and the real class files: 17 classes; the members and pool entries that the words name. The judged class is class 1, her method 1. -/
namespace start1
open Jvm.ClassFile
def u (s : String) : CpInfo := .utf8 (stringToUtf16 s)
/-- a pool by its gaps: so many unusable entries, then the entry; so many at the end -/
def gap : Nat → List CpInfo → List CpInfo
  | 0, r => r
  | n + 1, r => .unusable :: gap n r
def poolList (es : List (Nat × CpInfo)) (last : Nat) : List CpInfo := es.foldr (fun e r => gap e.1 (e.2 :: r)) (gap last [])
def pool (es : List (Nat × CpInfo)) (last : Nat) : Array CpInfo := ⟨poolList es last⟩
def fileOf (pool : Array CpInfo) (this : Nat) (attrs : Array Attribute := #[]) (ms : Array MethodInfo := #[]) (fl : Nat := 33) (sup : Nat := 0) (ifs : Array Nat := #[]) (fds : Array FieldInfo := #[]) : ClassFile where
  minorVersion := 0
  majorVersion := 65
  constantPool := pool
  accessFlags := fl
  thisClass := this
  superClass := sup
  interfaces := ifs
  fields := fds
  methods := ms
  attributes := attrs
def plain (name : String) (sup : Option ClassId) : Class where
  name := name
  kind := .ordinary
  loader := none
  accessFlags := 33
  super := sup
  interfaces := #[]
  cf := none
  fields := #[]
  methods := #[]
  instanceTypes := #[]
  staticTypes := #[]
  resolved := #[]
  callSites := []
  init := .initialized
  statics := none
  mirror := none

def pool0 : Array CpInfo := pool [(5, u "<init>"), (0, u "()V"), (1, .class_ 10), (1, u "java/lang/Object")] 113

def k0c0 : Code := { maxStack := 0, maxLocals := 1, code := object_method_1_code, exceptionTable := #[], attributes := #[] }
def k0m0 : Method := { name := "<init>", desc := "()V", sig := { parameters := [], returnType := none }, accessFlags := 1, code := some k0c0 }
/-- java/lang/Object -/
def k0 : Class := { plain "java/lang/Object" none with
  accessFlags := 33
  interfaces := #[]
  cf := some (fileOf pool0 8 #[] #[{ accessFlags := 1, nameIndex := 5, descriptorIndex := 6, attributes := #[] }] 33 0 #[] #[])
  fields := #[]
  methods := #[k0m0]
  instanceTypes := #[]
  staticTypes := #[]
  resolved := Array.replicate 124 none
  statics := none }

def pool1 : Array CpInfo := pool [(2, .class_ 4), (1, u "java/lang/Object"), (0, u "<init>"), (0, u "()V"), (0, .class_ 8), (0, u "com/example/termweave/termweave/release/HeldRows"), (0, .methodref 7 10), (0, .nameAndType 5 11), (0, u "(I)V"), (0, .methodref 7 13), (0, .nameAndType 14 15), (0, u "row"), (0, u "(I)Lcom/example/termweave/termweave/release/RrfRow;"), (0, .methodref 17 18), (0, .class_ 19), (0, .nameAndType 20 21), (0, u "com/example/termweave/termweave/release/HeldRowsFieldStartPinLaw"), (0, u "addRow"), (0, u "(Lcom/example/termweave/termweave/release/HeldRows;Lcom/example/termweave/termweave/release/RrfRow;[BIII)I"), (0, .methodref 7 23), (0, .nameAndType 24 6), (0, u "clear"), (0, .integer 2147483647), (0, .methodref 17 27), (0, .nameAndType 28 29), (0, u "end"), (0, u "(II)I"), (0, .methodref 7 31), (0, .nameAndType 32 29), (0, u "fieldStart"), (0, .fieldref 34 35), (0, .class_ 36), (0, .nameAndType 37 38), (0, u "com/example/termweave/termweave/release/RrfRow"), (0, u "bytes"), (0, u "[B"), (0, .fieldref 34 40), (0, .nameAndType 41 42), (0, u "rowStart"), (0, u "I"), (0, .fieldref 34 44), (0, .nameAndType 45 42), (0, u "rowEnd"), (0, .fieldref 34 47), (0, .nameAndType 48 49), (0, u "fieldEnds"), (0, u "[I"), (0, .fieldref 34 51), (0, .nameAndType 52 53), (0, u "ascii"), (0, u "Z"), (0, .methodref 7 55), (0, .nameAndType 56 57), (0, u "add"), (0, u "(Lcom/example/termweave/termweave/release/RrfRow;)V"), (2, u "law"), (0, u "(IIIII)Z")] 4

def k1m0 : Method := { name := "<init>", desc := "()V", sig := { parameters := [], returnType := none }, accessFlags := 1, code := none }
def k1c1 : Code := { maxStack := 6, maxLocals := 17, code := code, exceptionTable := #[], attributes := #[] }
def k1m1 : Method := { name := "law", desc := "(IIIII)Z", sig := { parameters := [.int, .int, .int, .int, .int], returnType := some .boolean }, accessFlags := 9, code := some k1c1 }
def k1c2 : Code := { maxStack := 2, maxLocals := 10, code := method_3_code, exceptionTable := #[], attributes := #[] }
def k1m2 : Method := { name := "end", desc := "(II)I", sig := { parameters := [.int, .int], returnType := some .int }, accessFlags := 10, code := some k1c2 }
def k1c3 : Code := { maxStack := 4, maxLocals := 7, code := method_4_code, exceptionTable := #[], attributes := #[] }
def k1m3 : Method := { name := "addRow", desc := "(Lcom/example/termweave/termweave/release/HeldRows;Lcom/example/termweave/termweave/release/RrfRow;[BIII)I", sig := { parameters := [(.object "com/example/termweave/termweave/release/HeldRows"), (.object "com/example/termweave/termweave/release/RrfRow"), (.array .byte), .int, .int, .int], returnType := some .int }, accessFlags := 10, code := some k1c3 }
/-- com/example/termweave/termweave/release/HeldRowsFieldStartPinLaw -/
def k1 : Class := { plain "com/example/termweave/termweave/release/HeldRowsFieldStartPinLaw" (some 0) with
  accessFlags := 49
  interfaces := #[]
  cf := some (fileOf pool1 17 #[] #[{ accessFlags := 1, nameIndex := 5, descriptorIndex := 6, attributes := #[] }, { accessFlags := 9, nameIndex := 60, descriptorIndex := 61, attributes := #[] }, { accessFlags := 10, nameIndex := 28, descriptorIndex := 29, attributes := #[] }, { accessFlags := 10, nameIndex := 20, descriptorIndex := 21, attributes := #[] }] 49 2 #[] #[])
  fields := #[]
  methods := #[k1m0, k1m1, k1m2, k1m3]
  instanceTypes := #[]
  staticTypes := #[]
  resolved := Array.replicate 66 none
  statics := none }

def pool2 : Array CpInfo := pool [(1, .methodref 2 3), (0, .class_ 4), (0, .nameAndType 5 6), (0, u "java/lang/Object"), (0, u "<init>"), (0, u "()V"), (0, .fieldref 8 9), (0, .class_ 10), (0, .nameAndType 11 12), (0, u "com/example/termweave/termweave/release/HeldRows"), (0, u "bytes"), (0, u "[B"), (0, .fieldref 8 14), (0, .nameAndType 15 16), (0, u "starts"), (0, u "[I"), (0, .fieldref 8 18), (0, .nameAndType 19 20), (0, u "ascii"), (0, u "[Z"), (0, .class_ 22), (0, u "com/example/termweave/termweave/release/HeldRows$Sort"), (0, .methodref 21 24), (0, .nameAndType 5 25), (0, u "(Lcom/example/termweave/termweave/release/HeldRows;)V"), (0, .fieldref 8 27), (0, .nameAndType 28 29), (0, u "sort"), (0, u "Lcom/example/termweave/termweave/release/HeldRows$Sort;"), (0, .fieldref 8 31), (0, .nameAndType 32 33), (0, u "columns"), (0, u "I"), (0, .fieldref 8 35), (0, .nameAndType 36 16), (0, u "fieldEnds"), (0, .class_ 38), (0, u "com/example/termweave/termweave/release/HeldRows$View"), (0, .methodref 37 40), (0, .nameAndType 5 41), (0, u "(I)V"), (0, .fieldref 8 43), (0, .nameAndType 44 45), (0, u "view"), (0, u "Lcom/example/termweave/termweave/release/HeldRows$View;"), (0, .fieldref 8 47), (0, .nameAndType 48 33), (0, u "size"), (9, .methodref 59 60), (0, .class_ 61), (0, .nameAndType 62 63), (0, u "com/example/termweave/termweave/release/RrfRow"), (0, u "rowEnd"), (0, u "()I"), (0, .methodref 59 65), (0, .nameAndType 66 63), (0, u "rowStart"), (0, .fieldref 8 68), (0, .nameAndType 69 33), (0, u "length"), (5, u "(II)I"), (3, .methodref 59 80), (0, .nameAndType 11 81), (0, u "()[B"), (0, .methodref 83 84), (0, .class_ 85), (0, .nameAndType 86 87), (0, u "java/lang/System"), (0, u "arraycopy"), (0, u "(Ljava/lang/Object;ILjava/lang/Object;II)V"), (0, .methodref 59 89), (0, .nameAndType 90 91), (0, u "fieldEndOffsets"), (0, u "()[I"), (0, .methodref 59 93), (0, .nameAndType 19 94), (0, u "()Z"), (4, .fieldref 37 9), (0, .fieldref 37 101), (0, .nameAndType 66 33), (0, .methodref 8 103), (0, .nameAndType 104 105), (0, u "lineFeed"), (0, u "(I)I"), (0, .fieldref 37 107), (0, .nameAndType 62 33), (0, .fieldref 37 35), (0, .fieldref 37 110), (0, .nameAndType 19 111), (0, u "Z"), (17, u "fieldStart"), (36, u "BIG_ENDIAN_LONGS"), (0, u "Ljava/lang/invoke/VarHandle;"), (0, u "INSERTION_SORTED"), (4, u "add"), (0, u "(Lcom/example/termweave/termweave/release/RrfRow;)V"), (3, u "clear"), (0, u "row"), (0, u "(I)Lcom/example/termweave/termweave/release/RrfRow;")] 31

def k2c0 : Code := { maxStack := 4, maxLocals := 2, code := prog_30_method_1_code, exceptionTable := #[], attributes := #[] }
def k2m0 : Method := { name := "<init>", desc := "(I)V", sig := { parameters := [.int], returnType := none }, accessFlags := 1, code := some k2c0 }
def k2c1 : Code := { maxStack := 5, maxLocals := 3, code := prog_30_method_2_code, exceptionTable := #[], attributes := #[] }
def k2m1 : Method := { name := "add", desc := "(Lcom/example/termweave/termweave/release/RrfRow;)V", sig := { parameters := [(.object "com/example/termweave/termweave/release/RrfRow")], returnType := none }, accessFlags := 1, code := some k2c1 }
def k2c2 : Code := { maxStack := 2, maxLocals := 1, code := prog_30_method_5_code, exceptionTable := #[], attributes := #[] }
def k2m2 : Method := { name := "clear", desc := "()V", sig := { parameters := [], returnType := none }, accessFlags := 1, code := some k2c2 }
def k2c3 : Code := { maxStack := 5, maxLocals := 2, code := prog_30_method_6_code, exceptionTable := #[], attributes := #[] }
def k2m3 : Method := { name := "row", desc := "(I)Lcom/example/termweave/termweave/release/RrfRow;", sig := { parameters := [.int], returnType := some (.object "com/example/termweave/termweave/release/RrfRow") }, accessFlags := 1, code := some k2c3 }
def k2c4 : Code := { maxStack := 4, maxLocals := 3, code := prog_30_method_13_code, exceptionTable := #[], attributes := #[] }
def k2m4 : Method := { name := "fieldStart", desc := "(II)I", sig := { parameters := [.int, .int], returnType := some .int }, accessFlags := 1, code := some k2c4 }
def k2c5 : Code := { maxStack := 3, maxLocals := 2, code := prog_30_method_15_code, exceptionTable := #[], attributes := #[] }
def k2m5 : Method := { name := "lineFeed", desc := "(I)I", sig := { parameters := [.int], returnType := some .int }, accessFlags := 2, code := some k2c5 }
/-- com/example/termweave/termweave/release/HeldRows -/
def k2 : Class := { plain "com/example/termweave/termweave/release/HeldRows" (some 0) with
  accessFlags := 49
  interfaces := #[]
  cf := some (fileOf pool2 8 #[.nestMembers #[37, 21]] #[{ accessFlags := 1, nameIndex := 5, descriptorIndex := 41, attributes := #[] }, { accessFlags := 1, nameIndex := 173, descriptorIndex := 174, attributes := #[] }, { accessFlags := 1, nameIndex := 178, descriptorIndex := 6, attributes := #[] }, { accessFlags := 1, nameIndex := 179, descriptorIndex := 180, attributes := #[] }, { accessFlags := 1, nameIndex := 129, descriptorIndex := 75, attributes := #[] }, { accessFlags := 2, nameIndex := 104, descriptorIndex := 105, attributes := #[] }] 49 2 #[] #[{ accessFlags := 26, nameIndex := 168, descriptorIndex := 33, attributes := #[] }, { accessFlags := 26, nameIndex := 166, descriptorIndex := 167, attributes := #[] }, { accessFlags := 18, nameIndex := 32, descriptorIndex := 33, attributes := #[] }, { accessFlags := 2, nameIndex := 11, descriptorIndex := 12, attributes := #[] }, { accessFlags := 2, nameIndex := 69, descriptorIndex := 33, attributes := #[] }, { accessFlags := 2, nameIndex := 48, descriptorIndex := 33, attributes := #[] }, { accessFlags := 2, nameIndex := 15, descriptorIndex := 16, attributes := #[] }, { accessFlags := 2, nameIndex := 36, descriptorIndex := 16, attributes := #[] }, { accessFlags := 2, nameIndex := 19, descriptorIndex := 20, attributes := #[] }, { accessFlags := 18, nameIndex := 44, descriptorIndex := 45, attributes := #[] }, { accessFlags := 18, nameIndex := 28, descriptorIndex := 29, attributes := #[] }])
  fields := #[{ name := "INSERTION_SORTED", type := .int, accessFlags := 26, slot := 0, constantValue := 0 }, { name := "BIG_ENDIAN_LONGS", type := (.object "java/lang/invoke/VarHandle"), accessFlags := 26, slot := 1, constantValue := 0 }, { name := "columns", type := .int, accessFlags := 18, slot := 0, constantValue := 0 }, { name := "bytes", type := (.array .byte), accessFlags := 2, slot := 1, constantValue := 0 }, { name := "length", type := .int, accessFlags := 2, slot := 2, constantValue := 0 }, { name := "size", type := .int, accessFlags := 2, slot := 3, constantValue := 0 }, { name := "starts", type := (.array .int), accessFlags := 2, slot := 4, constantValue := 0 }, { name := "fieldEnds", type := (.array .int), accessFlags := 2, slot := 5, constantValue := 0 }, { name := "ascii", type := (.array .boolean), accessFlags := 2, slot := 6, constantValue := 0 }, { name := "view", type := (.object "com/example/termweave/termweave/release/HeldRows$View"), accessFlags := 18, slot := 7, constantValue := 0 }, { name := "sort", type := (.object "com/example/termweave/termweave/release/HeldRows$Sort"), accessFlags := 18, slot := 8, constantValue := 0 }]
  methods := #[k2m0, k2m1, k2m2, k2m3, k2m4, k2m5]
  instanceTypes := #[.int, (.array .byte), .int, .int, (.array .int), (.array .int), (.array .boolean), (.object "com/example/termweave/termweave/release/HeldRows$View"), (.object "com/example/termweave/termweave/release/HeldRows$Sort")]
  staticTypes := #[.int, (.object "java/lang/invoke/VarHandle")]
  resolved := ((Array.replicate 212 none).setIfInBounds 21 (some (.cls 3))).setIfInBounds 23 (some (.method ⟨3, 0⟩))
  statics := none }

def pool3 : Array CpInfo := pool [(1, .class_ 2), (0, u "com/example/termweave/termweave/release/HeldRows"), (0, .fieldref 4 5), (0, .class_ 6), (0, .nameAndType 7 8), (0, u "com/example/termweave/termweave/release/HeldRows$Sort"), (0, u "this$0"), (0, u "Lcom/example/termweave/termweave/release/HeldRows;"), (0, .methodref 10 11), (0, .class_ 12), (0, .nameAndType 13 14), (0, u "java/lang/Object"), (0, u "<init>"), (0, u "()V"), (0, .fieldref 4 16), (0, .nameAndType 17 18), (0, u "leads"), (0, u "[J"), (0, .fieldref 4 20), (0, .nameAndType 21 22), (0, u "orderWork"), (0, u "[I"), (0, .fieldref 4 24), (0, .nameAndType 25 18), (0, u "leadWork"), (0, .fieldref 4 27), (0, .nameAndType 28 22), (0, u "pending"), (2, u "order"), (10, u "pendingCount"), (0, u "I"), (73, u "LEAD_BYTES"), (2, u "(Lcom/example/termweave/termweave/release/HeldRows;)V")] 13

def k3c0 : Code := { maxStack := 2, maxLocals := 2, code := prog_31_method_1_code, exceptionTable := #[], attributes := #[] }
def k3m0 : Method := { name := "<init>", desc := "(Lcom/example/termweave/termweave/release/HeldRows;)V", sig := { parameters := [(.object "com/example/termweave/termweave/release/HeldRows")], returnType := none }, accessFlags := 2, code := some k3c0 }
/-- com/example/termweave/termweave/release/HeldRows$Sort -/
def k3 : Class := { plain "com/example/termweave/termweave/release/HeldRows$Sort" (some 0) with
  accessFlags := 48
  interfaces := #[]
  cf := some (fileOf pool3 4 #[.nestHost 1] #[{ accessFlags := 2, nameIndex := 13, descriptorIndex := 120, attributes := #[] }] 48 10 #[] #[{ accessFlags := 26, nameIndex := 117, descriptorIndex := 43, attributes := #[] }, { accessFlags := 2, nameIndex := 31, descriptorIndex := 22, attributes := #[] }, { accessFlags := 2, nameIndex := 17, descriptorIndex := 18, attributes := #[] }, { accessFlags := 2, nameIndex := 21, descriptorIndex := 22, attributes := #[] }, { accessFlags := 2, nameIndex := 25, descriptorIndex := 18, attributes := #[] }, { accessFlags := 2, nameIndex := 28, descriptorIndex := 22, attributes := #[] }, { accessFlags := 2, nameIndex := 42, descriptorIndex := 43, attributes := #[] }, { accessFlags := 4112, nameIndex := 7, descriptorIndex := 8, attributes := #[] }])
  fields := #[{ name := "LEAD_BYTES", type := .int, accessFlags := 26, slot := 0, constantValue := 0 }, { name := "order", type := (.array .int), accessFlags := 2, slot := 0, constantValue := 0 }, { name := "leads", type := (.array .long), accessFlags := 2, slot := 1, constantValue := 0 }, { name := "orderWork", type := (.array .int), accessFlags := 2, slot := 2, constantValue := 0 }, { name := "leadWork", type := (.array .long), accessFlags := 2, slot := 3, constantValue := 0 }, { name := "pending", type := (.array .int), accessFlags := 2, slot := 4, constantValue := 0 }, { name := "pendingCount", type := .int, accessFlags := 2, slot := 5, constantValue := 0 }, { name := "this$0", type := (.object "com/example/termweave/termweave/release/HeldRows"), accessFlags := 4112, slot := 6, constantValue := 0 }]
  methods := #[k3m0]
  instanceTypes := #[(.array .int), (.array .long), (.array .int), (.array .long), (.array .int), .int, (.object "com/example/termweave/termweave/release/HeldRows")]
  staticTypes := #[.int]
  resolved := Array.replicate 134 none
  statics := none }

def pool4 : Array CpInfo := pool [(1, .methodref 2 3), (0, .class_ 4), (0, .nameAndType 5 6), (0, u "java/lang/Object"), (0, u "<init>"), (0, u "()V"), (0, .fieldref 8 9), (0, .class_ 10), (0, .nameAndType 11 12), (0, u "com/example/termweave/termweave/release/RrfRow"), (0, u "rowEnd"), (0, u "I"), (0, .fieldref 8 14), (0, .nameAndType 15 16), (0, u "bytes"), (0, u "[B"), (0, .fieldref 8 18), (0, .nameAndType 19 20), (0, u "fieldEnds"), (0, u "[I"), (0, .fieldref 8 22), (0, .nameAndType 23 12), (0, u "rowStart"), (0, .fieldref 8 25), (0, .nameAndType 26 27), (0, u "ascii"), (0, u "Z"), (11, u "()I"), (20, u "BYTE_ORDER"), (0, u "Ljava/util/Comparator;"), (2, u "([BI)V"), (2, u "()[B"), (3, u "fieldEndOffsets"), (0, u "()[I"), (0, u "()Z")] 26

def k4c0 : Code := { maxStack := 2, maxLocals := 3, code := prog_47_method_1_code, exceptionTable := #[], attributes := #[] }
def k4m0 : Method := { name := "<init>", desc := "([BI)V", sig := { parameters := [(.array .byte), .int], returnType := none }, accessFlags := 0, code := some k4c0 }
def k4c1 : Code := { maxStack := 1, maxLocals := 1, code := prog_47_method_2_code, exceptionTable := #[], attributes := #[] }
def k4m1 : Method := { name := "bytes", desc := "()[B", sig := { parameters := [], returnType := some (.array .byte) }, accessFlags := 17, code := some k4c1 }
def k4c2 : Code := { maxStack := 1, maxLocals := 1, code := prog_47_method_3_code, exceptionTable := #[], attributes := #[] }
def k4m2 : Method := { name := "rowStart", desc := "()I", sig := { parameters := [], returnType := some .int }, accessFlags := 17, code := some k4c2 }
def k4c3 : Code := { maxStack := 1, maxLocals := 1, code := prog_47_method_4_code, exceptionTable := #[], attributes := #[] }
def k4m3 : Method := { name := "rowEnd", desc := "()I", sig := { parameters := [], returnType := some .int }, accessFlags := 17, code := some k4c3 }
def k4c4 : Code := { maxStack := 1, maxLocals := 1, code := prog_47_method_7_code, exceptionTable := #[], attributes := #[] }
def k4m4 : Method := { name := "fieldEndOffsets", desc := "()[I", sig := { parameters := [], returnType := some (.array .int) }, accessFlags := 16, code := some k4c4 }
def k4c5 : Code := { maxStack := 1, maxLocals := 1, code := prog_47_method_8_code, exceptionTable := #[], attributes := #[] }
def k4m5 : Method := { name := "ascii", desc := "()Z", sig := { parameters := [], returnType := some .boolean }, accessFlags := 17, code := some k4c5 }
/-- com/example/termweave/termweave/release/RrfRow -/
def k4 : Class := { plain "com/example/termweave/termweave/release/RrfRow" (some 0) with
  accessFlags := 1057
  interfaces := #[]
  cf := some (fileOf pool4 8 #[] #[{ accessFlags := 0, nameIndex := 5, descriptorIndex := 64, attributes := #[] }, { accessFlags := 17, nameIndex := 15, descriptorIndex := 67, attributes := #[] }, { accessFlags := 17, nameIndex := 23, descriptorIndex := 39, attributes := #[] }, { accessFlags := 17, nameIndex := 11, descriptorIndex := 39, attributes := #[] }, { accessFlags := 16, nameIndex := 71, descriptorIndex := 72, attributes := #[] }, { accessFlags := 17, nameIndex := 26, descriptorIndex := 73, attributes := #[] }] 1057 2 #[] #[{ accessFlags := 25, nameIndex := 60, descriptorIndex := 61, attributes := #[] }, { accessFlags := 0, nameIndex := 15, descriptorIndex := 16, attributes := #[] }, { accessFlags := 0, nameIndex := 23, descriptorIndex := 12, attributes := #[] }, { accessFlags := 0, nameIndex := 11, descriptorIndex := 12, attributes := #[] }, { accessFlags := 16, nameIndex := 19, descriptorIndex := 20, attributes := #[] }, { accessFlags := 0, nameIndex := 26, descriptorIndex := 27, attributes := #[] }])
  fields := #[{ name := "BYTE_ORDER", type := (.object "java/util/Comparator"), accessFlags := 25, slot := 0, constantValue := 0 }, { name := "bytes", type := (.array .byte), accessFlags := 0, slot := 0, constantValue := 0 }, { name := "rowStart", type := .int, accessFlags := 0, slot := 1, constantValue := 0 }, { name := "rowEnd", type := .int, accessFlags := 0, slot := 2, constantValue := 0 }, { name := "fieldEnds", type := (.array .int), accessFlags := 16, slot := 3, constantValue := 0 }, { name := "ascii", type := .boolean, accessFlags := 0, slot := 4, constantValue := 0 }]
  methods := #[k4m0, k4m1, k4m2, k4m3, k4m4, k4m5]
  instanceTypes := #[(.array .byte), .int, .int, (.array .int), .boolean]
  staticTypes := #[(.object "java/util/Comparator")]
  resolved := Array.replicate 100 none
  statics := none }

def pool5 : Array CpInfo := pool [(1, .methodref 2 3), (0, .class_ 4), (0, .nameAndType 5 6), (0, u "com/example/termweave/termweave/release/RrfRow"), (0, u "<init>"), (0, u "([BI)V"), (0, .class_ 8), (0, u "com/example/termweave/termweave/release/HeldRows$View"), (0, u "(I)V"), (5, .class_ 16), (0, u "com/example/termweave/termweave/release/HeldRows")] 2

def k5c0 : Code := { maxStack := 3, maxLocals := 2, code := prog_32_method_1_code, exceptionTable := #[], attributes := #[] }
def k5m0 : Method := { name := "<init>", desc := "(I)V", sig := { parameters := [.int], returnType := none }, accessFlags := 0, code := some k5c0 }
/-- com/example/termweave/termweave/release/HeldRows$View -/
def k5 : Class := { plain "com/example/termweave/termweave/release/HeldRows$View" (some 4) with
  accessFlags := 48
  interfaces := #[]
  cf := some (fileOf pool5 7 #[.nestHost 15] #[{ accessFlags := 0, nameIndex := 5, descriptorIndex := 9, attributes := #[] }] 48 2 #[] #[])
  fields := #[]
  methods := #[k5m0]
  instanceTypes := #[(.array .byte), .int, .int, (.array .int), .boolean]
  staticTypes := #[]
  resolved := Array.replicate 19 none
  statics := none }

def pool6 : Array CpInfo := pool [(2, .class_ 4), (1, u "java/lang/Object"), (0, u "<init>"), (0, u "()V"), (1, .class_ 10), (1, u "java/lang/System"), (0, u "allowSecurityManager"), (0, u "I"), (16, u "cons"), (0, u "Ljava/io/Console;"), (77, .class_ 110), (1, u "java/lang/System$CallersHolder"), (43, u "initialErrStream"), (0, u "Ljava/io/PrintStream;"), (19, u "security"), (0, u "Ljava/lang/SecurityManager;"), (31, .class_ 209), (0, u "java/lang/System$1"), (7, u "props"), (0, u "Ljava/util/Properties;"), (2, u "lineSeparator"), (0, u "Ljava/lang/String;"), (96, .class_ 321), (1, u "java/lang/System$LoggerFinder"), (5, .class_ 328), (0, u "java/lang/System$Logger"), (67, u "err"), (2, u "out"), (91, u "notSupportedJnuEncoding"), (15, u "in"), (17, u "initialIn"), (0, u "Ljava/io/InputStream;"), (35, u "bootLayer"), (0, u "Ljava/lang/ModuleLayer;"), (99, .class_ 664), (0, u "java/lang/System$2"), (9, u "NEVER"), (2, u "MAYBE"), (49, u "arraycopy"), (0, u "(Ljava/lang/Object;ILjava/lang/Object;II)V"), (72, .class_ 802), (0, u "java/lang/System$Logger$Level")] 31

def k6m0 : Method := { name := "<init>", desc := "()V", sig := { parameters := [], returnType := none }, accessFlags := 2, code := none }
def k6m1 : Method := { name := "arraycopy", desc := "(Ljava/lang/Object;ILjava/lang/Object;II)V", sig := { parameters := [(.object "java/lang/Object"), .int, (.object "java/lang/Object"), .int, .int], returnType := none }, accessFlags := 265, code := none }
/-- java/lang/System -/
def k6 : Class := { plain "java/lang/System" (some 0) with
  accessFlags := 49
  interfaces := #[]
  cf := some (fileOf pool6 8 #[.nestMembers #[319, 327, 801, 108, 663, 208]] #[{ accessFlags := 2, nameIndex := 5, descriptorIndex := 6, attributes := #[] }, { accessFlags := 265, nameIndex := 727, descriptorIndex := 728, attributes := #[] }] 49 2 #[] #[{ accessFlags := 25, nameIndex := 507, descriptorIndex := 526, attributes := #[] }, { accessFlags := 25, nameIndex := 399, descriptorIndex := 155, attributes := #[] }, { accessFlags := 25, nameIndex := 396, descriptorIndex := 155, attributes := #[] }, { accessFlags := 10, nameIndex := 525, descriptorIndex := 526, attributes := #[] }, { accessFlags := 26, nameIndex := 674, descriptorIndex := 12, attributes := #[] }, { accessFlags := 26, nameIndex := 677, descriptorIndex := 12, attributes := #[] }, { accessFlags := 10, nameIndex := 11, descriptorIndex := 12, attributes := #[] }, { accessFlags := 74, nameIndex := 175, descriptorIndex := 176, attributes := #[] }, { accessFlags := 10, nameIndex := 491, descriptorIndex := 222, attributes := #[] }, { accessFlags := 74, nameIndex := 29, descriptorIndex := 30, attributes := #[] }, { accessFlags := 74, nameIndex := 154, descriptorIndex := 155, attributes := #[] }, { accessFlags := 10, nameIndex := 217, descriptorIndex := 218, attributes := #[] }, { accessFlags := 10, nameIndex := 221, descriptorIndex := 222, attributes := #[] }, { accessFlags := 8, nameIndex := 562, descriptorIndex := 563, attributes := #[] }])
  fields := #[{ name := "in", type := (.object "java/io/InputStream"), accessFlags := 25, slot := 0, constantValue := 0 }, { name := "out", type := (.object "java/io/PrintStream"), accessFlags := 25, slot := 1, constantValue := 0 }, { name := "err", type := (.object "java/io/PrintStream"), accessFlags := 25, slot := 2, constantValue := 0 }, { name := "initialIn", type := (.object "java/io/InputStream"), accessFlags := 10, slot := 3, constantValue := 0 }, { name := "NEVER", type := .int, accessFlags := 26, slot := 4, constantValue := 0 }, { name := "MAYBE", type := .int, accessFlags := 26, slot := 5, constantValue := 0 }, { name := "allowSecurityManager", type := .int, accessFlags := 10, slot := 6, constantValue := 0 }, { name := "security", type := (.object "java/lang/SecurityManager"), accessFlags := 74, slot := 7, constantValue := 0 }, { name := "notSupportedJnuEncoding", type := (.object "java/lang/String"), accessFlags := 10, slot := 8, constantValue := 0 }, { name := "cons", type := (.object "java/io/Console"), accessFlags := 74, slot := 9, constantValue := 0 }, { name := "initialErrStream", type := (.object "java/io/PrintStream"), accessFlags := 74, slot := 10, constantValue := 0 }, { name := "props", type := (.object "java/util/Properties"), accessFlags := 10, slot := 11, constantValue := 0 }, { name := "lineSeparator", type := (.object "java/lang/String"), accessFlags := 10, slot := 12, constantValue := 0 }, { name := "bootLayer", type := (.object "java/lang/ModuleLayer"), accessFlags := 8, slot := 13, constantValue := 0 }]
  methods := #[k6m0, k6m1]
  instanceTypes := #[]
  staticTypes := #[(.object "java/io/InputStream"), (.object "java/io/PrintStream"), (.object "java/io/PrintStream"), (.object "java/io/InputStream"), .int, .int, .int, (.object "java/lang/SecurityManager"), (.object "java/lang/String"), (.object "java/io/Console"), (.object "java/io/PrintStream"), (.object "java/util/Properties"), (.object "java/lang/String"), (.object "java/lang/ModuleLayer")]
  resolved := Array.replicate 834 none
  statics := none }

def pool7 : Array CpInfo := pool [(1, u "java/lang/Cloneable"), (0, .class_ 1), (0, u "java/lang/Object"), (0, .class_ 3)] 3

/-- java/lang/Cloneable -/
def k7 : Class := { plain "java/lang/Cloneable" (some 0) with
  accessFlags := 1537
  interfaces := #[]
  cf := some (fileOf pool7 2 #[] #[] 1537 4 #[] #[])
  fields := #[]
  methods := #[]
  instanceTypes := #[]
  staticTypes := #[]
  resolved := Array.replicate 8 none
  statics := none }

def pool8 : Array CpInfo := pool [(1, u "java/io/Serializable"), (0, .class_ 1), (0, u "java/lang/Object"), (0, .class_ 3)] 3

/-- java/io/Serializable -/
def k8 : Class := { plain "java/io/Serializable" (some 0) with
  accessFlags := 1537
  interfaces := #[]
  cf := some (fileOf pool8 2 #[] #[] 1537 4 #[] #[])
  fields := #[]
  methods := #[]
  instanceTypes := #[]
  staticTypes := #[]
  resolved := Array.replicate 8 none
  statics := none }

/-- the primitive boolean -/
def k9 : Class := { plain "boolean" none with kind := .primitive 'Z', accessFlags := 0x411 }
/-- [Z -/
def k10 : Class := { plain "[Z" (some 0) with kind := .array 9 .boolean, interfaces := #[7, 8], accessFlags := 1041 }

/-- the primitive byte -/
def k11 : Class := { plain "byte" none with kind := .primitive 'B', accessFlags := 0x411 }
/-- [B -/
def k12 : Class := { plain "[B" (some 0) with kind := .array 11 .byte, interfaces := #[7, 8], accessFlags := 1041 }

/-- the primitive int -/
def k13 : Class := { plain "int" none with kind := .primitive 'I', accessFlags := 0x411 }
/-- [I -/
def k14 : Class := { plain "[I" (some 0) with kind := .array 13 .int, interfaces := #[7, 8], accessFlags := 1041 }

/-- the primitive long -/
def k15 : Class := { plain "long" none with kind := .primitive 'J', accessFlags := 0x411 }
/-- [J -/
def k16 : Class := { plain "[J" (some 0) with kind := .array 15 .long, interfaces := #[7, 8], accessFlags := 1041 }

def heap : Heap := #[]
def classes : Array Class := #[k0, k1, k2, k3, k4, k5, k6, k7, k8, k9, k10, k11, k12, k13, k14, k15, k16]
def interned : List (Array UInt16 × Addr) := []
def slotsUsed : Nat := 0
def theMethod : MethodId := ⟨1, 1⟩
def args0 : Array Value := #[.int 3, .int 7, .int 1, .int 9, .int 20]
def aboutOver (below : List Frame) : State where
  vm := { classes := classes, interned := interned.toArray }
  heap := heap
  slotsUsed := slotsUsed
  threads := #[{ frames := .invoking theMethod args0 :: below }]
def below0 : List Frame := [.native { method := ⟨0, 0⟩, args := #[] }]
def about1 : State := aboutOver below0
def p0 : Program := .bare "" "" ""
def e0 : Env := launch0.env 0 0 0
theorem w_frames : about1.frames = Frame.invoking theMethod args0 :: below0 := rfl
set_option maxRecDepth 65536 in
theorem w_args : argsFit about1.vm theMethod args0 = true := by decide +kernel
set_option maxRecDepth 65536 in
theorem w_heap : heapFits about1 = true := by decide +kernel
set_option maxRecDepth 65536 in
theorem w_runnable : about1.curStatus? = some .runnable := by decide +kernel
set_option maxRecDepth 65536 in
theorem w_alone : about1.alone = true := by decide +kernel
set_option maxRecDepth 65536 in
theorem w_named : about1.methodNamed? x = some theMethod := by decide +kernel
set_option maxRecDepth 65536 in
theorem w_hears : about1.hears theMethod below0 = true := by decide +kernel
set_option maxRecDepth 65536 in
theorem w_ripe : about1.ripe theMethod args0 below0 = true := by decide +kernel
theorem w_running : about1.status = .running := rfl
set_option maxRecDepth 65536 in
theorem w_room : about1.hasRoom e0.platform room_1 = true :=
  launch0.hasRoom_least _ room_1 (by decide +kernel) (by decide +kernel) (by decide +kernel) (by decide +kernel) (by decide +kernel) (by decide +kernel)
theorem allAtoms_all (ts : List Jvm.Cond) (a : Array Jvm.Value) (st : Jvm.State) : (allAtoms ts).before a st = ts.all (fun c => c.before a st) := by
  induction ts with
  | nil => rfl
  | cons c t ih =>
    show (Jvm.Cond.and c (allAtoms t)).before a st = _
    rw [Jvm.Cond.before_and, ih, List.all_cons]
def words1 : List Jvm.Cond := Jvm.Cond.code x code maxLocals ret :: tables_1
/-- a 'code' word, met by the world's own term for the bytes: nothing is compared byte by byte -/
theorem code_word {y : MethodName} {bytes : ByteArray} {mx : Nat} {rt : Option FieldType} {a : Array Value} {s : State} {m : MethodId} {meth : Method} {c : Code} (h1 : s.methodNamed? y = some m) (h2 : s.vm.method? m = some meth) (h3 : meth.code = some c) (h4 : c.code = bytes)
    (h5 : (c.maxLocals == mx && c.exceptionTable.isEmpty && decide (c.maxStack ≤ mostOperands) && decide (meth.sig.returnType = rt) && !meth.locks && decide (parseMethodDescriptor y.desc = some meth.sig)) = true) : (Jvm.Cond.code y bytes mx rt).before a s = true := by
  simp only [Bool.and_eq_true, beq_iff_eq, Bool.not_eq_true', decide_eq_true_eq] at h5
  obtain ⟨⟨⟨⟨⟨g1, g2⟩, g3⟩, g4⟩, g5⟩, g6⟩ := h5
  simp [Cond.before, Cond.holds, Cond.value, h1, h2, h3, h4, g1, g2, g3, g4, g5, g6]
def isCode : Jvm.Cond → Bool
  | .code _ _ _ _ => true
  | _ => false
theorem all_split {L : List Jvm.Cond} {P : Jvm.Cond → Bool} (h1 : L.all (fun c => isCode c || P c) = true) (h2 : ∀ c ∈ L.filter isCode, P c = true) : L.all P = true := by
  refine List.all_eq_true.mpr fun c hc => ?_
  have h := List.all_eq_true.mp h1 c hc
  rcases Bool.eq_false_or_eq_true (isCode c) with hi | hi
  · exact h2 c (List.mem_filter.mpr ⟨hc, hi⟩)
  · simpa [hi] using h
set_option maxRecDepth 65536 in
theorem w_c0 : (Jvm.Cond.code x code maxLocals ret).before args0 about1 = true := code_word (m := ⟨1, 1⟩) (meth := k1m1) (c := k1c1) (by decide +kernel) rfl rfl rfl (by decide +kernel)
set_option maxRecDepth 65536 in
theorem w_c1 : (Jvm.Cond.code ({ cls := "com/example/termweave/termweave/release/HeldRows", name := "<init>", desc := "(I)V" } : Jvm.MethodName) prog_30_method_1_code (2 : Nat) (Option.none : Option Jvm.ClassFile.FieldType)).before args0 about1 = true := code_word (m := ⟨2, 0⟩) (meth := k2m0) (c := k2c0) (by decide +kernel) rfl rfl rfl (by decide +kernel)
set_option maxRecDepth 65536 in
theorem w_c2 : (Jvm.Cond.code ({ cls := "java/lang/Object", name := "<init>", desc := "()V" } : Jvm.MethodName) object_method_1_code (1 : Nat) (Option.none : Option Jvm.ClassFile.FieldType)).before args0 about1 = true := code_word (m := ⟨0, 0⟩) (meth := k0m0) (c := k0c0) (by decide +kernel) rfl rfl rfl (by decide +kernel)
set_option maxRecDepth 65536 in
theorem w_c3 : (Jvm.Cond.code ({ cls := "com/example/termweave/termweave/release/HeldRows$Sort", name := "<init>", desc := "(Lcom/example/termweave/termweave/release/HeldRows;)V" } : Jvm.MethodName) prog_31_method_1_code (2 : Nat) (Option.none : Option Jvm.ClassFile.FieldType)).before args0 about1 = true := code_word (m := ⟨3, 0⟩) (meth := k3m0) (c := k3c0) (by decide +kernel) rfl rfl rfl (by decide +kernel)
set_option maxRecDepth 65536 in
theorem w_c4 : (Jvm.Cond.code ({ cls := "com/example/termweave/termweave/release/HeldRows$View", name := "<init>", desc := "(I)V" } : Jvm.MethodName) prog_32_method_1_code (2 : Nat) (Option.none : Option Jvm.ClassFile.FieldType)).before args0 about1 = true := code_word (m := ⟨5, 0⟩) (meth := k5m0) (c := k5c0) (by decide +kernel) rfl rfl rfl (by decide +kernel)
set_option maxRecDepth 65536 in
theorem w_c5 : (Jvm.Cond.code ({ cls := "com/example/termweave/termweave/release/RrfRow", name := "<init>", desc := "([BI)V" } : Jvm.MethodName) prog_47_method_1_code (3 : Nat) (Option.none : Option Jvm.ClassFile.FieldType)).before args0 about1 = true := code_word (m := ⟨4, 0⟩) (meth := k4m0) (c := k4c0) (by decide +kernel) rfl rfl rfl (by decide +kernel)
set_option maxRecDepth 65536 in
theorem w_c6 : (Jvm.Cond.code ({ cls := "com/example/termweave/termweave/release/HeldRows", name := "row", desc := "(I)Lcom/example/termweave/termweave/release/RrfRow;" } : Jvm.MethodName) prog_30_method_6_code (2 : Nat) (Option.some (Jvm.ClassFile.FieldType.object "com/example/termweave/termweave/release/RrfRow"))).before args0 about1 = true := code_word (m := ⟨2, 3⟩) (meth := k2m3) (c := k2c3) (by decide +kernel) rfl rfl rfl (by decide +kernel)
set_option maxRecDepth 65536 in
theorem w_c7 : (Jvm.Cond.code ({ cls := "com/example/termweave/termweave/release/HeldRows", name := "lineFeed", desc := "(I)I" } : Jvm.MethodName) prog_30_method_15_code (2 : Nat) (Option.some Jvm.ClassFile.FieldType.int)).before args0 about1 = true := code_word (m := ⟨2, 5⟩) (meth := k2m5) (c := k2c5) (by decide +kernel) rfl rfl rfl (by decide +kernel)
set_option maxRecDepth 65536 in
theorem w_c8 : (Jvm.Cond.code ({ cls := "com/example/termweave/termweave/release/HeldRowsFieldStartPinLaw", name := "addRow", desc := "(Lcom/example/termweave/termweave/release/HeldRows;Lcom/example/termweave/termweave/release/RrfRow;[BIII)I" } : Jvm.MethodName) method_4_code (7 : Nat) (Option.some Jvm.ClassFile.FieldType.int)).before args0 about1 = true := code_word (m := ⟨1, 3⟩) (meth := k1m3) (c := k1c3) (by decide +kernel) rfl rfl rfl (by decide +kernel)
set_option maxRecDepth 65536 in
theorem w_c9 : (Jvm.Cond.code ({ cls := "com/example/termweave/termweave/release/HeldRowsFieldStartPinLaw", name := "end", desc := "(II)I" } : Jvm.MethodName) method_3_code (10 : Nat) (Option.some Jvm.ClassFile.FieldType.int)).before args0 about1 = true := code_word (m := ⟨1, 2⟩) (meth := k1m2) (c := k1c2) (by decide +kernel) rfl rfl rfl (by decide +kernel)
set_option maxRecDepth 65536 in
theorem w_c10 : (Jvm.Cond.code ({ cls := "com/example/termweave/termweave/release/HeldRows", name := "add", desc := "(Lcom/example/termweave/termweave/release/RrfRow;)V" } : Jvm.MethodName) prog_30_method_2_code (3 : Nat) (Option.none : Option Jvm.ClassFile.FieldType)).before args0 about1 = true := code_word (m := ⟨2, 1⟩) (meth := k2m1) (c := k2c1) (by decide +kernel) rfl rfl rfl (by decide +kernel)
set_option maxRecDepth 65536 in
theorem w_c11 : (Jvm.Cond.code ({ cls := "com/example/termweave/termweave/release/RrfRow", name := "rowEnd", desc := "()I" } : Jvm.MethodName) prog_47_method_4_code (1 : Nat) (Option.some Jvm.ClassFile.FieldType.int)).before args0 about1 = true := code_word (m := ⟨4, 3⟩) (meth := k4m3) (c := k4c3) (by decide +kernel) rfl rfl rfl (by decide +kernel)
set_option maxRecDepth 65536 in
theorem w_c12 : (Jvm.Cond.code ({ cls := "com/example/termweave/termweave/release/RrfRow", name := "rowStart", desc := "()I" } : Jvm.MethodName) prog_47_method_3_code (1 : Nat) (Option.some Jvm.ClassFile.FieldType.int)).before args0 about1 = true := code_word (m := ⟨4, 2⟩) (meth := k4m2) (c := k4c2) (by decide +kernel) rfl rfl rfl (by decide +kernel)
set_option maxRecDepth 65536 in
theorem w_c13 : (Jvm.Cond.code ({ cls := "com/example/termweave/termweave/release/RrfRow", name := "bytes", desc := "()[B" } : Jvm.MethodName) prog_47_method_2_code (1 : Nat) (Option.some (Jvm.ClassFile.FieldType.array Jvm.ClassFile.FieldType.byte))).before args0 about1 = true := code_word (m := ⟨4, 1⟩) (meth := k4m1) (c := k4c1) (by decide +kernel) rfl rfl rfl (by decide +kernel)
set_option maxRecDepth 65536 in
theorem w_c14 : (Jvm.Cond.code ({ cls := "com/example/termweave/termweave/release/RrfRow", name := "fieldEndOffsets", desc := "()[I" } : Jvm.MethodName) prog_47_method_7_code (1 : Nat) (Option.some (Jvm.ClassFile.FieldType.array Jvm.ClassFile.FieldType.int))).before args0 about1 = true := code_word (m := ⟨4, 4⟩) (meth := k4m4) (c := k4c4) (by decide +kernel) rfl rfl rfl (by decide +kernel)
set_option maxRecDepth 65536 in
theorem w_c15 : (Jvm.Cond.code ({ cls := "com/example/termweave/termweave/release/RrfRow", name := "ascii", desc := "()Z" } : Jvm.MethodName) prog_47_method_8_code (1 : Nat) (Option.some Jvm.ClassFile.FieldType.boolean)).before args0 about1 = true := code_word (m := ⟨4, 5⟩) (meth := k4m5) (c := k4c5) (by decide +kernel) rfl rfl rfl (by decide +kernel)
set_option maxRecDepth 65536 in
theorem w_c16 : (Jvm.Cond.code ({ cls := "com/example/termweave/termweave/release/HeldRows", name := "fieldStart", desc := "(II)I" } : Jvm.MethodName) prog_30_method_13_code (3 : Nat) (Option.some Jvm.ClassFile.FieldType.int)).before args0 about1 = true := code_word (m := ⟨2, 4⟩) (meth := k2m4) (c := k2c4) (by decide +kernel) rfl rfl rfl (by decide +kernel)
set_option maxRecDepth 65536 in
theorem w_c17 : (Jvm.Cond.code ({ cls := "com/example/termweave/termweave/release/HeldRows", name := "clear", desc := "()V" } : Jvm.MethodName) prog_30_method_5_code (1 : Nat) (Option.none : Option Jvm.ClassFile.FieldType)).before args0 about1 = true := code_word (m := ⟨2, 2⟩) (meth := k2m2) (c := k2c2) (by decide +kernel) rfl rfl rfl (by decide +kernel)
def codes1 : List Jvm.Cond := [Jvm.Cond.code x code maxLocals ret, Jvm.Cond.code ({ cls := "com/example/termweave/termweave/release/HeldRows", name := "<init>", desc := "(I)V" } : Jvm.MethodName) prog_30_method_1_code (2 : Nat) (Option.none : Option Jvm.ClassFile.FieldType), Jvm.Cond.code ({ cls := "java/lang/Object", name := "<init>", desc := "()V" } : Jvm.MethodName) object_method_1_code (1 : Nat) (Option.none : Option Jvm.ClassFile.FieldType), Jvm.Cond.code ({ cls := "com/example/termweave/termweave/release/HeldRows$Sort", name := "<init>", desc := "(Lcom/example/termweave/termweave/release/HeldRows;)V" } : Jvm.MethodName) prog_31_method_1_code (2 : Nat) (Option.none : Option Jvm.ClassFile.FieldType), Jvm.Cond.code ({ cls := "com/example/termweave/termweave/release/HeldRows$View", name := "<init>", desc := "(I)V" } : Jvm.MethodName) prog_32_method_1_code (2 : Nat) (Option.none : Option Jvm.ClassFile.FieldType), Jvm.Cond.code ({ cls := "com/example/termweave/termweave/release/RrfRow", name := "<init>", desc := "([BI)V" } : Jvm.MethodName) prog_47_method_1_code (3 : Nat) (Option.none : Option Jvm.ClassFile.FieldType), Jvm.Cond.code ({ cls := "com/example/termweave/termweave/release/HeldRows", name := "row", desc := "(I)Lcom/example/termweave/termweave/release/RrfRow;" } : Jvm.MethodName) prog_30_method_6_code (2 : Nat) (Option.some (Jvm.ClassFile.FieldType.object "com/example/termweave/termweave/release/RrfRow")), Jvm.Cond.code ({ cls := "com/example/termweave/termweave/release/HeldRows", name := "lineFeed", desc := "(I)I" } : Jvm.MethodName) prog_30_method_15_code (2 : Nat) (Option.some Jvm.ClassFile.FieldType.int), Jvm.Cond.code ({ cls := "com/example/termweave/termweave/release/HeldRowsFieldStartPinLaw", name := "addRow", desc := "(Lcom/example/termweave/termweave/release/HeldRows;Lcom/example/termweave/termweave/release/RrfRow;[BIII)I" } : Jvm.MethodName) method_4_code (7 : Nat) (Option.some Jvm.ClassFile.FieldType.int), Jvm.Cond.code ({ cls := "com/example/termweave/termweave/release/HeldRowsFieldStartPinLaw", name := "end", desc := "(II)I" } : Jvm.MethodName) method_3_code (10 : Nat) (Option.some Jvm.ClassFile.FieldType.int), Jvm.Cond.code ({ cls := "com/example/termweave/termweave/release/HeldRows", name := "add", desc := "(Lcom/example/termweave/termweave/release/RrfRow;)V" } : Jvm.MethodName) prog_30_method_2_code (3 : Nat) (Option.none : Option Jvm.ClassFile.FieldType), Jvm.Cond.code ({ cls := "com/example/termweave/termweave/release/RrfRow", name := "rowEnd", desc := "()I" } : Jvm.MethodName) prog_47_method_4_code (1 : Nat) (Option.some Jvm.ClassFile.FieldType.int), Jvm.Cond.code ({ cls := "com/example/termweave/termweave/release/RrfRow", name := "rowStart", desc := "()I" } : Jvm.MethodName) prog_47_method_3_code (1 : Nat) (Option.some Jvm.ClassFile.FieldType.int), Jvm.Cond.code ({ cls := "com/example/termweave/termweave/release/RrfRow", name := "bytes", desc := "()[B" } : Jvm.MethodName) prog_47_method_2_code (1 : Nat) (Option.some (Jvm.ClassFile.FieldType.array Jvm.ClassFile.FieldType.byte)), Jvm.Cond.code ({ cls := "com/example/termweave/termweave/release/RrfRow", name := "fieldEndOffsets", desc := "()[I" } : Jvm.MethodName) prog_47_method_7_code (1 : Nat) (Option.some (Jvm.ClassFile.FieldType.array Jvm.ClassFile.FieldType.int)), Jvm.Cond.code ({ cls := "com/example/termweave/termweave/release/RrfRow", name := "ascii", desc := "()Z" } : Jvm.MethodName) prog_47_method_8_code (1 : Nat) (Option.some Jvm.ClassFile.FieldType.boolean), Jvm.Cond.code ({ cls := "com/example/termweave/termweave/release/HeldRows", name := "fieldStart", desc := "(II)I" } : Jvm.MethodName) prog_30_method_13_code (3 : Nat) (Option.some Jvm.ClassFile.FieldType.int), Jvm.Cond.code ({ cls := "com/example/termweave/termweave/release/HeldRows", name := "clear", desc := "()V" } : Jvm.MethodName) prog_30_method_5_code (1 : Nat) (Option.none : Option Jvm.ClassFile.FieldType)]
set_option maxRecDepth 65536 in
theorem codes_eq : words1.filter isCode = codes1 := rfl
theorem w_codes : ∀ c ∈ words1.filter isCode, c.before args0 about1 = true := by
  rw [codes_eq]
  intro c hc
  simp only [codes1, List.mem_cons, List.not_mem_nil, or_false] at hc
  rcases hc with rfl | rfl | rfl | rfl | rfl | rfl | rfl | rfl | rfl | rfl | rfl | rfl | rfl | rfl | rfl | rfl | rfl | rfl
  · exact w_c0
  · exact w_c1
  · exact w_c2
  · exact w_c3
  · exact w_c4
  · exact w_c5
  · exact w_c6
  · exact w_c7
  · exact w_c8
  · exact w_c9
  · exact w_c10
  · exact w_c11
  · exact w_c12
  · exact w_c13
  · exact w_c14
  · exact w_c15
  · exact w_c16
  · exact w_c17
set_option maxRecDepth 65536 in
theorem w_t1 : (words1.take 24).all (fun c => isCode c || c.before args0 about1) = true := by decide +kernel
set_option maxRecDepth 65536 in
theorem w_t2 : ((words1.drop 24).take 24).all (fun c => isCode c || c.before args0 about1) = true := by decide +kernel
set_option maxRecDepth 65536 in
theorem w_t3 : (((words1.drop 24).drop 24).take 24).all (fun c => isCode c || c.before args0 about1) = true := by decide +kernel
set_option maxRecDepth 65536 in
theorem w_t4 : ((((words1.drop 24).drop 24).drop 24).take 24).all (fun c => isCode c || c.before args0 about1) = true := by decide +kernel
set_option maxRecDepth 65536 in
theorem w_t5 : (((((words1.drop 24).drop 24).drop 24).drop 24).take 24).all (fun c => isCode c || c.before args0 about1) = true := by decide +kernel
set_option maxRecDepth 65536 in
theorem w_t6 : ((((((words1.drop 24).drop 24).drop 24).drop 24).drop 24).take 24).all (fun c => isCode c || c.before args0 about1) = true := by decide +kernel
set_option maxRecDepth 65536 in
theorem w_t7 : ((((((words1.drop 24).drop 24).drop 24).drop 24).drop 24).drop 24).all (fun c => isCode c || c.before args0 about1) = true := by decide +kernel
theorem w_tables : (allAtoms (Jvm.Cond.code x code maxLocals ret :: tables_1)).before args0 about1 = true := by
  rw [allAtoms_all]
  show words1.all (fun c => c.before args0 about1) = true
  refine all_split ?_ w_codes
  rw [← List.take_append_drop 24 words1, List.all_append, w_t1, ← List.take_append_drop 24 (words1.drop 24), List.all_append, w_t2, ← List.take_append_drop 24 ((words1.drop 24).drop 24), List.all_append, w_t3, ← List.take_append_drop 24 (((words1.drop 24).drop 24).drop 24), List.all_append, w_t4, ← List.take_append_drop 24 ((((words1.drop 24).drop 24).drop 24).drop 24), List.all_append, w_t5, ← List.take_append_drop 24 (((((words1.drop 24).drop 24).drop 24).drop 24).drop 24), List.all_append, w_t6, w_t7]
  rfl
set_option maxRecDepth 65536 in
theorem w_case : (Jvm.Cond.and given_1 narrow_1).before args0 about1 = true := by decide +kernel
theorem w_applies : (headSpec (Jvm.Cond.code x code maxLocals ret :: tables_1) room_1).applies x e0.platform about1 = true :=
  (Spec.applies_iff w_frames).mpr ⟨w_running, w_runnable, w_alone, w_named, w_hears, w_ripe, w_room, w_tables⟩
theorem atStart : AtStart classFile x code maxLocals ret World_1 tables_1 room_1 Calls_1 rest_1 Pre_1 launch0 p0 e0 about1 theMethod args0 below0 :=
  ⟨lists_1, trivial, launch0.admits_env _ _ _, launch0.least_env, fairChoices_fair.cas, fairChoices_fair.clock, w_frames, w_args, w_heap, w_applies, trivial, trivial, w_case⟩
end start1
theorem witness_1 : WitnessClaimed_1 := ⟨start1.p0, start1.e0, start1.about1, start1.theMethod, start1.args0, start1.below0, start1.atStart⟩
end Jvm.Pilot.@@N@@
