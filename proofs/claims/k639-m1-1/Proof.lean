import JvmDerived
import JvmDerived.Pilot.@@N@@Statement
import JvmDerived.Pilot.@@N@@Code
set_option linter.unusedVariables false
set_option linter.unusedSimpArgs false
@@BLOCK:NumsL.lean.txt@@
@@BLOCK:Masks.lean.txt@@
namespace Jvm.Pilot.@@N@@
open Jvm Jvm.ClassFile Sem Op Lib Jvm.Free Jvm.Stand Jvm.LawKit Jvm.RoadKit Bundle Jvm.Pilot.@@N@@.Jvm.D
def Nq (a b : Addr) : Prop := a ≠ b
section Layer
variable {p : Program} {l : Launch} {e : Env} {R : Room} {s : State} {m : MethodId} {args : Array Value} {below : List Frame} {meth : Method} {c : Code} {T T' : State} {locs : List Loc} {cells slots : Nat} {Fe : Outcome → State → List Loc → Prop} {Q : Option Value → Heap → List Loc → Prop} {pc pc' : Nat} {Ls l' : Array Slot} {g g' : JFrame} {Z : State} {a0 : Array Value}
/-- from the frame g over T the run comes to a return of which Q and the frame's condition Fe hold -/
def Ok (p : Program) (e : Env) (below : List Frame) (Fe : Outcome → State → List Loc → Prop) (Q : Option Value → Heap → List Loc → Prop) (T : State) (g : JFrame) : Prop :=
  ∃ s₂ o, Steps p.tables e below (T.setTop g) s₂ ∧ s₂.status = .running ∧ Ended s₂ below o ∧ ∃ v L, o = .returned v ∧ Q v s₂.heap L ∧ Fe o s₂ L
def NE (s : State) (nc ns : Nat) (o : Outcome) (t : State) (L : List Loc) : Prop := FrameEnd s o t L nc ns
def WE (s : State) (nc ns : Nat) (o : Outcome) (t : State) (L : List Loc) : Prop := ReturnedEndW s o t L nc ns
theorem Ok.st (h : ∀ t, Steps p.tables e below (T'.setTop g') t → Steps p.tables e below (T.setTop g) t) (k : Ok p e below Fe Q T' g') : Ok p e below Fe Q T g := by
  obtain ⟨t, o, st, r⟩ := k
  exact ⟨t, o, h t st, r⟩
theorem Ok.tr (h : Steps p.tables e below (T.setTop g) (T'.setTop g')) (k : Ok p e below Fe Q T' g') : Ok p e below Fe Q T g := Ok.st (fun _ k' => h.trans k') k
theorem Ok.fr (h : g = g') (k : Ok p e below Fe Q T g') : Ok p e below Fe Q T g := h ▸ k
theorem Ok.iadd {x y : Int32} {rest : List Value} (X : Stand p l e R s m args below meth c T locs cells slots) (hx : p.tables.exec = Jvm.exec) (hd : decode c.code pc = .ok (.iadd, 1)) (hp : pc + 1 = pc')  (k : Ok p e below Fe Q T (mkF m pc' Ls (.int (x + y) :: rest))) : Ok p e below Fe Q T (mkF m pc Ls (.int y :: .int x :: rest)) := by
  subst hp
  exact Ok.st (fun t k => XS.iadd X.here hx rfl hd rfl k) k
theorem Ok.ladd {x y : Int64} {rest : List Value} (X : Stand p l e R s m args below meth c T locs cells slots) (hx : p.tables.exec = Jvm.exec) (hd : decode c.code pc = .ok (.ladd, 1)) (hp : pc + 1 = pc')  (k : Ok p e below Fe Q T (mkF m pc' Ls (.long (x + y) :: rest))) : Ok p e below Fe Q T (mkF m pc Ls (.long y :: .long x :: rest)) := by
  subst hp
  exact Ok.st (fun t k => XS.ladd X.here hx rfl hd rfl k) k
theorem Ok.isub {x y : Int32} {rest : List Value} (X : Stand p l e R s m args below meth c T locs cells slots) (hx : p.tables.exec = Jvm.exec) (hd : decode c.code pc = .ok (.isub, 1)) (hp : pc + 1 = pc')  (k : Ok p e below Fe Q T (mkF m pc' Ls (.int (x - y) :: rest))) : Ok p e below Fe Q T (mkF m pc Ls (.int y :: .int x :: rest)) := by
  subst hp
  exact Ok.st (fun t k => XS.isub X.here hx rfl hd rfl k) k
theorem Ok.lsub {x y : Int64} {rest : List Value} (X : Stand p l e R s m args below meth c T locs cells slots) (hx : p.tables.exec = Jvm.exec) (hd : decode c.code pc = .ok (.lsub, 1)) (hp : pc + 1 = pc')  (k : Ok p e below Fe Q T (mkF m pc' Ls (.long (x - y) :: rest))) : Ok p e below Fe Q T (mkF m pc Ls (.long y :: .long x :: rest)) := by
  subst hp
  exact Ok.st (fun t k => XS.lsub X.here hx rfl hd rfl k) k
theorem Ok.imul {x y : Int32} {rest : List Value} (X : Stand p l e R s m args below meth c T locs cells slots) (hx : p.tables.exec = Jvm.exec) (hd : decode c.code pc = .ok (.imul, 1)) (hp : pc + 1 = pc')  (k : Ok p e below Fe Q T (mkF m pc' Ls (.int (x * y) :: rest))) : Ok p e below Fe Q T (mkF m pc Ls (.int y :: .int x :: rest)) := by
  subst hp
  exact Ok.st (fun t k => XS.imul X.here hx rfl hd rfl k) k
theorem Ok.lmul {x y : Int64} {rest : List Value} (X : Stand p l e R s m args below meth c T locs cells slots) (hx : p.tables.exec = Jvm.exec) (hd : decode c.code pc = .ok (.lmul, 1)) (hp : pc + 1 = pc')  (k : Ok p e below Fe Q T (mkF m pc' Ls (.long (x * y) :: rest))) : Ok p e below Fe Q T (mkF m pc Ls (.long y :: .long x :: rest)) := by
  subst hp
  exact Ok.st (fun t k => XS.lmul X.here hx rfl hd rfl k) k
theorem Ok.iand {x y : Int32} {rest : List Value} (X : Stand p l e R s m args below meth c T locs cells slots) (hx : p.tables.exec = Jvm.exec) (hd : decode c.code pc = .ok (.iand, 1)) (hp : pc + 1 = pc')  (k : Ok p e below Fe Q T (mkF m pc' Ls (.int (x &&& y) :: rest))) : Ok p e below Fe Q T (mkF m pc Ls (.int y :: .int x :: rest)) := by
  subst hp
  exact Ok.st (fun t k => XS.iand X.here hx rfl hd rfl k) k
theorem Ok.land {x y : Int64} {rest : List Value} (X : Stand p l e R s m args below meth c T locs cells slots) (hx : p.tables.exec = Jvm.exec) (hd : decode c.code pc = .ok (.land, 1)) (hp : pc + 1 = pc')  (k : Ok p e below Fe Q T (mkF m pc' Ls (.long (x &&& y) :: rest))) : Ok p e below Fe Q T (mkF m pc Ls (.long y :: .long x :: rest)) := by
  subst hp
  exact Ok.st (fun t k => XS.land X.here hx rfl hd rfl k) k
theorem Ok.ior {x y : Int32} {rest : List Value} (X : Stand p l e R s m args below meth c T locs cells slots) (hx : p.tables.exec = Jvm.exec) (hd : decode c.code pc = .ok (.ior, 1)) (hp : pc + 1 = pc')  (k : Ok p e below Fe Q T (mkF m pc' Ls (.int (x ||| y) :: rest))) : Ok p e below Fe Q T (mkF m pc Ls (.int y :: .int x :: rest)) := by
  subst hp
  exact Ok.st (fun t k => XS.ior X.here hx rfl hd rfl k) k
theorem Ok.lor {x y : Int64} {rest : List Value} (X : Stand p l e R s m args below meth c T locs cells slots) (hx : p.tables.exec = Jvm.exec) (hd : decode c.code pc = .ok (.lor, 1)) (hp : pc + 1 = pc')  (k : Ok p e below Fe Q T (mkF m pc' Ls (.long (x ||| y) :: rest))) : Ok p e below Fe Q T (mkF m pc Ls (.long y :: .long x :: rest)) := by
  subst hp
  exact Ok.st (fun t k => XS.lor X.here hx rfl hd rfl k) k
theorem Ok.ixor {x y : Int32} {rest : List Value} (X : Stand p l e R s m args below meth c T locs cells slots) (hx : p.tables.exec = Jvm.exec) (hd : decode c.code pc = .ok (.ixor, 1)) (hp : pc + 1 = pc')  (k : Ok p e below Fe Q T (mkF m pc' Ls (.int (x ^^^ y) :: rest))) : Ok p e below Fe Q T (mkF m pc Ls (.int y :: .int x :: rest)) := by
  subst hp
  exact Ok.st (fun t k => XS.ixor X.here hx rfl hd rfl k) k
theorem Ok.lxor {x y : Int64} {rest : List Value} (X : Stand p l e R s m args below meth c T locs cells slots) (hx : p.tables.exec = Jvm.exec) (hd : decode c.code pc = .ok (.lxor, 1)) (hp : pc + 1 = pc')  (k : Ok p e below Fe Q T (mkF m pc' Ls (.long (x ^^^ y) :: rest))) : Ok p e below Fe Q T (mkF m pc Ls (.long y :: .long x :: rest)) := by
  subst hp
  exact Ok.st (fun t k => XS.lxor X.here hx rfl hd rfl k) k
theorem Ok.idiv {x y : Int32} {rest : List Value} (X : Stand p l e R s m args below meth c T locs cells slots) (hx : p.tables.exec = Jvm.exec) (hd : decode c.code pc = .ok (.idiv, 1)) (hp : pc + 1 = pc') (hy : y ≠ 0) (k : Ok p e below Fe Q T (mkF m pc' Ls (.int (x / y) :: rest))) : Ok p e below Fe Q T (mkF m pc Ls (.int y :: .int x :: rest)) := by
  subst hp
  exact Ok.st (fun t k => XS.idiv X.here hx rfl hd rfl hy k) k
theorem Ok.ldiv {x y : Int64} {rest : List Value} (X : Stand p l e R s m args below meth c T locs cells slots) (hx : p.tables.exec = Jvm.exec) (hd : decode c.code pc = .ok (.ldiv, 1)) (hp : pc + 1 = pc') (hy : y ≠ 0) (k : Ok p e below Fe Q T (mkF m pc' Ls (.long (x / y) :: rest))) : Ok p e below Fe Q T (mkF m pc Ls (.long y :: .long x :: rest)) := by
  subst hp
  exact Ok.st (fun t k => XS.ldiv X.here hx rfl hd rfl hy k) k
theorem Ok.irem {x y : Int32} {rest : List Value} (X : Stand p l e R s m args below meth c T locs cells slots) (hx : p.tables.exec = Jvm.exec) (hd : decode c.code pc = .ok (.irem, 1)) (hp : pc + 1 = pc') (hy : y ≠ 0) (k : Ok p e below Fe Q T (mkF m pc' Ls (.int (x % y) :: rest))) : Ok p e below Fe Q T (mkF m pc Ls (.int y :: .int x :: rest)) := by
  subst hp
  exact Ok.st (fun t k => iremM X hx rfl hd rfl hy k) k
theorem Ok.lrem {x y : Int64} {rest : List Value} (X : Stand p l e R s m args below meth c T locs cells slots) (hx : p.tables.exec = Jvm.exec) (hd : decode c.code pc = .ok (.lrem, 1)) (hp : pc + 1 = pc') (hy : y ≠ 0) (k : Ok p e below Fe Q T (mkF m pc' Ls (.long (x - (x / y) * y) :: rest))) : Ok p e below Fe Q T (mkF m pc Ls (.long y :: .long x :: rest)) := by
  subst hp
  exact Ok.st (fun t k => XS.lrem X.here hx rfl hd rfl hy k) k
theorem Ok.ishl {x y : Int32} {rest : List Value} (X : Stand p l e R s m args below meth c T locs cells slots) (hx : p.tables.exec = Jvm.exec) (hd : decode c.code pc = .ok (.ishl, 1)) (hp : pc + 1 = pc')  (k : Ok p e below Fe Q T (mkF m pc' Ls (.int (x <<< (y &&& 31)) :: rest))) : Ok p e below Fe Q T (mkF m pc Ls (.int y :: .int x :: rest)) := by
  subst hp
  exact Ok.st (fun t k => XS.ishl X.here hx rfl hd rfl k) k
theorem Ok.ishr {x y : Int32} {rest : List Value} (X : Stand p l e R s m args below meth c T locs cells slots) (hx : p.tables.exec = Jvm.exec) (hd : decode c.code pc = .ok (.ishr, 1)) (hp : pc + 1 = pc')  (k : Ok p e below Fe Q T (mkF m pc' Ls (.int (x >>> (y &&& 31)) :: rest))) : Ok p e below Fe Q T (mkF m pc Ls (.int y :: .int x :: rest)) := by
  subst hp
  exact Ok.st (fun t k => XS.ishr X.here hx rfl hd rfl k) k
theorem Ok.iushr {x y : Int32} {rest : List Value} (X : Stand p l e R s m args below meth c T locs cells slots) (hx : p.tables.exec = Jvm.exec) (hd : decode c.code pc = .ok (.iushr, 1)) (hp : pc + 1 = pc')  (k : Ok p e below Fe Q T (mkF m pc' Ls (.int ((x.toUInt32 >>> (y &&& 31).toUInt32).toInt32) :: rest))) : Ok p e below Fe Q T (mkF m pc Ls (.int y :: .int x :: rest)) := by
  subst hp
  exact Ok.st (fun t k => XS.iushr X.here hx rfl hd rfl k) k
theorem Ok.lshl {x : Int64} {y : Int32} {rest : List Value} (X : Stand p l e R s m args below meth c T locs cells slots) (hx : p.tables.exec = Jvm.exec) (hd : decode c.code pc = .ok (.lshl, 1)) (hp : pc + 1 = pc')  (k : Ok p e below Fe Q T (mkF m pc' Ls (.long (x <<< (y &&& 0x3f).toInt64) :: rest))) : Ok p e below Fe Q T (mkF m pc Ls (.int y :: .long x :: rest)) := by
  subst hp
  exact Ok.st (fun t k => XS.lshl X.here hx rfl hd rfl k) k
theorem Ok.lshr {x : Int64} {y : Int32} {rest : List Value} (X : Stand p l e R s m args below meth c T locs cells slots) (hx : p.tables.exec = Jvm.exec) (hd : decode c.code pc = .ok (.lshr, 1)) (hp : pc + 1 = pc')  (k : Ok p e below Fe Q T (mkF m pc' Ls (.long (x >>> (y &&& 0x3f).toInt64) :: rest))) : Ok p e below Fe Q T (mkF m pc Ls (.int y :: .long x :: rest)) := by
  subst hp
  exact Ok.st (fun t k => XS.lshr X.here hx rfl hd rfl k) k
theorem Ok.lushr {x : Int64} {y : Int32} {rest : List Value} (X : Stand p l e R s m args below meth c T locs cells slots) (hx : p.tables.exec = Jvm.exec) (hd : decode c.code pc = .ok (.lushr, 1)) (hp : pc + 1 = pc')  (k : Ok p e below Fe Q T (mkF m pc' Ls (.long ((x.toUInt64 >>> (y &&& 0x3f).toInt64.toUInt64).toInt64) :: rest))) : Ok p e below Fe Q T (mkF m pc Ls (.int y :: .long x :: rest)) := by
  subst hp
  exact Ok.st (fun t k => XS.lushr X.here hx rfl hd rfl k) k
theorem Ok.ineg {x : Int32} {rest : List Value} (X : Stand p l e R s m args below meth c T locs cells slots) (hx : p.tables.exec = Jvm.exec) (hd : decode c.code pc = .ok (.ineg, 1)) (hp : pc + 1 = pc')  (k : Ok p e below Fe Q T (mkF m pc' Ls (.int (-x) :: rest))) : Ok p e below Fe Q T (mkF m pc Ls (.int x :: rest)) := by
  subst hp
  exact Ok.st (fun t k => XS.ineg X.here hx rfl hd rfl k) k
theorem Ok.lneg {x : Int64} {rest : List Value} (X : Stand p l e R s m args below meth c T locs cells slots) (hx : p.tables.exec = Jvm.exec) (hd : decode c.code pc = .ok (.lneg, 1)) (hp : pc + 1 = pc')  (k : Ok p e below Fe Q T (mkF m pc' Ls (.long (-x) :: rest))) : Ok p e below Fe Q T (mkF m pc Ls (.long x :: rest)) := by
  subst hp
  exact Ok.st (fun t k => XS.lneg X.here hx rfl hd rfl k) k
theorem Ok.i2l {x : Int32} {rest : List Value} (X : Stand p l e R s m args below meth c T locs cells slots) (hx : p.tables.exec = Jvm.exec) (hd : decode c.code pc = .ok (.i2l, 1)) (hp : pc + 1 = pc')  (k : Ok p e below Fe Q T (mkF m pc' Ls (.long x.toInt64 :: rest))) : Ok p e below Fe Q T (mkF m pc Ls (.int x :: rest)) := by
  subst hp
  exact Ok.st (fun t k => XS.i2l X.here hx rfl hd rfl k) k
theorem Ok.l2i {x : Int64} {rest : List Value} (X : Stand p l e R s m args below meth c T locs cells slots) (hx : p.tables.exec = Jvm.exec) (hd : decode c.code pc = .ok (.l2i, 1)) (hp : pc + 1 = pc')  (k : Ok p e below Fe Q T (mkF m pc' Ls (.int x.toInt32 :: rest))) : Ok p e below Fe Q T (mkF m pc Ls (.long x :: rest)) := by
  subst hp
  exact Ok.st (fun t k => XS.l2i X.here hx rfl hd rfl k) k
theorem Ok.i2b {x : Int32} {rest : List Value} (X : Stand p l e R s m args below meth c T locs cells slots) (hx : p.tables.exec = Jvm.exec) (hd : decode c.code pc = .ok (.i2b, 1)) (hp : pc + 1 = pc')  (k : Ok p e below Fe Q T (mkF m pc' Ls (.int x.toInt8.toInt32 :: rest))) : Ok p e below Fe Q T (mkF m pc Ls (.int x :: rest)) := by
  subst hp
  exact Ok.st (fun t k => XS.i2b X.here hx rfl hd rfl k) k
theorem Ok.i2c {x : Int32} {rest : List Value} (X : Stand p l e R s m args below meth c T locs cells slots) (hx : p.tables.exec = Jvm.exec) (hd : decode c.code pc = .ok (.i2c, 1)) (hp : pc + 1 = pc')  (k : Ok p e below Fe Q T (mkF m pc' Ls (.int x.toUInt32.toUInt16.toUInt32.toInt32 :: rest))) : Ok p e below Fe Q T (mkF m pc Ls (.int x :: rest)) := by
  subst hp
  exact Ok.st (fun t k => XS.i2c X.here hx rfl hd rfl k) k
theorem Ok.i2s {x : Int32} {rest : List Value} (X : Stand p l e R s m args below meth c T locs cells slots) (hx : p.tables.exec = Jvm.exec) (hd : decode c.code pc = .ok (.i2s, 1)) (hp : pc + 1 = pc')  (k : Ok p e below Fe Q T (mkF m pc' Ls (.int x.toInt16.toInt32 :: rest))) : Ok p e below Fe Q T (mkF m pc Ls (.int x :: rest)) := by
  subst hp
  exact Ok.st (fun t k => XS.i2s X.here hx rfl hd rfl k) k
theorem Ok.lcmp {x y : Int64} {rest : List Value} (X : Stand p l e R s m args below meth c T locs cells slots) (hx : p.tables.exec = Jvm.exec) (hd : decode c.code pc = .ok (.lcmp, 1)) (hp : pc + 1 = pc')  (k : Ok p e below Fe Q T (mkF m pc' Ls (.int (lcmpW x y) :: rest))) : Ok p e below Fe Q T (mkF m pc Ls (.long y :: .long x :: rest)) := by
  subst hp
  exact Ok.st (fun t k => XS.lcmp X.here hx rfl hd rfl k) k
theorem Ok.iconst {i : Int} {z : Int32} {rest : List Value} (X : Stand p l e R s m args below meth c T locs cells slots) (hx : p.tables.exec = Jvm.exec) (hd : decode c.code pc = .ok (.iconst i, 1)) (hp : pc + 1 = pc') (hz : z = Int32.ofInt i) (k : Ok p e below Fe Q T (mkF m pc' Ls (.int z :: rest))) : Ok p e below Fe Q T (mkF m pc Ls rest) := by
  subst hp
  exact Ok.st (fun t k => XS.iconst X.here hx rfl hd (hz ▸ k)) k
theorem Ok.bipush {i : Int} {z : Int32} {rest : List Value} (X : Stand p l e R s m args below meth c T locs cells slots) (hx : p.tables.exec = Jvm.exec) (hd : decode c.code pc = .ok (.bipush i, 2)) (hp : pc + 2 = pc') (hz : z = (Int8.ofInt i).toInt32) (k : Ok p e below Fe Q T (mkF m pc' Ls (.int z :: rest))) : Ok p e below Fe Q T (mkF m pc Ls rest) := by
  subst hp
  exact Ok.st (fun t k => XS.bipush X.here hx rfl hd (hz ▸ k)) k
theorem Ok.sipush {i : Int} {z : Int32} {rest : List Value} (X : Stand p l e R s m args below meth c T locs cells slots) (hx : p.tables.exec = Jvm.exec) (hd : decode c.code pc = .ok (.sipush i, 3)) (hp : pc + 3 = pc') (hz : z = (Int16.ofInt i).toInt32) (k : Ok p e below Fe Q T (mkF m pc' Ls (.int z :: rest))) : Ok p e below Fe Q T (mkF m pc Ls rest) := by
  subst hp
  exact Ok.st (fun t k => XS.sipush X.here hx rfl hd (hz ▸ k)) k
theorem Ok.lconst {i : Fin 2} {z : Int64} {rest : List Value} (X : Stand p l e R s m args below meth c T locs cells slots) (hx : p.tables.exec = Jvm.exec) (hd : decode c.code pc = .ok (.lconst i, 1)) (hp : pc + 1 = pc') (hz : z = Int64.ofNat i) (k : Ok p e below Fe Q T (mkF m pc' Ls (.long z :: rest))) : Ok p e below Fe Q T (mkF m pc Ls rest) := by
  subst hp
  exact Ok.st (fun t k => XS.lconst X.here hx rfl hd (hz ▸ k)) k
theorem Ok.aconstNull {rest : List Value} (X : Stand p l e R s m args below meth c T locs cells slots) (hx : p.tables.exec = Jvm.exec) (hd : decode c.code pc = .ok (.aconst_null, 1)) (hp : pc + 1 = pc')  (k : Ok p e below Fe Q T (mkF m pc' Ls (.null :: rest))) : Ok p e below Fe Q T (mkF m pc Ls rest) := by
  subst hp
  exact Ok.st (fun t k => XS.aconstNull X.here hx rfl hd k) k
theorem Ok.dup {x : Value} {rest : List Value} (X : Stand p l e R s m args below meth c T locs cells slots) (hx : p.tables.exec = Jvm.exec) (hd : decode c.code pc = .ok (.dup, 1)) (hp : pc + 1 = pc') (hc : x.category = 1) (k : Ok p e below Fe Q T (mkF m pc' Ls (x :: x :: rest))) : Ok p e below Fe Q T (mkF m pc Ls (x :: rest)) := by
  subst hp
  exact Ok.st (fun t k => XS.dup X.here hx rfl hd rfl hc k) k
theorem Ok.pop {x : Value} {rest : List Value} (X : Stand p l e R s m args below meth c T locs cells slots) (hx : p.tables.exec = Jvm.exec) (hd : decode c.code pc = .ok (.pop, 1)) (hp : pc + 1 = pc') (hc : x.category = 1) (k : Ok p e below Fe Q T (mkF m pc' Ls rest)) : Ok p e below Fe Q T (mkF m pc Ls (x :: rest)) := by
  subst hp
  exact Ok.st (fun t k => XS.pop X.here hx rfl hd rfl hc k) k
theorem Ok.iload {i : Nat} {v : Int32} {rest : List Value} (X : Stand p l e R s m args below meth c T locs cells slots) (hx : p.tables.exec = Jvm.exec) (hd : decode c.code pc = .ok (.iload i, 2)) (hp : pc + 2 = pc') (hl : Ls[i]? = some (.val (.int v))) (k : Ok p e below Fe Q T (mkF m pc' Ls (.int v :: rest))) : Ok p e below Fe Q T (mkF m pc Ls rest) := by
  subst hp
  exact Ok.st (fun t k => XS.iload X.here hx rfl hd hl k) k
theorem Ok.iloadN {i : Fin 4} {v : Int32} {rest : List Value} (X : Stand p l e R s m args below meth c T locs cells slots) (hx : p.tables.exec = Jvm.exec) (hd : decode c.code pc = .ok (.iload_n i, 1)) (hp : pc + 1 = pc') (hl : Ls[i.val]? = some (.val (.int v))) (k : Ok p e below Fe Q T (mkF m pc' Ls (.int v :: rest))) : Ok p e below Fe Q T (mkF m pc Ls rest) := by
  subst hp
  exact Ok.st (fun t k => XS.iloadN X.here hx rfl hd hl k) k
theorem Ok.lload {i : Nat} {v : Int64} {rest : List Value} (X : Stand p l e R s m args below meth c T locs cells slots) (hx : p.tables.exec = Jvm.exec) (hd : decode c.code pc = .ok (.lload i, 2)) (hp : pc + 2 = pc') (hl : Ls[i]? = some (.val (.long v))) (k : Ok p e below Fe Q T (mkF m pc' Ls (.long v :: rest))) : Ok p e below Fe Q T (mkF m pc Ls rest) := by
  subst hp
  exact Ok.st (fun t k => XS.lload X.here hx rfl hd hl k) k
theorem Ok.lloadN {i : Fin 4} {v : Int64} {rest : List Value} (X : Stand p l e R s m args below meth c T locs cells slots) (hx : p.tables.exec = Jvm.exec) (hd : decode c.code pc = .ok (.lload_n i, 1)) (hp : pc + 1 = pc') (hl : Ls[i.val]? = some (.val (.long v))) (k : Ok p e below Fe Q T (mkF m pc' Ls (.long v :: rest))) : Ok p e below Fe Q T (mkF m pc Ls rest) := by
  subst hp
  exact Ok.st (fun t k => XS.lloadN X.here hx rfl hd hl k) k
theorem Ok.aload {i : Nat} {v : Value} {rest : List Value} (X : Stand p l e R s m args below meth c T locs cells slots) (hx : p.tables.exec = Jvm.exec) (hd : decode c.code pc = .ok (.aload i, 2)) (hp : pc + 2 = pc') (hl : Ls[i]? = some (.val v)) (hv : v.isRef = true) (k : Ok p e below Fe Q T (mkF m pc' Ls (v :: rest))) : Ok p e below Fe Q T (mkF m pc Ls rest) := by
  subst hp
  exact Ok.st (fun t k => XS.aload X.here hx rfl hd hl hv k) k
theorem Ok.aloadN {i : Fin 4} {v : Value} {rest : List Value} (X : Stand p l e R s m args below meth c T locs cells slots) (hx : p.tables.exec = Jvm.exec) (hd : decode c.code pc = .ok (.aload_n i, 1)) (hp : pc + 1 = pc') (hl : Ls[i.val]? = some (.val v)) (hv : v.isRef = true) (k : Ok p e below Fe Q T (mkF m pc' Ls (v :: rest))) : Ok p e below Fe Q T (mkF m pc Ls rest) := by
  subst hp
  exact Ok.st (fun t k => XS.aloadN X.here hx rfl hd hl hv k) k
theorem Ok.istore {i : Nat} {x : Int32} {rest : List Value} (X : Stand p l e R s m args below meth c T locs cells slots) (hx : p.tables.exec = Jvm.exec) (hd : decode c.code pc = .ok (.istore i, 2)) (hp : pc + 2 = pc') (hl : storeLocals Ls i (.int x) = some l') (k : Ok p e below Fe Q T (mkF m pc' l' rest)) : Ok p e below Fe Q T (mkF m pc Ls ((.int x) :: rest)) := by
  subst hp
  exact Ok.st (fun t k => XS.istore X.here hx rfl hd rfl hl k) k
theorem Ok.istoreN {i : Fin 4} {x : Int32} {rest : List Value} (X : Stand p l e R s m args below meth c T locs cells slots) (hx : p.tables.exec = Jvm.exec) (hd : decode c.code pc = .ok (.istore_n i, 1)) (hp : pc + 1 = pc') (hl : storeLocals Ls i.val (.int x) = some l') (k : Ok p e below Fe Q T (mkF m pc' l' rest)) : Ok p e below Fe Q T (mkF m pc Ls ((.int x) :: rest)) := by
  subst hp
  exact Ok.st (fun t k => XS.istoreN X.here hx rfl hd rfl hl k) k
theorem Ok.lstore {i : Nat} {x : Int64} {rest : List Value} (X : Stand p l e R s m args below meth c T locs cells slots) (hx : p.tables.exec = Jvm.exec) (hd : decode c.code pc = .ok (.lstore i, 2)) (hp : pc + 2 = pc') (hl : storeLocals Ls i (.long x) = some l') (k : Ok p e below Fe Q T (mkF m pc' l' rest)) : Ok p e below Fe Q T (mkF m pc Ls ((.long x) :: rest)) := by
  subst hp
  exact Ok.st (fun t k => XS.lstore X.here hx rfl hd rfl hl k) k
theorem Ok.lstoreN {i : Fin 4} {x : Int64} {rest : List Value} (X : Stand p l e R s m args below meth c T locs cells slots) (hx : p.tables.exec = Jvm.exec) (hd : decode c.code pc = .ok (.lstore_n i, 1)) (hp : pc + 1 = pc') (hl : storeLocals Ls i.val (.long x) = some l') (k : Ok p e below Fe Q T (mkF m pc' l' rest)) : Ok p e below Fe Q T (mkF m pc Ls ((.long x) :: rest)) := by
  subst hp
  exact Ok.st (fun t k => XS.lstoreN X.here hx rfl hd rfl hl k) k
theorem Ok.astore {i : Nat} {x : Value} {rest : List Value} (X : Stand p l e R s m args below meth c T locs cells slots) (hx : p.tables.exec = Jvm.exec) (hd : decode c.code pc = .ok (.astore i, 2)) (hp : pc + 2 = pc') (hv : x.isRef = true) (hl : storeLocals Ls i x = some l') (k : Ok p e below Fe Q T (mkF m pc' l' rest)) : Ok p e below Fe Q T (mkF m pc Ls (x :: rest)) := by
  subst hp
  exact Ok.st (fun t k => XS.astore X.here hx rfl hd rfl hv hl k) k
theorem Ok.astoreN {i : Fin 4} {x : Value} {rest : List Value} (X : Stand p l e R s m args below meth c T locs cells slots) (hx : p.tables.exec = Jvm.exec) (hd : decode c.code pc = .ok (.astore_n i, 1)) (hp : pc + 1 = pc') (hv : x.isRef = true) (hl : storeLocals Ls i.val x = some l') (k : Ok p e below Fe Q T (mkF m pc' l' rest)) : Ok p e below Fe Q T (mkF m pc Ls (x :: rest)) := by
  subst hp
  exact Ok.st (fun t k => XS.astoreN X.here hx rfl hd rfl hv hl k) k
theorem Ok.iinc {i : Nat} {cst : Int} {x z : Int32} {st : List Value} (X : Stand p l e R s m args below meth c T locs cells slots) (hx : p.tables.exec = Jvm.exec) (hd : decode c.code pc = .ok (.iinc i cst, 3)) (hp : pc + 3 = pc') (hl : Ls[i]? = some (.val (.int x))) (hz : z = x + Int32.ofInt cst) (hl' : storeLocals Ls i (.int z) = some l') (k : Ok p e below Fe Q T (mkF m pc' l' st)) : Ok p e below Fe Q T (mkF m pc Ls st) := by
  subst hp hz
  exact Ok.st (fun t k => XS.iinc X.here hx rfl hd hl hl' k) k
theorem Ok.goto {o : Int} {st : List Value} (X : Stand p l e R s m args below meth c T locs cells slots) (hx : p.tables.exec = Jvm.exec) (hd : decode c.code pc = .ok (.goto o, 3)) (ho : 0 ≤ (pc : Int) + o) (hp : ((pc : Int) + o).toNat = pc') (k : Ok p e below Fe Q T (mkF m pc' Ls st)) : Ok p e below Fe Q T (mkF m pc Ls st) :=
  Ok.st (fun t k => XS.goto X.here hx rfl (pc0 := pc) rfl hd ho hp k) k
theorem Ok.ifY {cd : ClassFile.Cond} {x : Int32} {rest : List Value} {o : Int} (X : Stand p l e R s m args below meth c T locs cells slots) (hx : p.tables.exec = Jvm.exec) (hd : decode c.code pc = .ok (.ifCond cd o, 3)) (hc : ifCond.holds cd x = true) (ho : 0 ≤ (pc : Int) + o) (hp : ((pc : Int) + o).toNat = pc') (k : Ok p e below Fe Q T (mkF m pc' Ls rest)) : Ok p e below Fe Q T (mkF m pc Ls (.int x :: rest)) :=
  Ok.st (fun t k => XS.ifYes X.here hx rfl (pc0 := pc) rfl hd rfl hc ho hp k) k
theorem Ok.ifN {cd : ClassFile.Cond} {x : Int32} {rest : List Value} {o : Int} (X : Stand p l e R s m args below meth c T locs cells slots) (hx : p.tables.exec = Jvm.exec) (hd : decode c.code pc = .ok (.ifCond cd o, 3)) (hc : ifCond.holds cd x = false) (hp : pc + 3 = pc') (k : Ok p e below Fe Q T (mkF m pc' Ls rest)) : Ok p e below Fe Q T (mkF m pc Ls (.int x :: rest)) := by
  subst hp
  exact Ok.st (fun t k => XS.ifNo X.here hx rfl hd rfl hc k) k
theorem Ok.icY {cd : ClassFile.Cond} {x y : Int32} {rest : List Value} {o : Int} (X : Stand p l e R s m args below meth c T locs cells slots) (hx : p.tables.exec = Jvm.exec) (hd : decode c.code pc = .ok (.if_icmp cd o, 3)) (hc : if_icmp.holds cd x y = true) (ho : 0 ≤ (pc : Int) + o) (hp : ((pc : Int) + o).toNat = pc') (k : Ok p e below Fe Q T (mkF m pc' Ls rest)) : Ok p e below Fe Q T (mkF m pc Ls (.int y :: .int x :: rest)) :=
  Ok.st (fun t k => XS.icmpYes X.here hx rfl (pc0 := pc) rfl hd rfl hc ho hp k) k
theorem Ok.icN {cd : ClassFile.Cond} {x y : Int32} {rest : List Value} {o : Int} (X : Stand p l e R s m args below meth c T locs cells slots) (hx : p.tables.exec = Jvm.exec) (hd : decode c.code pc = .ok (.if_icmp cd o, 3)) (hc : if_icmp.holds cd x y = false) (hp : pc + 3 = pc') (k : Ok p e below Fe Q T (mkF m pc' Ls rest)) : Ok p e below Fe Q T (mkF m pc Ls (.int y :: .int x :: rest)) := by
  subst hp
  exact Ok.st (fun t k => XS.icmpNo X.here hx rfl hd rfl hc k) k
theorem Ok.nullY {rest : List Value} {o : Int} (X : Stand p l e R s m args below meth c T locs cells slots) (hx : p.tables.exec = Jvm.exec) (hd : decode c.code pc = .ok (.ifnull o, 3)) (ho : 0 ≤ (pc : Int) + o) (hp : ((pc : Int) + o).toNat = pc') (k : Ok p e below Fe Q T (mkF m pc' Ls rest)) : Ok p e below Fe Q T (mkF m pc Ls (.null :: rest)) :=
  Ok.st (fun t k => XS.ifnullYes X.here hx rfl (pc0 := pc) rfl hd rfl ho hp k) k
theorem Ok.nullN {b : Addr} {rest : List Value} {o : Int} (X : Stand p l e R s m args below meth c T locs cells slots) (hx : p.tables.exec = Jvm.exec) (hd : decode c.code pc = .ok (.ifnull o, 3)) (hp : pc + 3 = pc') (k : Ok p e below Fe Q T (mkF m pc' Ls rest)) : Ok p e below Fe Q T (mkF m pc Ls (.ref b :: rest)) := by
  subst hp
  exact Ok.st (fun t k => XS.ifnullNo X.here hx rfl hd rfl k) k
theorem Ok.nonnullY {b : Addr} {rest : List Value} {o : Int} (X : Stand p l e R s m args below meth c T locs cells slots) (hx : p.tables.exec = Jvm.exec) (hd : decode c.code pc = .ok (.ifnonnull o, 3)) (ho : 0 ≤ (pc : Int) + o) (hp : ((pc : Int) + o).toNat = pc') (k : Ok p e below Fe Q T (mkF m pc' Ls rest)) : Ok p e below Fe Q T (mkF m pc Ls (.ref b :: rest)) :=
  Ok.st (fun t k => XS.ifnonnullYes X.here hx rfl (pc0 := pc) rfl hd rfl ho hp k) k
theorem Ok.nonnullN {rest : List Value} {o : Int} (X : Stand p l e R s m args below meth c T locs cells slots) (hx : p.tables.exec = Jvm.exec) (hd : decode c.code pc = .ok (.ifnonnull o, 3)) (hp : pc + 3 = pc') (k : Ok p e below Fe Q T (mkF m pc' Ls rest)) : Ok p e below Fe Q T (mkF m pc Ls (.null :: rest)) := by
  subst hp
  exact Ok.st (fun t k => XS.ifnonnullNo X.here hx rfl hd rfl k) k
theorem Ok.ldcI {own : String} {index : Nat} {v : Int32} {st : List Value} (X : Stand p l e R s m args below meth c T locs cells slots) (hx : p.tables.exec = Jvm.exec) (hZ : Z.Warmed39 s.vm) (hown : s.vm.findClass own = some m.cls) (w : (Jvm.Cond.constant own index v).before a0 Z = true) (hd : decode c.code pc = .ok (.ldc index, 2)) (hp : pc + 2 = pc') (k : Ok p e below Fe Q T (mkF m pc' Ls (.int v :: st))) : Ok p e below Fe Q T (mkF m pc Ls st) := by
  subst hp
  exact Ok.st (X.ldcInt hx hown (mvT hZ w) (g := mkF m pc Ls st) rfl hd) k
theorem Ok.ldcJ {own : String} {index : Nat} {v : Int64} {st : List Value} (X : Stand p l e R s m args below meth c T locs cells slots) (hx : p.tables.exec = Jvm.exec) (hZ : Z.Warmed39 s.vm) (hown : s.vm.findClass own = some m.cls) (w : (Jvm.Cond.constantLong own index v).before a0 Z = true) (hd : decode c.code pc = .ok (.ldc2_w index, 3)) (hp : pc + 3 = pc') (k : Ok p e below Fe Q T (mkF m pc' Ls (.long v :: st))) : Ok p e below Fe Q T (mkF m pc Ls st) := by
  subst hp
  exact Ok.st (X.ldc2Long hx hown (mvT hZ w) (g := mkF m pc Ls st) rfl hd) k
/-! the ends -/
theorem Ok.retV (X : Stand p l e R s m args below meth c T locs cells slots) (hx : p.tables.exec = Jvm.exec) (hret : meth.sig.returnType = none) (hlk : meth.locks = false) (hd : decode c.code pc = .ok (.return_, 1)) {nc ns : Nat} (hc : cells ≤ nc) (hs : slots ≤ ns) (q : Q none T.heap locs) : Ok p e below (NE s nc ns) Q T (mkF m pc Ls []) := by
  obtain ⟨fs, hr, hrun, hended, hW, hsame⟩ := X.leave (v := none) (fun _ => rfl) hlk
  exact ⟨_, _, X.returnOut hx hret hd hr, hrun, hended, _, _, rfl, q, ⟨_, rfl⟩, hW, hsame.mono hc hs⟩
theorem Ok.retI {z : Int32} {rest : List Value} {t : FieldType} (X : Stand p l e R s m args below meth c T locs cells slots) (hx : p.tables.exec = Jvm.exec) (hret : meth.sig.returnType = some t) (hlk : meth.locks = false) (ht : t = .int ∨ t = .boolean ∨ t = .byte ∨ t = .char ∨ t = .short) (hn : narrow t (.int z) = .int z) (hd : decode c.code pc = .ok (.ireturn, 1)) {nc ns : Nat} (hc : cells ≤ nc) (hs : slots ≤ ns) (q : Q (some (.int z)) T.heap locs) : Ok p e below (NE s nc ns) Q T (mkF m pc Ls (.int z :: rest)) := by
  obtain ⟨fs, hr, hrun, hended, hW, hsame⟩ := X.leave (v := some (.int z)) (fun h => by rw [hret] at h; cases h) hlk
  exact ⟨_, _, retOut X hx hret hn (Or.inl ⟨rfl, ht, _, rfl⟩) hd hr, hrun, hended, _, _, rfl, q, ⟨_, rfl⟩, hW, hsame.mono hc hs⟩
theorem Ok.retJ {z : Int64} {rest : List Value} (X : Stand p l e R s m args below meth c T locs cells slots) (hx : p.tables.exec = Jvm.exec) (hret : meth.sig.returnType = some .long) (hlk : meth.locks = false) (hd : decode c.code pc = .ok (.lreturn, 1)) {nc ns : Nat} (hc : cells ≤ nc) (hs : slots ≤ ns) (q : Q (some (.long z)) T.heap locs) : Ok p e below (NE s nc ns) Q T (mkF m pc Ls (.long z :: rest)) := by
  obtain ⟨fs, hr, hrun, hended, hW, hsame⟩ := X.leave (v := some (.long z)) (fun h => by rw [hret] at h; cases h) hlk
  exact ⟨_, _, retOut X hx hret rfl (Or.inr (Or.inl ⟨rfl, rfl, _, rfl⟩)) hd hr, hrun, hended, _, _, rfl, q, ⟨_, rfl⟩, hW, hsame.mono hc hs⟩
theorem Ok.retA {w : Value} {rest : List Value} {t : FieldType} (X : Stand p l e R s m args below meth c T locs cells slots) (hx : p.tables.exec = Jvm.exec) (hret : meth.sig.returnType = some t) (hlk : meth.locks = false) (ht : t.isReference = true) (hn : narrow t w = w) (hw : w.isRef = true) (hd : decode c.code pc = .ok (.areturn, 1)) {nc ns : Nat} (hc : cells ≤ nc) (hs : slots ≤ ns) (q : Q (some w) T.heap locs) : Ok p e below (NE s nc ns) Q T (mkF m pc Ls (w :: rest)) := by
  obtain ⟨fs, hr, hrun, hended, hW, hsame⟩ := X.leave (v := some w) (fun h => by rw [hret] at h; cases h) hlk
  exact ⟨_, _, retOut X hx hret hn (Or.inr (Or.inr (Or.inr (Or.inr ⟨rfl, ht, hw⟩)))) hd hr, hrun, hended, _, _, rfl, q, ⟨_, rfl⟩, hW, hsame.mono hc hs⟩
theorem Ok.retVW {V : Vm} {n : Nat} (X : Stand p l e R (s.setVm V) m args below meth c T locs cells slots) (hx : p.tables.exec = Jvm.exec) (hS : s.Since V n) (hSn : n ≤ T.heap.size) (hret : meth.sig.returnType = none) (hlk : meth.locks = false) (hd : decode c.code pc = .ok (.return_, 1)) {nc ns : Nat} (hc : cells ≤ nc) (hs : slots ≤ ns) (q : Q none T.heap locs) : Ok p e below (WE s nc ns) Q T (mkF m pc Ls []) := by
  obtain ⟨fs, hr, hrun, hended, h1, h2, h3, h4⟩ := X.leaveW hS hSn (v := none) (fun _ => rfl) hlk
  exact ⟨_, _, X.returnOut hx hret hd hr, hrun, hended, _, _, rfl, q, h1, h2, h3, h4.mono hc hs⟩
theorem Ok.retIW {V : Vm} {n : Nat} {z : Int32} {rest : List Value} {t : FieldType} (X : Stand p l e R (s.setVm V) m args below meth c T locs cells slots) (hx : p.tables.exec = Jvm.exec) (hS : s.Since V n) (hSn : n ≤ T.heap.size) (hret : meth.sig.returnType = some t) (hlk : meth.locks = false) (ht : t = .int ∨ t = .boolean ∨ t = .byte ∨ t = .char ∨ t = .short) (hn : narrow t (.int z) = .int z) (hd : decode c.code pc = .ok (.ireturn, 1)) {nc ns : Nat} (hc : cells ≤ nc) (hs : slots ≤ ns) (q : Q (some (.int z)) T.heap locs) : Ok p e below (WE s nc ns) Q T (mkF m pc Ls (.int z :: rest)) := by
  obtain ⟨fs, hr, hrun, hended, h1, h2, h3, h4⟩ := X.leaveW hS hSn (v := some (.int z)) (fun h => by rw [hret] at h; cases h) hlk
  exact ⟨_, _, retOut X hx hret hn (Or.inl ⟨rfl, ht, _, rfl⟩) hd hr, hrun, hended, _, _, rfl, q, h1, h2, h3, h4.mono hc hs⟩
theorem Ok.retJW {V : Vm} {n : Nat} {z : Int64} {rest : List Value} (X : Stand p l e R (s.setVm V) m args below meth c T locs cells slots) (hx : p.tables.exec = Jvm.exec) (hS : s.Since V n) (hSn : n ≤ T.heap.size) (hret : meth.sig.returnType = some .long) (hlk : meth.locks = false) (hd : decode c.code pc = .ok (.lreturn, 1)) {nc ns : Nat} (hc : cells ≤ nc) (hs : slots ≤ ns) (q : Q (some (.long z)) T.heap locs) : Ok p e below (WE s nc ns) Q T (mkF m pc Ls (.long z :: rest)) := by
  obtain ⟨fs, hr, hrun, hended, h1, h2, h3, h4⟩ := X.leaveW hS hSn (v := some (.long z)) (fun h => by rw [hret] at h; cases h) hlk
  exact ⟨_, _, retOut X hx hret rfl (Or.inr (Or.inl ⟨rfl, rfl, _, rfl⟩)) hd hr, hrun, hended, _, _, rfl, q, h1, h2, h3, h4.mono hc hs⟩
theorem Ok.retAW {V : Vm} {n : Nat} {w : Value} {rest : List Value} {t : FieldType} (X : Stand p l e R (s.setVm V) m args below meth c T locs cells slots) (hx : p.tables.exec = Jvm.exec) (hS : s.Since V n) (hSn : n ≤ T.heap.size) (hret : meth.sig.returnType = some t) (hlk : meth.locks = false) (ht : t.isReference = true) (hn : narrow t w = w) (hw : w.isRef = true) (hd : decode c.code pc = .ok (.areturn, 1)) {nc ns : Nat} (hc : cells ≤ nc) (hs : slots ≤ ns) (q : Q (some w) T.heap locs) : Ok p e below (WE s nc ns) Q T (mkF m pc Ls (w :: rest)) := by
  obtain ⟨fs, hr, hrun, hended, h1, h2, h3, h4⟩ := X.leaveW hS hSn (v := some w) (fun h => by rw [hret] at h; cases h) hlk
  exact ⟨_, _, retOut X hx hret hn (Or.inr (Or.inr (Or.inr (Or.inr ⟨rfl, ht, hw⟩)))) hd hr, hrun, hended, _, _, rfl, q, h1, h2, h3, h4.mono hc hs⟩
/-! a body's contract -/
abbrev MetN (l : Launch) (Z : State) (y : MethodName) (bytes : ByteArray) (maxL : Nat) (ret : Option FieldType) (ws : List Jvm.Cond) (rm : Room) (as' : Array Value) (h0 : Heap) (Q : Option Value → Heap → List Loc → Prop) : Prop :=
  MetFree l y (head1 (Jvm.Cond.code y bytes maxL ret :: ws) rm) (fun a U => a = as' ∧ Z.Warmed39 U.vm ∧ U.heap = h0) (fun _ _ _ _ _ => True) (fun _ U o U' => ∃ v L, o = .returned v ∧ Q v U'.heap L ∧ FrameEnd U o U' L rm.cells rm.slots)
abbrev MetW (l : Launch) (Z : State) (y : MethodName) (bytes : ByteArray) (maxL : Nat) (ret : Option FieldType) (ws : List Jvm.Cond) (rm : Room) (as' : Array Value) (h0 : Heap) (Q : Option Value → Heap → List Loc → Prop) : Prop :=
  MetFree l y (head1 (Jvm.Cond.code y bytes maxL ret :: ws) rm) (fun a U => a = as' ∧ Z.Warmed39 U.vm ∧ U.heap = h0) (fun _ _ _ _ _ => True) (fun _ U o U' => ∃ v L, o = .returned v ∧ Q v U'.heap L ∧ ReturnedEndW U o U' L rm.cells rm.slots)
theorem met_n {y : MethodName} {bytes : ByteArray} {maxL : Nat} {ret : Option FieldType} {rm : Room} {ws : List Jvm.Cond} {as' : Array Value} {h0 : Heap} {F0 : MethodId → JFrame} (hp : plainFor y = true) (hf : ∀ m, entryFrame m as' maxL = F0 m)
    (body : ∀ (p : Program) (e : Env) (s : State) (m : MethodId) (below : List Frame) (meth : Method) (c : Code) (s₁ : State), Stand p l e rm s m as' below meth c s₁ [] 0 0 → p.tables.exec = Jvm.exec → c.code = bytes → c.maxLocals = maxL → Z.Warmed39 s.vm → s.vm.findClass y.cls = some m.cls → meth.name = y.name → meth.sig.returnType = ret → meth.locks = false → s₁.heap = h0 → Ok p e below (NE s rm.cells rm.slots) Q s₁ (F0 m)) :
    MetN l Z y bytes maxL ret ws rm as' h0 Q := by
  refine MetFree.of_bodySF hp hisR ?_
  intro p e s m args below meth c s₁ Bd hml0 hP hK
  obtain ⟨rfl, hZ, hh⟩ := hP
  have e0 : s₁.heap = h0 := by rw [← hh, Bd.state]; rfl
  exact Ok.fr (hf m) (body p e s m below meth c s₁ (Stand.of_body Bd) Bd.exec Bd.bytes hml0 hZ (findClass_of_methodNamed Bd.named) (name_of_methodNamed Bd.named Bd.method).1 Bd.returns (BodyLoose.notSynchronized Bd) e0)
theorem met_w {y : MethodName} {bytes : ByteArray} {maxL : Nat} {ret : Option FieldType} {rm : Room} {ws : List Jvm.Cond} {as' : Array Value} {h0 : Heap} {F0 : MethodId → JFrame} (hp : plainFor y = true) (hf : ∀ m, entryFrame m as' maxL = F0 m)
    (body : ∀ (p : Program) (e : Env) (s : State) (m : MethodId) (below : List Frame) (meth : Method) (c : Code) (s₁ : State) (V : Vm) (n : Nat), Stand p l e rm (s.setVm V) m as' below meth c s₁ [] 0 0 → p.tables.exec = Jvm.exec → c.code = bytes → c.maxLocals = maxL → Z.Warmed39 V → V.findClass y.cls = some m.cls → meth.name = y.name → meth.sig.returnType = ret → meth.locks = false → s₁.heap = h0 → s.Since V n → n ≤ h0.size → Ok p e below (WE s rm.cells rm.slots) Q s₁ (F0 m)) :
    MetW l Z y bytes maxL ret ws rm as' h0 Q := by
  refine MetFree.of_bodySF hp hisR ?_
  intro p e s m args below meth c s₁ Bd hml0 hP hK
  obtain ⟨rfl, hZ, hh⟩ := hP
  have e0 : s₁.heap = h0 := by rw [← hh, Bd.state]; rfl
  exact Ok.fr (hf m) (body p e s m below meth c s₁ s.vm 0 (Stand.of_body Bd) Bd.exec Bd.bytes hml0 hZ (findClass_of_methodNamed Bd.named) (name_of_methodNamed Bd.named Bd.method).1 Bd.returns (BodyLoose.notSynchronized Bd) e0 ((State.WarmedH.refl s).since 0) (Nat.zero_le _))
/-! calls, by a contract -/
theorem Ok.callS {y : MethodName} {bytes : ByteArray} {maxL : Nat} {ret : Option FieldType} {rm : Room} {as' : Array Value} {h : Heap} {Qc : Option Value → Heap → List Loc → Prop} {own : String} {index : Nat} {argsL rest st : List Value} {W : Nat} (X : Stand p l e R s m args below meth c T locs cells slots) (hx : p.tables.exec = Jvm.exec) (hZ : Z.Warmed39 s.vm) (hown : s.vm.findClass own = some m.cls)
    (hM : MetN l Z y bytes maxL ret [] rm as' h Qc) (wl : (Jvm.Cond.methodLink own index y).before a0 Z = true) (ws : (Jvm.Cond.static y).before a0 Z = true) (wz : (Jvm.Cond.initialized y.cls).before a0 Z = true) (wc : (Jvm.Cond.code y bytes maxL ret).before a0 Z = true) (hy : y.cls ≠ "java/lang/invoke/MethodHandle" ∧ y.cls ≠ "java/lang/invoke/VarHandle")
    (eT : T.heap = h) (hf : rm.frames + 1 ≤ R.frames) (hl : W + (maxL + 11) + rm.locals ≤ R.locals) (hc : cells + rm.cells ≤ R.cells) (hs : slots + rm.slots ≤ R.slots) (hlen : ∀ sig, parseMethodDescriptor y.desc = some sig → argsL.length = sig.parameters.length) (has : argsL.toArray = as') (hst : st = argsL.reverse ++ rest) (hW : (rest.map fun v => v.category).sum ≤ W) (hsize : Ls.size = c.maxLocals)
    (hd : decode c.code pc = .ok (.invokestatic index, 3)) (hp : pc + 3 = pc')
    (k : ∀ (v : Option Value) (T' : State) (L : List Loc), Stand p l e R s m args below meth c T' (locs ++ L) (cells + rm.cells) (slots + rm.slots) → Qc v T'.heap L → Ok p e below Fe Q T' (mkF m pc' Ls (v.toList ++ rest))) : Ok p e below Fe Q T (mkF m pc Ls st) := by
  subst hp
  obtain ⟨v, _, ⟨T1, L1, k1, n1⟩, -, X1, ⟨Lc, hQ, l1, y1, z1⟩, st1⟩ := Jvm.LawKit.callS X hx (y := y) hown (mvT hZ wl) (mvT hZ ws) (mvT hZ wz) (mvT hZ wc) hy (backOf (W := W) hM hZ wc wz hf hl) (g := mkF m pc Ls st) rfl hsize (argsL := argsL) (rest := rest) hlen hst (by show 2 * 0 + _ ≤ _; omega) hd (fun _ _ => ⟨has, eT, hc, hs⟩)
  dsimp only [Pt.U, Pt.locs, Pt.cells, Pt.slots] at X1 l1 y1 z1 st1 hQ
  subst l1 y1 z1
  exact Ok.st st1 (k v T1 Lc X1 hQ)
theorem Ok.init {y : MethodName} {bytes : ByteArray} {maxL : Nat} {rm : Room} {as' : Array Value} {h : Heap} {Qc : Option Value → Heap → List Loc → Prop} {own : String} {index : Nat} {a : Addr} {argsL rest st : List Value} {W : Nat} (X : Stand p l e R s m args below meth c T locs cells slots) (hx : p.tables.exec = Jvm.exec) (hZ : Z.Warmed39 s.vm) (hown : s.vm.findClass own = some m.cls)
    (hM : MetN l Z y bytes maxL none [] rm as' h Qc) (hyn : y.name = "<init>") (wl : (Jvm.Cond.methodLink own index y).before a0 Z = true) (wi : (Jvm.Cond.instanceMethod y).before a0 Z = true) (wz : (Jvm.Cond.initialized y.cls).before a0 Z = true) (wc : (Jvm.Cond.code y bytes maxL none).before a0 Z = true) (hy : y.cls ≠ "java/lang/invoke/MethodHandle" ∧ y.cls ≠ "java/lang/invoke/VarHandle")
    (eT : T.heap = h) (hf : rm.frames + 1 ≤ R.frames) (hl : W + (maxL + 11) + rm.locals ≤ R.locals) (hc : cells + rm.cells ≤ R.cells) (hs : slots + rm.slots ≤ R.slots) (hlen : ∀ sig, parseMethodDescriptor y.desc = some sig → argsL.length = sig.parameters.length) (has : (.ref a :: argsL).toArray = as') (hst : st = argsL.reverse ++ .ref a :: rest) (hW : (rest.map fun v => v.category).sum ≤ W) (hsize : Ls.size = c.maxLocals)
    (hd : decode c.code pc = .ok (.invokespecial index, 3)) (hp : pc + 3 = pc')
    (k : ∀ (v : Option Value) (T' : State) (L : List Loc), Stand p l e R s m args below meth c T' (locs ++ L) (cells + rm.cells) (slots + rm.slots) → Qc v T'.heap L → Ok p e below Fe Q T' (mkF m pc' Ls (v.toList ++ rest))) : Ok p e below Fe Q T (mkF m pc Ls st) := by
  subst hp
  obtain ⟨v, _, ⟨T1, L1, k1, n1⟩, -, X1, ⟨Lc, hQ, l1, y1, z1⟩, st1⟩ := X.specialBack hx (y := y) hyn hown (mvT hZ wl) (mvT hZ wi) (mvT hZ wc) hy (backOf (W := W) hM hZ wc wz hf hl) (g := mkF m pc Ls st) rfl hsize (Steps.refl _) (a := a) (argsL := argsL) (rest := rest) hlen hst (by show 2 * 0 + _ ≤ _; omega) hd (fun _ _ => ⟨has, eT, hc, hs⟩)
  dsimp only [Pt.U, Pt.locs, Pt.cells, Pt.slots] at X1 l1 y1 z1 st1 hQ
  subst l1 y1 z1
  exact Ok.tr st1 (k v T1 Lc X1 hQ)
theorem Ok.virt {y z : MethodName} {bytes : ByteArray} {maxL : Nat} {ret : Option FieldType} {rm : Room} {as' : Array Value} {h : Heap} {Qc : Option Value → Heap → List Loc → Prop} {own C : String} {index : Nat} {a : Addr} {argsL rest st : List Value} {W : Nat} (X : Stand p l e R s m args below meth c T locs cells slots) (hx : p.tables.exec = Jvm.exec) (hZ : Z.Warmed39 s.vm) (hown : s.vm.findClass own = some m.cls)
    (hM : MetN l Z z bytes maxL ret [] rm as' h Qc) (wl : (Jvm.Cond.methodLink own index y).before a0 Z = true) (wd : (Jvm.Cond.declares y).before a0 Z = true) (hnf : NotFace s y) (wse : (Jvm.Cond.selects C y z).before a0 Z = true) (wi : (Jvm.Cond.instanceMethod z).before a0 Z = true) (wz : (Jvm.Cond.initialized z.cls).before a0 Z = true) (wc : (Jvm.Cond.code z bytes maxL ret).before a0 Z = true) (hy : y.cls ≠ "java/lang/invoke/MethodHandle" ∧ y.cls ≠ "java/lang/invoke/VarHandle")
    (eT : T.heap = h) (E : Exa Z h a C) (hf : rm.frames + 1 ≤ R.frames) (hl : W + (maxL + 11) + rm.locals ≤ R.locals) (hc : cells + rm.cells ≤ R.cells) (hs : slots + rm.slots ≤ R.slots) (hlen : ∀ sig, parseMethodDescriptor y.desc = some sig → argsL.length = sig.parameters.length) (has : (.ref a :: argsL).toArray = as') (hst : st = argsL.reverse ++ .ref a :: rest) (hW : (rest.map fun v => v.category).sum ≤ W) (hsize : Ls.size = c.maxLocals)
    (hd : decode c.code pc = .ok (.invokevirtual index, 3)) (hp : pc + 3 = pc')
    (k : ∀ (v : Option Value) (T' : State) (L : List Loc), Stand p l e R s m args below meth c T' (locs ++ L) (cells + rm.cells) (slots + rm.slots) → Qc v T'.heap L → Ok p e below Fe Q T' (mkF m pc' Ls (v.toList ++ rest))) : Ok p e below Fe Q T (mkF m pc Ls st) := by
  subst hp
  obtain ⟨cq, kq, qa, qb, qc⟩ := isOf hZ eT E
  obtain ⟨v, _, ⟨T1, L1, k1, n1⟩, -, X1, ⟨Lc, hQ, l1, y1, z1⟩, st1⟩ := X.virtualBack hx (y := y) (z := z) hown (mvT hZ wl) (mvT hZ wd) hnf (mvT hZ wse) (mvT hZ wi) hy (backOf (W := W) hM hZ wc wz hf hl) qa qc (g := mkF m pc Ls st) rfl hsize (Steps.refl _) (argsL := argsL) (rest := rest) hlen hst (by show 2 * 0 + _ ≤ _; omega) hd (fun _ _ => ⟨has, eT, hc, hs⟩)
  dsimp only [Pt.U, Pt.locs, Pt.cells, Pt.slots] at X1 l1 y1 z1 st1 hQ
  subst l1 y1 z1
  exact Ok.tr st1 (k v T1 Lc X1 hQ)
/-! calls of bodies that may intern a string, by their wide contract, from a walk that may have interned -/
theorem Ok.callSW {y : MethodName} {bytes : ByteArray} {maxL : Nat} {ret : Option FieldType} {rm : Room} {as' : Array Value} {h : Heap} {Qc : Option Value → Heap → List Loc → Prop} {own : String} {index : Nat} {argsL rest st : List Value} {W n : Nat} {V : Vm} (X : Stand p l e R (s.setVm V) m args below meth c T locs cells slots) (hx : p.tables.exec = Jvm.exec) (hZ : Z.Warmed39 V) (hown : V.findClass own = some m.cls) (hS : s.Since V n) (hSn : n ≤ h.size)
    (hM : MetW l Z y bytes maxL ret [] rm as' h Qc) (wl : (Jvm.Cond.methodLink own index y).before a0 Z = true) (ws : (Jvm.Cond.static y).before a0 Z = true) (wz : (Jvm.Cond.initialized y.cls).before a0 Z = true) (wc : (Jvm.Cond.code y bytes maxL ret).before a0 Z = true) (hy : y.cls ≠ "java/lang/invoke/MethodHandle" ∧ y.cls ≠ "java/lang/invoke/VarHandle")
    (eT : T.heap = h) (hf : rm.frames + 1 ≤ R.frames) (hl : W + (maxL + 11) + rm.locals ≤ R.locals) (hc : cells + rm.cells ≤ R.cells) (hs : slots + rm.slots ≤ R.slots) (hlen : ∀ sig, parseMethodDescriptor y.desc = some sig → argsL.length = sig.parameters.length) (has : argsL.toArray = as') (hst : st = argsL.reverse ++ rest) (hW : (rest.map fun v => v.category).sum ≤ W) (hsize : Ls.size = c.maxLocals)
    (hd : decode c.code pc = .ok (.invokestatic index, 3)) (hp : pc + 3 = pc')
    (k : ∀ (v : Option Value) (T' : State) (L : List Loc), Stand p l e R (s.setVm T'.vm) m args below meth c T' (locs ++ L) (cells + rm.cells) (slots + rm.slots) → Z.Warmed39 T'.vm → T'.vm.findClass own = some m.cls → s.Since T'.vm T'.heap.size → Qc v T'.heap L → Ok p e below Fe Q T' (mkF m pc' Ls (v.toList ++ rest))) : Ok p e below Fe Q T (mkF m pc Ls st) := by
  subst hp
  have hZ' : Z.Warmed39 (s.setVm V).vm := hZ
  obtain ⟨v, _, ⟨T1, L1, k1, n1⟩, -, X1, hS1, hgr, ⟨Lc, hQ, l1, y1, z1⟩, st1⟩ := callSS X hx (y := y) hown (mvT hZ' wl) (mvT hZ' ws) (mvT hZ' wz) (mvT hZ' wc) hy (backOfS (W := W) hM hZ' wc wz hf hl) (g := mkF m pc Ls st) rfl hsize (argsL := argsL) (rest := rest) hlen hst (by show 2 * 0 + _ ≤ _; omega) hd (fun _ _ => ⟨has, eT, hc, hs⟩)
  dsimp only [Pt.U, Pt.locs, Pt.cells, Pt.slots] at X1 l1 y1 z1 st1 hQ hS1 hgr
  subst l1 y1 z1
  refine Ok.tr st1 (k v T1 Lc X1 (State.Warmed39.trans (t := s.setVm V) hZ hS1.1) (by rw [hS1.1.alike.findClass]; exact hown) (hS.trans hS1 ?_) hQ)
  rw [eT] at hgr
  exact Nat.le_trans hSn hgr
theorem Ok.initW {y : MethodName} {bytes : ByteArray} {maxL : Nat} {rm : Room} {as' : Array Value} {h : Heap} {Qc : Option Value → Heap → List Loc → Prop} {own : String} {index : Nat} {a : Addr} {argsL rest st : List Value} {W n : Nat} {V : Vm} (X : Stand p l e R (s.setVm V) m args below meth c T locs cells slots) (hx : p.tables.exec = Jvm.exec) (hZ : Z.Warmed39 V) (hown : V.findClass own = some m.cls) (hS : s.Since V n) (hSn : n ≤ h.size)
    (hM : MetW l Z y bytes maxL none [] rm as' h Qc) (hyn : y.name = "<init>") (wl : (Jvm.Cond.methodLink own index y).before a0 Z = true) (wi : (Jvm.Cond.instanceMethod y).before a0 Z = true) (wz : (Jvm.Cond.initialized y.cls).before a0 Z = true) (wc : (Jvm.Cond.code y bytes maxL none).before a0 Z = true) (hy : y.cls ≠ "java/lang/invoke/MethodHandle" ∧ y.cls ≠ "java/lang/invoke/VarHandle")
    (eT : T.heap = h) (hf : rm.frames + 1 ≤ R.frames) (hl : W + (maxL + 11) + rm.locals ≤ R.locals) (hc : cells + rm.cells ≤ R.cells) (hs : slots + rm.slots ≤ R.slots) (hlen : ∀ sig, parseMethodDescriptor y.desc = some sig → argsL.length = sig.parameters.length) (has : (.ref a :: argsL).toArray = as') (hst : st = argsL.reverse ++ .ref a :: rest) (hW : (rest.map fun v => v.category).sum ≤ W) (hsize : Ls.size = c.maxLocals)
    (hd : decode c.code pc = .ok (.invokespecial index, 3)) (hp : pc + 3 = pc')
    (k : ∀ (v : Option Value) (T' : State) (L : List Loc), Stand p l e R (s.setVm T'.vm) m args below meth c T' (locs ++ L) (cells + rm.cells) (slots + rm.slots) → Z.Warmed39 T'.vm → T'.vm.findClass own = some m.cls → s.Since T'.vm T'.heap.size → Qc v T'.heap L → Ok p e below Fe Q T' (mkF m pc' Ls (v.toList ++ rest))) : Ok p e below Fe Q T (mkF m pc Ls st) := by
  subst hp
  have hZ' : Z.Warmed39 (s.setVm V).vm := hZ
  obtain ⟨v, _, ⟨T1, L1, k1, n1⟩, -, X1, hS1, hgr, ⟨Lc, hQ, l1, y1, z1⟩, st1⟩ := X.specialBackS hx (y := y) hyn hown (mvT hZ' wl) (mvT hZ' wi) (mvT hZ' wc) hy (backOfS (W := W) hM hZ' wc wz hf hl) (g := mkF m pc Ls st) rfl hsize (Steps.refl _) (a := a) (argsL := argsL) (rest := rest) hlen hst (by show 2 * 0 + _ ≤ _; omega) hd (fun _ _ => ⟨has, eT, hc, hs⟩)
  dsimp only [Pt.U, Pt.locs, Pt.cells, Pt.slots] at X1 l1 y1 z1 st1 hQ hS1 hgr
  subst l1 y1 z1
  refine Ok.tr st1 (k v T1 Lc X1 (State.Warmed39.trans (t := s.setVm V) hZ hS1.1) (by rw [hS1.1.alike.findClass]; exact hown) (hS.trans hS1 ?_) hQ)
  rw [eT] at hgr
  exact Nat.le_trans hSn hgr
theorem Ok.virtW {y z : MethodName} {bytes : ByteArray} {maxL : Nat} {ret : Option FieldType} {rm : Room} {as' : Array Value} {h : Heap} {Qc : Option Value → Heap → List Loc → Prop} {own C : String} {index : Nat} {a : Addr} {argsL rest st : List Value} {W n : Nat} {V : Vm} (X : Stand p l e R (s.setVm V) m args below meth c T locs cells slots) (hx : p.tables.exec = Jvm.exec) (hZ : Z.Warmed39 V) (hown : V.findClass own = some m.cls) (hS : s.Since V n) (hSn : n ≤ h.size)
    (hM : MetW l Z z bytes maxL ret [] rm as' h Qc) (wl : (Jvm.Cond.methodLink own index y).before a0 Z = true) (wd : (Jvm.Cond.declares y).before a0 Z = true) (wse : (Jvm.Cond.selects C y z).before a0 Z = true) (hnf : NotFace (s.setVm V) y) (wi : (Jvm.Cond.instanceMethod z).before a0 Z = true) (wz : (Jvm.Cond.initialized z.cls).before a0 Z = true) (wc : (Jvm.Cond.code z bytes maxL ret).before a0 Z = true) (hy : y.cls ≠ "java/lang/invoke/MethodHandle" ∧ y.cls ≠ "java/lang/invoke/VarHandle")
    (eT : T.heap = h) (E : Exa Z h a C) (hf : rm.frames + 1 ≤ R.frames) (hl : W + (maxL + 11) + rm.locals ≤ R.locals) (hc : cells + rm.cells ≤ R.cells) (hs : slots + rm.slots ≤ R.slots) (hlen : ∀ sig, parseMethodDescriptor y.desc = some sig → argsL.length = sig.parameters.length) (has : (.ref a :: argsL).toArray = as') (hst : st = argsL.reverse ++ .ref a :: rest) (hW : (rest.map fun v => v.category).sum ≤ W) (hsize : Ls.size = c.maxLocals)
    (hd : decode c.code pc = .ok (.invokevirtual index, 3)) (hp : pc + 3 = pc')
    (k : ∀ (v : Option Value) (T' : State) (L : List Loc), Stand p l e R (s.setVm T'.vm) m args below meth c T' (locs ++ L) (cells + rm.cells) (slots + rm.slots) → Z.Warmed39 T'.vm → T'.vm.findClass own = some m.cls → s.Since T'.vm T'.heap.size → Qc v T'.heap L → Ok p e below Fe Q T' (mkF m pc' Ls (v.toList ++ rest))) : Ok p e below Fe Q T (mkF m pc Ls st) := by
  subst hp
  have hZ' : Z.Warmed39 (s.setVm V).vm := hZ
  obtain ⟨cq, kq, qa, qb, qc⟩ := isOf hZ' eT E
  obtain ⟨v, _, ⟨T1, L1, k1, n1⟩, -, X1, hS1, hgr, ⟨Lc, hQ, l1, y1, z1⟩, st1⟩ := X.virtualBackS hx (y := y) (z := z) hown (mvT hZ' wl) (mvT hZ' wd) hnf (mvT hZ' wse) (mvT hZ' wi) hy (backOfS (W := W) hM hZ' wc wz hf hl) qa qc (g := mkF m pc Ls st) rfl hsize (Steps.refl _) (argsL := argsL) (rest := rest) hlen hst (by show 2 * 0 + _ ≤ _; omega) hd (fun _ _ => ⟨has, eT, hc, hs⟩)
  dsimp only [Pt.U, Pt.locs, Pt.cells, Pt.slots] at X1 l1 y1 z1 st1 hQ hS1 hgr
  subst l1 y1 z1
  refine Ok.tr st1 (k v T1 Lc X1 (State.Warmed39.trans (t := s.setVm V) hZ hS1.1) (by rw [hS1.1.alike.findClass]; exact hown) (hS.trans hS1 ?_) hQ)
  rw [eT] at hgr
  exact Nat.le_trans hSn hgr
theorem Ok.faceW {y z : MethodName} {bytes : ByteArray} {maxL : Nat} {ret : Option FieldType} {rm : Room} {as' : Array Value} {h : Heap} {Qc : Option Value → Heap → List Loc → Prop} {own C : String} {index count : Nat} {a : Addr} {argsL rest st : List Value} {W n : Nat} {V : Vm} (X : Stand p l e R (s.setVm V) m args below meth c T locs cells slots) (hx : p.tables.exec = Jvm.exec) (hZ : Z.Warmed39 V) (hown : V.findClass own = some m.cls) (hS : s.Since V n) (hSn : n ≤ h.size)
    (hM : MetW l Z z bytes maxL ret [] rm as' h Qc) (wl : (Jvm.Cond.methodLink own index y).before a0 Z = true) (wd : (Jvm.Cond.declares y).before a0 Z = true) (wf : (Jvm.Cond.interfaceMethod y.cls y.cls y.name y.desc).before a0 Z = true) (hfa : ((Jvm.Cond.interfaceMethod y.cls y.cls y.name y.desc).onTables && (Jvm.Cond.interfaceMethod y.cls y.cls y.name y.desc).keepsFace) = true) (wse : (Jvm.Cond.selects C y z).before a0 Z = true) (wi : (Jvm.Cond.instanceMethod z).before a0 Z = true) (wp : (Jvm.Cond.publicMethod z).before a0 Z = true) (wu : (Jvm.Cond.unhidden C y.name y.desc).before a0 Z = true) (wk : (Jvm.Cond.castable C y.cls).before a0 Z = true) (wz : (Jvm.Cond.initialized z.cls).before a0 Z = true) (wc : (Jvm.Cond.code z bytes maxL ret).before a0 Z = true) (hy : y.cls ≠ "java/lang/invoke/MethodHandle" ∧ y.cls ≠ "java/lang/invoke/VarHandle")
    (eT : T.heap = h) (E : Exa Z h a C) (hf : rm.frames + 1 ≤ R.frames) (hl : W + (maxL + 11) + rm.locals ≤ R.locals) (hc : cells + rm.cells ≤ R.cells) (hs : slots + rm.slots ≤ R.slots) (hlen : ∀ sig, parseMethodDescriptor y.desc = some sig → argsL.length = sig.parameters.length) (has : (.ref a :: argsL).toArray = as') (hst : st = argsL.reverse ++ .ref a :: rest) (hW : (rest.map fun v => v.category).sum ≤ W) (hsize : Ls.size = c.maxLocals)
    (hd : decode c.code pc = .ok (.invokeinterface index count, 5)) (hp : pc + 5 = pc')
    (k : ∀ (v : Option Value) (T' : State) (L : List Loc), Stand p l e R (s.setVm T'.vm) m args below meth c T' (locs ++ L) (cells + rm.cells) (slots + rm.slots) → Z.Warmed39 T'.vm → T'.vm.findClass own = some m.cls → s.Since T'.vm T'.heap.size → Qc v T'.heap L → Ok p e below Fe Q T' (mkF m pc' Ls (v.toList ++ rest))) : Ok p e below Fe Q T (mkF m pc Ls st) := by
  subst hp
  have hZ' : Z.Warmed39 (s.setVm V).vm := hZ
  obtain ⟨cq, kq, qa, qb, qc⟩ := isOf hZ' eT E
  obtain ⟨v, _, ⟨T1, L1, k1, n1⟩, -, X1, hS1, hgr, ⟨Lc, hQ, l1, y1, z1⟩, st1⟩ := X.interfaceBackS hx (xi := y) (y := z) hown (mvT hZ' wl) (mvT hZ' wd) (mvT hZ' wf hfa) (mvT hZ' wse) (mvT hZ' wi) (mvT hZ' wp) (mvT hZ' wu) (mvT hZ' wk) hy (backOfS (W := W) hM hZ' wc wz hf hl) qa qb qc (g := mkF m pc Ls st) rfl hsize (Steps.refl _) (argsL := argsL) (rest := rest) hlen hst (by show 2 * 0 + _ ≤ _; omega) hd (fun _ _ => ⟨has, eT, hc, hs⟩)
  dsimp only [Pt.U, Pt.locs, Pt.cells, Pt.slots] at X1 l1 y1 z1 st1 hQ hS1 hgr
  subst l1 y1 z1
  refine Ok.tr st1 (k v T1 Lc X1 (State.Warmed39.trans (t := s.setVm V) hZ hS1.1) (by rw [hS1.1.alike.findClass]; exact hown) (hS.trans hS1 ?_) hQ)
  rw [eT] at hgr
  exact Nat.le_trans hSn hgr
theorem Ok.ldcS {own text : String} {index n N : Nat} {h : Heap} {st : List Value} {V : Vm} (X : Stand p l e R (s.setVm V) m args below meth c T locs cells slots) (hx : p.tables.exec = Jvm.exec) (hZ : Z.Warmed39 V) (hown : V.findClass own = some m.cls) (hS : s.Since V n) (hSn : n ≤ h.size) (w : (Jvm.Cond.stringLink own index text).before a0 Z = true) (wS : ∀ a ∈ Bundle.stringAtoms, a.before a0 Z = true)
    (eT : T.heap = h) (hN : 4 * text.toList.length ≤ N) (hbig : N ≤ 536870912) (hc : cells + 2 ≤ R.cells) (hl : slots + (N + 4) ≤ R.slots) (hd : decode c.code pc = .ok (.ldc index, 2)) (hp : pc + 2 = pc')
    (k : ∀ (a : Addr) (T' : State) (h' : Heap) (n' : Nat), Stand p l e R (s.setVm T'.vm) m args below meth c T' locs (cells + 2) (slots + (N + 4)) → Z.Warmed39 T'.vm → T'.vm.findClass own = some m.cls → s.Since T'.vm n' → n' ≤ h'.size → T'.heap = h' → Ext h h' → Ok p e below Fe Q T' (mkF m pc' Ls (.ref a :: st))) : Ok p e below Fe Q T (mkF m pc Ls st) := by
  subst hp
  obtain ⟨a, T1, h1, n1, X1, e1, E1, hS1, hSn1, hZ1, hown1, st1⟩ := Jvm.RoadKit.ldcS X hx hZ hown w wS eT hS hSn (g := mkF m pc Ls st) rfl hd hN hbig hc hl
  exact Ok.st st1 (k a T1 h1 n1 X1 hZ1 hown1 hS1 hSn1 e1 E1)
theorem ic_eq (x y : Int32) : (if_icmp.holds .eq x y = true ↔ x.toInt = y.toInt) ∧ (if_icmp.holds .ne x y = true ↔ ¬ x.toInt = y.toInt) ∧ (if_icmp.holds .lt x y = true ↔ x.toInt < y.toInt) ∧ (if_icmp.holds .ge x y = true ↔ y.toInt ≤ x.toInt) ∧ (if_icmp.holds .gt x y = true ↔ y.toInt < x.toInt) ∧ (if_icmp.holds .le x y = true ↔ x.toInt ≤ y.toInt) := by
  simp [if_icmp.holds, Int32.lt_iff_toInt_lt, Int32.le_iff_toInt_le, Int32.toInt_inj]
theorem bt {b : Bool} {P : Prop} (h : b = true ↔ P) (hp : P) : b = true := h.mpr hp
theorem bf {b : Bool} {P : Prop} (h : b = true ↔ P) (hp : ¬ P) : b = false := by
  cases b
  · rfl
  · exact absurd (h.mp rfl) hp
theorem i0 (cd : ClassFile.Cond) (x : Int32) {P : Prop} (h : if_icmp.holds cd x 0 = true ↔ P) : ifCond.holds cd x = true ↔ P := by rw [if0]; exact h
theorem lc_all (x y : Int64) : (ifCond.holds .eq (lcmpW x y) = true ↔ x.toInt = y.toInt) ∧ (ifCond.holds .ne (lcmpW x y) = true ↔ ¬ x.toInt = y.toInt) ∧ (ifCond.holds .lt (lcmpW x y) = true ↔ x.toInt < y.toInt) ∧ (ifCond.holds .ge (lcmpW x y) = true ↔ y.toInt ≤ x.toInt) ∧ (ifCond.holds .gt (lcmpW x y) = true ↔ y.toInt < x.toInt) ∧ (ifCond.holds .le (lcmpW x y) = true ↔ x.toInt ≤ y.toInt) := by
  have h1 := lc_lt x y
  have h2 := lc_gt x y
  have h3 := lc_eq x y
  have h4 := lc_le x y
  have h5 := lc_ge x y
  rw [← lcW] at h1 h2 h3 h4 h5
  simp only [if0, if_icmp.holds, decide_eq_true_eq, beq_iff_eq, bne_iff_ne, ne_eq, h3, GT.gt, GE.ge]
  simp only [h1, h2, h4, h5, Int64.lt_iff_toInt_lt, Int64.le_iff_toInt_le, Int64.toInt_inj]
  simp
end Layer
section Layer2
variable {p : Program} {l : Launch} {e : Env} {R : Room} {s : State} {m : MethodId} {args : Array Value} {below : List Frame} {meth : Method} {c : Code} {T T' : State} {locs : List Loc} {cells slots : Nat} {Fe : Outcome → State → List Loc → Prop} {Q : Option Value → Heap → List Loc → Prop} {pc pc' : Nat} {Ls l' : Array Slot} {g g' : JFrame} {Z : State} {a0 : Array Value} {h : Heap} {own : String} {rest st : List Value}
theorem Ok.new {C : String} {index n : Nat} (X : Stand p l e R s m args below meth c T locs cells slots) (hx : p.tables.exec = Jvm.exec) (hZ : Z.Warmed39 s.vm) (hown : s.vm.findClass own = some m.cls) (w : (Jvm.Cond.classLink own index C).before a0 Z = true) (wi : (Jvm.Cond.instantiable C n).before a0 Z = true) (wz : (Jvm.Cond.initialized C).before a0 Z = true) (eT : T.heap = h) (hd : decode c.code pc = .ok (.new index, 3)) (hp : pc + 3 = pc') (hc : cells + 1 ≤ R.cells) (hl : slots + n ≤ R.slots)
    (k : ∀ (T' : State) (h' : Heap) (a : Addr), a = h.size → Stand p l e R s m args below meth c T' locs (cells + 1) (slots + n) → T'.heap = h' → Ext h h' → Exa Z h' a C → (∀ {O nm d : String} {ty : FieldType}, Laid Z a0 C O nm d → parseFieldDescriptor d = some ty → Fld Z h' a O nm d (defaultValue ty)) → Ok p e below Fe Q T' (mkF m pc' Ls (.ref a :: st))) : Ok p e below Fe Q T (mkF m pc Ls st) := by
  subst hp
  obtain ⟨T1, h1, X1, e1, E1, A1, D1, -, st1⟩ := newO X hx hZ hown w wi wz eT (g := mkF m pc Ls st) rfl hd hc hl
  exact Ok.st st1 (k T1 h1 _ rfl X1 e1 E1 A1 D1)
theorem Ok.initO {index : Nat} {a : Addr} {W : Nat} (X : Stand p l e R s m args below meth c T locs cells slots) (hx : p.tables.exec = Jvm.exec) (hZ : Z.Warmed39 s.vm) (hown : s.vm.findClass own = some m.cls) (w1 : (Jvm.Cond.methodLink own index Lib.objectInit).before a0 Z = true) (w2 : (Jvm.Cond.instanceMethod Lib.objectInit).before a0 Z = true) (w3 : (Jvm.Cond.code Lib.objectInit ⟨#[0xb1]⟩ 1 none).before a0 Z = true) (eT : T.heap = h) (hsize : Ls.size = c.maxLocals) (hd : decode c.code pc = .ok (.invokespecial index, 3)) (hp : pc + 3 = pc') (hf : 1 ≤ R.frames) (hW : (rest.map fun v => v.category).sum ≤ W) (hl : W + 12 ≤ R.locals)
    (k : ∀ (T' : State), Stand p l e R s m args below meth c T' locs cells slots → T'.heap = h → Ok p e below Fe Q T' (mkF m pc' Ls rest)) : Ok p e below Fe Q T (mkF m pc Ls (.ref a :: rest)) := by
  subst hp
  obtain ⟨T1, X1, e1, st1⟩ := Jvm.RoadKit.initO X hx hZ hown w1 w2 w3 eT (g := mkF m pc Ls (.ref a :: rest)) rfl hsize rfl hd hf (W := W) (by show 2 * 0 + _ ≤ _; omega) hl
  exact Ok.st st1 (k T1 X1 e1)
theorem Ok.getF {R0 O n d host : String} {index : Nat} {a : Addr} {v : Value} (X : Stand p l e R s m args below meth c T locs cells slots) (hx : p.tables.exec = Jvm.exec) (hZ : Z.Warmed39 s.vm) (hown : s.vm.findClass own = some m.cls) (w : (Jvm.Cond.fieldLink own index R0 n d).before a0 Z = true ∨ (Jvm.Cond.fieldLinkNest own index R0 n d host).before a0 Z = true) (via : Via Z R0 O n d) (eT : T.heap = h) (F : Fld Z h a O n d v) (hd : decode c.code pc = .ok (.getfield index, 3)) (hp : pc + 3 = pc')
    (k : ∀ (T' : State), Stand p l e R s m args below meth c T' locs cells slots → T'.heap = h → Ok p e below Fe Q T' (mkF m pc' Ls (v :: rest))) : Ok p e below Fe Q T (mkF m pc Ls (.ref a :: rest)) := by
  subst hp
  obtain ⟨T1, X1, e1, st1⟩ := Jvm.RoadKit.getF X hx hZ hown w via eT F (g := mkF m pc Ls (.ref a :: rest)) rfl rfl hd
  exact Ok.st st1 (k T1 X1 e1)
theorem Ok.getS {R0 O n d host : String} {index : Nat} {v : Value} (X : Stand p l e R s m args below meth c T locs cells slots) (hx : p.tables.exec = Jvm.exec) (hZ : Z.Warmed39 s.vm) (hown : s.vm.findClass own = some m.cls) (w : (Jvm.Cond.fieldLink own index R0 n d).before a0 Z = true ∨ (Jvm.Cond.fieldLinkNest own index R0 n d host).before a0 Z = true) (via : Via Z R0 O n d) (eT : T.heap = h) (F : Sta Z h O n d v) (hd : decode c.code pc = .ok (.getstatic index, 3)) (hp : pc + 3 = pc')
    (k : ∀ (T' : State), Stand p l e R s m args below meth c T' locs cells slots → T'.heap = h → Ok p e below Fe Q T' (mkF m pc' Ls (v :: st))) : Ok p e below Fe Q T (mkF m pc Ls st) := by
  subst hp
  obtain ⟨T1, X1, e1, st1⟩ := Jvm.RoadKit.getS2 X hx hZ hown w via eT F (g := mkF m pc Ls st) rfl hd
  exact Ok.st st1 (k T1 X1 e1)
theorem Ok.putF {R0 O n d host C : String} {index kk : Nat} {ty : FieldType} {a : Addr} {v old : Value} (X : Stand p l e R s m args below meth c T locs cells slots) (hx : p.tables.exec = Jvm.exec) (hZ : Z.Warmed39 s.vm) (hown : s.vm.findClass own = some m.cls) (w : (Jvm.Cond.fieldLink own index R0 n d).before a0 Z = true ∨ (Jvm.Cond.fieldLinkNest own index R0 n d host).before a0 Z = true) (via : Via Z R0 O n d) (eT : T.heap = h) (F : Fld Z h a O n d old) (E : Exa Z h a C) (L : (Jvm.Cond.lays C O n d).before a0 Z = true ∨ ((Jvm.Cond.laysFinal C O n d).before a0 Z = true ∧ own = O ∧ meth.name = "<init>")) (wi : (Jvm.Cond.instantiable C kk).before a0 Z = true)
    (hty : parseFieldDescriptor d = some ty) (hn : narrow ty v = v) (hf : fits ty v = true) (hd : decode c.code pc = .ok (.putfield index, 3)) (hp : pc + 3 = pc')
    (k : ∀ (T' : State) (h' : Heap), Stand p l e R s m args below meth c T' (locs ++ [⟨a, Jvm.RoadKit.slotOf Z O n d⟩]) cells slots → T'.heap = h' → Wr h h' a (Jvm.RoadKit.slotOf Z O n d) v → Ok p e below Fe Q T' (mkF m pc' Ls rest)) : Ok p e below Fe Q T (mkF m pc Ls (v :: .ref a :: rest)) := by
  subst hp
  obtain ⟨T1, h1, X1, e1, W1, st1⟩ := Jvm.RoadKit.putF X hx hZ hown w via eT F E L wi hty hn hf (g := mkF m pc Ls (v :: .ref a :: rest)) rfl rfl hd
  exact Ok.st st1 (k T1 h1 X1 e1 W1)
theorem Ok.castY {K : String} {index : Nat} {a : Addr} (X : Stand p l e R s m args below meth c T locs cells slots) (hx : p.tables.exec = Jvm.exec) (hZ : Z.Warmed39 s.vm) (hown : s.vm.findClass own = some m.cls) (w : (Jvm.Cond.classLink own index K).before a0 Z = true) (eT : T.heap = h) (F : Ins Z h a K true) (hd : decode c.code pc = .ok (.checkcast index, 3)) (hp : pc + 3 = pc')
    (k : ∀ (T' : State), Stand p l e R s m args below meth c T' locs cells slots → T'.heap = h → Ok p e below Fe Q T' (mkF m pc' Ls (.ref a :: rest))) : Ok p e below Fe Q T (mkF m pc Ls (.ref a :: rest)) := by
  subst hp
  obtain ⟨T1, X1, e1, st1⟩ := Jvm.RoadKit.castY X hx hZ hown w eT F (g := mkF m pc Ls (.ref a :: rest)) rfl rfl hd
  exact Ok.st st1 (k T1 X1 e1)
theorem Ok.instY {K : String} {index : Nat} {a : Addr} (X : Stand p l e R s m args below meth c T locs cells slots) (hx : p.tables.exec = Jvm.exec) (hZ : Z.Warmed39 s.vm) (hown : s.vm.findClass own = some m.cls) (w : (Jvm.Cond.classLink own index K).before a0 Z = true) (eT : T.heap = h) (F : Ins Z h a K true) (hd : decode c.code pc = .ok (.instanceof index, 3)) (hp : pc + 3 = pc')
    (k : ∀ (T' : State), Stand p l e R s m args below meth c T' locs cells slots → T'.heap = h → Ok p e below Fe Q T' (mkF m pc' Ls (.int (1 : Int32) :: rest))) : Ok p e below Fe Q T (mkF m pc Ls (.ref a :: rest)) := by
  subst hp
  obtain ⟨T1, X1, e1, st1⟩ := Jvm.RoadKit.instY X hx hZ hown w eT F (g := mkF m pc Ls (.ref a :: rest)) rfl rfl hd
  exact Ok.st st1 (k T1 X1 e1)
theorem Ok.instNo {K C : String} {index : Nat} {a : Addr} (X : Stand p l e R s m args below meth c T locs cells slots) (hx : p.tables.exec = Jvm.exec) (hZ : Z.Warmed39 s.vm) (hown : s.vm.findClass own = some m.cls) (w : (Jvm.Cond.classLink own index K).before a0 Z = true) (eT : T.heap = h) (E : Exa Z h a C) (F : ∃ c t, Z.vm.findClass C = some c ∧ Z.vm.findClass K = some t ∧ Z.vm.assignable c t = false) (hd : decode c.code pc = .ok (.instanceof index, 3)) (hp : pc + 3 = pc')
    (k : ∀ (T' : State), Stand p l e R s m args below meth c T' locs cells slots → T'.heap = h → Ok p e below Fe Q T' (mkF m pc' Ls (.int (0 : Int32) :: rest))) : Ok p e below Fe Q T (mkF m pc Ls (.ref a :: rest)) := by
  subst hp
  obtain ⟨T1, X1, e1, st1⟩ := Jvm.RoadKit.instNo X hx hZ hown w eT E F (g := mkF m pc Ls (.ref a :: rest)) rfl rfl hd
  exact Ok.st st1 (k T1 X1 e1)
theorem Ok.instNull {index : Nat} (X : Stand p l e R s m args below meth c T locs cells slots) (hx : p.tables.exec = Jvm.exec) (hd : decode c.code pc = .ok (.instanceof index, 3)) (hp : pc + 3 = pc') (k : Ok p e below Fe Q T (mkF m pc' Ls (.int (0 : Int32) :: rest))) : Ok p e below Fe Q T (mkF m pc Ls (.null :: rest)) := by
  subst hp
  exact Ok.st (X.instanceofNull hx (g := mkF m pc Ls (.null :: rest)) rfl rfl hd) k
theorem Ok.newP {aty : ArrayType} {ty : FieldType} {n : Int32} {cap : Nat} (X : Stand p l e R s m args below meth c T locs cells slots) (hx : p.tables.exec = Jvm.exec) (hZ : Z.Warmed39 s.vm) (w : (Jvm.Cond.arrayClass ty).before a0 Z = true) (hty : newarray.typeOf aty = ty) (eT : T.heap = h) (hd : decode c.code pc = .ok (.newarray aty, 2)) (hp : pc + 2 = pc') (hn : ¬ n < 0) (hcap : n.toNatClampNeg ≤ cap) (hb : cap * 8 ≤ 536870912) (hc : cells + 1 ≤ R.cells) (hl : slots + cap ≤ R.slots)
    (k : ∀ (T' : State) (h' : Heap) (a : Addr) (cA : ClassId), a = h.size → Stand p l e R s m args below meth c T' locs (cells + 1) (slots + cap) → T'.heap = h' → Ext h h' → Arv Z h' a cA ty n [] (defaultValue ty) → Ok p e below Fe Q T' (mkF m pc' Ls (.ref a :: rest))) : Ok p e below Fe Q T (mkF m pc Ls (.int n :: rest)) := by
  subst hp hty
  obtain ⟨T1, h1, cA, X1, e1, E1, A1, st1⟩ := Jvm.RoadKit.newP X hx hZ w eT (g := mkF m pc Ls (.int n :: rest)) rfl hd rfl hn hcap hb hc hl
  exact Ok.st st1 (k T1 h1 _ cA rfl X1 e1 E1 (Arv.new A1 hn))
theorem Ok.stI {a : Addr} {kc : ClassId} {z j x : Int32} {vs : List Value} {dv : Value} (X : Stand p l e R s m args below meth c T locs cells slots) (hx : p.tables.exec = Jvm.exec) (hZ : Z.Warmed39 s.vm) (eT : T.heap = h) (V : Arv Z h a kc .int z vs dv) (hj : ¬ j < 0 ∧ j < z) {i : Nat} (hji : j.toNatClampNeg = i) (hi : i < vs.length) (hd : decode c.code pc = .ok (.iastore, 1)) (hp : pc + 1 = pc')
    (k : ∀ (T' : State) (h' : Heap), Stand p l e R s m args below meth c T' (locs ++ [⟨a, j.toNatClampNeg⟩]) cells slots → T'.heap = h' → Wr h h' a j.toNatClampNeg (.int x) → Arv Z h' a kc .int z (vs.set i (.int x)) dv → Ok p e below Fe Q T' (mkF m pc' Ls rest)) : Ok p e below Fe Q T (mkF m pc Ls (.int x :: .int j :: .ref a :: rest)) := by
  subst hp
  obtain ⟨cl, Ar, q, S1, N1, H1, G1⟩ := V
  obtain ⟨T1, h1, X1, e1, W1, st1⟩ := Jvm.RoadKit.stI X hx hZ eT Ar (j := j) (inb_of S1 hj) (g := mkF m pc Ls (.int x :: .int j :: .ref a :: rest)) rfl rfl hd
  exact Ok.st st1 (k T1 h1 X1 e1 W1 (Arv.set Ar q S1 N1 H1 G1 rfl W1 i hji hi))
theorem Ok.stC {a : Addr} {kc : ClassId} {z j x : Int32} {vs : List Value} {dv : Value} (X : Stand p l e R s m args below meth c T locs cells slots) (hx : p.tables.exec = Jvm.exec) (hZ : Z.Warmed39 s.vm) (eT : T.heap = h) (V : Arv Z h a kc .char z vs dv) (hj : ¬ j < 0 ∧ j < z) {i : Nat} (hji : j.toNatClampNeg = i) (hi : i < vs.length) (hd : decode c.code pc = .ok (.castore, 1)) (hp : pc + 1 = pc')
    (k : ∀ (T' : State) (h' : Heap), Stand p l e R s m args below meth c T' (locs ++ [⟨a, j.toNatClampNeg⟩]) cells slots → T'.heap = h' → Wr h h' a j.toNatClampNeg (.int (nar .char x)) → Arv Z h' a kc .char z (vs.set i (.int (nar .char x))) dv → Ok p e below Fe Q T' (mkF m pc' Ls rest)) : Ok p e below Fe Q T (mkF m pc Ls (.int x :: .int j :: .ref a :: rest)) := by
  subst hp
  obtain ⟨cl, Ar, q, S1, N1, H1, G1⟩ := V
  obtain ⟨T1, h1, X1, e1, W1, st1⟩ := Jvm.RoadKit.stC X hx hZ eT Ar (j := j) (inb_of S1 hj) (g := mkF m pc Ls (.int x :: .int j :: .ref a :: rest)) rfl rfl hd
  exact Ok.st st1 (k T1 h1 X1 e1 W1 (Arv.set Ar q S1 N1 H1 G1 (fits_nar_char _) W1 i hji hi))
theorem Ok.stB {a : Addr} {kc : ClassId} {z j x : Int32} {vs : List Value} {dv : Value} (X : Stand p l e R s m args below meth c T locs cells slots) (hx : p.tables.exec = Jvm.exec) (hZ : Z.Warmed39 s.vm) (eT : T.heap = h) (V : Arv Z h a kc .byte z vs dv) (hj : ¬ j < 0 ∧ j < z) {i : Nat} (hji : j.toNatClampNeg = i) (hi : i < vs.length) (hd : decode c.code pc = .ok (.bastore, 1)) (hp : pc + 1 = pc')
    (k : ∀ (T' : State) (h' : Heap), Stand p l e R s m args below meth c T' (locs ++ [⟨a, j.toNatClampNeg⟩]) cells slots → T'.heap = h' → Wr h h' a j.toNatClampNeg (.int x.toInt8.toInt32) → Arv Z h' a kc .byte z (vs.set i (.int x.toInt8.toInt32)) dv → Ok p e below Fe Q T' (mkF m pc' Ls rest)) : Ok p e below Fe Q T (mkF m pc Ls (.int x :: .int j :: .ref a :: rest)) := by
  subst hp
  obtain ⟨cl, Ar, q, S1, N1, H1, G1⟩ := V
  obtain ⟨T1, h1, X1, e1, W1, st1⟩ := Jvm.RoadKit.stB X hx hZ eT Ar (j := j) (inb_of S1 hj) (g := mkF m pc Ls (.int x :: .int j :: .ref a :: rest)) rfl rfl hd
  exact Ok.st st1 (k T1 h1 X1 e1 W1 (Arv.set Ar q S1 N1 H1 G1 (fits_nar_byte _) W1 i hji hi))
theorem Ok.len {a : Addr} {kc : ClassId} {ty : FieldType} {z : Int32} {vs : List Value} {dv : Value} (X : Stand p l e R s m args below meth c T locs cells slots) (hx : p.tables.exec = Jvm.exec) (hZ : Z.Warmed39 s.vm) (eT : T.heap = h) (V : Arv Z h a kc ty z vs dv) (hd : decode c.code pc = .ok (.arraylength, 1)) (hp : pc + 1 = pc') (k : Ok p e below Fe Q T (mkF m pc' Ls (.int z :: rest))) : Ok p e below Fe Q T (mkF m pc Ls (.ref a :: rest)) := by
  subst hp
  obtain ⟨cl, Ar, q, S1, N1, H1, G1⟩ := V
  refine Ok.st (X.arraylength hx (by rw [eT]; exact Ar.1) (State.isArrayOf_alike hZ.alike Ar.2.1) (g := mkF m pc Ls (.ref a :: rest)) rfl rfl hd) ?_
  rw [len_of S1 N1]
  exact k
theorem Ok.ldI {a : Addr} {kc : ClassId} {z j : Int32} {v : Value} {vs : List Value} {dv : Value} (X : Stand p l e R s m args below meth c T locs cells slots) (hx : p.tables.exec = Jvm.exec) (hZ : Z.Warmed39 s.vm) (eT : T.heap = h) (V : Arv Z h a kc .int z vs dv) (hj : ¬ j < 0 ∧ j < z) (hv : vs.getD j.toNatClampNeg dv = v) (hd : decode c.code pc = .ok (.iaload, 1)) (hp : pc + 1 = pc') (k : Ok p e below Fe Q T (mkF m pc' Ls (v :: rest))) : Ok p e below Fe Q T (mkF m pc Ls (.int j :: .ref a :: rest)) := by
  subst hp
  obtain ⟨cl, Ar, q, S1, N1, H1, G1⟩ := V
  exact Ok.st (X.iaload hx (j := j) (v := v) (by rw [eT]; exact Ar.1) (State.isArrayOf_alike hZ.alike Ar.2.1) Ar.2.2 (inb_of S1 hj) (H1.at (inb_of S1 hj) hv) (g := mkF m pc Ls (.int j :: .ref a :: rest)) rfl rfl hd) k
theorem Ok.ldB {a : Addr} {kc : ClassId} {z j : Int32} {v : Value} {vs : List Value} {dv : Value} (X : Stand p l e R s m args below meth c T locs cells slots) (hx : p.tables.exec = Jvm.exec) (hZ : Z.Warmed39 s.vm) (eT : T.heap = h) (V : Arv Z h a kc .byte z vs dv) (hj : ¬ j < 0 ∧ j < z) (hv : vs.getD j.toNatClampNeg dv = v) (hd : decode c.code pc = .ok (.baload, 1)) (hp : pc + 1 = pc') (k : Ok p e below Fe Q T (mkF m pc' Ls (v :: rest))) : Ok p e below Fe Q T (mkF m pc Ls (.int j :: .ref a :: rest)) := by
  subst hp
  obtain ⟨cl, Ar, q, S1, N1, H1, G1⟩ := V
  exact Ok.st (X.baloadBytes hx (j := j) (v := v) (by rw [eT]; exact Ar.1) (State.isArrayOf_alike hZ.alike Ar.2.1) Ar.2.2 (inb_of S1 hj) (H1.at (inb_of S1 hj) hv) (g := mkF m pc Ls (.int j :: .ref a :: rest)) rfl rfl hd) k
theorem Ok.ldC {a : Addr} {kc : ClassId} {z j : Int32} {v : Value} {vs : List Value} {dv : Value} (X : Stand p l e R s m args below meth c T locs cells slots) (hx : p.tables.exec = Jvm.exec) (hZ : Z.Warmed39 s.vm) (eT : T.heap = h) (V : Arv Z h a kc .char z vs dv) (hj : ¬ j < 0 ∧ j < z) (hv : vs.getD j.toNatClampNeg dv = v) (hd : decode c.code pc = .ok (.caload, 1)) (hp : pc + 1 = pc') (k : Ok p e below Fe Q T (mkF m pc' Ls (v :: rest))) : Ok p e below Fe Q T (mkF m pc Ls (.int j :: .ref a :: rest)) := by
  subst hp
  obtain ⟨cl, Ar, q, S1, N1, H1, G1⟩ := V
  exact Ok.st (X.caload hx (j := j) (v := v) (by rw [eT]; exact Ar.1) (State.isArrayOf_alike hZ.alike Ar.2.1) Ar.2.2 (inb_of S1 hj) (H1.at (inb_of S1 hj) hv) (g := mkF m pc Ls (.int j :: .ref a :: rest)) rfl rfl hd) k
theorem Ok.aald {a : Addr} {cl : Cell} {ty : FieldType} {j : Int32} {v : Value} (X : Stand p l e R s m args below meth c T locs cells slots) (hx : p.tables.exec = Jvm.exec) (hZ : Z.Warmed39 s.vm) (eT : T.heap = h) (A : Arr Z h a cl ty) (hty : ty.isReference = true) (hin : ¬ (j < 0 ∨ cl.slots.size ≤ j.toNatClampNeg)) (hv : cl.slots[j.toNatClampNeg]? = some v) (hd : decode c.code pc = .ok (.aaload, 1)) (hp : pc + 1 = pc') (k : Ok p e below Fe Q T (mkF m pc' Ls (v :: rest))) : Ok p e below Fe Q T (mkF m pc Ls (.int j :: .ref a :: rest)) := by
  subst hp
  exact Ok.st (X.aaload hx (j := j) (v := v) (by rw [eT]; exact A.1) (State.isArrayOf_alike hZ.alike A.2.1) hty A.2.2 hin hv (g := mkF m pc Ls (.int j :: .ref a :: rest)) rfl rfl hd) k
theorem Ok.ldcF {index : Nat} {v : UInt32} (X : Stand p l e R s m args below meth c T locs cells slots) (hx : p.tables.exec = Jvm.exec) (hZ : Z.Warmed39 s.vm) (hown : s.vm.findClass own = some m.cls) (w : (Jvm.Cond.constantFloat own index v).before a0 Z = true) (hd : decode c.code pc = .ok (.ldc index, 2)) (hp : pc + 2 = pc') (k : Ok p e below Fe Q T (mkF m pc' Ls (.float v :: st))) : Ok p e below Fe Q T (mkF m pc Ls st) := by
  subst hp
  exact Ok.st (X.ldcFloatC hx hown (mvT hZ w) (g := mkF m pc Ls st) rfl hd) k
theorem own_root {O K : String} {n : Nat} (w : (Jvm.Cond.noSuperclass O).before a0 Z = true) (wk : (Jvm.Cond.instantiable K n).before a0 Z = true) (hn : O ≠ K) : NS Z O K := by
  obtain ⟨c, k, h1, h2, h3, -, -⟩ := Cond.noSuperclass_spec w
  obtain ⟨t, k', g1, -⟩ := Cond.instantiable_spec wk
  have ne := ids_ne h1 g1 hn
  refine ⟨c, t, h1, g1, fun fuel => ?_⟩
  cases fuel with
  | zero => rfl
  | succ f => simp [Vm.isSubclassAux, ne, h2, h3]
theorem own_no {C S K : String} {n : Nat} (w : (Jvm.Cond.superclass C S).before a0 Z = true) (wk : (Jvm.Cond.instantiable K n).before a0 Z = true) (ns : NS Z C K) (hn : C ≠ K) : ∃ c t, Z.vm.findClass C = some c ∧ Z.vm.findClass K = some t ∧ Z.vm.assignable c t = false := by
  obtain ⟨c, t, h0, g0, n3⟩ := ns
  obtain ⟨p, k, kp, h1, h2, h3, h4, h5, -, h7⟩ := Cond.superclass_spec h0 w
  obtain ⟨t', k', g1, g2, g5, g7, -⟩ := Cond.instantiable_spec wk
  cases g0.symm.trans g1
  have g8 : k'.isInterface = false := by
    cases hq : k'.isInterface
    · rfl
    · rw [hq] at g7
      cases g7
  have ne := ids_ne h0 g0 hn
  refine ⟨c, t, h0, g0, ?_⟩
  show Z.vm.assignableAux (255 + 1) c t = false
  simp [Vm.assignableAux, ne, h2, g2, h5, g5, g8, Vm.isSubclass, n3]
end Layer2
theorem ofNat_toInt {n : Nat} (h : n < 2 ^ 31) : (Int32.ofNat n).toInt = n := Int32.toInt_ofNat_of_lt h
theorem ofNat_clamp {n : Nat} (h : n < 2 ^ 31) : (Int32.ofNat n).toNatClampNeg = n := by
  show (Int32.ofNat n).toInt.toNat = n
  rw [ofNat_toInt h]
  rfl
theorem ofNat_in {i n : Nat} (h : i < n) (hn : n < 2 ^ 31) : ¬ Int32.ofNat i < 0 ∧ Int32.ofNat i < Int32.ofNat n := by
  rw [Int32.lt_iff_toInt_lt, Int32.lt_iff_toInt_lt, ofNat_toInt (by omega), ofNat_toInt hn]
  simp
  omega
theorem ofNat_one (i : Nat) : Int32.ofNat (i + 1) = Int32.ofNat i + Int32.ofInt 1 := Int32.ofNat_add i 1
theorem ofNat_of {x : Int32} (h : 0 ≤ x.toInt) : x = Int32.ofNat x.toInt.toNat := by
  apply Int32.toInt_inj.mp
  have := x.toInt_lt
  rw [Int32.toInt_ofNat_of_lt (by omega)]
  omega
theorem getD_ints (l : List Int32) (i : Nat) : (l.map Value.int).getD i (.int (0 : Int32)) = .int (l.getD i 0) := by
  simp only [List.getD_eq_getElem?_getD, List.getElem?_map]
  cases l[i]? <;> rfl
def stp (h : Int64) (b : Int32) : Int64 := (h ^^^ (b &&& (255 : Int32)).toInt64) * (1099511628211 : Int64)
def us (h : Int64) : Int64 := (h.toUInt64 >>> ((32 : Int32) &&& 0x3f).toInt64.toUInt64).toInt64
def mx1 (h : Int64) : Int64 := (h ^^^ us h) * (-2960836687051489901 : Int64)
def mixv (h : Int64) : Int64 := mx1 h ^^^ us (mx1 h)
def hs (bs : List Int32) (fr : Nat) : Nat → Int64
  | 0 => (-3750763034362895579 : Int64)
  | k + 1 => stp (hs bs fr k) (bs.getD (fr + k) 0)
theorem from_nat (x : Int32) : ∃ fr : Nat, fr ≤ 8 ∧ (x &&& (2147483647 : Int32)) % (9 : Int32) = Int32.ofNat fr := by
  have h1 := Jvm.Kit.i32_mask x 2147483647 (k := 31) (by decide) (by decide)
  have h2 := Jvm.Kit.i32_rem_nonneg (x := x &&& 2147483647) (y := 9) (by rw [h1]; omega)
  have h3 : ((9 : Int32)).toInt = 9 := rfl
  rw [h3] at h2
  refine ⟨((x &&& 2147483647) % 9).toInt.toNat, by omega, ofNat_of (by omega)⟩
theorem nine_sub {fr : Nat} (h : fr ≤ 8) : ((9 : Int32) - Int32.ofNat fr).toInt = 9 - (fr : Int) := by
  have h3 : ((9 : Int32)).toInt = 9 := rfl
  have h4 := ofNat_toInt (n := fr) (by omega)
  rw [Jvm.Kit.i32_sub (by rw [h3, h4]; omega) (by rw [h3, h4]; omega), h3, h4]
theorem nine_ne {fr : Nat} (h : fr ≤ 8) : (9 : Int32) - Int32.ofNat fr ≠ 0 := fun q => by
  have h1 := nine_sub h
  rw [q] at h1
  simp at h1
  omega
theorem len_nat (x : Int32) {fr : Nat} (h : fr ≤ 8) : ∃ ln : Nat, fr + ln ≤ 8 ∧ ((x.toUInt32 >>> ((8 : Int32) &&& 31).toUInt32).toInt32) % ((9 : Int32) - Int32.ofNat fr) = Int32.ofNat ln := by
  have h0 : 0 ≤ ((x.toUInt32 >>> ((8 : Int32) &&& 31).toUInt32).toInt32) := Jvm.Kit.i32_iushr_nonneg x (k := 8) (by decide) (by decide) (by decide)
  rw [Jvm.Kit.i32_nonneg] at h0
  have h2 := Jvm.Kit.i32_rem_nonneg (x := ((x.toUInt32 >>> ((8 : Int32) &&& 31).toUInt32).toInt32)) (y := (9 : Int32) - Int32.ofNat fr) h0
  rw [nine_sub h] at h2
  have h5 := Int.emod_nonneg ((x.toUInt32 >>> ((8 : Int32) &&& 31).toUInt32).toInt32).toInt (b := 9 - (fr : Int)) (by omega)
  have h6 := Int.emod_lt_of_pos ((x.toUInt32 >>> ((8 : Int32) &&& 31).toUInt32).toInt32).toInt (b := 9 - (fr : Int)) (by omega)
  refine ⟨(((x.toUInt32 >>> ((8 : Int32) &&& 31).toUInt32).toInt32) % ((9 : Int32) - Int32.ofNat fr)).toInt.toNat, by omega, ofNat_of (by omega)⟩
theorem pd_0 : parseMethodDescriptor "(J)J" = some ⟨[.long], some .long⟩ := by decide +kernel
theorem pd_1 : parseMethodDescriptor "([BII)J" = some ⟨[(.array .byte), .int, .int], some .long⟩ := by decide +kernel
theorem pd_2 : parseMethodDescriptor "(JB)J" = some ⟨[.long, .byte], some .long⟩ := by decide +kernel
theorem Sta_keep {Z : State} {h h' : Heap} {C n d : String} {w : Value} {ws : List Addr} (F : Sta Z h C n d w) (K : Keep h h' ws) (q : ∀ x ∈ ws, ∃ k, Exa Z h x k) : Sta Z h' C n d w := by
  obtain ⟨cf, i, k, f, st, cell, h1, h2, h3, h4, h5, h6, h7⟩ := F
  refine ⟨cf, i, k, f, st, cell, h1, h2, h3, h4, K.2.1 st cell h5 fun hm => ?_, h6, h7⟩
  obtain ⟨k', c', k'', g1, -, -, g4, -⟩ := q st hm
  cases h5.symm.trans g1
  rw [h6] at g4
  cases g4
theorem d1_0 : decode method_3_code 0 = .ok (.lload_n 0, 1) := by decide +kernel
theorem d1_1 : decode method_3_code 1 = .ok (.lload_n 0, 1) := by decide +kernel
theorem d1_2 : decode method_3_code 2 = .ok (.bipush 32, 2) := by decide +kernel
theorem d1_4 : decode method_3_code 4 = .ok (.lushr, 1) := by decide +kernel
theorem d1_5 : decode method_3_code 5 = .ok (.lxor, 1) := by decide +kernel
theorem d1_6 : decode method_3_code 6 = .ok (.lstore_n 2, 1) := by decide +kernel
theorem d1_7 : decode method_3_code 7 = .ok (.lload_n 2, 1) := by decide +kernel
theorem d1_8 : decode method_3_code 8 = .ok (.ldc2_w 9, 3) := by decide +kernel
theorem d1_11 : decode method_3_code 11 = .ok (.lmul, 1) := by decide +kernel
theorem d1_12 : decode method_3_code 12 = .ok (.lstore_n 2, 1) := by decide +kernel
theorem d1_13 : decode method_3_code 13 = .ok (.lload_n 2, 1) := by decide +kernel
theorem d1_14 : decode method_3_code 14 = .ok (.lload_n 2, 1) := by decide +kernel
theorem d1_15 : decode method_3_code 15 = .ok (.bipush 32, 2) := by decide +kernel
theorem d1_17 : decode method_3_code 17 = .ok (.lushr, 1) := by decide +kernel
theorem d1_18 : decode method_3_code 18 = .ok (.lxor, 1) := by decide +kernel
theorem d1_19 : decode method_3_code 19 = .ok (.lreturn, 1) := by decide +kernel
theorem pn_0 : plainName "com/example/pricefence/pricefence/replay/SeenIdsHashPinLaw" = true := by first | (simp [plainName, overriddenIn]; done) | decide +kernel
theorem ef_1 (m : MethodId) (x0 : Int64) : entryFrame m #[(.long x0)] 4 = mkF m 0 #[.val (.long x0), .second, .unset, .unset] [] := by first | (simp [entryFrame, mkF, argsToLocals, Value.category]; done) | rfl
def Q1 (Z : State) (q1 : Int64) (h0 : Heap) (n0 : Nat) (v : Option Value) (h : Heap) (L : List Loc) : Prop := v = some (.long (mixv q1)) ∧ Fr n0 L ∧ h = h0
set_option maxRecDepth 65536 in
set_option maxHeartbeats 40000000 in
theorem rm1 (l : Launch) (Z : State) (a0 : Array Value) (hw : ∀ d ∈ tables_1, d.before a0 Z = true) (q1 : Int64) (h0 : Heap) (n0 : Nat) (Z0 : n0 ≤ h0.size)  :
    MetN l Z (⟨"com/example/pricefence/pricefence/replay/SeenIdsHashPinLaw", "mix", "(J)J"⟩ : MethodName) method_3_code 4 (some .long) [] ({ frames := 0, cells := 0, slots := 0, locals := 0 } : Room) #[(.long q1)] h0 (Q1 Z q1 h0 n0) := by
  refine met_n (plainFor_of_name pn_0) (fun m => ef_1 m q1) ?_
  intro p e s m below meth c s₁ X0 hx hby hml hZ hown hnm hret hlk e0
  replace hown : s.vm.findClass "com/example/pricefence/pricefence/replay/SeenIdsHashPinLaw" = some m.cls := hown
  replace hnm : meth.name = "mix" := hnm
  replace hret : meth.sig.returnType = (some .long) := hret
  have N0 := Fr.nil n0
  have K0 : Keep h0 h0 [] := Keep.refl _ _
  show Ok p e below _ _ s₁ (mkF m 0 #[.val (.long q1), .second, .unset, .unset] [])
  refine Ok.lloadN (pc' := 1) X0 hx (hb hby d1_0) rfl rfl ?_
  refine Ok.lloadN (pc' := 2) X0 hx (hb hby d1_1) rfl rfl ?_
  refine Ok.bipush (z := (32 : Int32)) (pc' := 4) X0 hx (hb hby d1_2) rfl rfl ?_
  refine Ok.lushr (pc' := 5) X0 hx (hb hby d1_4) rfl ?_
  refine Ok.lxor (pc' := 6) X0 hx (hb hby d1_5) rfl ?_
  refine Ok.lstoreN (l' := #[.val (.long q1), .second, .val (.long (q1 ^^^ ((q1.toUInt64 >>> ((32 : Int32) &&& 0x3f).toInt64.toUInt64).toInt64))), .second]) (pc' := 7) X0 hx (hb hby d1_6) rfl rfl ?_
  refine Ok.lloadN (pc' := 8) X0 hx (hb hby d1_7) rfl rfl ?_
  refine Ok.ldcJ (pc' := 11) (v := (-2960836687051489901 : Int64)) X0 hx hZ hown (hw _ (List.mem_of_getElem? (i := 7) rfl)) (hb hby d1_8) rfl ?_
  refine Ok.lmul (pc' := 12) X0 hx (hb hby d1_11) rfl ?_
  refine Ok.lstoreN (l' := #[.val (.long q1), .second, .val (.long ((q1 ^^^ ((q1.toUInt64 >>> ((32 : Int32) &&& 0x3f).toInt64.toUInt64).toInt64)) * (-2960836687051489901 : Int64))), .second]) (pc' := 13) X0 hx (hb hby d1_12) rfl rfl ?_
  refine Ok.lloadN (pc' := 14) X0 hx (hb hby d1_13) rfl rfl ?_
  refine Ok.lloadN (pc' := 15) X0 hx (hb hby d1_14) rfl rfl ?_
  refine Ok.bipush (z := (32 : Int32)) (pc' := 17) X0 hx (hb hby d1_15) rfl rfl ?_
  refine Ok.lushr (pc' := 18) X0 hx (hb hby d1_17) rfl ?_
  refine Ok.lxor (pc' := 19) X0 hx (hb hby d1_18) rfl ?_
  refine Ok.retJ X0 hx hret hlk (hb hby d1_19) (by decide) (by decide) ?_
  show Q1 Z q1 h0 n0 _ s₁.heap _
  rw [e0]
  exact ⟨rfl, N0, rfl⟩
theorem d3_0 : decode method_2_code 0 = .ok (.lload_n 0, 1) := by decide +kernel
theorem d3_1 : decode method_2_code 1 = .ok (.iload_n 2, 1) := by decide +kernel
theorem d3_2 : decode method_2_code 2 = .ok (.sipush 255, 3) := by decide +kernel
theorem d3_5 : decode method_2_code 5 = .ok (.iand, 1) := by decide +kernel
theorem d3_6 : decode method_2_code 6 = .ok (.i2l, 1) := by decide +kernel
theorem d3_7 : decode method_2_code 7 = .ok (.lxor, 1) := by decide +kernel
theorem d3_8 : decode method_2_code 8 = .ok (.ldc2_w 7, 3) := by decide +kernel
theorem d3_11 : decode method_2_code 11 = .ok (.lmul, 1) := by decide +kernel
theorem d3_12 : decode method_2_code 12 = .ok (.lreturn, 1) := by decide +kernel
theorem ef_3 (m : MethodId) (x0 : Int64) (x1 : Int32) : entryFrame m #[(.long x0), (.int x1)] 3 = mkF m 0 #[.val (.long x0), .second, .val (.int x1)] [] := by first | (simp [entryFrame, mkF, argsToLocals, Value.category]; done) | rfl
def Q3 (Z : State) (q1 : Int64) (q2 : Int32) (h0 : Heap) (n0 : Nat) (v : Option Value) (h : Heap) (L : List Loc) : Prop := v = some (.long (stp q1 q2)) ∧ Fr n0 L ∧ h = h0
set_option maxRecDepth 65536 in
set_option maxHeartbeats 40000000 in
theorem rm3 (l : Launch) (Z : State) (a0 : Array Value) (hw : ∀ d ∈ tables_1, d.before a0 Z = true) (q1 : Int64) (q2 : Int32) (h0 : Heap) (n0 : Nat) (Z0 : n0 ≤ h0.size)  :
    MetN l Z (⟨"com/example/pricefence/pricefence/replay/SeenIdsHashPinLaw", "step", "(JB)J"⟩ : MethodName) method_2_code 3 (some .long) [] ({ frames := 0, cells := 0, slots := 0, locals := 0 } : Room) #[(.long q1), (.int q2)] h0 (Q3 Z q1 q2 h0 n0) := by
  refine met_n (plainFor_of_name pn_0) (fun m => ef_3 m q1 q2) ?_
  intro p e s m below meth c s₁ X0 hx hby hml hZ hown hnm hret hlk e0
  replace hown : s.vm.findClass "com/example/pricefence/pricefence/replay/SeenIdsHashPinLaw" = some m.cls := hown
  replace hnm : meth.name = "step" := hnm
  replace hret : meth.sig.returnType = (some .long) := hret
  have N0 := Fr.nil n0
  have K0 : Keep h0 h0 [] := Keep.refl _ _
  show Ok p e below _ _ s₁ (mkF m 0 #[.val (.long q1), .second, .val (.int q2)] [])
  refine Ok.lloadN (pc' := 1) X0 hx (hb hby d3_0) rfl rfl ?_
  refine Ok.iloadN (pc' := 2) X0 hx (hb hby d3_1) rfl rfl ?_
  refine Ok.sipush (z := (255 : Int32)) (pc' := 5) X0 hx (hb hby d3_2) rfl rfl ?_
  refine Ok.iand (pc' := 6) X0 hx (hb hby d3_5) rfl ?_
  refine Ok.i2l (pc' := 7) X0 hx (hb hby d3_6) rfl ?_
  refine Ok.lxor (pc' := 8) X0 hx (hb hby d3_7) rfl ?_
  refine Ok.ldcJ (pc' := 11) (v := (1099511628211 : Int64)) X0 hx hZ hown (hw _ (List.mem_of_getElem? (i := 17) rfl)) (hb hby d3_8) rfl ?_
  refine Ok.lmul (pc' := 12) X0 hx (hb hby d3_11) rfl ?_
  refine Ok.retJ X0 hx hret hlk (hb hby d3_12) (by decide) (by decide) ?_
  show Q3 Z q1 q2 h0 n0 _ s₁.heap _
  rw [e0]
  exact ⟨rfl, N0, rfl⟩
theorem d2_0 : decode prog_61_method_18_code 0 = .ok (.ldc2_w 157, 3) := by decide +kernel
theorem d2_3 : decode prog_61_method_18_code 3 = .ok (.lstore_n 3, 1) := by decide +kernel
theorem d2_4 : decode prog_61_method_18_code 4 = .ok (.iload_n 1, 1) := by decide +kernel
theorem d2_5 : decode prog_61_method_18_code 5 = .ok (.istore 5, 2) := by decide +kernel
theorem d2_7 : decode prog_61_method_18_code 7 = .ok (.iload 5, 2) := by decide +kernel
theorem d2_9 : decode prog_61_method_18_code 9 = .ok (.iload_n 2, 1) := by decide +kernel
theorem d2_10 : decode prog_61_method_18_code 10 = .ok (.if_icmp .ge 25, 3) := by decide +kernel
theorem d2_13 : decode prog_61_method_18_code 13 = .ok (.lload_n 3, 1) := by decide +kernel
theorem d2_14 : decode prog_61_method_18_code 14 = .ok (.aload_n 0, 1) := by decide +kernel
theorem d2_15 : decode prog_61_method_18_code 15 = .ok (.iload 5, 2) := by decide +kernel
theorem d2_17 : decode prog_61_method_18_code 17 = .ok (.baload, 1) := by decide +kernel
theorem d2_18 : decode prog_61_method_18_code 18 = .ok (.sipush 255, 3) := by decide +kernel
theorem d2_21 : decode prog_61_method_18_code 21 = .ok (.iand, 1) := by decide +kernel
theorem d2_22 : decode prog_61_method_18_code 22 = .ok (.i2l, 1) := by decide +kernel
theorem d2_23 : decode prog_61_method_18_code 23 = .ok (.lxor, 1) := by decide +kernel
theorem d2_24 : decode prog_61_method_18_code 24 = .ok (.ldc2_w 159, 3) := by decide +kernel
theorem d2_27 : decode prog_61_method_18_code 27 = .ok (.lmul, 1) := by decide +kernel
theorem d2_28 : decode prog_61_method_18_code 28 = .ok (.lstore_n 3, 1) := by decide +kernel
theorem d2_29 : decode prog_61_method_18_code 29 = .ok (.iinc 5 1, 3) := by decide +kernel
theorem d2_32 : decode prog_61_method_18_code 32 = .ok (.goto (-25), 3) := by decide +kernel
theorem d2_35 : decode prog_61_method_18_code 35 = .ok (.lload_n 3, 1) := by decide +kernel
theorem d2_36 : decode prog_61_method_18_code 36 = .ok (.lload_n 3, 1) := by decide +kernel
theorem d2_37 : decode prog_61_method_18_code 37 = .ok (.bipush 32, 2) := by decide +kernel
theorem d2_39 : decode prog_61_method_18_code 39 = .ok (.lushr, 1) := by decide +kernel
theorem d2_40 : decode prog_61_method_18_code 40 = .ok (.lxor, 1) := by decide +kernel
theorem d2_41 : decode prog_61_method_18_code 41 = .ok (.lstore_n 3, 1) := by decide +kernel
theorem d2_42 : decode prog_61_method_18_code 42 = .ok (.lload_n 3, 1) := by decide +kernel
theorem d2_43 : decode prog_61_method_18_code 43 = .ok (.ldc2_w 161, 3) := by decide +kernel
theorem d2_46 : decode prog_61_method_18_code 46 = .ok (.lmul, 1) := by decide +kernel
theorem d2_47 : decode prog_61_method_18_code 47 = .ok (.lstore_n 3, 1) := by decide +kernel
theorem d2_48 : decode prog_61_method_18_code 48 = .ok (.lload_n 3, 1) := by decide +kernel
theorem d2_49 : decode prog_61_method_18_code 49 = .ok (.lload_n 3, 1) := by decide +kernel
theorem d2_50 : decode prog_61_method_18_code 50 = .ok (.bipush 32, 2) := by decide +kernel
theorem d2_52 : decode prog_61_method_18_code 52 = .ok (.lushr, 1) := by decide +kernel
theorem d2_53 : decode prog_61_method_18_code 53 = .ok (.lxor, 1) := by decide +kernel
theorem d2_54 : decode prog_61_method_18_code 54 = .ok (.lstore_n 3, 1) := by decide +kernel
theorem d2_55 : decode prog_61_method_18_code 55 = .ok (.lload_n 3, 1) := by decide +kernel
theorem d2_56 : decode prog_61_method_18_code 56 = .ok (.lreturn, 1) := by decide +kernel
theorem pn_1 : plainName "com/example/pricefence/pricefence/replay/SeenIds" = true := by first | (simp [plainName, overriddenIn]; done) | decide +kernel
theorem ef_2 (m : MethodId) (x0 : Addr) (x1 : Int32) (x2 : Int32) : entryFrame m #[(.ref x0), (.int x1), (.int x2)] 6 = mkF m 0 #[.val (.ref x0), .val (.int x1), .val (.int x2), .unset, .unset, .unset] [] := by first | (simp [entryFrame, mkF, argsToLocals, Value.category]; done) | rfl
def Q2 (Z : State) (a1 : Addr) (kc : ClassId) (bs : List Int32) (fr : Nat) (nn : Nat) (h0 : Heap) (n0 : Nat) (v : Option Value) (h : Heap) (L : List Loc) : Prop := v = some (.long (mixv (hs bs fr nn))) ∧ Fr n0 L ∧ h = h0
set_option maxRecDepth 65536 in
set_option maxHeartbeats 40000000 in
theorem rm2 (l : Launch) (Z : State) (a0 : Array Value) (hw : ∀ d ∈ tables_1, d.before a0 Z = true) (a1 : Addr) (kc : ClassId) (bs : List Int32) (fr : Nat) (nn : Nat) (h0 : Heap) (n0 : Nat) (Z0 : n0 ≤ h0.size) (V_1 : Arv Z h0 a1 kc .byte (8 : Int32) (bs.map Value.int) (.int (0 : Int32))) (hle : fr + nn ≤ 8) :
    MetN l Z (⟨"com/example/pricefence/pricefence/replay/SeenIds", "hash", "([BII)J"⟩ : MethodName) prog_61_method_18_code 6 (some .long) [] ({ frames := 0, cells := 0, slots := 0, locals := 0 } : Room) #[(.ref a1), (.int (Int32.ofNat fr)), (.int (Int32.ofNat (fr + nn)))] h0 (Q2 Z a1 kc bs fr nn h0 n0) := by
  refine met_n (plainFor_of_name pn_1) (fun m => ef_2 m a1 (Int32.ofNat fr) (Int32.ofNat (fr + nn))) ?_
  intro p e s m below meth c s₁ X0 hx hby hml hZ hown hnm hret hlk e0
  replace hown : s.vm.findClass "com/example/pricefence/pricefence/replay/SeenIds" = some m.cls := hown
  replace hnm : meth.name = "hash" := hnm
  replace hret : meth.sig.returnType = (some .long) := hret
  have N0 := Fr.nil n0
  have K0 : Keep h0 h0 [] := Keep.refl _ _
  show Ok p e below _ _ s₁ (mkF m 0 #[.val (.ref a1), .val (.int (Int32.ofNat fr)), .val (.int (Int32.ofNat (fr + nn))), .unset, .unset, .unset] [])
  refine Ok.ldcJ (pc' := 3) (v := (-3750763034362895579 : Int64)) X0 hx hZ hown (hw _ (List.mem_of_getElem? (i := 12) rfl)) (hb hby d2_0) rfl ?_
  refine Ok.lstoreN (l' := #[.val (.ref a1), .val (.int (Int32.ofNat fr)), .val (.int (Int32.ofNat (fr + nn))), .val (.long (-3750763034362895579 : Int64)), .second, .unset]) (pc' := 4) X0 hx (hb hby d2_3) rfl rfl ?_
  refine Ok.iloadN (pc' := 5) X0 hx (hb hby d2_4) rfl rfl ?_
  refine Ok.istore (l' := #[.val (.ref a1), .val (.int (Int32.ofNat fr)), .val (.int (Int32.ofNat (fr + nn))), .val (.long (-3750763034362895579 : Int64)), .second, .val (.int (Int32.ofNat fr))]) (pc' := 7) X0 hx (hb hby d2_5) rfl rfl ?_
  have hto := ofNat_toInt (n := fr + nn) (by omega)
  have loop : ∀ (k j : Nat), j + k = nn → Ok p e below (NE s ({ frames := 0, cells := 0, slots := 0, locals := 0 } : Room).cells ({ frames := 0, cells := 0, slots := 0, locals := 0 } : Room).slots) (Q2 Z a1 kc bs fr nn h0 n0) s₁ (mkF m 7 #[.val (.ref a1), .val (.int (Int32.ofNat fr)), .val (.int (Int32.ofNat (fr + nn))), .val (.long (hs bs fr j)), .second, .val (.int (Int32.ofNat (fr + j)))] []) := by
    intro k
    induction k with
    | zero =>
      intro j hj
      have hjn := ofNat_toInt (n := fr + j) (by omega)
      refine Ok.iload (pc' := 9) X0 hx (hb hby d2_7) rfl rfl ?_
      refine Ok.iloadN (pc' := 10) X0 hx (hb hby d2_9) rfl rfl ?_
      refine Ok.icY (pc' := 35) X0 hx (hb hby d2_10) (bt (ic_eq (Int32.ofNat (fr + j)) (Int32.ofNat (fr + nn))).2.2.2.1 (by omega)) (by decide) (by decide) ?_
      refine Ok.lloadN (pc' := 36) X0 hx (hb hby d2_35) rfl rfl ?_
      refine Ok.lloadN (pc' := 37) X0 hx (hb hby d2_36) rfl rfl ?_
      refine Ok.bipush (z := (32 : Int32)) (pc' := 39) X0 hx (hb hby d2_37) rfl rfl ?_
      refine Ok.lushr (pc' := 40) X0 hx (hb hby d2_39) rfl ?_
      refine Ok.lxor (pc' := 41) X0 hx (hb hby d2_40) rfl ?_
      refine Ok.lstoreN (l' := #[.val (.ref a1), .val (.int (Int32.ofNat fr)), .val (.int (Int32.ofNat (fr + nn))), .val (.long ((hs bs fr j) ^^^ (((hs bs fr j).toUInt64 >>> ((32 : Int32) &&& 0x3f).toInt64.toUInt64).toInt64))), .second, .val (.int (Int32.ofNat (fr + j)))]) (pc' := 42) X0 hx (hb hby d2_41) rfl rfl ?_
      refine Ok.lloadN (pc' := 43) X0 hx (hb hby d2_42) rfl rfl ?_
      refine Ok.ldcJ (pc' := 46) (v := (-2960836687051489901 : Int64)) X0 hx hZ hown (hw _ (List.mem_of_getElem? (i := 13) rfl)) (hb hby d2_43) rfl ?_
      refine Ok.lmul (pc' := 47) X0 hx (hb hby d2_46) rfl ?_
      refine Ok.lstoreN (l' := #[.val (.ref a1), .val (.int (Int32.ofNat fr)), .val (.int (Int32.ofNat (fr + nn))), .val (.long (((hs bs fr j) ^^^ (((hs bs fr j).toUInt64 >>> ((32 : Int32) &&& 0x3f).toInt64.toUInt64).toInt64)) * (-2960836687051489901 : Int64))), .second, .val (.int (Int32.ofNat (fr + j)))]) (pc' := 48) X0 hx (hb hby d2_47) rfl rfl ?_
      refine Ok.lloadN (pc' := 49) X0 hx (hb hby d2_48) rfl rfl ?_
      refine Ok.lloadN (pc' := 50) X0 hx (hb hby d2_49) rfl rfl ?_
      refine Ok.bipush (z := (32 : Int32)) (pc' := 52) X0 hx (hb hby d2_50) rfl rfl ?_
      refine Ok.lushr (pc' := 53) X0 hx (hb hby d2_52) rfl ?_
      refine Ok.lxor (pc' := 54) X0 hx (hb hby d2_53) rfl ?_
      refine Ok.lstoreN (l' := #[.val (.ref a1), .val (.int (Int32.ofNat fr)), .val (.int (Int32.ofNat (fr + nn))), .val (.long ((((hs bs fr j) ^^^ (((hs bs fr j).toUInt64 >>> ((32 : Int32) &&& 0x3f).toInt64.toUInt64).toInt64)) * (-2960836687051489901 : Int64)) ^^^ (((((hs bs fr j) ^^^ (((hs bs fr j).toUInt64 >>> ((32 : Int32) &&& 0x3f).toInt64.toUInt64).toInt64)) * (-2960836687051489901 : Int64)).toUInt64 >>> ((32 : Int32) &&& 0x3f).toInt64.toUInt64).toInt64))), .second, .val (.int (Int32.ofNat (fr + j)))]) (pc' := 55) X0 hx (hb hby d2_54) rfl rfl ?_
      refine Ok.lloadN (pc' := 56) X0 hx (hb hby d2_55) rfl rfl ?_
      refine Ok.retJ X0 hx hret hlk (hb hby d2_56) (by decide) (by decide) ?_
      show Q2 Z a1 kc bs fr nn h0 n0 _ s₁.heap _
      rw [e0]
      exact ⟨by rw [show nn = j from by omega]; rfl, N0, rfl⟩
    | succ k ih =>
      intro j hj
      have hjn := ofNat_toInt (n := fr + j) (by omega)
      refine Ok.iload (pc' := 9) X0 hx (hb hby d2_7) rfl rfl ?_
      refine Ok.iloadN (pc' := 10) X0 hx (hb hby d2_9) rfl rfl ?_
      refine Ok.icN (pc' := 13) X0 hx (hb hby d2_10) (bf (ic_eq (Int32.ofNat (fr + j)) (Int32.ofNat (fr + nn))).2.2.2.1 (by omega)) rfl ?_
      refine Ok.lloadN (pc' := 14) X0 hx (hb hby d2_13) rfl rfl ?_
      refine Ok.aloadN (pc' := 15) X0 hx (hb hby d2_14) rfl rfl rfl ?_
      refine Ok.iload (pc' := 17) X0 hx (hb hby d2_15) rfl rfl ?_
      refine Ok.ldB (pc' := 18) (v := (.int (bs.getD (fr + j) 0))) X0 hx hZ e0 V_1 (ofNat_in (n := 8) (by omega) (by omega)) (by rw [ofNat_clamp (by omega)]; exact getD_ints bs (fr + j)) (hb hby d2_17) rfl ?_
      refine Ok.sipush (z := (255 : Int32)) (pc' := 21) X0 hx (hb hby d2_18) rfl rfl ?_
      refine Ok.iand (pc' := 22) X0 hx (hb hby d2_21) rfl ?_
      refine Ok.i2l (pc' := 23) X0 hx (hb hby d2_22) rfl ?_
      refine Ok.lxor (pc' := 24) X0 hx (hb hby d2_23) rfl ?_
      refine Ok.ldcJ (pc' := 27) (v := (1099511628211 : Int64)) X0 hx hZ hown (hw _ (List.mem_of_getElem? (i := 18) rfl)) (hb hby d2_24) rfl ?_
      refine Ok.lmul (pc' := 28) X0 hx (hb hby d2_27) rfl ?_
      refine Ok.lstoreN (l' := #[.val (.ref a1), .val (.int (Int32.ofNat fr)), .val (.int (Int32.ofNat (fr + nn))), .val (.long (((hs bs fr j) ^^^ ((bs.getD (fr + j) 0) &&& (255 : Int32)).toInt64) * (1099511628211 : Int64))), .second, .val (.int (Int32.ofNat (fr + j)))]) (pc' := 29) X0 hx (hb hby d2_28) rfl rfl ?_
      refine Ok.iinc (z := (Int32.ofNat (fr + (j + 1)))) (l' := #[.val (.ref a1), .val (.int (Int32.ofNat fr)), .val (.int (Int32.ofNat (fr + nn))), .val (.long (((hs bs fr j) ^^^ ((bs.getD (fr + j) 0) &&& (255 : Int32)).toInt64) * (1099511628211 : Int64))), .second, .val (.int (Int32.ofNat (fr + (j + 1))))]) (pc' := 32) X0 hx (hb hby d2_29) rfl rfl (ofNat_one (fr + j)) rfl ?_
      refine Ok.goto (pc' := 7) X0 hx (hb hby d2_32) (by decide) (by decide) ?_
      exact ih (j + 1) (by omega)
  exact loop nn 0 (by omega)
theorem ef_0 (m : MethodId) (x0 : Int64) (x1 : Int32) : entryFrame m #[(.long x0), (.int x1)] maxLocals = mkF m 0 #[.val (.long x0), .second, .val (.int x1), .unset, .unset, .unset, .unset, .unset, .unset, .unset, .unset] [] := by first | (simp [entryFrame, mkF, argsToLocals, Value.category, maxLocals]; done) | rfl
def Q0 (Z : State) (p1 : Int64) (p2 : Int32) (h0 : Heap) (n0 : Nat) (v : Option Value) (h : Heap) (L : List Loc) : Prop := v = some (.int (1 : Int32)) ∧ Fr n0 L
set_option maxRecDepth 65536 in
set_option maxHeartbeats 40000000 in
theorem rm0 (l : Launch) (Z : State) (a0 : Array Value) (hw : ∀ d ∈ tables_1, d.before a0 Z = true) (ws : List Jvm.Cond) (p1 : Int64) (p2 : Int32) (h0 : Heap) (n0 : Nat) (Z0 : n0 ≤ h0.size)  :
    MetN l Z x code maxLocals ret ws room_1 #[(.long p1), (.int p2)] h0 (Q0 Z p1 p2 h0 n0) := by
  refine met_n (plainFor_of_name pn_0) (fun m => ef_0 m p1 p2) ?_
  intro p e s m below meth c s₁ X0 hx hby hml hZ hown hnm hret hlk e0
  replace hown : s.vm.findClass "com/example/pricefence/pricefence/replay/SeenIdsHashPinLaw" = some m.cls := hown
  replace hnm : meth.name = "law" := hnm
  replace hret : meth.sig.returnType = (some .boolean) := hret
  have N0 := Fr.nil n0
  have K0 : Keep h0 h0 [] := Keep.refl _ _
  show Ok p e below _ _ s₁ (mkF m 0 #[.val (.long p1), .second, .val (.int p2), .unset, .unset, .unset, .unset, .unset, .unset, .unset, .unset] [])
  refine Ok.bipush (z := (8 : Int32)) (pc' := 2) X0 hx (hb hby at_0) rfl rfl ?_
  refine Ok.newP (pc' := 4) (cap := 8) X0 hx hZ (hw _ (List.mem_of_getElem? (i := 0) rfl)) rfl e0 (hb hby at_2) rfl (by decide) (by decide) (by decide) (by decide) (by decide) ?_
  intro T1 h1 b1 kc1 g1 X1 e1 E1 V1
  have ge_b1 : n0 ≤ b1 := Nat.le_trans Z0 (Nat.le_of_eq g1.symm)
  have sz_b1 : h0.size ≤ b1 := Nat.le_trans K0.1 (Nat.le_of_eq g1.symm)
  have K1 : Keep h0 h1 [] := K0.ext E1
  have Z2 : n0 ≤ h1.size := Nat.le_trans Z0 E1.1
  replace V1 : Arv Z h1 b1 kc1 .byte (8 : Int32) [(.int (0 : Int32)), (.int (0 : Int32)), (.int (0 : Int32)), (.int (0 : Int32)), (.int (0 : Int32)), (.int (0 : Int32)), (.int (0 : Int32)), (.int (0 : Int32))] (.int (0 : Int32)) := V1.pad (pad_rep [] (.int (0 : Int32)) 8)
  show Ok p e below _ _ T1 (mkF m 4 #[.val (.long p1), .second, .val (.int p2), .unset, .unset, .unset, .unset, .unset, .unset, .unset, .unset] [(.ref b1)])
  refine Ok.astoreN (l' := #[.val (.long p1), .second, .val (.int p2), .val (.ref b1), .unset, .unset, .unset, .unset, .unset, .unset, .unset]) (pc' := 5) X1 hx (hb hby at_4) rfl rfl rfl ?_
  refine Ok.aloadN (pc' := 6) X1 hx (hb hby at_5) rfl rfl rfl ?_
  refine Ok.iconst (z := (0 : Int32)) (pc' := 7) X1 hx (hb hby at_6) rfl rfl ?_
  refine Ok.lloadN (pc' := 8) X1 hx (hb hby at_7) rfl rfl ?_
  refine Ok.l2i (pc' := 9) X1 hx (hb hby at_8) rfl ?_
  refine Ok.i2b (pc' := 10) X1 hx (hb hby at_9) rfl ?_
  refine Ok.stB (pc' := 11) (i := 0) X1 hx hZ e1 V1 ⟨by decide, by decide⟩ rfl (Nat.le_of_ble_eq_true rfl) (hb hby at_10) rfl ?_
  intro T3 h3 X3 e3 W3 V3
  replace V3 : Arv Z h3 b1 kc1 .byte (8 : Int32) [(.int p1.toInt32.toInt8.toInt32.toInt8.toInt32), (.int (0 : Int32)), (.int (0 : Int32)), (.int (0 : Int32)), (.int (0 : Int32)), (.int (0 : Int32)), (.int (0 : Int32)), (.int (0 : Int32))] (.int (0 : Int32)) := V3
  have N3 := Fr.snoc X3 N0 ge_b1
  have K3 : Keep h0 h3 [] := K1.wr W3 (Or.inr sz_b1)
  have Z4 : n0 ≤ h3.size := Nat.le_trans Z2 (Keep.of_wr W3).1
  refine Ok.aloadN (pc' := 12) X3 hx (hb hby at_11) rfl rfl rfl ?_
  refine Ok.iconst (z := (1 : Int32)) (pc' := 13) X3 hx (hb hby at_12) rfl rfl ?_
  refine Ok.lloadN (pc' := 14) X3 hx (hb hby at_13) rfl rfl ?_
  refine Ok.bipush (z := (8 : Int32)) (pc' := 16) X3 hx (hb hby at_14) rfl rfl ?_
  refine Ok.lushr (pc' := 17) X3 hx (hb hby at_16) rfl ?_
  refine Ok.l2i (pc' := 18) X3 hx (hb hby at_17) rfl ?_
  refine Ok.i2b (pc' := 19) X3 hx (hb hby at_18) rfl ?_
  refine Ok.stB (pc' := 20) (i := 1) X3 hx hZ e3 V3 ⟨by decide, by decide⟩ rfl (Nat.le_of_ble_eq_true rfl) (hb hby at_19) rfl ?_
  intro T5 h5 X5 e5 W5 V5
  replace V5 : Arv Z h5 b1 kc1 .byte (8 : Int32) [(.int p1.toInt32.toInt8.toInt32.toInt8.toInt32), (.int ((p1.toUInt64 >>> ((8 : Int32) &&& 0x3f).toInt64.toUInt64).toInt64).toInt32.toInt8.toInt32.toInt8.toInt32), (.int (0 : Int32)), (.int (0 : Int32)), (.int (0 : Int32)), (.int (0 : Int32)), (.int (0 : Int32)), (.int (0 : Int32))] (.int (0 : Int32)) := V5
  have N5 := Fr.snoc X5 N3 ge_b1
  have K5 : Keep h0 h5 [] := K3.wr W5 (Or.inr sz_b1)
  have Z6 : n0 ≤ h5.size := Nat.le_trans Z4 (Keep.of_wr W5).1
  refine Ok.aloadN (pc' := 21) X5 hx (hb hby at_20) rfl rfl rfl ?_
  refine Ok.iconst (z := (2 : Int32)) (pc' := 22) X5 hx (hb hby at_21) rfl rfl ?_
  refine Ok.lloadN (pc' := 23) X5 hx (hb hby at_22) rfl rfl ?_
  refine Ok.bipush (z := (16 : Int32)) (pc' := 25) X5 hx (hb hby at_23) rfl rfl ?_
  refine Ok.lushr (pc' := 26) X5 hx (hb hby at_25) rfl ?_
  refine Ok.l2i (pc' := 27) X5 hx (hb hby at_26) rfl ?_
  refine Ok.i2b (pc' := 28) X5 hx (hb hby at_27) rfl ?_
  refine Ok.stB (pc' := 29) (i := 2) X5 hx hZ e5 V5 ⟨by decide, by decide⟩ rfl (Nat.le_of_ble_eq_true rfl) (hb hby at_28) rfl ?_
  intro T7 h7 X7 e7 W7 V7
  replace V7 : Arv Z h7 b1 kc1 .byte (8 : Int32) [(.int p1.toInt32.toInt8.toInt32.toInt8.toInt32), (.int ((p1.toUInt64 >>> ((8 : Int32) &&& 0x3f).toInt64.toUInt64).toInt64).toInt32.toInt8.toInt32.toInt8.toInt32), (.int ((p1.toUInt64 >>> ((16 : Int32) &&& 0x3f).toInt64.toUInt64).toInt64).toInt32.toInt8.toInt32.toInt8.toInt32), (.int (0 : Int32)), (.int (0 : Int32)), (.int (0 : Int32)), (.int (0 : Int32)), (.int (0 : Int32))] (.int (0 : Int32)) := V7
  have N7 := Fr.snoc X7 N5 ge_b1
  have K7 : Keep h0 h7 [] := K5.wr W7 (Or.inr sz_b1)
  have Z8 : n0 ≤ h7.size := Nat.le_trans Z6 (Keep.of_wr W7).1
  refine Ok.aloadN (pc' := 30) X7 hx (hb hby at_29) rfl rfl rfl ?_
  refine Ok.iconst (z := (3 : Int32)) (pc' := 31) X7 hx (hb hby at_30) rfl rfl ?_
  refine Ok.lloadN (pc' := 32) X7 hx (hb hby at_31) rfl rfl ?_
  refine Ok.bipush (z := (24 : Int32)) (pc' := 34) X7 hx (hb hby at_32) rfl rfl ?_
  refine Ok.lushr (pc' := 35) X7 hx (hb hby at_34) rfl ?_
  refine Ok.l2i (pc' := 36) X7 hx (hb hby at_35) rfl ?_
  refine Ok.i2b (pc' := 37) X7 hx (hb hby at_36) rfl ?_
  refine Ok.stB (pc' := 38) (i := 3) X7 hx hZ e7 V7 ⟨by decide, by decide⟩ rfl (Nat.le_of_ble_eq_true rfl) (hb hby at_37) rfl ?_
  intro T9 h9 X9 e9 W9 V9
  replace V9 : Arv Z h9 b1 kc1 .byte (8 : Int32) [(.int p1.toInt32.toInt8.toInt32.toInt8.toInt32), (.int ((p1.toUInt64 >>> ((8 : Int32) &&& 0x3f).toInt64.toUInt64).toInt64).toInt32.toInt8.toInt32.toInt8.toInt32), (.int ((p1.toUInt64 >>> ((16 : Int32) &&& 0x3f).toInt64.toUInt64).toInt64).toInt32.toInt8.toInt32.toInt8.toInt32), (.int ((p1.toUInt64 >>> ((24 : Int32) &&& 0x3f).toInt64.toUInt64).toInt64).toInt32.toInt8.toInt32.toInt8.toInt32), (.int (0 : Int32)), (.int (0 : Int32)), (.int (0 : Int32)), (.int (0 : Int32))] (.int (0 : Int32)) := V9
  have N9 := Fr.snoc X9 N7 ge_b1
  have K9 : Keep h0 h9 [] := K7.wr W9 (Or.inr sz_b1)
  have Z10 : n0 ≤ h9.size := Nat.le_trans Z8 (Keep.of_wr W9).1
  refine Ok.aloadN (pc' := 39) X9 hx (hb hby at_38) rfl rfl rfl ?_
  refine Ok.iconst (z := (4 : Int32)) (pc' := 40) X9 hx (hb hby at_39) rfl rfl ?_
  refine Ok.lloadN (pc' := 41) X9 hx (hb hby at_40) rfl rfl ?_
  refine Ok.bipush (z := (32 : Int32)) (pc' := 43) X9 hx (hb hby at_41) rfl rfl ?_
  refine Ok.lushr (pc' := 44) X9 hx (hb hby at_43) rfl ?_
  refine Ok.l2i (pc' := 45) X9 hx (hb hby at_44) rfl ?_
  refine Ok.i2b (pc' := 46) X9 hx (hb hby at_45) rfl ?_
  refine Ok.stB (pc' := 47) (i := 4) X9 hx hZ e9 V9 ⟨by decide, by decide⟩ rfl (Nat.le_of_ble_eq_true rfl) (hb hby at_46) rfl ?_
  intro T11 h11 X11 e11 W11 V11
  replace V11 : Arv Z h11 b1 kc1 .byte (8 : Int32) [(.int p1.toInt32.toInt8.toInt32.toInt8.toInt32), (.int ((p1.toUInt64 >>> ((8 : Int32) &&& 0x3f).toInt64.toUInt64).toInt64).toInt32.toInt8.toInt32.toInt8.toInt32), (.int ((p1.toUInt64 >>> ((16 : Int32) &&& 0x3f).toInt64.toUInt64).toInt64).toInt32.toInt8.toInt32.toInt8.toInt32), (.int ((p1.toUInt64 >>> ((24 : Int32) &&& 0x3f).toInt64.toUInt64).toInt64).toInt32.toInt8.toInt32.toInt8.toInt32), (.int ((p1.toUInt64 >>> ((32 : Int32) &&& 0x3f).toInt64.toUInt64).toInt64).toInt32.toInt8.toInt32.toInt8.toInt32), (.int (0 : Int32)), (.int (0 : Int32)), (.int (0 : Int32))] (.int (0 : Int32)) := V11
  have N11 := Fr.snoc X11 N9 ge_b1
  have K11 : Keep h0 h11 [] := K9.wr W11 (Or.inr sz_b1)
  have Z12 : n0 ≤ h11.size := Nat.le_trans Z10 (Keep.of_wr W11).1
  refine Ok.aloadN (pc' := 48) X11 hx (hb hby at_47) rfl rfl rfl ?_
  refine Ok.iconst (z := (5 : Int32)) (pc' := 49) X11 hx (hb hby at_48) rfl rfl ?_
  refine Ok.lloadN (pc' := 50) X11 hx (hb hby at_49) rfl rfl ?_
  refine Ok.bipush (z := (40 : Int32)) (pc' := 52) X11 hx (hb hby at_50) rfl rfl ?_
  refine Ok.lushr (pc' := 53) X11 hx (hb hby at_52) rfl ?_
  refine Ok.l2i (pc' := 54) X11 hx (hb hby at_53) rfl ?_
  refine Ok.i2b (pc' := 55) X11 hx (hb hby at_54) rfl ?_
  refine Ok.stB (pc' := 56) (i := 5) X11 hx hZ e11 V11 ⟨by decide, by decide⟩ rfl (Nat.le_of_ble_eq_true rfl) (hb hby at_55) rfl ?_
  intro T13 h13 X13 e13 W13 V13
  replace V13 : Arv Z h13 b1 kc1 .byte (8 : Int32) [(.int p1.toInt32.toInt8.toInt32.toInt8.toInt32), (.int ((p1.toUInt64 >>> ((8 : Int32) &&& 0x3f).toInt64.toUInt64).toInt64).toInt32.toInt8.toInt32.toInt8.toInt32), (.int ((p1.toUInt64 >>> ((16 : Int32) &&& 0x3f).toInt64.toUInt64).toInt64).toInt32.toInt8.toInt32.toInt8.toInt32), (.int ((p1.toUInt64 >>> ((24 : Int32) &&& 0x3f).toInt64.toUInt64).toInt64).toInt32.toInt8.toInt32.toInt8.toInt32), (.int ((p1.toUInt64 >>> ((32 : Int32) &&& 0x3f).toInt64.toUInt64).toInt64).toInt32.toInt8.toInt32.toInt8.toInt32), (.int ((p1.toUInt64 >>> ((40 : Int32) &&& 0x3f).toInt64.toUInt64).toInt64).toInt32.toInt8.toInt32.toInt8.toInt32), (.int (0 : Int32)), (.int (0 : Int32))] (.int (0 : Int32)) := V13
  have N13 := Fr.snoc X13 N11 ge_b1
  have K13 : Keep h0 h13 [] := K11.wr W13 (Or.inr sz_b1)
  have Z14 : n0 ≤ h13.size := Nat.le_trans Z12 (Keep.of_wr W13).1
  refine Ok.aloadN (pc' := 57) X13 hx (hb hby at_56) rfl rfl rfl ?_
  refine Ok.bipush (z := (6 : Int32)) (pc' := 59) X13 hx (hb hby at_57) rfl rfl ?_
  refine Ok.lloadN (pc' := 60) X13 hx (hb hby at_59) rfl rfl ?_
  refine Ok.bipush (z := (48 : Int32)) (pc' := 62) X13 hx (hb hby at_60) rfl rfl ?_
  refine Ok.lushr (pc' := 63) X13 hx (hb hby at_62) rfl ?_
  refine Ok.l2i (pc' := 64) X13 hx (hb hby at_63) rfl ?_
  refine Ok.i2b (pc' := 65) X13 hx (hb hby at_64) rfl ?_
  refine Ok.stB (pc' := 66) (i := 6) X13 hx hZ e13 V13 ⟨by decide, by decide⟩ rfl (Nat.le_of_ble_eq_true rfl) (hb hby at_65) rfl ?_
  intro T15 h15 X15 e15 W15 V15
  replace V15 : Arv Z h15 b1 kc1 .byte (8 : Int32) [(.int p1.toInt32.toInt8.toInt32.toInt8.toInt32), (.int ((p1.toUInt64 >>> ((8 : Int32) &&& 0x3f).toInt64.toUInt64).toInt64).toInt32.toInt8.toInt32.toInt8.toInt32), (.int ((p1.toUInt64 >>> ((16 : Int32) &&& 0x3f).toInt64.toUInt64).toInt64).toInt32.toInt8.toInt32.toInt8.toInt32), (.int ((p1.toUInt64 >>> ((24 : Int32) &&& 0x3f).toInt64.toUInt64).toInt64).toInt32.toInt8.toInt32.toInt8.toInt32), (.int ((p1.toUInt64 >>> ((32 : Int32) &&& 0x3f).toInt64.toUInt64).toInt64).toInt32.toInt8.toInt32.toInt8.toInt32), (.int ((p1.toUInt64 >>> ((40 : Int32) &&& 0x3f).toInt64.toUInt64).toInt64).toInt32.toInt8.toInt32.toInt8.toInt32), (.int ((p1.toUInt64 >>> ((48 : Int32) &&& 0x3f).toInt64.toUInt64).toInt64).toInt32.toInt8.toInt32.toInt8.toInt32), (.int (0 : Int32))] (.int (0 : Int32)) := V15
  have N15 := Fr.snoc X15 N13 ge_b1
  have K15 : Keep h0 h15 [] := K13.wr W15 (Or.inr sz_b1)
  have Z16 : n0 ≤ h15.size := Nat.le_trans Z14 (Keep.of_wr W15).1
  refine Ok.aloadN (pc' := 67) X15 hx (hb hby at_66) rfl rfl rfl ?_
  refine Ok.bipush (z := (7 : Int32)) (pc' := 69) X15 hx (hb hby at_67) rfl rfl ?_
  refine Ok.lloadN (pc' := 70) X15 hx (hb hby at_69) rfl rfl ?_
  refine Ok.bipush (z := (56 : Int32)) (pc' := 72) X15 hx (hb hby at_70) rfl rfl ?_
  refine Ok.lushr (pc' := 73) X15 hx (hb hby at_72) rfl ?_
  refine Ok.l2i (pc' := 74) X15 hx (hb hby at_73) rfl ?_
  refine Ok.i2b (pc' := 75) X15 hx (hb hby at_74) rfl ?_
  refine Ok.stB (pc' := 76) (i := 7) X15 hx hZ e15 V15 ⟨by decide, by decide⟩ rfl (Nat.le_of_ble_eq_true rfl) (hb hby at_75) rfl ?_
  intro T17 h17 X17 e17 W17 V17
  replace V17 : Arv Z h17 b1 kc1 .byte (8 : Int32) [(.int p1.toInt32.toInt8.toInt32.toInt8.toInt32), (.int ((p1.toUInt64 >>> ((8 : Int32) &&& 0x3f).toInt64.toUInt64).toInt64).toInt32.toInt8.toInt32.toInt8.toInt32), (.int ((p1.toUInt64 >>> ((16 : Int32) &&& 0x3f).toInt64.toUInt64).toInt64).toInt32.toInt8.toInt32.toInt8.toInt32), (.int ((p1.toUInt64 >>> ((24 : Int32) &&& 0x3f).toInt64.toUInt64).toInt64).toInt32.toInt8.toInt32.toInt8.toInt32), (.int ((p1.toUInt64 >>> ((32 : Int32) &&& 0x3f).toInt64.toUInt64).toInt64).toInt32.toInt8.toInt32.toInt8.toInt32), (.int ((p1.toUInt64 >>> ((40 : Int32) &&& 0x3f).toInt64.toUInt64).toInt64).toInt32.toInt8.toInt32.toInt8.toInt32), (.int ((p1.toUInt64 >>> ((48 : Int32) &&& 0x3f).toInt64.toUInt64).toInt64).toInt32.toInt8.toInt32.toInt8.toInt32), (.int ((p1.toUInt64 >>> ((56 : Int32) &&& 0x3f).toInt64.toUInt64).toInt64).toInt32.toInt8.toInt32.toInt8.toInt32)] (.int (0 : Int32)) := V17
  have N17 := Fr.snoc X17 N15 ge_b1
  have K17 : Keep h0 h17 [] := K15.wr W17 (Or.inr sz_b1)
  have Z18 : n0 ≤ h17.size := Nat.le_trans Z16 (Keep.of_wr W17).1
  obtain ⟨bs, Vb⟩ : ∃ bs : List Int32, Arv Z h17 b1 kc1 .byte (8 : Int32) (bs.map Value.int) (.int (0 : Int32)) := ⟨[p1.toInt32.toInt8.toInt32.toInt8.toInt32, ((p1.toUInt64 >>> ((8 : Int32) &&& 0x3f).toInt64.toUInt64).toInt64).toInt32.toInt8.toInt32.toInt8.toInt32, ((p1.toUInt64 >>> ((16 : Int32) &&& 0x3f).toInt64.toUInt64).toInt64).toInt32.toInt8.toInt32.toInt8.toInt32, ((p1.toUInt64 >>> ((24 : Int32) &&& 0x3f).toInt64.toUInt64).toInt64).toInt32.toInt8.toInt32.toInt8.toInt32, ((p1.toUInt64 >>> ((32 : Int32) &&& 0x3f).toInt64.toUInt64).toInt64).toInt32.toInt8.toInt32.toInt8.toInt32, ((p1.toUInt64 >>> ((40 : Int32) &&& 0x3f).toInt64.toUInt64).toInt64).toInt32.toInt8.toInt32.toInt8.toInt32, ((p1.toUInt64 >>> ((48 : Int32) &&& 0x3f).toInt64.toUInt64).toInt64).toInt32.toInt8.toInt32.toInt8.toInt32, ((p1.toUInt64 >>> ((56 : Int32) &&& 0x3f).toInt64.toUInt64).toInt64).toInt32.toInt8.toInt32.toInt8.toInt32], V17⟩
  obtain ⟨fr, hfr, efr⟩ := from_nat p2
  obtain ⟨ln, hln, eln⟩ := len_nat p2 hfr
  have hlnI := ofNat_toInt (n := ln) (by omega)
  refine Ok.iloadN (pc' := 77) X17 hx (hb hby at_76) rfl rfl ?_
  refine Ok.ldcI (pc' := 79) (v := (2147483647 : Int32)) X17 hx hZ hown (hw _ (List.mem_of_getElem? (i := 1) rfl)) (hb hby at_77) rfl ?_
  refine Ok.iand (pc' := 80) X17 hx (hb hby at_79) rfl ?_
  refine Ok.bipush (z := (9 : Int32)) (pc' := 82) X17 hx (hb hby at_80) rfl rfl ?_
  refine Ok.irem (pc' := 83) X17 hx (hb hby at_82) rfl (by decide) ?_
  rw [efr]
  refine Ok.istore (l' := #[.val (.long p1), .second, .val (.int p2), .val (.ref b1), .val (.int (Int32.ofNat fr)), .unset, .unset, .unset, .unset, .unset, .unset]) (pc' := 85) X17 hx (hb hby at_83) rfl rfl ?_
  refine Ok.iloadN (pc' := 86) X17 hx (hb hby at_85) rfl rfl ?_
  refine Ok.bipush (z := (8 : Int32)) (pc' := 88) X17 hx (hb hby at_86) rfl rfl ?_
  refine Ok.iushr (pc' := 89) X17 hx (hb hby at_88) rfl ?_
  refine Ok.bipush (z := (9 : Int32)) (pc' := 91) X17 hx (hb hby at_89) rfl rfl ?_
  refine Ok.iload (pc' := 93) X17 hx (hb hby at_91) rfl rfl ?_
  refine Ok.isub (pc' := 94) X17 hx (hb hby at_93) rfl ?_
  refine Ok.irem (pc' := 95) X17 hx (hb hby at_94) rfl (nine_ne hfr) ?_
  rw [eln]
  refine Ok.istore (l' := #[.val (.long p1), .second, .val (.int p2), .val (.ref b1), .val (.int (Int32.ofNat fr)), .val (.int (Int32.ofNat ln)), .unset, .unset, .unset, .unset, .unset]) (pc' := 97) X17 hx (hb hby at_95) rfl rfl ?_
  refine Ok.iload (pc' := 99) X17 hx (hb hby at_97) rfl rfl ?_
  refine Ok.iload (pc' := 101) X17 hx (hb hby at_99) rfl rfl ?_
  refine Ok.iadd (pc' := 102) X17 hx (hb hby at_101) rfl ?_
  rw [← Int32.ofNat_add]
  refine Ok.istore (l' := #[.val (.long p1), .second, .val (.int p2), .val (.ref b1), .val (.int (Int32.ofNat fr)), .val (.int (Int32.ofNat ln)), .val (.int (Int32.ofNat (fr + ln))), .unset, .unset, .unset, .unset]) (pc' := 104) X17 hx (hb hby at_102) rfl rfl ?_
  refine Ok.ldcJ (pc' := 107) (v := (-3750763034362895579 : Int64)) X17 hx hZ hown (hw _ (List.mem_of_getElem? (i := 2) rfl)) (hb hby at_104) rfl ?_
  refine Ok.lstore (l' := #[.val (.long p1), .second, .val (.int p2), .val (.ref b1), .val (.int (Int32.ofNat fr)), .val (.int (Int32.ofNat ln)), .val (.int (Int32.ofNat (fr + ln))), .val (.long (-3750763034362895579 : Int64)), .second, .unset, .unset]) (pc' := 109) X17 hx (hb hby at_107) rfl rfl ?_
  have k262 : ∀ (Tj262 : State) (Lj262 : List Loc) (Xj262 : Stand p l e room_1 s m #[(.long p1), (.int p2)] below meth c Tj262 Lj262 1 8) (ej262 : Tj262.heap = h17) (Nj262 : Fr n0 Lj262) (hv : Int64) (hh : hv = hs bs fr (min ln 8)), Ok p e below (NE s room_1.cells room_1.slots) (Q0 Z p1 p2 h0 n0) Tj262 (mkF m 262 #[.val (.long p1), .second, .val (.int p2), .val (.ref b1), .val (.int (Int32.ofNat fr)), .val (.int (Int32.ofNat ln)), .val (.int (Int32.ofNat (fr + ln))), .val (.long hv), .second, .unset, .unset] []) := by
    intro Tj262 Lj262 Xj262 ej262 Nj262 hv hh
    refine Ok.lload (pc' := 264) Xj262 hx (hb hby at_262) rfl rfl ?_
    refine Ok.callS (pc' := 267) (W := 0)  (argsL := [(.long hv)]) (rest := []) Xj262 hx hZ hown (rm1 l Z a0 hw hv h17 n0 Z18 ) (hw _ (List.mem_of_getElem? (i := 3) rfl)) (hw _ (List.mem_of_getElem? (i := 4) rfl)) (hw _ (List.mem_of_getElem? (i := 5) rfl)) (hw _ (List.mem_of_getElem? (i := 6) rfl)) (by decide) ej262 (by decide) (by decide) (by decide) (by decide) (lenOf pd_0 rfl) rfl rfl (Nat.le_of_eq rfl) (by rw [hml]; rfl) (hb hby at_264) rfl ?_
    intro v19 T19 L19 X19 hQ19
    obtain ⟨rfl, Nq19, eq19⟩ := hQ19
    have N19 := Fr.app Nj262 Nq19
    show Ok p e below _ _ T19 (mkF m 267 #[.val (.long p1), .second, .val (.int p2), .val (.ref b1), .val (.int (Int32.ofNat fr)), .val (.int (Int32.ofNat ln)), .val (.int (Int32.ofNat (fr + ln))), .val (.long hv), .second, .unset, .unset] [(.long (mixv hv))])
    refine Ok.lstore (l' := #[.val (.long p1), .second, .val (.int p2), .val (.ref b1), .val (.int (Int32.ofNat fr)), .val (.int (Int32.ofNat ln)), .val (.int (Int32.ofNat (fr + ln))), .val (.long hv), .second, .val (.long (mixv hv)), .second]) (pc' := 269) X19 hx (hb hby at_267) rfl rfl ?_
    refine Ok.aloadN (pc' := 270) X19 hx (hb hby at_269) rfl rfl rfl ?_
    refine Ok.iload (pc' := 272) X19 hx (hb hby at_270) rfl rfl ?_
    refine Ok.iload (pc' := 274) X19 hx (hb hby at_272) rfl rfl ?_
    refine Ok.callS (pc' := 277) (W := 0)  (argsL := [(.ref b1), (.int (Int32.ofNat fr)), (.int (Int32.ofNat (fr + ln)))]) (rest := []) X19 hx hZ hown (rm2 l Z a0 hw b1 kc1 bs fr ln h17 n0 Z18 Vb hln) (hw _ (List.mem_of_getElem? (i := 8) rfl)) (hw _ (List.mem_of_getElem? (i := 9) rfl)) (hw _ (List.mem_of_getElem? (i := 10) rfl)) (hw _ (List.mem_of_getElem? (i := 11) rfl)) (by decide) eq19 (by decide) (by decide) (by decide) (by decide) (lenOf pd_1 rfl) rfl rfl (Nat.le_of_eq rfl) (by rw [hml]; rfl) (hb hby at_274) rfl ?_
    intro v20 T20 L20 X20 hQ20
    obtain ⟨rfl, Nq20, eq20⟩ := hQ20
    have N20 := Fr.app N19 Nq20
    show Ok p e below _ _ T20 (mkF m 277 #[.val (.long p1), .second, .val (.int p2), .val (.ref b1), .val (.int (Int32.ofNat fr)), .val (.int (Int32.ofNat ln)), .val (.int (Int32.ofNat (fr + ln))), .val (.long hv), .second, .val (.long (mixv hv)), .second] [(.long (mixv (hs bs fr ln)))])
    refine Ok.lload (pc' := 279) X20 hx (hb hby at_277) rfl rfl ?_
    refine Ok.lcmp (pc' := 280) X20 hx (hb hby at_279) rfl ?_
    refine Ok.ifN (pc' := 283) X20 hx (hb hby at_280) (bf (lc_all (mixv (hs bs fr ln)) (mixv hv)).2.1 (fun q => q (by rw [hh, show min ln 8 = ln from by omega]))) rfl ?_
    refine Ok.iconst (z := (1 : Int32)) (pc' := 284) X20 hx (hb hby at_283) rfl rfl ?_
    refine Ok.goto (pc' := 288) X20 hx (hb hby at_284) (by decide) (by decide) ?_
    refine Ok.retI X20 hx hret hlk (Or.inr (Or.inl rfl)) rfl (hb hby at_288) (by decide) (by decide) ?_
    show Q0 Z p1 p2 h0 n0 _ T20.heap _
    rw [eq20]
    exact ⟨rfl, N20⟩
  have k241 : ∀ (Tj241 : State) (Lj241 : List Loc) (Xj241 : Stand p l e room_1 s m #[(.long p1), (.int p2)] below meth c Tj241 Lj241 1 8) (ej241 : Tj241.heap = h17) (Nj241 : Fr n0 Lj241) (hv : Int64) (hh : hv = hs bs fr (min ln 7)), Ok p e below (NE s room_1.cells room_1.slots) (Q0 Z p1 p2 h0 n0) Tj241 (mkF m 241 #[.val (.long p1), .second, .val (.int p2), .val (.ref b1), .val (.int (Int32.ofNat fr)), .val (.int (Int32.ofNat ln)), .val (.int (Int32.ofNat (fr + ln))), .val (.long hv), .second, .unset, .unset] []) := by
    intro Tj241 Lj241 Xj241 ej241 Nj241 hv hh
    refine Ok.iload (pc' := 243) Xj241 hx (hb hby at_241) rfl rfl ?_
    refine Ok.bipush (z := (7 : Int32)) (pc' := 245) Xj241 hx (hb hby at_243) rfl rfl ?_
    by_cases hc245 : (Int32.ofNat ln).toInt ≤ 7
    · refine Ok.icY (pc' := 262) Xj241 hx (hb hby at_245) (bt (ic_eq (Int32.ofNat ln) (7 : Int32)).2.2.2.2.2 hc245) (by decide) (by decide) ?_
      exact k262 Tj241 _ Xj241 ej241 Nj241 hv (by rw [show min ln 8 = min ln 7 from by omega]; exact hh)
    · refine Ok.icN (pc' := 248) Xj241 hx (hb hby at_245) (bf (ic_eq (Int32.ofNat ln) (7 : Int32)).2.2.2.2.2 hc245) rfl ?_
      refine Ok.lload (pc' := 250) Xj241 hx (hb hby at_248) rfl rfl ?_
      refine Ok.aloadN (pc' := 251) Xj241 hx (hb hby at_250) rfl rfl rfl ?_
      refine Ok.iload (pc' := 253) Xj241 hx (hb hby at_251) rfl rfl ?_
      refine Ok.bipush (z := (7 : Int32)) (pc' := 255) Xj241 hx (hb hby at_253) rfl rfl ?_
      refine Ok.iadd (pc' := 256) Xj241 hx (hb hby at_255) rfl ?_
      rw [show Int32.ofNat fr + (7 : Int32) = Int32.ofNat (fr + 7) from (Int32.ofNat_add fr 7).symm]
      refine Ok.ldB (pc' := 257) (v := (.int (bs.getD (fr + 7) 0))) Xj241 hx hZ ej241 Vb (ofNat_in (n := 8) (by omega) (by omega)) (by rw [ofNat_clamp (by omega)]; exact getD_ints bs (fr + 7)) (hb hby at_256) rfl ?_
      refine Ok.callS (pc' := 260) (W := 0)  (argsL := [(.long hv), (.int (bs.getD (fr + 7) 0))]) (rest := []) Xj241 hx hZ hown (rm3 l Z a0 hw hv (bs.getD (fr + 7) 0) h17 n0 Z18 ) (hw _ (List.mem_of_getElem? (i := 14) rfl)) (hw _ (List.mem_of_getElem? (i := 15) rfl)) (hw _ (List.mem_of_getElem? (i := 5) rfl)) (hw _ (List.mem_of_getElem? (i := 16) rfl)) (by decide) ej241 (by decide) (by decide) (by decide) (by decide) (lenOf pd_2 rfl) rfl rfl (Nat.le_of_eq rfl) (by rw [hml]; rfl) (hb hby at_257) rfl ?_
      intro v21 T21 L21 X21 hQ21
      obtain ⟨rfl, Nq21, eq21⟩ := hQ21
      have N21 := Fr.app Nj241 Nq21
      show Ok p e below _ _ T21 (mkF m 260 #[.val (.long p1), .second, .val (.int p2), .val (.ref b1), .val (.int (Int32.ofNat fr)), .val (.int (Int32.ofNat ln)), .val (.int (Int32.ofNat (fr + ln))), .val (.long hv), .second, .unset, .unset] [(.long (stp hv (bs.getD (fr + 7) 0)))])
      refine Ok.lstore (l' := #[.val (.long p1), .second, .val (.int p2), .val (.ref b1), .val (.int (Int32.ofNat fr)), .val (.int (Int32.ofNat ln)), .val (.int (Int32.ofNat (fr + ln))), .val (.long (stp hv (bs.getD (fr + 7) 0))), .second, .unset, .unset]) (pc' := 262) X21 hx (hb hby at_260) rfl rfl ?_
      exact k262 T21 _ X21 eq21 N21 (stp hv (bs.getD (fr + 7) 0)) (by rw [hh, show min ln 7 = 7 from by omega, show min ln 8 = 7 + 1 from by omega]; rfl)
  have k220 : ∀ (Tj220 : State) (Lj220 : List Loc) (Xj220 : Stand p l e room_1 s m #[(.long p1), (.int p2)] below meth c Tj220 Lj220 1 8) (ej220 : Tj220.heap = h17) (Nj220 : Fr n0 Lj220) (hv : Int64) (hh : hv = hs bs fr (min ln 6)), Ok p e below (NE s room_1.cells room_1.slots) (Q0 Z p1 p2 h0 n0) Tj220 (mkF m 220 #[.val (.long p1), .second, .val (.int p2), .val (.ref b1), .val (.int (Int32.ofNat fr)), .val (.int (Int32.ofNat ln)), .val (.int (Int32.ofNat (fr + ln))), .val (.long hv), .second, .unset, .unset] []) := by
    intro Tj220 Lj220 Xj220 ej220 Nj220 hv hh
    refine Ok.iload (pc' := 222) Xj220 hx (hb hby at_220) rfl rfl ?_
    refine Ok.bipush (z := (6 : Int32)) (pc' := 224) Xj220 hx (hb hby at_222) rfl rfl ?_
    by_cases hc224 : (Int32.ofNat ln).toInt ≤ 6
    · refine Ok.icY (pc' := 241) Xj220 hx (hb hby at_224) (bt (ic_eq (Int32.ofNat ln) (6 : Int32)).2.2.2.2.2 hc224) (by decide) (by decide) ?_
      exact k241 Tj220 _ Xj220 ej220 Nj220 hv (by rw [show min ln 7 = min ln 6 from by omega]; exact hh)
    · refine Ok.icN (pc' := 227) Xj220 hx (hb hby at_224) (bf (ic_eq (Int32.ofNat ln) (6 : Int32)).2.2.2.2.2 hc224) rfl ?_
      refine Ok.lload (pc' := 229) Xj220 hx (hb hby at_227) rfl rfl ?_
      refine Ok.aloadN (pc' := 230) Xj220 hx (hb hby at_229) rfl rfl rfl ?_
      refine Ok.iload (pc' := 232) Xj220 hx (hb hby at_230) rfl rfl ?_
      refine Ok.bipush (z := (6 : Int32)) (pc' := 234) Xj220 hx (hb hby at_232) rfl rfl ?_
      refine Ok.iadd (pc' := 235) Xj220 hx (hb hby at_234) rfl ?_
      rw [show Int32.ofNat fr + (6 : Int32) = Int32.ofNat (fr + 6) from (Int32.ofNat_add fr 6).symm]
      refine Ok.ldB (pc' := 236) (v := (.int (bs.getD (fr + 6) 0))) Xj220 hx hZ ej220 Vb (ofNat_in (n := 8) (by omega) (by omega)) (by rw [ofNat_clamp (by omega)]; exact getD_ints bs (fr + 6)) (hb hby at_235) rfl ?_
      refine Ok.callS (pc' := 239) (W := 0)  (argsL := [(.long hv), (.int (bs.getD (fr + 6) 0))]) (rest := []) Xj220 hx hZ hown (rm3 l Z a0 hw hv (bs.getD (fr + 6) 0) h17 n0 Z18 ) (hw _ (List.mem_of_getElem? (i := 14) rfl)) (hw _ (List.mem_of_getElem? (i := 15) rfl)) (hw _ (List.mem_of_getElem? (i := 5) rfl)) (hw _ (List.mem_of_getElem? (i := 16) rfl)) (by decide) ej220 (by decide) (by decide) (by decide) (by decide) (lenOf pd_2 rfl) rfl rfl (Nat.le_of_eq rfl) (by rw [hml]; rfl) (hb hby at_236) rfl ?_
      intro v22 T22 L22 X22 hQ22
      obtain ⟨rfl, Nq22, eq22⟩ := hQ22
      have N22 := Fr.app Nj220 Nq22
      show Ok p e below _ _ T22 (mkF m 239 #[.val (.long p1), .second, .val (.int p2), .val (.ref b1), .val (.int (Int32.ofNat fr)), .val (.int (Int32.ofNat ln)), .val (.int (Int32.ofNat (fr + ln))), .val (.long hv), .second, .unset, .unset] [(.long (stp hv (bs.getD (fr + 6) 0)))])
      refine Ok.lstore (l' := #[.val (.long p1), .second, .val (.int p2), .val (.ref b1), .val (.int (Int32.ofNat fr)), .val (.int (Int32.ofNat ln)), .val (.int (Int32.ofNat (fr + ln))), .val (.long (stp hv (bs.getD (fr + 6) 0))), .second, .unset, .unset]) (pc' := 241) X22 hx (hb hby at_239) rfl rfl ?_
      exact k241 T22 _ X22 eq22 N22 (stp hv (bs.getD (fr + 6) 0)) (by rw [hh, show min ln 6 = 6 from by omega, show min ln 7 = 6 + 1 from by omega]; rfl)
  have k201 : ∀ (Tj201 : State) (Lj201 : List Loc) (Xj201 : Stand p l e room_1 s m #[(.long p1), (.int p2)] below meth c Tj201 Lj201 1 8) (ej201 : Tj201.heap = h17) (Nj201 : Fr n0 Lj201) (hv : Int64) (hh : hv = hs bs fr (min ln 5)), Ok p e below (NE s room_1.cells room_1.slots) (Q0 Z p1 p2 h0 n0) Tj201 (mkF m 201 #[.val (.long p1), .second, .val (.int p2), .val (.ref b1), .val (.int (Int32.ofNat fr)), .val (.int (Int32.ofNat ln)), .val (.int (Int32.ofNat (fr + ln))), .val (.long hv), .second, .unset, .unset] []) := by
    intro Tj201 Lj201 Xj201 ej201 Nj201 hv hh
    refine Ok.iload (pc' := 203) Xj201 hx (hb hby at_201) rfl rfl ?_
    refine Ok.iconst (z := (5 : Int32)) (pc' := 204) Xj201 hx (hb hby at_203) rfl rfl ?_
    by_cases hc204 : (Int32.ofNat ln).toInt ≤ 5
    · refine Ok.icY (pc' := 220) Xj201 hx (hb hby at_204) (bt (ic_eq (Int32.ofNat ln) (5 : Int32)).2.2.2.2.2 hc204) (by decide) (by decide) ?_
      exact k220 Tj201 _ Xj201 ej201 Nj201 hv (by rw [show min ln 6 = min ln 5 from by omega]; exact hh)
    · refine Ok.icN (pc' := 207) Xj201 hx (hb hby at_204) (bf (ic_eq (Int32.ofNat ln) (5 : Int32)).2.2.2.2.2 hc204) rfl ?_
      refine Ok.lload (pc' := 209) Xj201 hx (hb hby at_207) rfl rfl ?_
      refine Ok.aloadN (pc' := 210) Xj201 hx (hb hby at_209) rfl rfl rfl ?_
      refine Ok.iload (pc' := 212) Xj201 hx (hb hby at_210) rfl rfl ?_
      refine Ok.iconst (z := (5 : Int32)) (pc' := 213) Xj201 hx (hb hby at_212) rfl rfl ?_
      refine Ok.iadd (pc' := 214) Xj201 hx (hb hby at_213) rfl ?_
      rw [show Int32.ofNat fr + (5 : Int32) = Int32.ofNat (fr + 5) from (Int32.ofNat_add fr 5).symm]
      refine Ok.ldB (pc' := 215) (v := (.int (bs.getD (fr + 5) 0))) Xj201 hx hZ ej201 Vb (ofNat_in (n := 8) (by omega) (by omega)) (by rw [ofNat_clamp (by omega)]; exact getD_ints bs (fr + 5)) (hb hby at_214) rfl ?_
      refine Ok.callS (pc' := 218) (W := 0)  (argsL := [(.long hv), (.int (bs.getD (fr + 5) 0))]) (rest := []) Xj201 hx hZ hown (rm3 l Z a0 hw hv (bs.getD (fr + 5) 0) h17 n0 Z18 ) (hw _ (List.mem_of_getElem? (i := 14) rfl)) (hw _ (List.mem_of_getElem? (i := 15) rfl)) (hw _ (List.mem_of_getElem? (i := 5) rfl)) (hw _ (List.mem_of_getElem? (i := 16) rfl)) (by decide) ej201 (by decide) (by decide) (by decide) (by decide) (lenOf pd_2 rfl) rfl rfl (Nat.le_of_eq rfl) (by rw [hml]; rfl) (hb hby at_215) rfl ?_
      intro v23 T23 L23 X23 hQ23
      obtain ⟨rfl, Nq23, eq23⟩ := hQ23
      have N23 := Fr.app Nj201 Nq23
      show Ok p e below _ _ T23 (mkF m 218 #[.val (.long p1), .second, .val (.int p2), .val (.ref b1), .val (.int (Int32.ofNat fr)), .val (.int (Int32.ofNat ln)), .val (.int (Int32.ofNat (fr + ln))), .val (.long hv), .second, .unset, .unset] [(.long (stp hv (bs.getD (fr + 5) 0)))])
      refine Ok.lstore (l' := #[.val (.long p1), .second, .val (.int p2), .val (.ref b1), .val (.int (Int32.ofNat fr)), .val (.int (Int32.ofNat ln)), .val (.int (Int32.ofNat (fr + ln))), .val (.long (stp hv (bs.getD (fr + 5) 0))), .second, .unset, .unset]) (pc' := 220) X23 hx (hb hby at_218) rfl rfl ?_
      exact k220 T23 _ X23 eq23 N23 (stp hv (bs.getD (fr + 5) 0)) (by rw [hh, show min ln 5 = 5 from by omega, show min ln 6 = 5 + 1 from by omega]; rfl)
  have k182 : ∀ (Tj182 : State) (Lj182 : List Loc) (Xj182 : Stand p l e room_1 s m #[(.long p1), (.int p2)] below meth c Tj182 Lj182 1 8) (ej182 : Tj182.heap = h17) (Nj182 : Fr n0 Lj182) (hv : Int64) (hh : hv = hs bs fr (min ln 4)), Ok p e below (NE s room_1.cells room_1.slots) (Q0 Z p1 p2 h0 n0) Tj182 (mkF m 182 #[.val (.long p1), .second, .val (.int p2), .val (.ref b1), .val (.int (Int32.ofNat fr)), .val (.int (Int32.ofNat ln)), .val (.int (Int32.ofNat (fr + ln))), .val (.long hv), .second, .unset, .unset] []) := by
    intro Tj182 Lj182 Xj182 ej182 Nj182 hv hh
    refine Ok.iload (pc' := 184) Xj182 hx (hb hby at_182) rfl rfl ?_
    refine Ok.iconst (z := (4 : Int32)) (pc' := 185) Xj182 hx (hb hby at_184) rfl rfl ?_
    by_cases hc185 : (Int32.ofNat ln).toInt ≤ 4
    · refine Ok.icY (pc' := 201) Xj182 hx (hb hby at_185) (bt (ic_eq (Int32.ofNat ln) (4 : Int32)).2.2.2.2.2 hc185) (by decide) (by decide) ?_
      exact k201 Tj182 _ Xj182 ej182 Nj182 hv (by rw [show min ln 5 = min ln 4 from by omega]; exact hh)
    · refine Ok.icN (pc' := 188) Xj182 hx (hb hby at_185) (bf (ic_eq (Int32.ofNat ln) (4 : Int32)).2.2.2.2.2 hc185) rfl ?_
      refine Ok.lload (pc' := 190) Xj182 hx (hb hby at_188) rfl rfl ?_
      refine Ok.aloadN (pc' := 191) Xj182 hx (hb hby at_190) rfl rfl rfl ?_
      refine Ok.iload (pc' := 193) Xj182 hx (hb hby at_191) rfl rfl ?_
      refine Ok.iconst (z := (4 : Int32)) (pc' := 194) Xj182 hx (hb hby at_193) rfl rfl ?_
      refine Ok.iadd (pc' := 195) Xj182 hx (hb hby at_194) rfl ?_
      rw [show Int32.ofNat fr + (4 : Int32) = Int32.ofNat (fr + 4) from (Int32.ofNat_add fr 4).symm]
      refine Ok.ldB (pc' := 196) (v := (.int (bs.getD (fr + 4) 0))) Xj182 hx hZ ej182 Vb (ofNat_in (n := 8) (by omega) (by omega)) (by rw [ofNat_clamp (by omega)]; exact getD_ints bs (fr + 4)) (hb hby at_195) rfl ?_
      refine Ok.callS (pc' := 199) (W := 0)  (argsL := [(.long hv), (.int (bs.getD (fr + 4) 0))]) (rest := []) Xj182 hx hZ hown (rm3 l Z a0 hw hv (bs.getD (fr + 4) 0) h17 n0 Z18 ) (hw _ (List.mem_of_getElem? (i := 14) rfl)) (hw _ (List.mem_of_getElem? (i := 15) rfl)) (hw _ (List.mem_of_getElem? (i := 5) rfl)) (hw _ (List.mem_of_getElem? (i := 16) rfl)) (by decide) ej182 (by decide) (by decide) (by decide) (by decide) (lenOf pd_2 rfl) rfl rfl (Nat.le_of_eq rfl) (by rw [hml]; rfl) (hb hby at_196) rfl ?_
      intro v24 T24 L24 X24 hQ24
      obtain ⟨rfl, Nq24, eq24⟩ := hQ24
      have N24 := Fr.app Nj182 Nq24
      show Ok p e below _ _ T24 (mkF m 199 #[.val (.long p1), .second, .val (.int p2), .val (.ref b1), .val (.int (Int32.ofNat fr)), .val (.int (Int32.ofNat ln)), .val (.int (Int32.ofNat (fr + ln))), .val (.long hv), .second, .unset, .unset] [(.long (stp hv (bs.getD (fr + 4) 0)))])
      refine Ok.lstore (l' := #[.val (.long p1), .second, .val (.int p2), .val (.ref b1), .val (.int (Int32.ofNat fr)), .val (.int (Int32.ofNat ln)), .val (.int (Int32.ofNat (fr + ln))), .val (.long (stp hv (bs.getD (fr + 4) 0))), .second, .unset, .unset]) (pc' := 201) X24 hx (hb hby at_199) rfl rfl ?_
      exact k201 T24 _ X24 eq24 N24 (stp hv (bs.getD (fr + 4) 0)) (by rw [hh, show min ln 4 = 4 from by omega, show min ln 5 = 4 + 1 from by omega]; rfl)
  have k163 : ∀ (Tj163 : State) (Lj163 : List Loc) (Xj163 : Stand p l e room_1 s m #[(.long p1), (.int p2)] below meth c Tj163 Lj163 1 8) (ej163 : Tj163.heap = h17) (Nj163 : Fr n0 Lj163) (hv : Int64) (hh : hv = hs bs fr (min ln 3)), Ok p e below (NE s room_1.cells room_1.slots) (Q0 Z p1 p2 h0 n0) Tj163 (mkF m 163 #[.val (.long p1), .second, .val (.int p2), .val (.ref b1), .val (.int (Int32.ofNat fr)), .val (.int (Int32.ofNat ln)), .val (.int (Int32.ofNat (fr + ln))), .val (.long hv), .second, .unset, .unset] []) := by
    intro Tj163 Lj163 Xj163 ej163 Nj163 hv hh
    refine Ok.iload (pc' := 165) Xj163 hx (hb hby at_163) rfl rfl ?_
    refine Ok.iconst (z := (3 : Int32)) (pc' := 166) Xj163 hx (hb hby at_165) rfl rfl ?_
    by_cases hc166 : (Int32.ofNat ln).toInt ≤ 3
    · refine Ok.icY (pc' := 182) Xj163 hx (hb hby at_166) (bt (ic_eq (Int32.ofNat ln) (3 : Int32)).2.2.2.2.2 hc166) (by decide) (by decide) ?_
      exact k182 Tj163 _ Xj163 ej163 Nj163 hv (by rw [show min ln 4 = min ln 3 from by omega]; exact hh)
    · refine Ok.icN (pc' := 169) Xj163 hx (hb hby at_166) (bf (ic_eq (Int32.ofNat ln) (3 : Int32)).2.2.2.2.2 hc166) rfl ?_
      refine Ok.lload (pc' := 171) Xj163 hx (hb hby at_169) rfl rfl ?_
      refine Ok.aloadN (pc' := 172) Xj163 hx (hb hby at_171) rfl rfl rfl ?_
      refine Ok.iload (pc' := 174) Xj163 hx (hb hby at_172) rfl rfl ?_
      refine Ok.iconst (z := (3 : Int32)) (pc' := 175) Xj163 hx (hb hby at_174) rfl rfl ?_
      refine Ok.iadd (pc' := 176) Xj163 hx (hb hby at_175) rfl ?_
      rw [show Int32.ofNat fr + (3 : Int32) = Int32.ofNat (fr + 3) from (Int32.ofNat_add fr 3).symm]
      refine Ok.ldB (pc' := 177) (v := (.int (bs.getD (fr + 3) 0))) Xj163 hx hZ ej163 Vb (ofNat_in (n := 8) (by omega) (by omega)) (by rw [ofNat_clamp (by omega)]; exact getD_ints bs (fr + 3)) (hb hby at_176) rfl ?_
      refine Ok.callS (pc' := 180) (W := 0)  (argsL := [(.long hv), (.int (bs.getD (fr + 3) 0))]) (rest := []) Xj163 hx hZ hown (rm3 l Z a0 hw hv (bs.getD (fr + 3) 0) h17 n0 Z18 ) (hw _ (List.mem_of_getElem? (i := 14) rfl)) (hw _ (List.mem_of_getElem? (i := 15) rfl)) (hw _ (List.mem_of_getElem? (i := 5) rfl)) (hw _ (List.mem_of_getElem? (i := 16) rfl)) (by decide) ej163 (by decide) (by decide) (by decide) (by decide) (lenOf pd_2 rfl) rfl rfl (Nat.le_of_eq rfl) (by rw [hml]; rfl) (hb hby at_177) rfl ?_
      intro v25 T25 L25 X25 hQ25
      obtain ⟨rfl, Nq25, eq25⟩ := hQ25
      have N25 := Fr.app Nj163 Nq25
      show Ok p e below _ _ T25 (mkF m 180 #[.val (.long p1), .second, .val (.int p2), .val (.ref b1), .val (.int (Int32.ofNat fr)), .val (.int (Int32.ofNat ln)), .val (.int (Int32.ofNat (fr + ln))), .val (.long hv), .second, .unset, .unset] [(.long (stp hv (bs.getD (fr + 3) 0)))])
      refine Ok.lstore (l' := #[.val (.long p1), .second, .val (.int p2), .val (.ref b1), .val (.int (Int32.ofNat fr)), .val (.int (Int32.ofNat ln)), .val (.int (Int32.ofNat (fr + ln))), .val (.long (stp hv (bs.getD (fr + 3) 0))), .second, .unset, .unset]) (pc' := 182) X25 hx (hb hby at_180) rfl rfl ?_
      exact k182 T25 _ X25 eq25 N25 (stp hv (bs.getD (fr + 3) 0)) (by rw [hh, show min ln 3 = 3 from by omega, show min ln 4 = 3 + 1 from by omega]; rfl)
  have k144 : ∀ (Tj144 : State) (Lj144 : List Loc) (Xj144 : Stand p l e room_1 s m #[(.long p1), (.int p2)] below meth c Tj144 Lj144 1 8) (ej144 : Tj144.heap = h17) (Nj144 : Fr n0 Lj144) (hv : Int64) (hh : hv = hs bs fr (min ln 2)), Ok p e below (NE s room_1.cells room_1.slots) (Q0 Z p1 p2 h0 n0) Tj144 (mkF m 144 #[.val (.long p1), .second, .val (.int p2), .val (.ref b1), .val (.int (Int32.ofNat fr)), .val (.int (Int32.ofNat ln)), .val (.int (Int32.ofNat (fr + ln))), .val (.long hv), .second, .unset, .unset] []) := by
    intro Tj144 Lj144 Xj144 ej144 Nj144 hv hh
    refine Ok.iload (pc' := 146) Xj144 hx (hb hby at_144) rfl rfl ?_
    refine Ok.iconst (z := (2 : Int32)) (pc' := 147) Xj144 hx (hb hby at_146) rfl rfl ?_
    by_cases hc147 : (Int32.ofNat ln).toInt ≤ 2
    · refine Ok.icY (pc' := 163) Xj144 hx (hb hby at_147) (bt (ic_eq (Int32.ofNat ln) (2 : Int32)).2.2.2.2.2 hc147) (by decide) (by decide) ?_
      exact k163 Tj144 _ Xj144 ej144 Nj144 hv (by rw [show min ln 3 = min ln 2 from by omega]; exact hh)
    · refine Ok.icN (pc' := 150) Xj144 hx (hb hby at_147) (bf (ic_eq (Int32.ofNat ln) (2 : Int32)).2.2.2.2.2 hc147) rfl ?_
      refine Ok.lload (pc' := 152) Xj144 hx (hb hby at_150) rfl rfl ?_
      refine Ok.aloadN (pc' := 153) Xj144 hx (hb hby at_152) rfl rfl rfl ?_
      refine Ok.iload (pc' := 155) Xj144 hx (hb hby at_153) rfl rfl ?_
      refine Ok.iconst (z := (2 : Int32)) (pc' := 156) Xj144 hx (hb hby at_155) rfl rfl ?_
      refine Ok.iadd (pc' := 157) Xj144 hx (hb hby at_156) rfl ?_
      rw [show Int32.ofNat fr + (2 : Int32) = Int32.ofNat (fr + 2) from (Int32.ofNat_add fr 2).symm]
      refine Ok.ldB (pc' := 158) (v := (.int (bs.getD (fr + 2) 0))) Xj144 hx hZ ej144 Vb (ofNat_in (n := 8) (by omega) (by omega)) (by rw [ofNat_clamp (by omega)]; exact getD_ints bs (fr + 2)) (hb hby at_157) rfl ?_
      refine Ok.callS (pc' := 161) (W := 0)  (argsL := [(.long hv), (.int (bs.getD (fr + 2) 0))]) (rest := []) Xj144 hx hZ hown (rm3 l Z a0 hw hv (bs.getD (fr + 2) 0) h17 n0 Z18 ) (hw _ (List.mem_of_getElem? (i := 14) rfl)) (hw _ (List.mem_of_getElem? (i := 15) rfl)) (hw _ (List.mem_of_getElem? (i := 5) rfl)) (hw _ (List.mem_of_getElem? (i := 16) rfl)) (by decide) ej144 (by decide) (by decide) (by decide) (by decide) (lenOf pd_2 rfl) rfl rfl (Nat.le_of_eq rfl) (by rw [hml]; rfl) (hb hby at_158) rfl ?_
      intro v26 T26 L26 X26 hQ26
      obtain ⟨rfl, Nq26, eq26⟩ := hQ26
      have N26 := Fr.app Nj144 Nq26
      show Ok p e below _ _ T26 (mkF m 161 #[.val (.long p1), .second, .val (.int p2), .val (.ref b1), .val (.int (Int32.ofNat fr)), .val (.int (Int32.ofNat ln)), .val (.int (Int32.ofNat (fr + ln))), .val (.long hv), .second, .unset, .unset] [(.long (stp hv (bs.getD (fr + 2) 0)))])
      refine Ok.lstore (l' := #[.val (.long p1), .second, .val (.int p2), .val (.ref b1), .val (.int (Int32.ofNat fr)), .val (.int (Int32.ofNat ln)), .val (.int (Int32.ofNat (fr + ln))), .val (.long (stp hv (bs.getD (fr + 2) 0))), .second, .unset, .unset]) (pc' := 163) X26 hx (hb hby at_161) rfl rfl ?_
      exact k163 T26 _ X26 eq26 N26 (stp hv (bs.getD (fr + 2) 0)) (by rw [hh, show min ln 2 = 2 from by omega, show min ln 3 = 2 + 1 from by omega]; rfl)
  have k125 : ∀ (Tj125 : State) (Lj125 : List Loc) (Xj125 : Stand p l e room_1 s m #[(.long p1), (.int p2)] below meth c Tj125 Lj125 1 8) (ej125 : Tj125.heap = h17) (Nj125 : Fr n0 Lj125) (hv : Int64) (hh : hv = hs bs fr (min ln 1)), Ok p e below (NE s room_1.cells room_1.slots) (Q0 Z p1 p2 h0 n0) Tj125 (mkF m 125 #[.val (.long p1), .second, .val (.int p2), .val (.ref b1), .val (.int (Int32.ofNat fr)), .val (.int (Int32.ofNat ln)), .val (.int (Int32.ofNat (fr + ln))), .val (.long hv), .second, .unset, .unset] []) := by
    intro Tj125 Lj125 Xj125 ej125 Nj125 hv hh
    refine Ok.iload (pc' := 127) Xj125 hx (hb hby at_125) rfl rfl ?_
    refine Ok.iconst (z := (1 : Int32)) (pc' := 128) Xj125 hx (hb hby at_127) rfl rfl ?_
    by_cases hc128 : (Int32.ofNat ln).toInt ≤ 1
    · refine Ok.icY (pc' := 144) Xj125 hx (hb hby at_128) (bt (ic_eq (Int32.ofNat ln) (1 : Int32)).2.2.2.2.2 hc128) (by decide) (by decide) ?_
      exact k144 Tj125 _ Xj125 ej125 Nj125 hv (by rw [show min ln 2 = min ln 1 from by omega]; exact hh)
    · refine Ok.icN (pc' := 131) Xj125 hx (hb hby at_128) (bf (ic_eq (Int32.ofNat ln) (1 : Int32)).2.2.2.2.2 hc128) rfl ?_
      refine Ok.lload (pc' := 133) Xj125 hx (hb hby at_131) rfl rfl ?_
      refine Ok.aloadN (pc' := 134) Xj125 hx (hb hby at_133) rfl rfl rfl ?_
      refine Ok.iload (pc' := 136) Xj125 hx (hb hby at_134) rfl rfl ?_
      refine Ok.iconst (z := (1 : Int32)) (pc' := 137) Xj125 hx (hb hby at_136) rfl rfl ?_
      refine Ok.iadd (pc' := 138) Xj125 hx (hb hby at_137) rfl ?_
      rw [show Int32.ofNat fr + (1 : Int32) = Int32.ofNat (fr + 1) from (Int32.ofNat_add fr 1).symm]
      refine Ok.ldB (pc' := 139) (v := (.int (bs.getD (fr + 1) 0))) Xj125 hx hZ ej125 Vb (ofNat_in (n := 8) (by omega) (by omega)) (by rw [ofNat_clamp (by omega)]; exact getD_ints bs (fr + 1)) (hb hby at_138) rfl ?_
      refine Ok.callS (pc' := 142) (W := 0)  (argsL := [(.long hv), (.int (bs.getD (fr + 1) 0))]) (rest := []) Xj125 hx hZ hown (rm3 l Z a0 hw hv (bs.getD (fr + 1) 0) h17 n0 Z18 ) (hw _ (List.mem_of_getElem? (i := 14) rfl)) (hw _ (List.mem_of_getElem? (i := 15) rfl)) (hw _ (List.mem_of_getElem? (i := 5) rfl)) (hw _ (List.mem_of_getElem? (i := 16) rfl)) (by decide) ej125 (by decide) (by decide) (by decide) (by decide) (lenOf pd_2 rfl) rfl rfl (Nat.le_of_eq rfl) (by rw [hml]; rfl) (hb hby at_139) rfl ?_
      intro v27 T27 L27 X27 hQ27
      obtain ⟨rfl, Nq27, eq27⟩ := hQ27
      have N27 := Fr.app Nj125 Nq27
      show Ok p e below _ _ T27 (mkF m 142 #[.val (.long p1), .second, .val (.int p2), .val (.ref b1), .val (.int (Int32.ofNat fr)), .val (.int (Int32.ofNat ln)), .val (.int (Int32.ofNat (fr + ln))), .val (.long hv), .second, .unset, .unset] [(.long (stp hv (bs.getD (fr + 1) 0)))])
      refine Ok.lstore (l' := #[.val (.long p1), .second, .val (.int p2), .val (.ref b1), .val (.int (Int32.ofNat fr)), .val (.int (Int32.ofNat ln)), .val (.int (Int32.ofNat (fr + ln))), .val (.long (stp hv (bs.getD (fr + 1) 0))), .second, .unset, .unset]) (pc' := 144) X27 hx (hb hby at_142) rfl rfl ?_
      exact k144 T27 _ X27 eq27 N27 (stp hv (bs.getD (fr + 1) 0)) (by rw [hh, show min ln 1 = 1 from by omega, show min ln 2 = 1 + 1 from by omega]; rfl)
  refine Ok.iload (pc' := 111) X17 hx (hb hby at_109) rfl rfl ?_
  by_cases hc111 : (Int32.ofNat ln).toInt ≤ 0
  · refine Ok.ifY (pc' := 125) X17 hx (hb hby at_111) (bt (i0 .le (Int32.ofNat ln) (ic_eq (Int32.ofNat ln) 0).2.2.2.2.2) hc111) (by decide) (by decide) ?_
    exact k125 T17 _ X17 e17 N17 (-3750763034362895579 : Int64) (by rw [show min ln 1 = min ln 0 from by omega]; rw [show min ln 0 = 0 from by omega]; rfl)
  · refine Ok.ifN (pc' := 114) X17 hx (hb hby at_111) (bf (i0 .le (Int32.ofNat ln) (ic_eq (Int32.ofNat ln) 0).2.2.2.2.2) hc111) rfl ?_
    refine Ok.lload (pc' := 116) X17 hx (hb hby at_114) rfl rfl ?_
    refine Ok.aloadN (pc' := 117) X17 hx (hb hby at_116) rfl rfl rfl ?_
    refine Ok.iload (pc' := 119) X17 hx (hb hby at_117) rfl rfl ?_
    refine Ok.ldB (pc' := 120) (v := (.int (bs.getD (fr + 0) 0))) X17 hx hZ e17 Vb (ofNat_in (n := 8) (by omega) (by omega)) (by rw [ofNat_clamp (by omega)]; exact getD_ints bs (fr + 0)) (hb hby at_119) rfl ?_
    refine Ok.callS (pc' := 123) (W := 0)  (argsL := [(.long (-3750763034362895579 : Int64)), (.int (bs.getD (fr + 0) 0))]) (rest := []) X17 hx hZ hown (rm3 l Z a0 hw (-3750763034362895579 : Int64) (bs.getD (fr + 0) 0) h17 n0 Z18 ) (hw _ (List.mem_of_getElem? (i := 14) rfl)) (hw _ (List.mem_of_getElem? (i := 15) rfl)) (hw _ (List.mem_of_getElem? (i := 5) rfl)) (hw _ (List.mem_of_getElem? (i := 16) rfl)) (by decide) e17 (by decide) (by decide) (by decide) (by decide) (lenOf pd_2 rfl) rfl rfl (Nat.le_of_eq rfl) (by rw [hml]; rfl) (hb hby at_120) rfl ?_
    intro v28 T28 L28 X28 hQ28
    obtain ⟨rfl, Nq28, eq28⟩ := hQ28
    have N28 := Fr.app N17 Nq28
    show Ok p e below _ _ T28 (mkF m 123 #[.val (.long p1), .second, .val (.int p2), .val (.ref b1), .val (.int (Int32.ofNat fr)), .val (.int (Int32.ofNat ln)), .val (.int (Int32.ofNat (fr + ln))), .val (.long (-3750763034362895579 : Int64)), .second, .unset, .unset] [(.long (stp (-3750763034362895579 : Int64) (bs.getD (fr + 0) 0)))])
    refine Ok.lstore (l' := #[.val (.long p1), .second, .val (.int p2), .val (.ref b1), .val (.int (Int32.ofNat fr)), .val (.int (Int32.ofNat ln)), .val (.int (Int32.ofNat (fr + ln))), .val (.long (stp (-3750763034362895579 : Int64) (bs.getD (fr + 0) 0))), .second, .unset, .unset]) (pc' := 125) X28 hx (hb hby at_123) rfl rfl ?_
    exact k125 T28 _ X28 eq28 N28 (stp (-3750763034362895579 : Int64) (bs.getD (fr + 0) 0)) (by rw [show (-3750763034362895579 : Int64) = hs bs fr 0 from rfl, show min ln 1 = 0 + 1 from by omega]; rfl)
set_option maxRecDepth 65536 in
set_option maxHeartbeats 40000000 in
theorem comes_1 {Post : Tables → Env → Array Value → State → Outcome → State → Prop} (hpost : ∀ tb e args s v u, (limb_1_1.after args s (.returned v) u = true ∧ limb_1_2.after args s (.returned v) u = true ∧ True) → FrameEnd s (.returned v) u (Jvm.fieldLocs frame_1_writes args s ++ Jvm.arrayLocs frame_1_arrays args s ++ Jvm.staticLocs frame_1_statics s) 16 128 → Post tb e args s (.returned v) u) :
    ArmFor flags0 classFile x code maxLocals ret World_1 tables_1 room_1 Calls_1 rest_1 Pre_1 Post := by
  intro l hfl _ _ p e ha hc hk s m args below hf hA hF happ hP
  obtain ⟨hcalls, hrest, hpre⟩ := hP
  obtain ⟨-, -, -, hnamed, -, -, -, hat⟩ := (Spec.applies_iff hf).mp happ
  obtain ⟨hg, hn⟩ := and_e (Cond.before_iff.mp (show (Jvm.Cond.and given_1 narrow_1).before args s = true from hpre))
  obtain ⟨hcount, hg0⟩ := and_e hg
  obtain ⟨hk0, hg1⟩ := and_e hg0
  have hk1 := hg1
  obtain ⟨w0, w1, rfl⟩ : ∃ w0 w1 : Value, args = #[w0, w1] := by
    have hs : args.size = 2 := by simpa [Cond.value, given_1] using hcount
    obtain ⟨L⟩ := args
    match L, hs with
    | [w0, w1], _ => exact ⟨w0, w1, rfl⟩
  have hw := fun d (hd : d ∈ tables_1) => atoms_spec (ws := Jvm.Cond.code x code maxLocals ret :: tables_1) hat d (List.mem_cons_of_mem _ hd)
  obtain ⟨i0, ei0⟩ := isL_v hk0
  obtain rfl : w0 = (.long i0) := Option.some.inj ei0
  obtain ⟨i1, ei1⟩ := is_v hk1
  obtain rfl : w1 = (.int i1) := Option.some.inj ei1
  obtain ⟨n, o, h1, h2, h3, _, L, rfl, ⟨rfl, N⟩, hq⟩ := rm0 l s _ hw tables_1 i0 i1 s.heap s.heap.size (Nat.le_refl _)  p e ha hc hk s m _ below hf ((Spec.applies_iff_loose hf).mp happ).1 ⟨rfl, State.Warmed39.refl s, rfl⟩ trivial
  refine ⟨n, _, h1, h2, h3, hpost _ _ _ _ _ _ ⟨Cond.after_iff.mpr rfl, Cond.after_iff.mpr (eq_i res_at (Term.int_eval (1)) rfl), trivial⟩ ⟨hq.1, hq.2.1, (hq.2.2.sift fun y hy => Or.inr (N y hy)).mono (by decide) (by decide)⟩⟩
theorem main_1_1 : Claimed_1_1 := comes_1 fun _ _ _ _ _ _ h hF => ⟨h.1, hF⟩
theorem main_1_2 : Claimed_1_2 := comes_1 fun _ _ _ _ _ _ h hF => ⟨h.2.1, hF⟩
end Jvm.Pilot.@@N@@
namespace Jvm.Pilot.@@N@@
open Jvm Jvm.ClassFile Sem Op Lib Jvm.Free Jvm.Stand Jvm.Pilot.@@N@@.Jvm.D
/-! MADE BY PROGRAM (witnessworld.py) out of the Statement's table words and the real class files: 9 classes; the members and pool entries that the words name. The judged class is class 1, her method 3. -/
namespace start1
open Jvm.ClassFile
def u (s : String) : CpInfo := .utf8 (stringToUtf16 s)
/-- a pool by its gaps: so many unusable entries, then the entry; so many at the end -/
def gap : Nat → List CpInfo → List CpInfo
  | 0, r => r
  | n + 1, r => .unusable :: gap n r
def poolList (es : List (Nat × CpInfo)) (last : Nat) : List CpInfo := es.foldr (fun e r => gap e.1 (e.2 :: r)) (gap last [])
def pool (es : List (Nat × CpInfo)) (last : Nat) : Array CpInfo := ⟨poolList es last⟩
def fileOf (pool : Array CpInfo) (this : Nat) (attrs : Array Attribute := #[]) (ms : Array MethodInfo := #[]) (fl : Nat := 33) (sup : Nat := 0) (ifs : Array Nat := #[]) (fds : Array FieldInfo := #[]) : ClassFile where
  minorVersion := 0
  majorVersion := 65
  constantPool := pool
  accessFlags := fl
  thisClass := this
  superClass := sup
  interfaces := ifs
  fields := fds
  methods := ms
  attributes := attrs
def plain (name : String) (sup : Option ClassId) : Class where
  name := name
  kind := .ordinary
  loader := none
  accessFlags := 33
  super := sup
  interfaces := #[]
  cf := none
  fields := #[]
  methods := #[]
  instanceTypes := #[]
  staticTypes := #[]
  resolved := #[]
  callSites := []
  init := .initialized
  statics := none
  mirror := none

def pool0 : Array CpInfo := pool [(5, u "<init>"), (0, u "()V"), (1, .class_ 10), (1, u "java/lang/Object")] 113

def k0m0 : Method := { name := "<init>", desc := "()V", sig := { parameters := [], returnType := none }, accessFlags := 1, code := none }
/-- java/lang/Object -/
def k0 : Class := { plain "java/lang/Object" none with
  accessFlags := 33
  interfaces := #[]
  cf := some (fileOf pool0 8 #[] #[{ accessFlags := 1, nameIndex := 5, descriptorIndex := 6, attributes := #[] }] 33 0 #[] #[])
  fields := #[]
  methods := #[k0m0]
  instanceTypes := #[]
  staticTypes := #[]
  resolved := Array.replicate 124 none
  statics := none }

def pool1 : Array CpInfo := pool [(2, .class_ 4), (1, u "java/lang/Object"), (0, u "<init>"), (0, u "()V"), (0, .long 1099511628211), (1, .long 15485907386658061715), (1, .integer 2147483647), (0, .long 14695981039346656037), (1, .methodref 15 16), (0, .class_ 17), (0, .nameAndType 18 19), (0, u "com/example/pricefence/pricefence/replay/SeenIdsHashPinLaw"), (0, u "step"), (0, u "(JB)J"), (0, .methodref 15 21), (0, .nameAndType 22 23), (0, u "mix"), (0, u "(J)J"), (0, .methodref 25 26), (0, .class_ 27), (0, .nameAndType 28 29), (0, u "com/example/pricefence/pricefence/replay/SeenIds"), (0, u "hash"), (0, u "([BII)J"), (2, u "law"), (0, u "(JI)Z")] 5

def k1m0 : Method := { name := "<init>", desc := "()V", sig := { parameters := [], returnType := none }, accessFlags := 1, code := none }
def k1c1 : Code := { maxStack := 4, maxLocals := 3, code := method_2_code, exceptionTable := #[], attributes := #[] }
def k1m1 : Method := { name := "step", desc := "(JB)J", sig := { parameters := [.long, .byte], returnType := some .long }, accessFlags := 10, code := some k1c1 }
def k1c2 : Code := { maxStack := 5, maxLocals := 4, code := method_3_code, exceptionTable := #[], attributes := #[] }
def k1m2 : Method := { name := "mix", desc := "(J)J", sig := { parameters := [.long], returnType := some .long }, accessFlags := 10, code := some k1c2 }
def k1c3 : Code := { maxStack := 5, maxLocals := 11, code := code, exceptionTable := #[], attributes := #[] }
def k1m3 : Method := { name := "law", desc := "(JI)Z", sig := { parameters := [.long, .int], returnType := some .boolean }, accessFlags := 9, code := some k1c3 }
/-- com/example/pricefence/pricefence/replay/SeenIdsHashPinLaw -/
def k1 : Class := { plain "com/example/pricefence/pricefence/replay/SeenIdsHashPinLaw" (some 0) with
  accessFlags := 49
  interfaces := #[]
  cf := some (fileOf pool1 15 #[] #[{ accessFlags := 1, nameIndex := 5, descriptorIndex := 6, attributes := #[] }, { accessFlags := 10, nameIndex := 18, descriptorIndex := 19, attributes := #[] }, { accessFlags := 10, nameIndex := 22, descriptorIndex := 23, attributes := #[] }, { accessFlags := 9, nameIndex := 32, descriptorIndex := 33, attributes := #[] }] 49 2 #[] #[])
  fields := #[]
  methods := #[k1m0, k1m1, k1m2, k1m3]
  instanceTypes := #[]
  staticTypes := #[]
  resolved := Array.replicate 39 none
  statics := none }

def pool2 : Array CpInfo := pool [(1, .class_ 2), (0, u "com/example/pricefence/pricefence/replay/SeenIds"), (1, .class_ 6), (1, u "java/lang/Object"), (0, u "<init>"), (0, u "()V"), (2, u "slots"), (0, u "[J"), (2, u "slotBits"), (0, u "I"), (1, u "[B"), (2, u "chunks"), (0, u "[[B"), (2, u "bytes"), (2, u "hash"), (22, u "size"), (19, u "length"), (31, u "([BII)J"), (2, u "prefetched"), (0, u "J"), (6, u "chunkCount"), (2, u "fill"), (39, .long 14695981039346656037), (1, .long 1099511628211), (1, .long 15485907386658061715), (1, u "CHUNK_BITS"), (2, u "CHUNK_SIZE"), (0, u "REFERENCE_BITS"), (1, u "REFERENCE_MASK"), (0, u "MAX_CHUNKS"), (0, u "KEPT_HASH_BITS"), (1, u "SPREAD"), (0, u "KEPT_HASH_MASK"), (0, u "USED"), (0, u "LINE_BYTES")] 12

def k2m0 : Method := { name := "<init>", desc := "()V", sig := { parameters := [], returnType := none }, accessFlags := 0, code := none }
def k2c1 : Code := { maxStack := 5, maxLocals := 6, code := prog_61_method_18_code, exceptionTable := #[], attributes := #[] }
def k2m1 : Method := { name := "hash", desc := "([BII)J", sig := { parameters := [(.array .byte), .int, .int], returnType := some .long }, accessFlags := 8, code := some k2c1 }
/-- com/example/pricefence/pricefence/replay/SeenIds -/
def k2 : Class := { plain "com/example/pricefence/pricefence/replay/SeenIds" (some 0) with
  accessFlags := 48
  interfaces := #[]
  cf := some (fileOf pool2 1 #[] #[{ accessFlags := 0, nameIndex := 7, descriptorIndex := 8, attributes := #[] }, { accessFlags := 8, nameIndex := 28, descriptorIndex := 103, attributes := #[] }] 48 4 #[] #[{ accessFlags := 26, nameIndex := 163, descriptorIndex := 16, attributes := #[] }, { accessFlags := 26, nameIndex := 166, descriptorIndex := 16, attributes := #[] }, { accessFlags := 26, nameIndex := 167, descriptorIndex := 16, attributes := #[] }, { accessFlags := 26, nameIndex := 169, descriptorIndex := 107, attributes := #[] }, { accessFlags := 26, nameIndex := 170, descriptorIndex := 16, attributes := #[] }, { accessFlags := 24, nameIndex := 171, descriptorIndex := 16, attributes := #[] }, { accessFlags := 26, nameIndex := 173, descriptorIndex := 107, attributes := #[] }, { accessFlags := 26, nameIndex := 174, descriptorIndex := 107, attributes := #[] }, { accessFlags := 26, nameIndex := 175, descriptorIndex := 107, attributes := #[] }, { accessFlags := 26, nameIndex := 176, descriptorIndex := 16, attributes := #[] }, { accessFlags := 2, nameIndex := 11, descriptorIndex := 12, attributes := #[] }, { accessFlags := 2, nameIndex := 15, descriptorIndex := 16, attributes := #[] }, { accessFlags := 2, nameIndex := 106, descriptorIndex := 107, attributes := #[] }, { accessFlags := 2, nameIndex := 51, descriptorIndex := 16, attributes := #[] }, { accessFlags := 2, nameIndex := 21, descriptorIndex := 22, attributes := #[] }, { accessFlags := 2, nameIndex := 114, descriptorIndex := 16, attributes := #[] }, { accessFlags := 2, nameIndex := 117, descriptorIndex := 16, attributes := #[] }, { accessFlags := 2, nameIndex := 25, descriptorIndex := 18, attributes := #[] }, { accessFlags := 2, nameIndex := 71, descriptorIndex := 16, attributes := #[] }])
  fields := #[{ name := "CHUNK_BITS", type := .int, accessFlags := 26, slot := 0, constantValue := 0 }, { name := "CHUNK_SIZE", type := .int, accessFlags := 26, slot := 1, constantValue := 0 }, { name := "REFERENCE_BITS", type := .int, accessFlags := 26, slot := 2, constantValue := 0 }, { name := "REFERENCE_MASK", type := .long, accessFlags := 26, slot := 3, constantValue := 0 }, { name := "MAX_CHUNKS", type := .int, accessFlags := 26, slot := 4, constantValue := 0 }, { name := "KEPT_HASH_BITS", type := .int, accessFlags := 24, slot := 5, constantValue := 0 }, { name := "SPREAD", type := .long, accessFlags := 26, slot := 6, constantValue := 0 }, { name := "KEPT_HASH_MASK", type := .long, accessFlags := 26, slot := 7, constantValue := 0 }, { name := "USED", type := .long, accessFlags := 26, slot := 8, constantValue := 0 }, { name := "LINE_BYTES", type := .int, accessFlags := 26, slot := 9, constantValue := 0 }, { name := "slots", type := (.array .long), accessFlags := 2, slot := 0, constantValue := 0 }, { name := "slotBits", type := .int, accessFlags := 2, slot := 1, constantValue := 0 }, { name := "prefetched", type := .long, accessFlags := 2, slot := 2, constantValue := 0 }, { name := "size", type := .int, accessFlags := 2, slot := 3, constantValue := 0 }, { name := "chunks", type := (.array (.array .byte)), accessFlags := 2, slot := 4, constantValue := 0 }, { name := "chunkCount", type := .int, accessFlags := 2, slot := 5, constantValue := 0 }, { name := "fill", type := .int, accessFlags := 2, slot := 6, constantValue := 0 }, { name := "bytes", type := (.array .byte), accessFlags := 2, slot := 7, constantValue := 0 }, { name := "length", type := .int, accessFlags := 2, slot := 8, constantValue := 0 }]
  methods := #[k2m0, k2m1]
  instanceTypes := #[(.array .long), .int, .long, .int, (.array (.array .byte)), .int, .int, (.array .byte), .int]
  staticTypes := #[.int, .int, .int, .long, .int, .int, .long, .long, .long, .int]
  resolved := Array.replicate 189 none
  statics := none }

def pool3 : Array CpInfo := pool [(1, u "java/lang/Cloneable"), (0, .class_ 1), (0, u "java/lang/Object"), (0, .class_ 3)] 3

/-- java/lang/Cloneable -/
def k3 : Class := { plain "java/lang/Cloneable" (some 0) with
  accessFlags := 1537
  interfaces := #[]
  cf := some (fileOf pool3 2 #[] #[] 1537 4 #[] #[])
  fields := #[]
  methods := #[]
  instanceTypes := #[]
  staticTypes := #[]
  resolved := Array.replicate 8 none
  statics := none }

def pool4 : Array CpInfo := pool [(1, u "java/io/Serializable"), (0, .class_ 1), (0, u "java/lang/Object"), (0, .class_ 3)] 3

/-- java/io/Serializable -/
def k4 : Class := { plain "java/io/Serializable" (some 0) with
  accessFlags := 1537
  interfaces := #[]
  cf := some (fileOf pool4 2 #[] #[] 1537 4 #[] #[])
  fields := #[]
  methods := #[]
  instanceTypes := #[]
  staticTypes := #[]
  resolved := Array.replicate 8 none
  statics := none }

/-- the primitive byte -/
def k5 : Class := { plain "byte" none with kind := .primitive 'B', accessFlags := 0x411 }
/-- [B -/
def k6 : Class := { plain "[B" (some 0) with kind := .array 5 .byte, interfaces := #[3, 4], accessFlags := 1041 }

/-- the primitive int -/
def k7 : Class := { plain "int" none with kind := .primitive 'I', accessFlags := 0x411 }
/-- [I -/
def k8 : Class := { plain "[I" (some 0) with kind := .array 7 .int, interfaces := #[3, 4], accessFlags := 1041 }

def heap : Heap := #[]
def classes : Array Class := #[k0, k1, k2, k3, k4, k5, k6, k7, k8]
def interned : List (Array UInt16 × Addr) := []
def slotsUsed : Nat := 0
def theMethod : MethodId := ⟨1, 3⟩
def args0 : Array Value := #[.long 5, .int 6]
def aboutOver (below : List Frame) : State where
  vm := { classes := classes, interned := interned.toArray }
  heap := heap
  slotsUsed := slotsUsed
  threads := #[{ frames := .invoking theMethod args0 :: below }]
def below0 : List Frame := [.native { method := ⟨0, 0⟩, args := #[] }]
def about1 : State := aboutOver below0
def p0 : Program := .bare "" "" ""
def e0 : Env := launch0.env 0 0 0
theorem w_frames : about1.frames = Frame.invoking theMethod args0 :: below0 := rfl
set_option maxRecDepth 65536 in
theorem w_args : argsFit about1.vm theMethod args0 = true := by decide +kernel
set_option maxRecDepth 65536 in
theorem w_heap : heapFits about1 = true := by decide +kernel
set_option maxRecDepth 65536 in
theorem w_runnable : about1.curStatus? = some .runnable := by decide +kernel
set_option maxRecDepth 65536 in
theorem w_alone : about1.alone = true := by decide +kernel
set_option maxRecDepth 65536 in
theorem w_named : about1.methodNamed? x = some theMethod := by decide +kernel
set_option maxRecDepth 65536 in
theorem w_hears : about1.hears theMethod below0 = true := by decide +kernel
set_option maxRecDepth 65536 in
theorem w_ripe : about1.ripe theMethod args0 below0 = true := by decide +kernel
theorem w_running : about1.status = .running := rfl
set_option maxRecDepth 65536 in
theorem w_room : about1.hasRoom e0.platform room_1 = true :=
  launch0.hasRoom_least _ room_1 (by decide +kernel) (by decide +kernel) (by decide +kernel) (by decide +kernel) (by decide +kernel) (by decide +kernel)
theorem allAtoms_all (ts : List Jvm.Cond) (a : Array Jvm.Value) (st : Jvm.State) : (allAtoms ts).before a st = ts.all (fun c => c.before a st) := by
  induction ts with
  | nil => rfl
  | cons c t ih =>
    show (Jvm.Cond.and c (allAtoms t)).before a st = _
    rw [Jvm.Cond.before_and, ih, List.all_cons]
def words1 : List Jvm.Cond := Jvm.Cond.code x code maxLocals ret :: tables_1
/-- a 'code' word, met by the world's own term for the bytes: nothing is compared byte by byte -/
theorem code_word {y : MethodName} {bytes : ByteArray} {mx : Nat} {rt : Option FieldType} {a : Array Value} {s : State} {m : MethodId} {meth : Method} {c : Code} (h1 : s.methodNamed? y = some m) (h2 : s.vm.method? m = some meth) (h3 : meth.code = some c) (h4 : c.code = bytes)
    (h5 : (c.maxLocals == mx && c.exceptionTable.isEmpty && decide (c.maxStack ≤ mostOperands) && decide (meth.sig.returnType = rt) && !meth.locks && decide (parseMethodDescriptor y.desc = some meth.sig)) = true) : (Jvm.Cond.code y bytes mx rt).before a s = true := by
  simp only [Bool.and_eq_true, beq_iff_eq, Bool.not_eq_true', decide_eq_true_eq] at h5
  obtain ⟨⟨⟨⟨⟨g1, g2⟩, g3⟩, g4⟩, g5⟩, g6⟩ := h5
  simp [Cond.before, Cond.holds, Cond.value, h1, h2, h3, h4, g1, g2, g3, g4, g5, g6]
def isCode : Jvm.Cond → Bool
  | .code _ _ _ _ => true
  | _ => false
theorem all_split {L : List Jvm.Cond} {P : Jvm.Cond → Bool} (h1 : L.all (fun c => isCode c || P c) = true) (h2 : ∀ c ∈ L.filter isCode, P c = true) : L.all P = true := by
  refine List.all_eq_true.mpr fun c hc => ?_
  have h := List.all_eq_true.mp h1 c hc
  rcases Bool.eq_false_or_eq_true (isCode c) with hi | hi
  · exact h2 c (List.mem_filter.mpr ⟨hc, hi⟩)
  · simpa [hi] using h
set_option maxRecDepth 65536 in
theorem w_c0 : (Jvm.Cond.code x code maxLocals ret).before args0 about1 = true := code_word (m := ⟨1, 3⟩) (meth := k1m3) (c := k1c3) (by decide +kernel) rfl rfl rfl (by decide +kernel)
set_option maxRecDepth 65536 in
theorem w_c1 : (Jvm.Cond.code ({ cls := "com/example/pricefence/pricefence/replay/SeenIdsHashPinLaw", name := "mix", desc := "(J)J" } : Jvm.MethodName) method_3_code (4 : Nat) (Option.some Jvm.ClassFile.FieldType.long)).before args0 about1 = true := code_word (m := ⟨1, 2⟩) (meth := k1m2) (c := k1c2) (by decide +kernel) rfl rfl rfl (by decide +kernel)
set_option maxRecDepth 65536 in
theorem w_c2 : (Jvm.Cond.code ({ cls := "com/example/pricefence/pricefence/replay/SeenIds", name := "hash", desc := "([BII)J" } : Jvm.MethodName) prog_61_method_18_code (6 : Nat) (Option.some Jvm.ClassFile.FieldType.long)).before args0 about1 = true := code_word (m := ⟨2, 1⟩) (meth := k2m1) (c := k2c1) (by decide +kernel) rfl rfl rfl (by decide +kernel)
set_option maxRecDepth 65536 in
theorem w_c3 : (Jvm.Cond.code ({ cls := "com/example/pricefence/pricefence/replay/SeenIdsHashPinLaw", name := "step", desc := "(JB)J" } : Jvm.MethodName) method_2_code (3 : Nat) (Option.some Jvm.ClassFile.FieldType.long)).before args0 about1 = true := code_word (m := ⟨1, 1⟩) (meth := k1m1) (c := k1c1) (by decide +kernel) rfl rfl rfl (by decide +kernel)
def codes1 : List Jvm.Cond := [Jvm.Cond.code x code maxLocals ret, Jvm.Cond.code ({ cls := "com/example/pricefence/pricefence/replay/SeenIdsHashPinLaw", name := "mix", desc := "(J)J" } : Jvm.MethodName) method_3_code (4 : Nat) (Option.some Jvm.ClassFile.FieldType.long), Jvm.Cond.code ({ cls := "com/example/pricefence/pricefence/replay/SeenIds", name := "hash", desc := "([BII)J" } : Jvm.MethodName) prog_61_method_18_code (6 : Nat) (Option.some Jvm.ClassFile.FieldType.long), Jvm.Cond.code ({ cls := "com/example/pricefence/pricefence/replay/SeenIdsHashPinLaw", name := "step", desc := "(JB)J" } : Jvm.MethodName) method_2_code (3 : Nat) (Option.some Jvm.ClassFile.FieldType.long)]
set_option maxRecDepth 65536 in
theorem codes_eq : words1.filter isCode = codes1 := rfl
theorem w_codes : ∀ c ∈ words1.filter isCode, c.before args0 about1 = true := by
  rw [codes_eq]
  intro c hc
  simp only [codes1, List.mem_cons, List.not_mem_nil, or_false] at hc
  rcases hc with rfl | rfl | rfl | rfl
  · exact w_c0
  · exact w_c1
  · exact w_c2
  · exact w_c3
set_option maxRecDepth 65536 in
theorem w_t1 : words1.all (fun c => isCode c || c.before args0 about1) = true := by decide +kernel
theorem w_tables : (allAtoms (Jvm.Cond.code x code maxLocals ret :: tables_1)).before args0 about1 = true := by
  rw [allAtoms_all]
  show words1.all (fun c => c.before args0 about1) = true
  refine all_split ?_ w_codes
  rw [w_t1]
set_option maxRecDepth 65536 in
theorem w_case : (Jvm.Cond.and given_1 narrow_1).before args0 about1 = true := by decide +kernel
theorem w_applies : (headSpec (Jvm.Cond.code x code maxLocals ret :: tables_1) room_1).applies x e0.platform about1 = true :=
  (Spec.applies_iff w_frames).mpr ⟨w_running, w_runnable, w_alone, w_named, w_hears, w_ripe, w_room, w_tables⟩
theorem atStart : AtStart classFile x code maxLocals ret World_1 tables_1 room_1 Calls_1 rest_1 Pre_1 launch0 p0 e0 about1 theMethod args0 below0 :=
  ⟨lists_1, trivial, launch0.admits_env _ _ _, launch0.least_env, fairChoices_fair.cas, fairChoices_fair.clock, w_frames, w_args, w_heap, w_applies, trivial, trivial, w_case⟩
end start1
theorem witness_1 : WitnessClaimed_1 := ⟨start1.p0, start1.e0, start1.about1, start1.theMethod, start1.args0, start1.below0, start1.atStart⟩
end Jvm.Pilot.@@N@@
