import JvmDerived
import JvmDerived.Pilot.@@N@@Statement
import JvmDerived.Pilot.@@N@@Code
set_option linter.unusedVariables false
set_option linter.unusedSimpArgs false
@@BLOCK:NumsL.lean.txt@@
namespace Jvm.Pilot.@@N@@
open Jvm Jvm.ClassFile Sem Op Lib Jvm.Free Jvm.Stand Jvm.LawKit Jvm.RoadKit Bundle Jvm.Pilot.@@N@@.Jvm.D
def Nq (a b : Addr) : Prop := a ≠ b
section Layer
variable {p : Program} {l : Launch} {e : Env} {R : Room} {s : State} {m : MethodId} {args : Array Value} {below : List Frame} {meth : Method} {c : Code} {T T' : State} {locs : List Loc} {cells slots : Nat} {Fe : Outcome → State → List Loc → Prop} {Q : Option Value → Heap → List Loc → Prop} {pc pc' : Nat} {Ls l' : Array Slot} {g g' : JFrame} {Z : State} {a0 : Array Value}
/-- from the frame g over T the run comes to a return of which Q and the frame's condition Fe hold -/
def Ok (p : Program) (e : Env) (below : List Frame) (Fe : Outcome → State → List Loc → Prop) (Q : Option Value → Heap → List Loc → Prop) (T : State) (g : JFrame) : Prop :=
  ∃ s₂ o, Steps p.tables e below (T.setTop g) s₂ ∧ s₂.status = .running ∧ Ended s₂ below o ∧ ∃ v L, o = .returned v ∧ Q v s₂.heap L ∧ Fe o s₂ L
def NE (s : State) (nc ns : Nat) (o : Outcome) (t : State) (L : List Loc) : Prop := FrameEnd s o t L nc ns
def WE (s : State) (nc ns : Nat) (o : Outcome) (t : State) (L : List Loc) : Prop := ReturnedEndW s o t L nc ns
theorem Ok.st (h : ∀ t, Steps p.tables e below (T'.setTop g') t → Steps p.tables e below (T.setTop g) t) (k : Ok p e below Fe Q T' g') : Ok p e below Fe Q T g := by
  obtain ⟨t, o, st, r⟩ := k
  exact ⟨t, o, h t st, r⟩
theorem Ok.tr (h : Steps p.tables e below (T.setTop g) (T'.setTop g')) (k : Ok p e below Fe Q T' g') : Ok p e below Fe Q T g := Ok.st (fun _ k' => h.trans k') k
theorem Ok.fr (h : g = g') (k : Ok p e below Fe Q T g') : Ok p e below Fe Q T g := h ▸ k
theorem Ok.iadd {x y : Int32} {rest : List Value} (X : Stand p l e R s m args below meth c T locs cells slots) (hx : p.tables.exec = Jvm.exec) (hd : decode c.code pc = .ok (.iadd, 1)) (hp : pc + 1 = pc')  (k : Ok p e below Fe Q T (mkF m pc' Ls (.int (x + y) :: rest))) : Ok p e below Fe Q T (mkF m pc Ls (.int y :: .int x :: rest)) := by
  subst hp
  exact Ok.st (fun t k => XS.iadd X.here hx rfl hd rfl k) k
theorem Ok.ladd {x y : Int64} {rest : List Value} (X : Stand p l e R s m args below meth c T locs cells slots) (hx : p.tables.exec = Jvm.exec) (hd : decode c.code pc = .ok (.ladd, 1)) (hp : pc + 1 = pc')  (k : Ok p e below Fe Q T (mkF m pc' Ls (.long (x + y) :: rest))) : Ok p e below Fe Q T (mkF m pc Ls (.long y :: .long x :: rest)) := by
  subst hp
  exact Ok.st (fun t k => XS.ladd X.here hx rfl hd rfl k) k
theorem Ok.isub {x y : Int32} {rest : List Value} (X : Stand p l e R s m args below meth c T locs cells slots) (hx : p.tables.exec = Jvm.exec) (hd : decode c.code pc = .ok (.isub, 1)) (hp : pc + 1 = pc')  (k : Ok p e below Fe Q T (mkF m pc' Ls (.int (x - y) :: rest))) : Ok p e below Fe Q T (mkF m pc Ls (.int y :: .int x :: rest)) := by
  subst hp
  exact Ok.st (fun t k => XS.isub X.here hx rfl hd rfl k) k
theorem Ok.lsub {x y : Int64} {rest : List Value} (X : Stand p l e R s m args below meth c T locs cells slots) (hx : p.tables.exec = Jvm.exec) (hd : decode c.code pc = .ok (.lsub, 1)) (hp : pc + 1 = pc')  (k : Ok p e below Fe Q T (mkF m pc' Ls (.long (x - y) :: rest))) : Ok p e below Fe Q T (mkF m pc Ls (.long y :: .long x :: rest)) := by
  subst hp
  exact Ok.st (fun t k => XS.lsub X.here hx rfl hd rfl k) k
theorem Ok.imul {x y : Int32} {rest : List Value} (X : Stand p l e R s m args below meth c T locs cells slots) (hx : p.tables.exec = Jvm.exec) (hd : decode c.code pc = .ok (.imul, 1)) (hp : pc + 1 = pc')  (k : Ok p e below Fe Q T (mkF m pc' Ls (.int (x * y) :: rest))) : Ok p e below Fe Q T (mkF m pc Ls (.int y :: .int x :: rest)) := by
  subst hp
  exact Ok.st (fun t k => XS.imul X.here hx rfl hd rfl k) k
theorem Ok.lmul {x y : Int64} {rest : List Value} (X : Stand p l e R s m args below meth c T locs cells slots) (hx : p.tables.exec = Jvm.exec) (hd : decode c.code pc = .ok (.lmul, 1)) (hp : pc + 1 = pc')  (k : Ok p e below Fe Q T (mkF m pc' Ls (.long (x * y) :: rest))) : Ok p e below Fe Q T (mkF m pc Ls (.long y :: .long x :: rest)) := by
  subst hp
  exact Ok.st (fun t k => XS.lmul X.here hx rfl hd rfl k) k
theorem Ok.iand {x y : Int32} {rest : List Value} (X : Stand p l e R s m args below meth c T locs cells slots) (hx : p.tables.exec = Jvm.exec) (hd : decode c.code pc = .ok (.iand, 1)) (hp : pc + 1 = pc')  (k : Ok p e below Fe Q T (mkF m pc' Ls (.int (x &&& y) :: rest))) : Ok p e below Fe Q T (mkF m pc Ls (.int y :: .int x :: rest)) := by
  subst hp
  exact Ok.st (fun t k => XS.iand X.here hx rfl hd rfl k) k
theorem Ok.land {x y : Int64} {rest : List Value} (X : Stand p l e R s m args below meth c T locs cells slots) (hx : p.tables.exec = Jvm.exec) (hd : decode c.code pc = .ok (.land, 1)) (hp : pc + 1 = pc')  (k : Ok p e below Fe Q T (mkF m pc' Ls (.long (x &&& y) :: rest))) : Ok p e below Fe Q T (mkF m pc Ls (.long y :: .long x :: rest)) := by
  subst hp
  exact Ok.st (fun t k => XS.land X.here hx rfl hd rfl k) k
theorem Ok.ior {x y : Int32} {rest : List Value} (X : Stand p l e R s m args below meth c T locs cells slots) (hx : p.tables.exec = Jvm.exec) (hd : decode c.code pc = .ok (.ior, 1)) (hp : pc + 1 = pc')  (k : Ok p e below Fe Q T (mkF m pc' Ls (.int (x ||| y) :: rest))) : Ok p e below Fe Q T (mkF m pc Ls (.int y :: .int x :: rest)) := by
  subst hp
  exact Ok.st (fun t k => XS.ior X.here hx rfl hd rfl k) k
theorem Ok.lor {x y : Int64} {rest : List Value} (X : Stand p l e R s m args below meth c T locs cells slots) (hx : p.tables.exec = Jvm.exec) (hd : decode c.code pc = .ok (.lor, 1)) (hp : pc + 1 = pc')  (k : Ok p e below Fe Q T (mkF m pc' Ls (.long (x ||| y) :: rest))) : Ok p e below Fe Q T (mkF m pc Ls (.long y :: .long x :: rest)) := by
  subst hp
  exact Ok.st (fun t k => XS.lor X.here hx rfl hd rfl k) k
theorem Ok.ixor {x y : Int32} {rest : List Value} (X : Stand p l e R s m args below meth c T locs cells slots) (hx : p.tables.exec = Jvm.exec) (hd : decode c.code pc = .ok (.ixor, 1)) (hp : pc + 1 = pc')  (k : Ok p e below Fe Q T (mkF m pc' Ls (.int (x ^^^ y) :: rest))) : Ok p e below Fe Q T (mkF m pc Ls (.int y :: .int x :: rest)) := by
  subst hp
  exact Ok.st (fun t k => XS.ixor X.here hx rfl hd rfl k) k
theorem Ok.lxor {x y : Int64} {rest : List Value} (X : Stand p l e R s m args below meth c T locs cells slots) (hx : p.tables.exec = Jvm.exec) (hd : decode c.code pc = .ok (.lxor, 1)) (hp : pc + 1 = pc')  (k : Ok p e below Fe Q T (mkF m pc' Ls (.long (x ^^^ y) :: rest))) : Ok p e below Fe Q T (mkF m pc Ls (.long y :: .long x :: rest)) := by
  subst hp
  exact Ok.st (fun t k => XS.lxor X.here hx rfl hd rfl k) k
theorem Ok.idiv {x y : Int32} {rest : List Value} (X : Stand p l e R s m args below meth c T locs cells slots) (hx : p.tables.exec = Jvm.exec) (hd : decode c.code pc = .ok (.idiv, 1)) (hp : pc + 1 = pc') (hy : y ≠ 0) (k : Ok p e below Fe Q T (mkF m pc' Ls (.int (x / y) :: rest))) : Ok p e below Fe Q T (mkF m pc Ls (.int y :: .int x :: rest)) := by
  subst hp
  exact Ok.st (fun t k => XS.idiv X.here hx rfl hd rfl hy k) k
theorem Ok.ldiv {x y : Int64} {rest : List Value} (X : Stand p l e R s m args below meth c T locs cells slots) (hx : p.tables.exec = Jvm.exec) (hd : decode c.code pc = .ok (.ldiv, 1)) (hp : pc + 1 = pc') (hy : y ≠ 0) (k : Ok p e below Fe Q T (mkF m pc' Ls (.long (x / y) :: rest))) : Ok p e below Fe Q T (mkF m pc Ls (.long y :: .long x :: rest)) := by
  subst hp
  exact Ok.st (fun t k => XS.ldiv X.here hx rfl hd rfl hy k) k
theorem Ok.irem {x y : Int32} {rest : List Value} (X : Stand p l e R s m args below meth c T locs cells slots) (hx : p.tables.exec = Jvm.exec) (hd : decode c.code pc = .ok (.irem, 1)) (hp : pc + 1 = pc') (hy : y ≠ 0) (k : Ok p e below Fe Q T (mkF m pc' Ls (.int (x % y) :: rest))) : Ok p e below Fe Q T (mkF m pc Ls (.int y :: .int x :: rest)) := by
  subst hp
  exact Ok.st (fun t k => iremM X hx rfl hd rfl hy k) k
theorem Ok.lrem {x y : Int64} {rest : List Value} (X : Stand p l e R s m args below meth c T locs cells slots) (hx : p.tables.exec = Jvm.exec) (hd : decode c.code pc = .ok (.lrem, 1)) (hp : pc + 1 = pc') (hy : y ≠ 0) (k : Ok p e below Fe Q T (mkF m pc' Ls (.long (x - (x / y) * y) :: rest))) : Ok p e below Fe Q T (mkF m pc Ls (.long y :: .long x :: rest)) := by
  subst hp
  exact Ok.st (fun t k => XS.lrem X.here hx rfl hd rfl hy k) k
theorem Ok.ishl {x y : Int32} {rest : List Value} (X : Stand p l e R s m args below meth c T locs cells slots) (hx : p.tables.exec = Jvm.exec) (hd : decode c.code pc = .ok (.ishl, 1)) (hp : pc + 1 = pc')  (k : Ok p e below Fe Q T (mkF m pc' Ls (.int (x <<< (y &&& 31)) :: rest))) : Ok p e below Fe Q T (mkF m pc Ls (.int y :: .int x :: rest)) := by
  subst hp
  exact Ok.st (fun t k => XS.ishl X.here hx rfl hd rfl k) k
theorem Ok.ishr {x y : Int32} {rest : List Value} (X : Stand p l e R s m args below meth c T locs cells slots) (hx : p.tables.exec = Jvm.exec) (hd : decode c.code pc = .ok (.ishr, 1)) (hp : pc + 1 = pc')  (k : Ok p e below Fe Q T (mkF m pc' Ls (.int (x >>> (y &&& 31)) :: rest))) : Ok p e below Fe Q T (mkF m pc Ls (.int y :: .int x :: rest)) := by
  subst hp
  exact Ok.st (fun t k => XS.ishr X.here hx rfl hd rfl k) k
theorem Ok.iushr {x y : Int32} {rest : List Value} (X : Stand p l e R s m args below meth c T locs cells slots) (hx : p.tables.exec = Jvm.exec) (hd : decode c.code pc = .ok (.iushr, 1)) (hp : pc + 1 = pc')  (k : Ok p e below Fe Q T (mkF m pc' Ls (.int ((x.toUInt32 >>> (y &&& 31).toUInt32).toInt32) :: rest))) : Ok p e below Fe Q T (mkF m pc Ls (.int y :: .int x :: rest)) := by
  subst hp
  exact Ok.st (fun t k => XS.iushr X.here hx rfl hd rfl k) k
theorem Ok.lshl {x : Int64} {y : Int32} {rest : List Value} (X : Stand p l e R s m args below meth c T locs cells slots) (hx : p.tables.exec = Jvm.exec) (hd : decode c.code pc = .ok (.lshl, 1)) (hp : pc + 1 = pc')  (k : Ok p e below Fe Q T (mkF m pc' Ls (.long (x <<< (y &&& 0x3f).toInt64) :: rest))) : Ok p e below Fe Q T (mkF m pc Ls (.int y :: .long x :: rest)) := by
  subst hp
  exact Ok.st (fun t k => XS.lshl X.here hx rfl hd rfl k) k
theorem Ok.lshr {x : Int64} {y : Int32} {rest : List Value} (X : Stand p l e R s m args below meth c T locs cells slots) (hx : p.tables.exec = Jvm.exec) (hd : decode c.code pc = .ok (.lshr, 1)) (hp : pc + 1 = pc')  (k : Ok p e below Fe Q T (mkF m pc' Ls (.long (x >>> (y &&& 0x3f).toInt64) :: rest))) : Ok p e below Fe Q T (mkF m pc Ls (.int y :: .long x :: rest)) := by
  subst hp
  exact Ok.st (fun t k => XS.lshr X.here hx rfl hd rfl k) k
theorem Ok.lushr {x : Int64} {y : Int32} {rest : List Value} (X : Stand p l e R s m args below meth c T locs cells slots) (hx : p.tables.exec = Jvm.exec) (hd : decode c.code pc = .ok (.lushr, 1)) (hp : pc + 1 = pc')  (k : Ok p e below Fe Q T (mkF m pc' Ls (.long ((x.toUInt64 >>> (y &&& 0x3f).toInt64.toUInt64).toInt64) :: rest))) : Ok p e below Fe Q T (mkF m pc Ls (.int y :: .long x :: rest)) := by
  subst hp
  exact Ok.st (fun t k => XS.lushr X.here hx rfl hd rfl k) k
theorem Ok.ineg {x : Int32} {rest : List Value} (X : Stand p l e R s m args below meth c T locs cells slots) (hx : p.tables.exec = Jvm.exec) (hd : decode c.code pc = .ok (.ineg, 1)) (hp : pc + 1 = pc')  (k : Ok p e below Fe Q T (mkF m pc' Ls (.int (-x) :: rest))) : Ok p e below Fe Q T (mkF m pc Ls (.int x :: rest)) := by
  subst hp
  exact Ok.st (fun t k => XS.ineg X.here hx rfl hd rfl k) k
theorem Ok.lneg {x : Int64} {rest : List Value} (X : Stand p l e R s m args below meth c T locs cells slots) (hx : p.tables.exec = Jvm.exec) (hd : decode c.code pc = .ok (.lneg, 1)) (hp : pc + 1 = pc')  (k : Ok p e below Fe Q T (mkF m pc' Ls (.long (-x) :: rest))) : Ok p e below Fe Q T (mkF m pc Ls (.long x :: rest)) := by
  subst hp
  exact Ok.st (fun t k => XS.lneg X.here hx rfl hd rfl k) k
theorem Ok.i2l {x : Int32} {rest : List Value} (X : Stand p l e R s m args below meth c T locs cells slots) (hx : p.tables.exec = Jvm.exec) (hd : decode c.code pc = .ok (.i2l, 1)) (hp : pc + 1 = pc')  (k : Ok p e below Fe Q T (mkF m pc' Ls (.long x.toInt64 :: rest))) : Ok p e below Fe Q T (mkF m pc Ls (.int x :: rest)) := by
  subst hp
  exact Ok.st (fun t k => XS.i2l X.here hx rfl hd rfl k) k
theorem Ok.l2i {x : Int64} {rest : List Value} (X : Stand p l e R s m args below meth c T locs cells slots) (hx : p.tables.exec = Jvm.exec) (hd : decode c.code pc = .ok (.l2i, 1)) (hp : pc + 1 = pc')  (k : Ok p e below Fe Q T (mkF m pc' Ls (.int x.toInt32 :: rest))) : Ok p e below Fe Q T (mkF m pc Ls (.long x :: rest)) := by
  subst hp
  exact Ok.st (fun t k => XS.l2i X.here hx rfl hd rfl k) k
theorem Ok.i2b {x : Int32} {rest : List Value} (X : Stand p l e R s m args below meth c T locs cells slots) (hx : p.tables.exec = Jvm.exec) (hd : decode c.code pc = .ok (.i2b, 1)) (hp : pc + 1 = pc')  (k : Ok p e below Fe Q T (mkF m pc' Ls (.int x.toInt8.toInt32 :: rest))) : Ok p e below Fe Q T (mkF m pc Ls (.int x :: rest)) := by
  subst hp
  exact Ok.st (fun t k => XS.i2b X.here hx rfl hd rfl k) k
theorem Ok.i2c {x : Int32} {rest : List Value} (X : Stand p l e R s m args below meth c T locs cells slots) (hx : p.tables.exec = Jvm.exec) (hd : decode c.code pc = .ok (.i2c, 1)) (hp : pc + 1 = pc')  (k : Ok p e below Fe Q T (mkF m pc' Ls (.int x.toUInt32.toUInt16.toUInt32.toInt32 :: rest))) : Ok p e below Fe Q T (mkF m pc Ls (.int x :: rest)) := by
  subst hp
  exact Ok.st (fun t k => XS.i2c X.here hx rfl hd rfl k) k
theorem Ok.i2s {x : Int32} {rest : List Value} (X : Stand p l e R s m args below meth c T locs cells slots) (hx : p.tables.exec = Jvm.exec) (hd : decode c.code pc = .ok (.i2s, 1)) (hp : pc + 1 = pc')  (k : Ok p e below Fe Q T (mkF m pc' Ls (.int x.toInt16.toInt32 :: rest))) : Ok p e below Fe Q T (mkF m pc Ls (.int x :: rest)) := by
  subst hp
  exact Ok.st (fun t k => XS.i2s X.here hx rfl hd rfl k) k
theorem Ok.lcmp {x y : Int64} {rest : List Value} (X : Stand p l e R s m args below meth c T locs cells slots) (hx : p.tables.exec = Jvm.exec) (hd : decode c.code pc = .ok (.lcmp, 1)) (hp : pc + 1 = pc')  (k : Ok p e below Fe Q T (mkF m pc' Ls (.int (lcmpW x y) :: rest))) : Ok p e below Fe Q T (mkF m pc Ls (.long y :: .long x :: rest)) := by
  subst hp
  exact Ok.st (fun t k => XS.lcmp X.here hx rfl hd rfl k) k
theorem Ok.iconst {i : Int} {z : Int32} {rest : List Value} (X : Stand p l e R s m args below meth c T locs cells slots) (hx : p.tables.exec = Jvm.exec) (hd : decode c.code pc = .ok (.iconst i, 1)) (hp : pc + 1 = pc') (hz : z = Int32.ofInt i) (k : Ok p e below Fe Q T (mkF m pc' Ls (.int z :: rest))) : Ok p e below Fe Q T (mkF m pc Ls rest) := by
  subst hp
  exact Ok.st (fun t k => XS.iconst X.here hx rfl hd (hz ▸ k)) k
theorem Ok.bipush {i : Int} {z : Int32} {rest : List Value} (X : Stand p l e R s m args below meth c T locs cells slots) (hx : p.tables.exec = Jvm.exec) (hd : decode c.code pc = .ok (.bipush i, 2)) (hp : pc + 2 = pc') (hz : z = (Int8.ofInt i).toInt32) (k : Ok p e below Fe Q T (mkF m pc' Ls (.int z :: rest))) : Ok p e below Fe Q T (mkF m pc Ls rest) := by
  subst hp
  exact Ok.st (fun t k => XS.bipush X.here hx rfl hd (hz ▸ k)) k
theorem Ok.sipush {i : Int} {z : Int32} {rest : List Value} (X : Stand p l e R s m args below meth c T locs cells slots) (hx : p.tables.exec = Jvm.exec) (hd : decode c.code pc = .ok (.sipush i, 3)) (hp : pc + 3 = pc') (hz : z = (Int16.ofInt i).toInt32) (k : Ok p e below Fe Q T (mkF m pc' Ls (.int z :: rest))) : Ok p e below Fe Q T (mkF m pc Ls rest) := by
  subst hp
  exact Ok.st (fun t k => XS.sipush X.here hx rfl hd (hz ▸ k)) k
theorem Ok.lconst {i : Fin 2} {z : Int64} {rest : List Value} (X : Stand p l e R s m args below meth c T locs cells slots) (hx : p.tables.exec = Jvm.exec) (hd : decode c.code pc = .ok (.lconst i, 1)) (hp : pc + 1 = pc') (hz : z = Int64.ofNat i) (k : Ok p e below Fe Q T (mkF m pc' Ls (.long z :: rest))) : Ok p e below Fe Q T (mkF m pc Ls rest) := by
  subst hp
  exact Ok.st (fun t k => XS.lconst X.here hx rfl hd (hz ▸ k)) k
theorem Ok.aconstNull {rest : List Value} (X : Stand p l e R s m args below meth c T locs cells slots) (hx : p.tables.exec = Jvm.exec) (hd : decode c.code pc = .ok (.aconst_null, 1)) (hp : pc + 1 = pc')  (k : Ok p e below Fe Q T (mkF m pc' Ls (.null :: rest))) : Ok p e below Fe Q T (mkF m pc Ls rest) := by
  subst hp
  exact Ok.st (fun t k => XS.aconstNull X.here hx rfl hd k) k
theorem Ok.dup {x : Value} {rest : List Value} (X : Stand p l e R s m args below meth c T locs cells slots) (hx : p.tables.exec = Jvm.exec) (hd : decode c.code pc = .ok (.dup, 1)) (hp : pc + 1 = pc') (hc : x.category = 1) (k : Ok p e below Fe Q T (mkF m pc' Ls (x :: x :: rest))) : Ok p e below Fe Q T (mkF m pc Ls (x :: rest)) := by
  subst hp
  exact Ok.st (fun t k => XS.dup X.here hx rfl hd rfl hc k) k
theorem Ok.pop {x : Value} {rest : List Value} (X : Stand p l e R s m args below meth c T locs cells slots) (hx : p.tables.exec = Jvm.exec) (hd : decode c.code pc = .ok (.pop, 1)) (hp : pc + 1 = pc') (hc : x.category = 1) (k : Ok p e below Fe Q T (mkF m pc' Ls rest)) : Ok p e below Fe Q T (mkF m pc Ls (x :: rest)) := by
  subst hp
  exact Ok.st (fun t k => XS.pop X.here hx rfl hd rfl hc k) k
theorem Ok.iload {i : Nat} {v : Int32} {rest : List Value} (X : Stand p l e R s m args below meth c T locs cells slots) (hx : p.tables.exec = Jvm.exec) (hd : decode c.code pc = .ok (.iload i, 2)) (hp : pc + 2 = pc') (hl : Ls[i]? = some (.val (.int v))) (k : Ok p e below Fe Q T (mkF m pc' Ls (.int v :: rest))) : Ok p e below Fe Q T (mkF m pc Ls rest) := by
  subst hp
  exact Ok.st (fun t k => XS.iload X.here hx rfl hd hl k) k
theorem Ok.iloadN {i : Fin 4} {v : Int32} {rest : List Value} (X : Stand p l e R s m args below meth c T locs cells slots) (hx : p.tables.exec = Jvm.exec) (hd : decode c.code pc = .ok (.iload_n i, 1)) (hp : pc + 1 = pc') (hl : Ls[i.val]? = some (.val (.int v))) (k : Ok p e below Fe Q T (mkF m pc' Ls (.int v :: rest))) : Ok p e below Fe Q T (mkF m pc Ls rest) := by
  subst hp
  exact Ok.st (fun t k => XS.iloadN X.here hx rfl hd hl k) k
theorem Ok.lload {i : Nat} {v : Int64} {rest : List Value} (X : Stand p l e R s m args below meth c T locs cells slots) (hx : p.tables.exec = Jvm.exec) (hd : decode c.code pc = .ok (.lload i, 2)) (hp : pc + 2 = pc') (hl : Ls[i]? = some (.val (.long v))) (k : Ok p e below Fe Q T (mkF m pc' Ls (.long v :: rest))) : Ok p e below Fe Q T (mkF m pc Ls rest) := by
  subst hp
  exact Ok.st (fun t k => XS.lload X.here hx rfl hd hl k) k
theorem Ok.lloadN {i : Fin 4} {v : Int64} {rest : List Value} (X : Stand p l e R s m args below meth c T locs cells slots) (hx : p.tables.exec = Jvm.exec) (hd : decode c.code pc = .ok (.lload_n i, 1)) (hp : pc + 1 = pc') (hl : Ls[i.val]? = some (.val (.long v))) (k : Ok p e below Fe Q T (mkF m pc' Ls (.long v :: rest))) : Ok p e below Fe Q T (mkF m pc Ls rest) := by
  subst hp
  exact Ok.st (fun t k => XS.lloadN X.here hx rfl hd hl k) k
theorem Ok.aload {i : Nat} {v : Value} {rest : List Value} (X : Stand p l e R s m args below meth c T locs cells slots) (hx : p.tables.exec = Jvm.exec) (hd : decode c.code pc = .ok (.aload i, 2)) (hp : pc + 2 = pc') (hl : Ls[i]? = some (.val v)) (hv : v.isRef = true) (k : Ok p e below Fe Q T (mkF m pc' Ls (v :: rest))) : Ok p e below Fe Q T (mkF m pc Ls rest) := by
  subst hp
  exact Ok.st (fun t k => XS.aload X.here hx rfl hd hl hv k) k
theorem Ok.aloadN {i : Fin 4} {v : Value} {rest : List Value} (X : Stand p l e R s m args below meth c T locs cells slots) (hx : p.tables.exec = Jvm.exec) (hd : decode c.code pc = .ok (.aload_n i, 1)) (hp : pc + 1 = pc') (hl : Ls[i.val]? = some (.val v)) (hv : v.isRef = true) (k : Ok p e below Fe Q T (mkF m pc' Ls (v :: rest))) : Ok p e below Fe Q T (mkF m pc Ls rest) := by
  subst hp
  exact Ok.st (fun t k => XS.aloadN X.here hx rfl hd hl hv k) k
theorem Ok.istore {i : Nat} {x : Int32} {rest : List Value} (X : Stand p l e R s m args below meth c T locs cells slots) (hx : p.tables.exec = Jvm.exec) (hd : decode c.code pc = .ok (.istore i, 2)) (hp : pc + 2 = pc') (hl : storeLocals Ls i (.int x) = some l') (k : Ok p e below Fe Q T (mkF m pc' l' rest)) : Ok p e below Fe Q T (mkF m pc Ls ((.int x) :: rest)) := by
  subst hp
  exact Ok.st (fun t k => XS.istore X.here hx rfl hd rfl hl k) k
theorem Ok.istoreN {i : Fin 4} {x : Int32} {rest : List Value} (X : Stand p l e R s m args below meth c T locs cells slots) (hx : p.tables.exec = Jvm.exec) (hd : decode c.code pc = .ok (.istore_n i, 1)) (hp : pc + 1 = pc') (hl : storeLocals Ls i.val (.int x) = some l') (k : Ok p e below Fe Q T (mkF m pc' l' rest)) : Ok p e below Fe Q T (mkF m pc Ls ((.int x) :: rest)) := by
  subst hp
  exact Ok.st (fun t k => XS.istoreN X.here hx rfl hd rfl hl k) k
theorem Ok.lstore {i : Nat} {x : Int64} {rest : List Value} (X : Stand p l e R s m args below meth c T locs cells slots) (hx : p.tables.exec = Jvm.exec) (hd : decode c.code pc = .ok (.lstore i, 2)) (hp : pc + 2 = pc') (hl : storeLocals Ls i (.long x) = some l') (k : Ok p e below Fe Q T (mkF m pc' l' rest)) : Ok p e below Fe Q T (mkF m pc Ls ((.long x) :: rest)) := by
  subst hp
  exact Ok.st (fun t k => XS.lstore X.here hx rfl hd rfl hl k) k
theorem Ok.lstoreN {i : Fin 4} {x : Int64} {rest : List Value} (X : Stand p l e R s m args below meth c T locs cells slots) (hx : p.tables.exec = Jvm.exec) (hd : decode c.code pc = .ok (.lstore_n i, 1)) (hp : pc + 1 = pc') (hl : storeLocals Ls i.val (.long x) = some l') (k : Ok p e below Fe Q T (mkF m pc' l' rest)) : Ok p e below Fe Q T (mkF m pc Ls ((.long x) :: rest)) := by
  subst hp
  exact Ok.st (fun t k => XS.lstoreN X.here hx rfl hd rfl hl k) k
theorem Ok.astore {i : Nat} {x : Value} {rest : List Value} (X : Stand p l e R s m args below meth c T locs cells slots) (hx : p.tables.exec = Jvm.exec) (hd : decode c.code pc = .ok (.astore i, 2)) (hp : pc + 2 = pc') (hv : x.isRef = true) (hl : storeLocals Ls i x = some l') (k : Ok p e below Fe Q T (mkF m pc' l' rest)) : Ok p e below Fe Q T (mkF m pc Ls (x :: rest)) := by
  subst hp
  exact Ok.st (fun t k => XS.astore X.here hx rfl hd rfl hv hl k) k
theorem Ok.astoreN {i : Fin 4} {x : Value} {rest : List Value} (X : Stand p l e R s m args below meth c T locs cells slots) (hx : p.tables.exec = Jvm.exec) (hd : decode c.code pc = .ok (.astore_n i, 1)) (hp : pc + 1 = pc') (hv : x.isRef = true) (hl : storeLocals Ls i.val x = some l') (k : Ok p e below Fe Q T (mkF m pc' l' rest)) : Ok p e below Fe Q T (mkF m pc Ls (x :: rest)) := by
  subst hp
  exact Ok.st (fun t k => XS.astoreN X.here hx rfl hd rfl hv hl k) k
theorem Ok.iinc {i : Nat} {cst : Int} {x z : Int32} {st : List Value} (X : Stand p l e R s m args below meth c T locs cells slots) (hx : p.tables.exec = Jvm.exec) (hd : decode c.code pc = .ok (.iinc i cst, 3)) (hp : pc + 3 = pc') (hl : Ls[i]? = some (.val (.int x))) (hz : z = x + Int32.ofInt cst) (hl' : storeLocals Ls i (.int z) = some l') (k : Ok p e below Fe Q T (mkF m pc' l' st)) : Ok p e below Fe Q T (mkF m pc Ls st) := by
  subst hp hz
  exact Ok.st (fun t k => XS.iinc X.here hx rfl hd hl hl' k) k
theorem Ok.goto {o : Int} {st : List Value} (X : Stand p l e R s m args below meth c T locs cells slots) (hx : p.tables.exec = Jvm.exec) (hd : decode c.code pc = .ok (.goto o, 3)) (ho : 0 ≤ (pc : Int) + o) (hp : ((pc : Int) + o).toNat = pc') (k : Ok p e below Fe Q T (mkF m pc' Ls st)) : Ok p e below Fe Q T (mkF m pc Ls st) :=
  Ok.st (fun t k => XS.goto X.here hx rfl (pc0 := pc) rfl hd ho hp k) k
theorem Ok.ifY {cd : ClassFile.Cond} {x : Int32} {rest : List Value} {o : Int} (X : Stand p l e R s m args below meth c T locs cells slots) (hx : p.tables.exec = Jvm.exec) (hd : decode c.code pc = .ok (.ifCond cd o, 3)) (hc : ifCond.holds cd x = true) (ho : 0 ≤ (pc : Int) + o) (hp : ((pc : Int) + o).toNat = pc') (k : Ok p e below Fe Q T (mkF m pc' Ls rest)) : Ok p e below Fe Q T (mkF m pc Ls (.int x :: rest)) :=
  Ok.st (fun t k => XS.ifYes X.here hx rfl (pc0 := pc) rfl hd rfl hc ho hp k) k
theorem Ok.ifN {cd : ClassFile.Cond} {x : Int32} {rest : List Value} {o : Int} (X : Stand p l e R s m args below meth c T locs cells slots) (hx : p.tables.exec = Jvm.exec) (hd : decode c.code pc = .ok (.ifCond cd o, 3)) (hc : ifCond.holds cd x = false) (hp : pc + 3 = pc') (k : Ok p e below Fe Q T (mkF m pc' Ls rest)) : Ok p e below Fe Q T (mkF m pc Ls (.int x :: rest)) := by
  subst hp
  exact Ok.st (fun t k => XS.ifNo X.here hx rfl hd rfl hc k) k
theorem Ok.icY {cd : ClassFile.Cond} {x y : Int32} {rest : List Value} {o : Int} (X : Stand p l e R s m args below meth c T locs cells slots) (hx : p.tables.exec = Jvm.exec) (hd : decode c.code pc = .ok (.if_icmp cd o, 3)) (hc : if_icmp.holds cd x y = true) (ho : 0 ≤ (pc : Int) + o) (hp : ((pc : Int) + o).toNat = pc') (k : Ok p e below Fe Q T (mkF m pc' Ls rest)) : Ok p e below Fe Q T (mkF m pc Ls (.int y :: .int x :: rest)) :=
  Ok.st (fun t k => XS.icmpYes X.here hx rfl (pc0 := pc) rfl hd rfl hc ho hp k) k
theorem Ok.icN {cd : ClassFile.Cond} {x y : Int32} {rest : List Value} {o : Int} (X : Stand p l e R s m args below meth c T locs cells slots) (hx : p.tables.exec = Jvm.exec) (hd : decode c.code pc = .ok (.if_icmp cd o, 3)) (hc : if_icmp.holds cd x y = false) (hp : pc + 3 = pc') (k : Ok p e below Fe Q T (mkF m pc' Ls rest)) : Ok p e below Fe Q T (mkF m pc Ls (.int y :: .int x :: rest)) := by
  subst hp
  exact Ok.st (fun t k => XS.icmpNo X.here hx rfl hd rfl hc k) k
theorem Ok.nullY {rest : List Value} {o : Int} (X : Stand p l e R s m args below meth c T locs cells slots) (hx : p.tables.exec = Jvm.exec) (hd : decode c.code pc = .ok (.ifnull o, 3)) (ho : 0 ≤ (pc : Int) + o) (hp : ((pc : Int) + o).toNat = pc') (k : Ok p e below Fe Q T (mkF m pc' Ls rest)) : Ok p e below Fe Q T (mkF m pc Ls (.null :: rest)) :=
  Ok.st (fun t k => XS.ifnullYes X.here hx rfl (pc0 := pc) rfl hd rfl ho hp k) k
theorem Ok.nullN {b : Addr} {rest : List Value} {o : Int} (X : Stand p l e R s m args below meth c T locs cells slots) (hx : p.tables.exec = Jvm.exec) (hd : decode c.code pc = .ok (.ifnull o, 3)) (hp : pc + 3 = pc') (k : Ok p e below Fe Q T (mkF m pc' Ls rest)) : Ok p e below Fe Q T (mkF m pc Ls (.ref b :: rest)) := by
  subst hp
  exact Ok.st (fun t k => XS.ifnullNo X.here hx rfl hd rfl k) k
theorem Ok.nonnullY {b : Addr} {rest : List Value} {o : Int} (X : Stand p l e R s m args below meth c T locs cells slots) (hx : p.tables.exec = Jvm.exec) (hd : decode c.code pc = .ok (.ifnonnull o, 3)) (ho : 0 ≤ (pc : Int) + o) (hp : ((pc : Int) + o).toNat = pc') (k : Ok p e below Fe Q T (mkF m pc' Ls rest)) : Ok p e below Fe Q T (mkF m pc Ls (.ref b :: rest)) :=
  Ok.st (fun t k => XS.ifnonnullYes X.here hx rfl (pc0 := pc) rfl hd rfl ho hp k) k
theorem Ok.nonnullN {rest : List Value} {o : Int} (X : Stand p l e R s m args below meth c T locs cells slots) (hx : p.tables.exec = Jvm.exec) (hd : decode c.code pc = .ok (.ifnonnull o, 3)) (hp : pc + 3 = pc') (k : Ok p e below Fe Q T (mkF m pc' Ls rest)) : Ok p e below Fe Q T (mkF m pc Ls (.null :: rest)) := by
  subst hp
  exact Ok.st (fun t k => XS.ifnonnullNo X.here hx rfl hd rfl k) k
theorem Ok.ldcI {own : String} {index : Nat} {v : Int32} {st : List Value} (X : Stand p l e R s m args below meth c T locs cells slots) (hx : p.tables.exec = Jvm.exec) (hZ : Z.Warmed39 s.vm) (hown : s.vm.findClass own = some m.cls) (w : (Jvm.Cond.constant own index v).before a0 Z = true) (hd : decode c.code pc = .ok (.ldc index, 2)) (hp : pc + 2 = pc') (k : Ok p e below Fe Q T (mkF m pc' Ls (.int v :: st))) : Ok p e below Fe Q T (mkF m pc Ls st) := by
  subst hp
  exact Ok.st (X.ldcInt hx hown (mvT hZ w) (g := mkF m pc Ls st) rfl hd) k
theorem Ok.ldcJ {own : String} {index : Nat} {v : Int64} {st : List Value} (X : Stand p l e R s m args below meth c T locs cells slots) (hx : p.tables.exec = Jvm.exec) (hZ : Z.Warmed39 s.vm) (hown : s.vm.findClass own = some m.cls) (w : (Jvm.Cond.constantLong own index v).before a0 Z = true) (hd : decode c.code pc = .ok (.ldc2_w index, 3)) (hp : pc + 3 = pc') (k : Ok p e below Fe Q T (mkF m pc' Ls (.long v :: st))) : Ok p e below Fe Q T (mkF m pc Ls st) := by
  subst hp
  exact Ok.st (X.ldc2Long hx hown (mvT hZ w) (g := mkF m pc Ls st) rfl hd) k
/-! the ends -/
theorem Ok.retV (X : Stand p l e R s m args below meth c T locs cells slots) (hx : p.tables.exec = Jvm.exec) (hret : meth.sig.returnType = none) (hlk : meth.locks = false) (hd : decode c.code pc = .ok (.return_, 1)) {nc ns : Nat} (hc : cells ≤ nc) (hs : slots ≤ ns) (q : Q none T.heap locs) : Ok p e below (NE s nc ns) Q T (mkF m pc Ls []) := by
  obtain ⟨fs, hr, hrun, hended, hW, hsame⟩ := X.leave (v := none) (fun _ => rfl) hlk
  exact ⟨_, _, X.returnOut hx hret hd hr, hrun, hended, _, _, rfl, q, ⟨_, rfl⟩, hW, hsame.mono hc hs⟩
theorem Ok.retI {z : Int32} {rest : List Value} {t : FieldType} (X : Stand p l e R s m args below meth c T locs cells slots) (hx : p.tables.exec = Jvm.exec) (hret : meth.sig.returnType = some t) (hlk : meth.locks = false) (ht : t = .int ∨ t = .boolean ∨ t = .byte ∨ t = .char ∨ t = .short) (hn : narrow t (.int z) = .int z) (hd : decode c.code pc = .ok (.ireturn, 1)) {nc ns : Nat} (hc : cells ≤ nc) (hs : slots ≤ ns) (q : Q (some (.int z)) T.heap locs) : Ok p e below (NE s nc ns) Q T (mkF m pc Ls (.int z :: rest)) := by
  obtain ⟨fs, hr, hrun, hended, hW, hsame⟩ := X.leave (v := some (.int z)) (fun h => by rw [hret] at h; cases h) hlk
  exact ⟨_, _, retOut X hx hret hn (Or.inl ⟨rfl, ht, _, rfl⟩) hd hr, hrun, hended, _, _, rfl, q, ⟨_, rfl⟩, hW, hsame.mono hc hs⟩
theorem Ok.retJ {z : Int64} {rest : List Value} (X : Stand p l e R s m args below meth c T locs cells slots) (hx : p.tables.exec = Jvm.exec) (hret : meth.sig.returnType = some .long) (hlk : meth.locks = false) (hd : decode c.code pc = .ok (.lreturn, 1)) {nc ns : Nat} (hc : cells ≤ nc) (hs : slots ≤ ns) (q : Q (some (.long z)) T.heap locs) : Ok p e below (NE s nc ns) Q T (mkF m pc Ls (.long z :: rest)) := by
  obtain ⟨fs, hr, hrun, hended, hW, hsame⟩ := X.leave (v := some (.long z)) (fun h => by rw [hret] at h; cases h) hlk
  exact ⟨_, _, retOut X hx hret rfl (Or.inr (Or.inl ⟨rfl, rfl, _, rfl⟩)) hd hr, hrun, hended, _, _, rfl, q, ⟨_, rfl⟩, hW, hsame.mono hc hs⟩
theorem Ok.retA {w : Value} {rest : List Value} {t : FieldType} (X : Stand p l e R s m args below meth c T locs cells slots) (hx : p.tables.exec = Jvm.exec) (hret : meth.sig.returnType = some t) (hlk : meth.locks = false) (ht : t.isReference = true) (hn : narrow t w = w) (hw : w.isRef = true) (hd : decode c.code pc = .ok (.areturn, 1)) {nc ns : Nat} (hc : cells ≤ nc) (hs : slots ≤ ns) (q : Q (some w) T.heap locs) : Ok p e below (NE s nc ns) Q T (mkF m pc Ls (w :: rest)) := by
  obtain ⟨fs, hr, hrun, hended, hW, hsame⟩ := X.leave (v := some w) (fun h => by rw [hret] at h; cases h) hlk
  exact ⟨_, _, retOut X hx hret hn (Or.inr (Or.inr (Or.inr (Or.inr ⟨rfl, ht, hw⟩)))) hd hr, hrun, hended, _, _, rfl, q, ⟨_, rfl⟩, hW, hsame.mono hc hs⟩
theorem Ok.retVW {V : Vm} {n : Nat} (X : Stand p l e R (s.setVm V) m args below meth c T locs cells slots) (hx : p.tables.exec = Jvm.exec) (hS : s.Since V n) (hSn : n ≤ T.heap.size) (hret : meth.sig.returnType = none) (hlk : meth.locks = false) (hd : decode c.code pc = .ok (.return_, 1)) {nc ns : Nat} (hc : cells ≤ nc) (hs : slots ≤ ns) (q : Q none T.heap locs) : Ok p e below (WE s nc ns) Q T (mkF m pc Ls []) := by
  obtain ⟨fs, hr, hrun, hended, h1, h2, h3, h4⟩ := X.leaveW hS hSn (v := none) (fun _ => rfl) hlk
  exact ⟨_, _, X.returnOut hx hret hd hr, hrun, hended, _, _, rfl, q, h1, h2, h3, h4.mono hc hs⟩
theorem Ok.retIW {V : Vm} {n : Nat} {z : Int32} {rest : List Value} {t : FieldType} (X : Stand p l e R (s.setVm V) m args below meth c T locs cells slots) (hx : p.tables.exec = Jvm.exec) (hS : s.Since V n) (hSn : n ≤ T.heap.size) (hret : meth.sig.returnType = some t) (hlk : meth.locks = false) (ht : t = .int ∨ t = .boolean ∨ t = .byte ∨ t = .char ∨ t = .short) (hn : narrow t (.int z) = .int z) (hd : decode c.code pc = .ok (.ireturn, 1)) {nc ns : Nat} (hc : cells ≤ nc) (hs : slots ≤ ns) (q : Q (some (.int z)) T.heap locs) : Ok p e below (WE s nc ns) Q T (mkF m pc Ls (.int z :: rest)) := by
  obtain ⟨fs, hr, hrun, hended, h1, h2, h3, h4⟩ := X.leaveW hS hSn (v := some (.int z)) (fun h => by rw [hret] at h; cases h) hlk
  exact ⟨_, _, retOut X hx hret hn (Or.inl ⟨rfl, ht, _, rfl⟩) hd hr, hrun, hended, _, _, rfl, q, h1, h2, h3, h4.mono hc hs⟩
theorem Ok.retJW {V : Vm} {n : Nat} {z : Int64} {rest : List Value} (X : Stand p l e R (s.setVm V) m args below meth c T locs cells slots) (hx : p.tables.exec = Jvm.exec) (hS : s.Since V n) (hSn : n ≤ T.heap.size) (hret : meth.sig.returnType = some .long) (hlk : meth.locks = false) (hd : decode c.code pc = .ok (.lreturn, 1)) {nc ns : Nat} (hc : cells ≤ nc) (hs : slots ≤ ns) (q : Q (some (.long z)) T.heap locs) : Ok p e below (WE s nc ns) Q T (mkF m pc Ls (.long z :: rest)) := by
  obtain ⟨fs, hr, hrun, hended, h1, h2, h3, h4⟩ := X.leaveW hS hSn (v := some (.long z)) (fun h => by rw [hret] at h; cases h) hlk
  exact ⟨_, _, retOut X hx hret rfl (Or.inr (Or.inl ⟨rfl, rfl, _, rfl⟩)) hd hr, hrun, hended, _, _, rfl, q, h1, h2, h3, h4.mono hc hs⟩
theorem Ok.retAW {V : Vm} {n : Nat} {w : Value} {rest : List Value} {t : FieldType} (X : Stand p l e R (s.setVm V) m args below meth c T locs cells slots) (hx : p.tables.exec = Jvm.exec) (hS : s.Since V n) (hSn : n ≤ T.heap.size) (hret : meth.sig.returnType = some t) (hlk : meth.locks = false) (ht : t.isReference = true) (hn : narrow t w = w) (hw : w.isRef = true) (hd : decode c.code pc = .ok (.areturn, 1)) {nc ns : Nat} (hc : cells ≤ nc) (hs : slots ≤ ns) (q : Q (some w) T.heap locs) : Ok p e below (WE s nc ns) Q T (mkF m pc Ls (w :: rest)) := by
  obtain ⟨fs, hr, hrun, hended, h1, h2, h3, h4⟩ := X.leaveW hS hSn (v := some w) (fun h => by rw [hret] at h; cases h) hlk
  exact ⟨_, _, retOut X hx hret hn (Or.inr (Or.inr (Or.inr (Or.inr ⟨rfl, ht, hw⟩)))) hd hr, hrun, hended, _, _, rfl, q, h1, h2, h3, h4.mono hc hs⟩
/-! a body's contract -/
abbrev MetN (l : Launch) (Z : State) (y : MethodName) (bytes : ByteArray) (maxL : Nat) (ret : Option FieldType) (ws : List Jvm.Cond) (rm : Room) (as' : Array Value) (h0 : Heap) (Q : Option Value → Heap → List Loc → Prop) : Prop :=
  MetFree l y (head1 (Jvm.Cond.code y bytes maxL ret :: ws) rm) (fun a U => a = as' ∧ Z.Warmed39 U.vm ∧ U.heap = h0) (fun _ _ _ _ _ => True) (fun _ U o U' => ∃ v L, o = .returned v ∧ Q v U'.heap L ∧ FrameEnd U o U' L rm.cells rm.slots)
abbrev MetW (l : Launch) (Z : State) (y : MethodName) (bytes : ByteArray) (maxL : Nat) (ret : Option FieldType) (ws : List Jvm.Cond) (rm : Room) (as' : Array Value) (h0 : Heap) (Q : Option Value → Heap → List Loc → Prop) : Prop :=
  MetFree l y (head1 (Jvm.Cond.code y bytes maxL ret :: ws) rm) (fun a U => a = as' ∧ Z.Warmed39 U.vm ∧ U.heap = h0) (fun _ _ _ _ _ => True) (fun _ U o U' => ∃ v L, o = .returned v ∧ Q v U'.heap L ∧ ReturnedEndW U o U' L rm.cells rm.slots)
theorem met_n {y : MethodName} {bytes : ByteArray} {maxL : Nat} {ret : Option FieldType} {rm : Room} {ws : List Jvm.Cond} {as' : Array Value} {h0 : Heap} {F0 : MethodId → JFrame} (hp : plainFor y = true) (hf : ∀ m, entryFrame m as' maxL = F0 m)
    (body : ∀ (p : Program) (e : Env) (s : State) (m : MethodId) (below : List Frame) (meth : Method) (c : Code) (s₁ : State), Stand p l e rm s m as' below meth c s₁ [] 0 0 → p.tables.exec = Jvm.exec → c.code = bytes → c.maxLocals = maxL → Z.Warmed39 s.vm → s.vm.findClass y.cls = some m.cls → meth.name = y.name → meth.sig.returnType = ret → meth.locks = false → s₁.heap = h0 → Ok p e below (NE s rm.cells rm.slots) Q s₁ (F0 m)) :
    MetN l Z y bytes maxL ret ws rm as' h0 Q := by
  refine MetFree.of_bodySF hp hisR ?_
  intro p e s m args below meth c s₁ Bd hml0 hP hK
  obtain ⟨rfl, hZ, hh⟩ := hP
  have e0 : s₁.heap = h0 := by rw [← hh, Bd.state]; rfl
  exact Ok.fr (hf m) (body p e s m below meth c s₁ (Stand.of_body Bd) Bd.exec Bd.bytes hml0 hZ (findClass_of_methodNamed Bd.named) (name_of_methodNamed Bd.named Bd.method).1 Bd.returns (BodyLoose.notSynchronized Bd) e0)
theorem met_w {y : MethodName} {bytes : ByteArray} {maxL : Nat} {ret : Option FieldType} {rm : Room} {ws : List Jvm.Cond} {as' : Array Value} {h0 : Heap} {F0 : MethodId → JFrame} (hp : plainFor y = true) (hf : ∀ m, entryFrame m as' maxL = F0 m)
    (body : ∀ (p : Program) (e : Env) (s : State) (m : MethodId) (below : List Frame) (meth : Method) (c : Code) (s₁ : State) (V : Vm) (n : Nat), Stand p l e rm (s.setVm V) m as' below meth c s₁ [] 0 0 → p.tables.exec = Jvm.exec → c.code = bytes → c.maxLocals = maxL → Z.Warmed39 V → V.findClass y.cls = some m.cls → meth.name = y.name → meth.sig.returnType = ret → meth.locks = false → s₁.heap = h0 → s.Since V n → n ≤ h0.size → Ok p e below (WE s rm.cells rm.slots) Q s₁ (F0 m)) :
    MetW l Z y bytes maxL ret ws rm as' h0 Q := by
  refine MetFree.of_bodySF hp hisR ?_
  intro p e s m args below meth c s₁ Bd hml0 hP hK
  obtain ⟨rfl, hZ, hh⟩ := hP
  have e0 : s₁.heap = h0 := by rw [← hh, Bd.state]; rfl
  exact Ok.fr (hf m) (body p e s m below meth c s₁ s.vm 0 (Stand.of_body Bd) Bd.exec Bd.bytes hml0 hZ (findClass_of_methodNamed Bd.named) (name_of_methodNamed Bd.named Bd.method).1 Bd.returns (BodyLoose.notSynchronized Bd) e0 ((State.WarmedH.refl s).since 0) (Nat.zero_le _))
/-! calls, by a contract -/
theorem Ok.callS {y : MethodName} {bytes : ByteArray} {maxL : Nat} {ret : Option FieldType} {rm : Room} {as' : Array Value} {h : Heap} {Qc : Option Value → Heap → List Loc → Prop} {own : String} {index : Nat} {argsL rest st : List Value} {W : Nat} (X : Stand p l e R s m args below meth c T locs cells slots) (hx : p.tables.exec = Jvm.exec) (hZ : Z.Warmed39 s.vm) (hown : s.vm.findClass own = some m.cls)
    (hM : MetN l Z y bytes maxL ret [] rm as' h Qc) (wl : (Jvm.Cond.methodLink own index y).before a0 Z = true) (ws : (Jvm.Cond.static y).before a0 Z = true) (wz : (Jvm.Cond.initialized y.cls).before a0 Z = true) (wc : (Jvm.Cond.code y bytes maxL ret).before a0 Z = true) (hy : y.cls ≠ "java/lang/invoke/MethodHandle" ∧ y.cls ≠ "java/lang/invoke/VarHandle")
    (eT : T.heap = h) (hf : rm.frames + 1 ≤ R.frames) (hl : W + (maxL + 11) + rm.locals ≤ R.locals) (hc : cells + rm.cells ≤ R.cells) (hs : slots + rm.slots ≤ R.slots) (hlen : ∀ sig, parseMethodDescriptor y.desc = some sig → argsL.length = sig.parameters.length) (has : argsL.toArray = as') (hst : st = argsL.reverse ++ rest) (hW : (rest.map fun v => v.category).sum ≤ W) (hsize : Ls.size = c.maxLocals)
    (hd : decode c.code pc = .ok (.invokestatic index, 3)) (hp : pc + 3 = pc')
    (k : ∀ (v : Option Value) (T' : State) (L : List Loc), Stand p l e R s m args below meth c T' (locs ++ L) (cells + rm.cells) (slots + rm.slots) → Qc v T'.heap L → Ok p e below Fe Q T' (mkF m pc' Ls (v.toList ++ rest))) : Ok p e below Fe Q T (mkF m pc Ls st) := by
  subst hp
  obtain ⟨v, _, ⟨T1, L1, k1, n1⟩, -, X1, ⟨Lc, hQ, l1, y1, z1⟩, st1⟩ := Jvm.LawKit.callS X hx (y := y) hown (mvT hZ wl) (mvT hZ ws) (mvT hZ wz) (mvT hZ wc) hy (backOf (W := W) hM hZ wc wz hf hl) (g := mkF m pc Ls st) rfl hsize (argsL := argsL) (rest := rest) hlen hst (by show 2 * 0 + _ ≤ _; omega) hd (fun _ _ => ⟨has, eT, hc, hs⟩)
  dsimp only [Pt.U, Pt.locs, Pt.cells, Pt.slots] at X1 l1 y1 z1 st1 hQ
  subst l1 y1 z1
  exact Ok.st st1 (k v T1 Lc X1 hQ)
theorem Ok.init {y : MethodName} {bytes : ByteArray} {maxL : Nat} {rm : Room} {as' : Array Value} {h : Heap} {Qc : Option Value → Heap → List Loc → Prop} {own : String} {index : Nat} {a : Addr} {argsL rest st : List Value} {W : Nat} (X : Stand p l e R s m args below meth c T locs cells slots) (hx : p.tables.exec = Jvm.exec) (hZ : Z.Warmed39 s.vm) (hown : s.vm.findClass own = some m.cls)
    (hM : MetN l Z y bytes maxL none [] rm as' h Qc) (hyn : y.name = "<init>") (wl : (Jvm.Cond.methodLink own index y).before a0 Z = true) (wi : (Jvm.Cond.instanceMethod y).before a0 Z = true) (wz : (Jvm.Cond.initialized y.cls).before a0 Z = true) (wc : (Jvm.Cond.code y bytes maxL none).before a0 Z = true) (hy : y.cls ≠ "java/lang/invoke/MethodHandle" ∧ y.cls ≠ "java/lang/invoke/VarHandle")
    (eT : T.heap = h) (hf : rm.frames + 1 ≤ R.frames) (hl : W + (maxL + 11) + rm.locals ≤ R.locals) (hc : cells + rm.cells ≤ R.cells) (hs : slots + rm.slots ≤ R.slots) (hlen : ∀ sig, parseMethodDescriptor y.desc = some sig → argsL.length = sig.parameters.length) (has : (.ref a :: argsL).toArray = as') (hst : st = argsL.reverse ++ .ref a :: rest) (hW : (rest.map fun v => v.category).sum ≤ W) (hsize : Ls.size = c.maxLocals)
    (hd : decode c.code pc = .ok (.invokespecial index, 3)) (hp : pc + 3 = pc')
    (k : ∀ (v : Option Value) (T' : State) (L : List Loc), Stand p l e R s m args below meth c T' (locs ++ L) (cells + rm.cells) (slots + rm.slots) → Qc v T'.heap L → Ok p e below Fe Q T' (mkF m pc' Ls (v.toList ++ rest))) : Ok p e below Fe Q T (mkF m pc Ls st) := by
  subst hp
  obtain ⟨v, _, ⟨T1, L1, k1, n1⟩, -, X1, ⟨Lc, hQ, l1, y1, z1⟩, st1⟩ := X.specialBack hx (y := y) hyn hown (mvT hZ wl) (mvT hZ wi) (mvT hZ wc) hy (backOf (W := W) hM hZ wc wz hf hl) (g := mkF m pc Ls st) rfl hsize (Steps.refl _) (a := a) (argsL := argsL) (rest := rest) hlen hst (by show 2 * 0 + _ ≤ _; omega) hd (fun _ _ => ⟨has, eT, hc, hs⟩)
  dsimp only [Pt.U, Pt.locs, Pt.cells, Pt.slots] at X1 l1 y1 z1 st1 hQ
  subst l1 y1 z1
  exact Ok.tr st1 (k v T1 Lc X1 hQ)
theorem Ok.virt {y z : MethodName} {bytes : ByteArray} {maxL : Nat} {ret : Option FieldType} {rm : Room} {as' : Array Value} {h : Heap} {Qc : Option Value → Heap → List Loc → Prop} {own C : String} {index : Nat} {a : Addr} {argsL rest st : List Value} {W : Nat} (X : Stand p l e R s m args below meth c T locs cells slots) (hx : p.tables.exec = Jvm.exec) (hZ : Z.Warmed39 s.vm) (hown : s.vm.findClass own = some m.cls)
    (hM : MetN l Z z bytes maxL ret [] rm as' h Qc) (wl : (Jvm.Cond.methodLink own index y).before a0 Z = true) (wd : (Jvm.Cond.declares y).before a0 Z = true) (hnf : NotFace s y) (wse : (Jvm.Cond.selects C y z).before a0 Z = true) (wi : (Jvm.Cond.instanceMethod z).before a0 Z = true) (wz : (Jvm.Cond.initialized z.cls).before a0 Z = true) (wc : (Jvm.Cond.code z bytes maxL ret).before a0 Z = true) (hy : y.cls ≠ "java/lang/invoke/MethodHandle" ∧ y.cls ≠ "java/lang/invoke/VarHandle")
    (eT : T.heap = h) (E : Exa Z h a C) (hf : rm.frames + 1 ≤ R.frames) (hl : W + (maxL + 11) + rm.locals ≤ R.locals) (hc : cells + rm.cells ≤ R.cells) (hs : slots + rm.slots ≤ R.slots) (hlen : ∀ sig, parseMethodDescriptor y.desc = some sig → argsL.length = sig.parameters.length) (has : (.ref a :: argsL).toArray = as') (hst : st = argsL.reverse ++ .ref a :: rest) (hW : (rest.map fun v => v.category).sum ≤ W) (hsize : Ls.size = c.maxLocals)
    (hd : decode c.code pc = .ok (.invokevirtual index, 3)) (hp : pc + 3 = pc')
    (k : ∀ (v : Option Value) (T' : State) (L : List Loc), Stand p l e R s m args below meth c T' (locs ++ L) (cells + rm.cells) (slots + rm.slots) → Qc v T'.heap L → Ok p e below Fe Q T' (mkF m pc' Ls (v.toList ++ rest))) : Ok p e below Fe Q T (mkF m pc Ls st) := by
  subst hp
  obtain ⟨cq, kq, qa, qb, qc⟩ := isOf hZ eT E
  obtain ⟨v, _, ⟨T1, L1, k1, n1⟩, -, X1, ⟨Lc, hQ, l1, y1, z1⟩, st1⟩ := X.virtualBack hx (y := y) (z := z) hown (mvT hZ wl) (mvT hZ wd) hnf (mvT hZ wse) (mvT hZ wi) hy (backOf (W := W) hM hZ wc wz hf hl) qa qc (g := mkF m pc Ls st) rfl hsize (Steps.refl _) (argsL := argsL) (rest := rest) hlen hst (by show 2 * 0 + _ ≤ _; omega) hd (fun _ _ => ⟨has, eT, hc, hs⟩)
  dsimp only [Pt.U, Pt.locs, Pt.cells, Pt.slots] at X1 l1 y1 z1 st1 hQ
  subst l1 y1 z1
  exact Ok.tr st1 (k v T1 Lc X1 hQ)
/-! calls of bodies that may intern a string, by their wide contract, from a walk that may have interned -/
theorem Ok.callSW {y : MethodName} {bytes : ByteArray} {maxL : Nat} {ret : Option FieldType} {rm : Room} {as' : Array Value} {h : Heap} {Qc : Option Value → Heap → List Loc → Prop} {own : String} {index : Nat} {argsL rest st : List Value} {W n : Nat} {V : Vm} (X : Stand p l e R (s.setVm V) m args below meth c T locs cells slots) (hx : p.tables.exec = Jvm.exec) (hZ : Z.Warmed39 V) (hown : V.findClass own = some m.cls) (hS : s.Since V n) (hSn : n ≤ h.size)
    (hM : MetW l Z y bytes maxL ret [] rm as' h Qc) (wl : (Jvm.Cond.methodLink own index y).before a0 Z = true) (ws : (Jvm.Cond.static y).before a0 Z = true) (wz : (Jvm.Cond.initialized y.cls).before a0 Z = true) (wc : (Jvm.Cond.code y bytes maxL ret).before a0 Z = true) (hy : y.cls ≠ "java/lang/invoke/MethodHandle" ∧ y.cls ≠ "java/lang/invoke/VarHandle")
    (eT : T.heap = h) (hf : rm.frames + 1 ≤ R.frames) (hl : W + (maxL + 11) + rm.locals ≤ R.locals) (hc : cells + rm.cells ≤ R.cells) (hs : slots + rm.slots ≤ R.slots) (hlen : ∀ sig, parseMethodDescriptor y.desc = some sig → argsL.length = sig.parameters.length) (has : argsL.toArray = as') (hst : st = argsL.reverse ++ rest) (hW : (rest.map fun v => v.category).sum ≤ W) (hsize : Ls.size = c.maxLocals)
    (hd : decode c.code pc = .ok (.invokestatic index, 3)) (hp : pc + 3 = pc')
    (k : ∀ (v : Option Value) (T' : State) (L : List Loc), Stand p l e R (s.setVm T'.vm) m args below meth c T' (locs ++ L) (cells + rm.cells) (slots + rm.slots) → Z.Warmed39 T'.vm → T'.vm.findClass own = some m.cls → s.Since T'.vm T'.heap.size → Qc v T'.heap L → Ok p e below Fe Q T' (mkF m pc' Ls (v.toList ++ rest))) : Ok p e below Fe Q T (mkF m pc Ls st) := by
  subst hp
  have hZ' : Z.Warmed39 (s.setVm V).vm := hZ
  obtain ⟨v, _, ⟨T1, L1, k1, n1⟩, -, X1, hS1, hgr, ⟨Lc, hQ, l1, y1, z1⟩, st1⟩ := callSS X hx (y := y) hown (mvT hZ' wl) (mvT hZ' ws) (mvT hZ' wz) (mvT hZ' wc) hy (backOfS (W := W) hM hZ' wc wz hf hl) (g := mkF m pc Ls st) rfl hsize (argsL := argsL) (rest := rest) hlen hst (by show 2 * 0 + _ ≤ _; omega) hd (fun _ _ => ⟨has, eT, hc, hs⟩)
  dsimp only [Pt.U, Pt.locs, Pt.cells, Pt.slots] at X1 l1 y1 z1 st1 hQ hS1 hgr
  subst l1 y1 z1
  refine Ok.tr st1 (k v T1 Lc X1 (State.Warmed39.trans (t := s.setVm V) hZ hS1.1) (by rw [hS1.1.alike.findClass]; exact hown) (hS.trans hS1 ?_) hQ)
  rw [eT] at hgr
  exact Nat.le_trans hSn hgr
theorem Ok.initW {y : MethodName} {bytes : ByteArray} {maxL : Nat} {rm : Room} {as' : Array Value} {h : Heap} {Qc : Option Value → Heap → List Loc → Prop} {own : String} {index : Nat} {a : Addr} {argsL rest st : List Value} {W n : Nat} {V : Vm} (X : Stand p l e R (s.setVm V) m args below meth c T locs cells slots) (hx : p.tables.exec = Jvm.exec) (hZ : Z.Warmed39 V) (hown : V.findClass own = some m.cls) (hS : s.Since V n) (hSn : n ≤ h.size)
    (hM : MetW l Z y bytes maxL none [] rm as' h Qc) (hyn : y.name = "<init>") (wl : (Jvm.Cond.methodLink own index y).before a0 Z = true) (wi : (Jvm.Cond.instanceMethod y).before a0 Z = true) (wz : (Jvm.Cond.initialized y.cls).before a0 Z = true) (wc : (Jvm.Cond.code y bytes maxL none).before a0 Z = true) (hy : y.cls ≠ "java/lang/invoke/MethodHandle" ∧ y.cls ≠ "java/lang/invoke/VarHandle")
    (eT : T.heap = h) (hf : rm.frames + 1 ≤ R.frames) (hl : W + (maxL + 11) + rm.locals ≤ R.locals) (hc : cells + rm.cells ≤ R.cells) (hs : slots + rm.slots ≤ R.slots) (hlen : ∀ sig, parseMethodDescriptor y.desc = some sig → argsL.length = sig.parameters.length) (has : (.ref a :: argsL).toArray = as') (hst : st = argsL.reverse ++ .ref a :: rest) (hW : (rest.map fun v => v.category).sum ≤ W) (hsize : Ls.size = c.maxLocals)
    (hd : decode c.code pc = .ok (.invokespecial index, 3)) (hp : pc + 3 = pc')
    (k : ∀ (v : Option Value) (T' : State) (L : List Loc), Stand p l e R (s.setVm T'.vm) m args below meth c T' (locs ++ L) (cells + rm.cells) (slots + rm.slots) → Z.Warmed39 T'.vm → T'.vm.findClass own = some m.cls → s.Since T'.vm T'.heap.size → Qc v T'.heap L → Ok p e below Fe Q T' (mkF m pc' Ls (v.toList ++ rest))) : Ok p e below Fe Q T (mkF m pc Ls st) := by
  subst hp
  have hZ' : Z.Warmed39 (s.setVm V).vm := hZ
  obtain ⟨v, _, ⟨T1, L1, k1, n1⟩, -, X1, hS1, hgr, ⟨Lc, hQ, l1, y1, z1⟩, st1⟩ := X.specialBackS hx (y := y) hyn hown (mvT hZ' wl) (mvT hZ' wi) (mvT hZ' wc) hy (backOfS (W := W) hM hZ' wc wz hf hl) (g := mkF m pc Ls st) rfl hsize (Steps.refl _) (a := a) (argsL := argsL) (rest := rest) hlen hst (by show 2 * 0 + _ ≤ _; omega) hd (fun _ _ => ⟨has, eT, hc, hs⟩)
  dsimp only [Pt.U, Pt.locs, Pt.cells, Pt.slots] at X1 l1 y1 z1 st1 hQ hS1 hgr
  subst l1 y1 z1
  refine Ok.tr st1 (k v T1 Lc X1 (State.Warmed39.trans (t := s.setVm V) hZ hS1.1) (by rw [hS1.1.alike.findClass]; exact hown) (hS.trans hS1 ?_) hQ)
  rw [eT] at hgr
  exact Nat.le_trans hSn hgr
theorem Ok.virtW {y z : MethodName} {bytes : ByteArray} {maxL : Nat} {ret : Option FieldType} {rm : Room} {as' : Array Value} {h : Heap} {Qc : Option Value → Heap → List Loc → Prop} {own C : String} {index : Nat} {a : Addr} {argsL rest st : List Value} {W n : Nat} {V : Vm} (X : Stand p l e R (s.setVm V) m args below meth c T locs cells slots) (hx : p.tables.exec = Jvm.exec) (hZ : Z.Warmed39 V) (hown : V.findClass own = some m.cls) (hS : s.Since V n) (hSn : n ≤ h.size)
    (hM : MetW l Z z bytes maxL ret [] rm as' h Qc) (wl : (Jvm.Cond.methodLink own index y).before a0 Z = true) (wd : (Jvm.Cond.declares y).before a0 Z = true) (wse : (Jvm.Cond.selects C y z).before a0 Z = true) (hnf : NotFace (s.setVm V) y) (wi : (Jvm.Cond.instanceMethod z).before a0 Z = true) (wz : (Jvm.Cond.initialized z.cls).before a0 Z = true) (wc : (Jvm.Cond.code z bytes maxL ret).before a0 Z = true) (hy : y.cls ≠ "java/lang/invoke/MethodHandle" ∧ y.cls ≠ "java/lang/invoke/VarHandle")
    (eT : T.heap = h) (E : Exa Z h a C) (hf : rm.frames + 1 ≤ R.frames) (hl : W + (maxL + 11) + rm.locals ≤ R.locals) (hc : cells + rm.cells ≤ R.cells) (hs : slots + rm.slots ≤ R.slots) (hlen : ∀ sig, parseMethodDescriptor y.desc = some sig → argsL.length = sig.parameters.length) (has : (.ref a :: argsL).toArray = as') (hst : st = argsL.reverse ++ .ref a :: rest) (hW : (rest.map fun v => v.category).sum ≤ W) (hsize : Ls.size = c.maxLocals)
    (hd : decode c.code pc = .ok (.invokevirtual index, 3)) (hp : pc + 3 = pc')
    (k : ∀ (v : Option Value) (T' : State) (L : List Loc), Stand p l e R (s.setVm T'.vm) m args below meth c T' (locs ++ L) (cells + rm.cells) (slots + rm.slots) → Z.Warmed39 T'.vm → T'.vm.findClass own = some m.cls → s.Since T'.vm T'.heap.size → Qc v T'.heap L → Ok p e below Fe Q T' (mkF m pc' Ls (v.toList ++ rest))) : Ok p e below Fe Q T (mkF m pc Ls st) := by
  subst hp
  have hZ' : Z.Warmed39 (s.setVm V).vm := hZ
  obtain ⟨cq, kq, qa, qb, qc⟩ := isOf hZ' eT E
  obtain ⟨v, _, ⟨T1, L1, k1, n1⟩, -, X1, hS1, hgr, ⟨Lc, hQ, l1, y1, z1⟩, st1⟩ := X.virtualBackS hx (y := y) (z := z) hown (mvT hZ' wl) (mvT hZ' wd) hnf (mvT hZ' wse) (mvT hZ' wi) hy (backOfS (W := W) hM hZ' wc wz hf hl) qa qc (g := mkF m pc Ls st) rfl hsize (Steps.refl _) (argsL := argsL) (rest := rest) hlen hst (by show 2 * 0 + _ ≤ _; omega) hd (fun _ _ => ⟨has, eT, hc, hs⟩)
  dsimp only [Pt.U, Pt.locs, Pt.cells, Pt.slots] at X1 l1 y1 z1 st1 hQ hS1 hgr
  subst l1 y1 z1
  refine Ok.tr st1 (k v T1 Lc X1 (State.Warmed39.trans (t := s.setVm V) hZ hS1.1) (by rw [hS1.1.alike.findClass]; exact hown) (hS.trans hS1 ?_) hQ)
  rw [eT] at hgr
  exact Nat.le_trans hSn hgr
theorem Ok.faceW {y z : MethodName} {bytes : ByteArray} {maxL : Nat} {ret : Option FieldType} {rm : Room} {as' : Array Value} {h : Heap} {Qc : Option Value → Heap → List Loc → Prop} {own C : String} {index count : Nat} {a : Addr} {argsL rest st : List Value} {W n : Nat} {V : Vm} (X : Stand p l e R (s.setVm V) m args below meth c T locs cells slots) (hx : p.tables.exec = Jvm.exec) (hZ : Z.Warmed39 V) (hown : V.findClass own = some m.cls) (hS : s.Since V n) (hSn : n ≤ h.size)
    (hM : MetW l Z z bytes maxL ret [] rm as' h Qc) (wl : (Jvm.Cond.methodLink own index y).before a0 Z = true) (wd : (Jvm.Cond.declares y).before a0 Z = true) (wf : (Jvm.Cond.interfaceMethod y.cls y.cls y.name y.desc).before a0 Z = true) (hfa : ((Jvm.Cond.interfaceMethod y.cls y.cls y.name y.desc).onTables && (Jvm.Cond.interfaceMethod y.cls y.cls y.name y.desc).keepsFace) = true) (wse : (Jvm.Cond.selects C y z).before a0 Z = true) (wi : (Jvm.Cond.instanceMethod z).before a0 Z = true) (wp : (Jvm.Cond.publicMethod z).before a0 Z = true) (wu : (Jvm.Cond.unhidden C y.name y.desc).before a0 Z = true) (wk : (Jvm.Cond.castable C y.cls).before a0 Z = true) (wz : (Jvm.Cond.initialized z.cls).before a0 Z = true) (wc : (Jvm.Cond.code z bytes maxL ret).before a0 Z = true) (hy : y.cls ≠ "java/lang/invoke/MethodHandle" ∧ y.cls ≠ "java/lang/invoke/VarHandle")
    (eT : T.heap = h) (E : Exa Z h a C) (hf : rm.frames + 1 ≤ R.frames) (hl : W + (maxL + 11) + rm.locals ≤ R.locals) (hc : cells + rm.cells ≤ R.cells) (hs : slots + rm.slots ≤ R.slots) (hlen : ∀ sig, parseMethodDescriptor y.desc = some sig → argsL.length = sig.parameters.length) (has : (.ref a :: argsL).toArray = as') (hst : st = argsL.reverse ++ .ref a :: rest) (hW : (rest.map fun v => v.category).sum ≤ W) (hsize : Ls.size = c.maxLocals)
    (hd : decode c.code pc = .ok (.invokeinterface index count, 5)) (hp : pc + 5 = pc')
    (k : ∀ (v : Option Value) (T' : State) (L : List Loc), Stand p l e R (s.setVm T'.vm) m args below meth c T' (locs ++ L) (cells + rm.cells) (slots + rm.slots) → Z.Warmed39 T'.vm → T'.vm.findClass own = some m.cls → s.Since T'.vm T'.heap.size → Qc v T'.heap L → Ok p e below Fe Q T' (mkF m pc' Ls (v.toList ++ rest))) : Ok p e below Fe Q T (mkF m pc Ls st) := by
  subst hp
  have hZ' : Z.Warmed39 (s.setVm V).vm := hZ
  obtain ⟨cq, kq, qa, qb, qc⟩ := isOf hZ' eT E
  obtain ⟨v, _, ⟨T1, L1, k1, n1⟩, -, X1, hS1, hgr, ⟨Lc, hQ, l1, y1, z1⟩, st1⟩ := X.interfaceBackS hx (xi := y) (y := z) hown (mvT hZ' wl) (mvT hZ' wd) (mvT hZ' wf hfa) (mvT hZ' wse) (mvT hZ' wi) (mvT hZ' wp) (mvT hZ' wu) (mvT hZ' wk) hy (backOfS (W := W) hM hZ' wc wz hf hl) qa qb qc (g := mkF m pc Ls st) rfl hsize (Steps.refl _) (argsL := argsL) (rest := rest) hlen hst (by show 2 * 0 + _ ≤ _; omega) hd (fun _ _ => ⟨has, eT, hc, hs⟩)
  dsimp only [Pt.U, Pt.locs, Pt.cells, Pt.slots] at X1 l1 y1 z1 st1 hQ hS1 hgr
  subst l1 y1 z1
  refine Ok.tr st1 (k v T1 Lc X1 (State.Warmed39.trans (t := s.setVm V) hZ hS1.1) (by rw [hS1.1.alike.findClass]; exact hown) (hS.trans hS1 ?_) hQ)
  rw [eT] at hgr
  exact Nat.le_trans hSn hgr
theorem Ok.ldcS {own text : String} {index n N : Nat} {h : Heap} {st : List Value} {V : Vm} (X : Stand p l e R (s.setVm V) m args below meth c T locs cells slots) (hx : p.tables.exec = Jvm.exec) (hZ : Z.Warmed39 V) (hown : V.findClass own = some m.cls) (hS : s.Since V n) (hSn : n ≤ h.size) (w : (Jvm.Cond.stringLink own index text).before a0 Z = true) (wS : ∀ a ∈ Bundle.stringAtoms, a.before a0 Z = true)
    (eT : T.heap = h) (hN : 4 * text.toList.length ≤ N) (hbig : N ≤ 536870912) (hc : cells + 2 ≤ R.cells) (hl : slots + (N + 4) ≤ R.slots) (hd : decode c.code pc = .ok (.ldc index, 2)) (hp : pc + 2 = pc')
    (k : ∀ (a : Addr) (T' : State) (h' : Heap) (n' : Nat), Stand p l e R (s.setVm T'.vm) m args below meth c T' locs (cells + 2) (slots + (N + 4)) → Z.Warmed39 T'.vm → T'.vm.findClass own = some m.cls → s.Since T'.vm n' → n' ≤ h'.size → T'.heap = h' → Ext h h' → Ok p e below Fe Q T' (mkF m pc' Ls (.ref a :: st))) : Ok p e below Fe Q T (mkF m pc Ls st) := by
  subst hp
  obtain ⟨a, T1, h1, n1, X1, e1, E1, hS1, hSn1, hZ1, hown1, st1⟩ := Jvm.RoadKit.ldcS X hx hZ hown w wS eT hS hSn (g := mkF m pc Ls st) rfl hd hN hbig hc hl
  exact Ok.st st1 (k a T1 h1 n1 X1 hZ1 hown1 hS1 hSn1 e1 E1)
theorem ic_eq (x y : Int32) : (if_icmp.holds .eq x y = true ↔ x.toInt = y.toInt) ∧ (if_icmp.holds .ne x y = true ↔ ¬ x.toInt = y.toInt) ∧ (if_icmp.holds .lt x y = true ↔ x.toInt < y.toInt) ∧ (if_icmp.holds .ge x y = true ↔ y.toInt ≤ x.toInt) ∧ (if_icmp.holds .gt x y = true ↔ y.toInt < x.toInt) ∧ (if_icmp.holds .le x y = true ↔ x.toInt ≤ y.toInt) := by
  simp [if_icmp.holds, Int32.lt_iff_toInt_lt, Int32.le_iff_toInt_le, Int32.toInt_inj]
theorem bt {b : Bool} {P : Prop} (h : b = true ↔ P) (hp : P) : b = true := h.mpr hp
theorem bf {b : Bool} {P : Prop} (h : b = true ↔ P) (hp : ¬ P) : b = false := by
  cases b
  · rfl
  · exact absurd (h.mp rfl) hp
theorem i0 (cd : ClassFile.Cond) (x : Int32) {P : Prop} (h : if_icmp.holds cd x 0 = true ↔ P) : ifCond.holds cd x = true ↔ P := by rw [if0]; exact h
theorem lc_all (x y : Int64) : (ifCond.holds .eq (lcmpW x y) = true ↔ x.toInt = y.toInt) ∧ (ifCond.holds .ne (lcmpW x y) = true ↔ ¬ x.toInt = y.toInt) ∧ (ifCond.holds .lt (lcmpW x y) = true ↔ x.toInt < y.toInt) ∧ (ifCond.holds .ge (lcmpW x y) = true ↔ y.toInt ≤ x.toInt) ∧ (ifCond.holds .gt (lcmpW x y) = true ↔ y.toInt < x.toInt) ∧ (ifCond.holds .le (lcmpW x y) = true ↔ x.toInt ≤ y.toInt) := by
  have h1 := lc_lt x y
  have h2 := lc_gt x y
  have h3 := lc_eq x y
  have h4 := lc_le x y
  have h5 := lc_ge x y
  rw [← lcW] at h1 h2 h3 h4 h5
  simp only [if0, if_icmp.holds, decide_eq_true_eq, beq_iff_eq, bne_iff_ne, ne_eq, h3, GT.gt, GE.ge]
  simp only [h1, h2, h4, h5, Int64.lt_iff_toInt_lt, Int64.le_iff_toInt_le, Int64.toInt_inj]
  simp
end Layer
section Layer2
variable {p : Program} {l : Launch} {e : Env} {R : Room} {s : State} {m : MethodId} {args : Array Value} {below : List Frame} {meth : Method} {c : Code} {T T' : State} {locs : List Loc} {cells slots : Nat} {Fe : Outcome → State → List Loc → Prop} {Q : Option Value → Heap → List Loc → Prop} {pc pc' : Nat} {Ls l' : Array Slot} {g g' : JFrame} {Z : State} {a0 : Array Value} {h : Heap} {own : String} {rest st : List Value}
theorem Ok.new {C : String} {index n : Nat} (X : Stand p l e R s m args below meth c T locs cells slots) (hx : p.tables.exec = Jvm.exec) (hZ : Z.Warmed39 s.vm) (hown : s.vm.findClass own = some m.cls) (w : (Jvm.Cond.classLink own index C).before a0 Z = true) (wi : (Jvm.Cond.instantiable C n).before a0 Z = true) (wz : (Jvm.Cond.initialized C).before a0 Z = true) (eT : T.heap = h) (hd : decode c.code pc = .ok (.new index, 3)) (hp : pc + 3 = pc') (hc : cells + 1 ≤ R.cells) (hl : slots + n ≤ R.slots)
    (k : ∀ (T' : State) (h' : Heap) (a : Addr), a = h.size → Stand p l e R s m args below meth c T' locs (cells + 1) (slots + n) → T'.heap = h' → Ext h h' → Exa Z h' a C → (∀ {O nm d : String} {ty : FieldType}, Laid Z a0 C O nm d → parseFieldDescriptor d = some ty → Fld Z h' a O nm d (defaultValue ty)) → Ok p e below Fe Q T' (mkF m pc' Ls (.ref a :: st))) : Ok p e below Fe Q T (mkF m pc Ls st) := by
  subst hp
  obtain ⟨T1, h1, X1, e1, E1, A1, D1, -, st1⟩ := newO X hx hZ hown w wi wz eT (g := mkF m pc Ls st) rfl hd hc hl
  exact Ok.st st1 (k T1 h1 _ rfl X1 e1 E1 A1 D1)
theorem Ok.initO {index : Nat} {a : Addr} {W : Nat} (X : Stand p l e R s m args below meth c T locs cells slots) (hx : p.tables.exec = Jvm.exec) (hZ : Z.Warmed39 s.vm) (hown : s.vm.findClass own = some m.cls) (w1 : (Jvm.Cond.methodLink own index Lib.objectInit).before a0 Z = true) (w2 : (Jvm.Cond.instanceMethod Lib.objectInit).before a0 Z = true) (w3 : (Jvm.Cond.code Lib.objectInit ⟨#[0xb1]⟩ 1 none).before a0 Z = true) (eT : T.heap = h) (hsize : Ls.size = c.maxLocals) (hd : decode c.code pc = .ok (.invokespecial index, 3)) (hp : pc + 3 = pc') (hf : 1 ≤ R.frames) (hW : (rest.map fun v => v.category).sum ≤ W) (hl : W + 12 ≤ R.locals)
    (k : ∀ (T' : State), Stand p l e R s m args below meth c T' locs cells slots → T'.heap = h → Ok p e below Fe Q T' (mkF m pc' Ls rest)) : Ok p e below Fe Q T (mkF m pc Ls (.ref a :: rest)) := by
  subst hp
  obtain ⟨T1, X1, e1, st1⟩ := Jvm.RoadKit.initO X hx hZ hown w1 w2 w3 eT (g := mkF m pc Ls (.ref a :: rest)) rfl hsize rfl hd hf (W := W) (by show 2 * 0 + _ ≤ _; omega) hl
  exact Ok.st st1 (k T1 X1 e1)
theorem Ok.getF {R0 O n d host : String} {index : Nat} {a : Addr} {v : Value} (X : Stand p l e R s m args below meth c T locs cells slots) (hx : p.tables.exec = Jvm.exec) (hZ : Z.Warmed39 s.vm) (hown : s.vm.findClass own = some m.cls) (w : (Jvm.Cond.fieldLink own index R0 n d).before a0 Z = true ∨ (Jvm.Cond.fieldLinkNest own index R0 n d host).before a0 Z = true) (via : Via Z R0 O n d) (eT : T.heap = h) (F : Fld Z h a O n d v) (hd : decode c.code pc = .ok (.getfield index, 3)) (hp : pc + 3 = pc')
    (k : ∀ (T' : State), Stand p l e R s m args below meth c T' locs cells slots → T'.heap = h → Ok p e below Fe Q T' (mkF m pc' Ls (v :: rest))) : Ok p e below Fe Q T (mkF m pc Ls (.ref a :: rest)) := by
  subst hp
  obtain ⟨T1, X1, e1, st1⟩ := Jvm.RoadKit.getF X hx hZ hown w via eT F (g := mkF m pc Ls (.ref a :: rest)) rfl rfl hd
  exact Ok.st st1 (k T1 X1 e1)
theorem Ok.getS {R0 O n d host : String} {index : Nat} {v : Value} (X : Stand p l e R s m args below meth c T locs cells slots) (hx : p.tables.exec = Jvm.exec) (hZ : Z.Warmed39 s.vm) (hown : s.vm.findClass own = some m.cls) (w : (Jvm.Cond.fieldLink own index R0 n d).before a0 Z = true ∨ (Jvm.Cond.fieldLinkNest own index R0 n d host).before a0 Z = true) (via : Via Z R0 O n d) (eT : T.heap = h) (F : Sta Z h O n d v) (hd : decode c.code pc = .ok (.getstatic index, 3)) (hp : pc + 3 = pc')
    (k : ∀ (T' : State), Stand p l e R s m args below meth c T' locs cells slots → T'.heap = h → Ok p e below Fe Q T' (mkF m pc' Ls (v :: st))) : Ok p e below Fe Q T (mkF m pc Ls st) := by
  subst hp
  obtain ⟨T1, X1, e1, st1⟩ := Jvm.RoadKit.getS2 X hx hZ hown w via eT F (g := mkF m pc Ls st) rfl hd
  exact Ok.st st1 (k T1 X1 e1)
theorem Ok.putF {R0 O n d host C : String} {index kk : Nat} {ty : FieldType} {a : Addr} {v old : Value} (X : Stand p l e R s m args below meth c T locs cells slots) (hx : p.tables.exec = Jvm.exec) (hZ : Z.Warmed39 s.vm) (hown : s.vm.findClass own = some m.cls) (w : (Jvm.Cond.fieldLink own index R0 n d).before a0 Z = true ∨ (Jvm.Cond.fieldLinkNest own index R0 n d host).before a0 Z = true) (via : Via Z R0 O n d) (eT : T.heap = h) (F : Fld Z h a O n d old) (E : Exa Z h a C) (L : (Jvm.Cond.lays C O n d).before a0 Z = true ∨ ((Jvm.Cond.laysFinal C O n d).before a0 Z = true ∧ own = O ∧ meth.name = "<init>")) (wi : (Jvm.Cond.instantiable C kk).before a0 Z = true)
    (hty : parseFieldDescriptor d = some ty) (hn : narrow ty v = v) (hf : fits ty v = true) (hd : decode c.code pc = .ok (.putfield index, 3)) (hp : pc + 3 = pc')
    (k : ∀ (T' : State) (h' : Heap), Stand p l e R s m args below meth c T' (locs ++ [⟨a, Jvm.RoadKit.slotOf Z O n d⟩]) cells slots → T'.heap = h' → Wr h h' a (Jvm.RoadKit.slotOf Z O n d) v → Ok p e below Fe Q T' (mkF m pc' Ls rest)) : Ok p e below Fe Q T (mkF m pc Ls (v :: .ref a :: rest)) := by
  subst hp
  obtain ⟨T1, h1, X1, e1, W1, st1⟩ := Jvm.RoadKit.putF X hx hZ hown w via eT F E L wi hty hn hf (g := mkF m pc Ls (v :: .ref a :: rest)) rfl rfl hd
  exact Ok.st st1 (k T1 h1 X1 e1 W1)
theorem Ok.castY {K : String} {index : Nat} {a : Addr} (X : Stand p l e R s m args below meth c T locs cells slots) (hx : p.tables.exec = Jvm.exec) (hZ : Z.Warmed39 s.vm) (hown : s.vm.findClass own = some m.cls) (w : (Jvm.Cond.classLink own index K).before a0 Z = true) (eT : T.heap = h) (F : Ins Z h a K true) (hd : decode c.code pc = .ok (.checkcast index, 3)) (hp : pc + 3 = pc')
    (k : ∀ (T' : State), Stand p l e R s m args below meth c T' locs cells slots → T'.heap = h → Ok p e below Fe Q T' (mkF m pc' Ls (.ref a :: rest))) : Ok p e below Fe Q T (mkF m pc Ls (.ref a :: rest)) := by
  subst hp
  obtain ⟨T1, X1, e1, st1⟩ := Jvm.RoadKit.castY X hx hZ hown w eT F (g := mkF m pc Ls (.ref a :: rest)) rfl rfl hd
  exact Ok.st st1 (k T1 X1 e1)
theorem Ok.instY {K : String} {index : Nat} {a : Addr} (X : Stand p l e R s m args below meth c T locs cells slots) (hx : p.tables.exec = Jvm.exec) (hZ : Z.Warmed39 s.vm) (hown : s.vm.findClass own = some m.cls) (w : (Jvm.Cond.classLink own index K).before a0 Z = true) (eT : T.heap = h) (F : Ins Z h a K true) (hd : decode c.code pc = .ok (.instanceof index, 3)) (hp : pc + 3 = pc')
    (k : ∀ (T' : State), Stand p l e R s m args below meth c T' locs cells slots → T'.heap = h → Ok p e below Fe Q T' (mkF m pc' Ls (.int (1 : Int32) :: rest))) : Ok p e below Fe Q T (mkF m pc Ls (.ref a :: rest)) := by
  subst hp
  obtain ⟨T1, X1, e1, st1⟩ := Jvm.RoadKit.instY X hx hZ hown w eT F (g := mkF m pc Ls (.ref a :: rest)) rfl rfl hd
  exact Ok.st st1 (k T1 X1 e1)
theorem Ok.instNo {K C : String} {index : Nat} {a : Addr} (X : Stand p l e R s m args below meth c T locs cells slots) (hx : p.tables.exec = Jvm.exec) (hZ : Z.Warmed39 s.vm) (hown : s.vm.findClass own = some m.cls) (w : (Jvm.Cond.classLink own index K).before a0 Z = true) (eT : T.heap = h) (E : Exa Z h a C) (F : ∃ c t, Z.vm.findClass C = some c ∧ Z.vm.findClass K = some t ∧ Z.vm.assignable c t = false) (hd : decode c.code pc = .ok (.instanceof index, 3)) (hp : pc + 3 = pc')
    (k : ∀ (T' : State), Stand p l e R s m args below meth c T' locs cells slots → T'.heap = h → Ok p e below Fe Q T' (mkF m pc' Ls (.int (0 : Int32) :: rest))) : Ok p e below Fe Q T (mkF m pc Ls (.ref a :: rest)) := by
  subst hp
  obtain ⟨T1, X1, e1, st1⟩ := Jvm.RoadKit.instNo X hx hZ hown w eT E F (g := mkF m pc Ls (.ref a :: rest)) rfl rfl hd
  exact Ok.st st1 (k T1 X1 e1)
theorem Ok.instNull {index : Nat} (X : Stand p l e R s m args below meth c T locs cells slots) (hx : p.tables.exec = Jvm.exec) (hd : decode c.code pc = .ok (.instanceof index, 3)) (hp : pc + 3 = pc') (k : Ok p e below Fe Q T (mkF m pc' Ls (.int (0 : Int32) :: rest))) : Ok p e below Fe Q T (mkF m pc Ls (.null :: rest)) := by
  subst hp
  exact Ok.st (X.instanceofNull hx (g := mkF m pc Ls (.null :: rest)) rfl rfl hd) k
theorem Ok.newP {aty : ArrayType} {ty : FieldType} {n : Int32} {cap : Nat} (X : Stand p l e R s m args below meth c T locs cells slots) (hx : p.tables.exec = Jvm.exec) (hZ : Z.Warmed39 s.vm) (w : (Jvm.Cond.arrayClass ty).before a0 Z = true) (hty : newarray.typeOf aty = ty) (eT : T.heap = h) (hd : decode c.code pc = .ok (.newarray aty, 2)) (hp : pc + 2 = pc') (hn : ¬ n < 0) (hcap : n.toNatClampNeg ≤ cap) (hb : cap * 8 ≤ 536870912) (hc : cells + 1 ≤ R.cells) (hl : slots + cap ≤ R.slots)
    (k : ∀ (T' : State) (h' : Heap) (a : Addr) (cA : ClassId), a = h.size → Stand p l e R s m args below meth c T' locs (cells + 1) (slots + cap) → T'.heap = h' → Ext h h' → Arv Z h' a cA ty n [] (defaultValue ty) → Ok p e below Fe Q T' (mkF m pc' Ls (.ref a :: rest))) : Ok p e below Fe Q T (mkF m pc Ls (.int n :: rest)) := by
  subst hp hty
  obtain ⟨T1, h1, cA, X1, e1, E1, A1, st1⟩ := Jvm.RoadKit.newP X hx hZ w eT (g := mkF m pc Ls (.int n :: rest)) rfl hd rfl hn hcap hb hc hl
  exact Ok.st st1 (k T1 h1 _ cA rfl X1 e1 E1 (Arv.new A1 hn))
theorem Ok.stI {a : Addr} {kc : ClassId} {z j x : Int32} {vs : List Value} {dv : Value} (X : Stand p l e R s m args below meth c T locs cells slots) (hx : p.tables.exec = Jvm.exec) (hZ : Z.Warmed39 s.vm) (eT : T.heap = h) (V : Arv Z h a kc .int z vs dv) (hj : ¬ j < 0 ∧ j < z) {i : Nat} (hji : j.toNatClampNeg = i) (hi : i < vs.length) (hd : decode c.code pc = .ok (.iastore, 1)) (hp : pc + 1 = pc')
    (k : ∀ (T' : State) (h' : Heap), Stand p l e R s m args below meth c T' (locs ++ [⟨a, j.toNatClampNeg⟩]) cells slots → T'.heap = h' → Wr h h' a j.toNatClampNeg (.int x) → Arv Z h' a kc .int z (vs.set i (.int x)) dv → Ok p e below Fe Q T' (mkF m pc' Ls rest)) : Ok p e below Fe Q T (mkF m pc Ls (.int x :: .int j :: .ref a :: rest)) := by
  subst hp
  obtain ⟨cl, Ar, q, S1, N1, H1, G1⟩ := V
  obtain ⟨T1, h1, X1, e1, W1, st1⟩ := Jvm.RoadKit.stI X hx hZ eT Ar (j := j) (inb_of S1 hj) (g := mkF m pc Ls (.int x :: .int j :: .ref a :: rest)) rfl rfl hd
  exact Ok.st st1 (k T1 h1 X1 e1 W1 (Arv.set Ar q S1 N1 H1 G1 rfl W1 i hji hi))
theorem Ok.stC {a : Addr} {kc : ClassId} {z j x : Int32} {vs : List Value} {dv : Value} (X : Stand p l e R s m args below meth c T locs cells slots) (hx : p.tables.exec = Jvm.exec) (hZ : Z.Warmed39 s.vm) (eT : T.heap = h) (V : Arv Z h a kc .char z vs dv) (hj : ¬ j < 0 ∧ j < z) {i : Nat} (hji : j.toNatClampNeg = i) (hi : i < vs.length) (hd : decode c.code pc = .ok (.castore, 1)) (hp : pc + 1 = pc')
    (k : ∀ (T' : State) (h' : Heap), Stand p l e R s m args below meth c T' (locs ++ [⟨a, j.toNatClampNeg⟩]) cells slots → T'.heap = h' → Wr h h' a j.toNatClampNeg (.int (nar .char x)) → Arv Z h' a kc .char z (vs.set i (.int (nar .char x))) dv → Ok p e below Fe Q T' (mkF m pc' Ls rest)) : Ok p e below Fe Q T (mkF m pc Ls (.int x :: .int j :: .ref a :: rest)) := by
  subst hp
  obtain ⟨cl, Ar, q, S1, N1, H1, G1⟩ := V
  obtain ⟨T1, h1, X1, e1, W1, st1⟩ := Jvm.RoadKit.stC X hx hZ eT Ar (j := j) (inb_of S1 hj) (g := mkF m pc Ls (.int x :: .int j :: .ref a :: rest)) rfl rfl hd
  exact Ok.st st1 (k T1 h1 X1 e1 W1 (Arv.set Ar q S1 N1 H1 G1 (fits_nar_char _) W1 i hji hi))
theorem Ok.stB {a : Addr} {kc : ClassId} {z j x : Int32} {vs : List Value} {dv : Value} (X : Stand p l e R s m args below meth c T locs cells slots) (hx : p.tables.exec = Jvm.exec) (hZ : Z.Warmed39 s.vm) (eT : T.heap = h) (V : Arv Z h a kc .byte z vs dv) (hj : ¬ j < 0 ∧ j < z) {i : Nat} (hji : j.toNatClampNeg = i) (hi : i < vs.length) (hd : decode c.code pc = .ok (.bastore, 1)) (hp : pc + 1 = pc')
    (k : ∀ (T' : State) (h' : Heap), Stand p l e R s m args below meth c T' (locs ++ [⟨a, j.toNatClampNeg⟩]) cells slots → T'.heap = h' → Wr h h' a j.toNatClampNeg (.int x.toInt8.toInt32) → Arv Z h' a kc .byte z (vs.set i (.int x.toInt8.toInt32)) dv → Ok p e below Fe Q T' (mkF m pc' Ls rest)) : Ok p e below Fe Q T (mkF m pc Ls (.int x :: .int j :: .ref a :: rest)) := by
  subst hp
  obtain ⟨cl, Ar, q, S1, N1, H1, G1⟩ := V
  obtain ⟨T1, h1, X1, e1, W1, st1⟩ := Jvm.RoadKit.stB X hx hZ eT Ar (j := j) (inb_of S1 hj) (g := mkF m pc Ls (.int x :: .int j :: .ref a :: rest)) rfl rfl hd
  exact Ok.st st1 (k T1 h1 X1 e1 W1 (Arv.set Ar q S1 N1 H1 G1 (fits_nar_byte _) W1 i hji hi))
theorem Ok.len {a : Addr} {kc : ClassId} {ty : FieldType} {z : Int32} {vs : List Value} {dv : Value} (X : Stand p l e R s m args below meth c T locs cells slots) (hx : p.tables.exec = Jvm.exec) (hZ : Z.Warmed39 s.vm) (eT : T.heap = h) (V : Arv Z h a kc ty z vs dv) (hd : decode c.code pc = .ok (.arraylength, 1)) (hp : pc + 1 = pc') (k : Ok p e below Fe Q T (mkF m pc' Ls (.int z :: rest))) : Ok p e below Fe Q T (mkF m pc Ls (.ref a :: rest)) := by
  subst hp
  obtain ⟨cl, Ar, q, S1, N1, H1, G1⟩ := V
  refine Ok.st (X.arraylength hx (by rw [eT]; exact Ar.1) (State.isArrayOf_alike hZ.alike Ar.2.1) (g := mkF m pc Ls (.ref a :: rest)) rfl rfl hd) ?_
  rw [len_of S1 N1]
  exact k
theorem Ok.ldI {a : Addr} {kc : ClassId} {z j : Int32} {v : Value} {vs : List Value} {dv : Value} (X : Stand p l e R s m args below meth c T locs cells slots) (hx : p.tables.exec = Jvm.exec) (hZ : Z.Warmed39 s.vm) (eT : T.heap = h) (V : Arv Z h a kc .int z vs dv) (hj : ¬ j < 0 ∧ j < z) (hv : vs.getD j.toNatClampNeg dv = v) (hd : decode c.code pc = .ok (.iaload, 1)) (hp : pc + 1 = pc') (k : Ok p e below Fe Q T (mkF m pc' Ls (v :: rest))) : Ok p e below Fe Q T (mkF m pc Ls (.int j :: .ref a :: rest)) := by
  subst hp
  obtain ⟨cl, Ar, q, S1, N1, H1, G1⟩ := V
  exact Ok.st (X.iaload hx (j := j) (v := v) (by rw [eT]; exact Ar.1) (State.isArrayOf_alike hZ.alike Ar.2.1) Ar.2.2 (inb_of S1 hj) (H1.at (inb_of S1 hj) hv) (g := mkF m pc Ls (.int j :: .ref a :: rest)) rfl rfl hd) k
theorem Ok.ldB {a : Addr} {kc : ClassId} {z j : Int32} {v : Value} {vs : List Value} {dv : Value} (X : Stand p l e R s m args below meth c T locs cells slots) (hx : p.tables.exec = Jvm.exec) (hZ : Z.Warmed39 s.vm) (eT : T.heap = h) (V : Arv Z h a kc .byte z vs dv) (hj : ¬ j < 0 ∧ j < z) (hv : vs.getD j.toNatClampNeg dv = v) (hd : decode c.code pc = .ok (.baload, 1)) (hp : pc + 1 = pc') (k : Ok p e below Fe Q T (mkF m pc' Ls (v :: rest))) : Ok p e below Fe Q T (mkF m pc Ls (.int j :: .ref a :: rest)) := by
  subst hp
  obtain ⟨cl, Ar, q, S1, N1, H1, G1⟩ := V
  exact Ok.st (X.baloadBytes hx (j := j) (v := v) (by rw [eT]; exact Ar.1) (State.isArrayOf_alike hZ.alike Ar.2.1) Ar.2.2 (inb_of S1 hj) (H1.at (inb_of S1 hj) hv) (g := mkF m pc Ls (.int j :: .ref a :: rest)) rfl rfl hd) k
theorem Ok.ldC {a : Addr} {kc : ClassId} {z j : Int32} {v : Value} {vs : List Value} {dv : Value} (X : Stand p l e R s m args below meth c T locs cells slots) (hx : p.tables.exec = Jvm.exec) (hZ : Z.Warmed39 s.vm) (eT : T.heap = h) (V : Arv Z h a kc .char z vs dv) (hj : ¬ j < 0 ∧ j < z) (hv : vs.getD j.toNatClampNeg dv = v) (hd : decode c.code pc = .ok (.caload, 1)) (hp : pc + 1 = pc') (k : Ok p e below Fe Q T (mkF m pc' Ls (v :: rest))) : Ok p e below Fe Q T (mkF m pc Ls (.int j :: .ref a :: rest)) := by
  subst hp
  obtain ⟨cl, Ar, q, S1, N1, H1, G1⟩ := V
  exact Ok.st (X.caload hx (j := j) (v := v) (by rw [eT]; exact Ar.1) (State.isArrayOf_alike hZ.alike Ar.2.1) Ar.2.2 (inb_of S1 hj) (H1.at (inb_of S1 hj) hv) (g := mkF m pc Ls (.int j :: .ref a :: rest)) rfl rfl hd) k
theorem Ok.aald {a : Addr} {cl : Cell} {ty : FieldType} {j : Int32} {v : Value} (X : Stand p l e R s m args below meth c T locs cells slots) (hx : p.tables.exec = Jvm.exec) (hZ : Z.Warmed39 s.vm) (eT : T.heap = h) (A : Arr Z h a cl ty) (hty : ty.isReference = true) (hin : ¬ (j < 0 ∨ cl.slots.size ≤ j.toNatClampNeg)) (hv : cl.slots[j.toNatClampNeg]? = some v) (hd : decode c.code pc = .ok (.aaload, 1)) (hp : pc + 1 = pc') (k : Ok p e below Fe Q T (mkF m pc' Ls (v :: rest))) : Ok p e below Fe Q T (mkF m pc Ls (.int j :: .ref a :: rest)) := by
  subst hp
  exact Ok.st (X.aaload hx (j := j) (v := v) (by rw [eT]; exact A.1) (State.isArrayOf_alike hZ.alike A.2.1) hty A.2.2 hin hv (g := mkF m pc Ls (.int j :: .ref a :: rest)) rfl rfl hd) k
theorem Ok.ldcF {index : Nat} {v : UInt32} (X : Stand p l e R s m args below meth c T locs cells slots) (hx : p.tables.exec = Jvm.exec) (hZ : Z.Warmed39 s.vm) (hown : s.vm.findClass own = some m.cls) (w : (Jvm.Cond.constantFloat own index v).before a0 Z = true) (hd : decode c.code pc = .ok (.ldc index, 2)) (hp : pc + 2 = pc') (k : Ok p e below Fe Q T (mkF m pc' Ls (.float v :: st))) : Ok p e below Fe Q T (mkF m pc Ls st) := by
  subst hp
  exact Ok.st (X.ldcFloatC hx hown (mvT hZ w) (g := mkF m pc Ls st) rfl hd) k
theorem own_root {O K : String} {n : Nat} (w : (Jvm.Cond.noSuperclass O).before a0 Z = true) (wk : (Jvm.Cond.instantiable K n).before a0 Z = true) (hn : O ≠ K) : NS Z O K := by
  obtain ⟨c, k, h1, h2, h3, -, -⟩ := Cond.noSuperclass_spec w
  obtain ⟨t, k', g1, -⟩ := Cond.instantiable_spec wk
  have ne := ids_ne h1 g1 hn
  refine ⟨c, t, h1, g1, fun fuel => ?_⟩
  cases fuel with
  | zero => rfl
  | succ f => simp [Vm.isSubclassAux, ne, h2, h3]
theorem own_no {C S K : String} {n : Nat} (w : (Jvm.Cond.superclass C S).before a0 Z = true) (wk : (Jvm.Cond.instantiable K n).before a0 Z = true) (ns : NS Z C K) (hn : C ≠ K) : ∃ c t, Z.vm.findClass C = some c ∧ Z.vm.findClass K = some t ∧ Z.vm.assignable c t = false := by
  obtain ⟨c, t, h0, g0, n3⟩ := ns
  obtain ⟨p, k, kp, h1, h2, h3, h4, h5, -, h7⟩ := Cond.superclass_spec h0 w
  obtain ⟨t', k', g1, g2, g5, g7, -⟩ := Cond.instantiable_spec wk
  cases g0.symm.trans g1
  have g8 : k'.isInterface = false := by
    cases hq : k'.isInterface
    · rfl
    · rw [hq] at g7
      cases g7
  have ne := ids_ne h0 g0 hn
  refine ⟨c, t, h0, g0, ?_⟩
  show Z.vm.assignableAux (255 + 1) c t = false
  simp [Vm.assignableAux, ne, h2, g2, h5, g5, g8, Vm.isSubclass, n3]
end Layer2
theorem i2c_id {x : Int32} (h0 : 0 ≤ x.toInt) (h1 : x.toInt ≤ 65535) : x.toUInt32.toUInt16.toUInt32.toInt32 = x := by
  have hx : x.toInt = x.toBitVec.toInt := rfl
  have hlt : x.toBitVec.toNat < 65536 := by
    rw [hx, BitVec.toInt_eq_toNat_cond] at h0 h1
    have hb := x.toBitVec.isLt
    by_cases hc : 2 * x.toBitVec.toNat < 2 ^ 32
    · rw [if_pos hc] at h1
      omega
    · rw [if_neg hc] at h0
      omega
  apply Int32.toBitVec_inj.mp
  apply BitVec.eq_of_toNat_eq
  have e : (x.toUInt32.toUInt16.toUInt32.toInt32).toBitVec.toNat = x.toBitVec.toNat % 65536 := by
    show (x.toUInt32.toUInt16.toUInt32).toNat = _
    simp
    rfl
  rw [e]
  omega
theorem nar_char_id {x : Int32} (h0 : 0 ≤ x.toInt) (h1 : x.toInt ≤ 65535) : nar .char x = x := i2c_id h0 h1
theorem narrow_char_id {x : Int32} (h0 : 0 ≤ x.toInt) (h1 : x.toInt ≤ 65535) : narrow .char (.int x) = .int x := congrArg Value.int (i2c_id h0 h1)
theorem mask255 (x : Int32) : 0 ≤ (x &&& (255 : Int32)).toInt ∧ (x &&& (255 : Int32)).toInt ≤ 255 := by
  rw [Jvm.Kit.i32_mask x 255 (k := 8) (by decide) (by decide)]
  omega
theorem char255 (x : Int32) : (x &&& (255 : Int32)).toUInt32.toUInt16.toUInt32.toInt32 = x &&& (255 : Int32) := i2c_id (mask255 x).1 (by have := (mask255 x).2; omega)
theorem byte_back {x : Int32} (h0 : 0 ≤ x.toInt) (h1 : x.toInt ≤ 255) : (x.toInt8.toInt32.toInt8.toInt32 &&& (255 : Int32)) = x := by
  have key : ∀ k : Fin 256, ((Int32.ofNat k.val).toInt8.toInt32.toInt8.toInt32 &&& (255 : Int32)) = Int32.ofNat k.val := by decide +kernel
  have e : x = Int32.ofNat x.toInt.toNat := by
    apply Int32.toInt_inj.mp
    rw [Int32.toInt_ofNat_of_lt (by omega)]
    omega
  have q := key ⟨x.toInt.toNat, by omega⟩
  simp only at q
  rw [← e] at q
  exact q
theorem pd_0 : parseMethodDescriptor "([C)V" = some ⟨[(.array .char)], none⟩ := by decide +kernel
theorem pd_1 : parseMethodDescriptor "([CIILjava/lang/Void;)V" = some ⟨[(.array .char), .int, .int, (.object "java/lang/Void")], none⟩ := by decide +kernel
theorem pd_2 : parseMethodDescriptor "()V" = some ⟨[], none⟩ := by decide +kernel
theorem pd_3 : parseMethodDescriptor "([CII)[B" = some ⟨[(.array .char), .int, .int], some (.array .byte)⟩ := by decide +kernel
theorem pd_4 : parseMethodDescriptor "([CI[BII)I" = some ⟨[(.array .char), .int, (.array .byte), .int, .int], some .int⟩ := by decide +kernel
theorem pd_5 : parseMethodDescriptor "([BI)B" = some ⟨[(.array .byte), .int], some .byte⟩ := by decide +kernel
theorem pd_6 : parseMethodDescriptor "(JLjava/lang/String;)Lcom/example/infoset/infoset/document/SizeBound;" = some ⟨[.long, (.object "java/lang/String")], some (.object "com/example/infoset/infoset/document/SizeBound")⟩ := by decide +kernel
theorem pd_7 : parseMethodDescriptor "(JJJLjava/lang/String;)V" = some ⟨[.long, .long, .long, (.object "java/lang/String")], none⟩ := by decide +kernel
theorem pd_8 : parseMethodDescriptor "(JJ)J" = some ⟨[.long, .long], some .long⟩ := by decide +kernel
theorem pd_9 : parseMethodDescriptor "()J" = some ⟨[], some .long⟩ := by decide +kernel
theorem Sta_keep {Z : State} {h h' : Heap} {C n d : String} {w : Value} {ws : List Addr} (F : Sta Z h C n d w) (K : Keep h h' ws) (q : ∀ x ∈ ws, ∃ k, Exa Z h x k) : Sta Z h' C n d w := by
  obtain ⟨cf, i, k, f, st, cell, h1, h2, h3, h4, h5, h6, h7⟩ := F
  refine ⟨cf, i, k, f, st, cell, h1, h2, h3, h4, K.2.1 st cell h5 fun hm => ?_, h6, h7⟩
  obtain ⟨k', c', k'', g1, -, -, g4, -⟩ := q st hm
  cases h5.symm.trans g1
  rw [h6] at g4
  cases g4
theorem d4_0 : decode jdk_29_method_70_code 0 = .ok (.lload_n 0, 1) := by decide +kernel
theorem d4_1 : decode jdk_29_method_70_code 1 = .ok (.lload_n 2, 1) := by decide +kernel
theorem d4_2 : decode jdk_29_method_70_code 2 = .ok (.lcmp, 1) := by decide +kernel
theorem d4_3 : decode jdk_29_method_70_code 3 = .ok (.ifCond .gt 7, 3) := by decide +kernel
theorem d4_6 : decode jdk_29_method_70_code 6 = .ok (.lload_n 0, 1) := by decide +kernel
theorem d4_7 : decode jdk_29_method_70_code 7 = .ok (.goto 4, 3) := by decide +kernel
theorem d4_10 : decode jdk_29_method_70_code 10 = .ok (.lload_n 2, 1) := by decide +kernel
theorem d4_11 : decode jdk_29_method_70_code 11 = .ok (.lreturn, 1) := by decide +kernel
theorem ef_4 (m : MethodId) (x0 : Int64) (x1 : Int64) : entryFrame m #[(.long x0), (.long x1)] 4 = mkF m 0 #[.val (.long x0), .second, .val (.long x1), .second] [] := by first | (simp [entryFrame, mkF, argsToLocals, Value.category]; done) | rfl
def Q4 (Z : State) (x1 : Int64) (y1 : Int64) (h0 : Heap) (n0 : Nat) (v : Option Value) (h : Heap) (L : List Loc) : Prop := ∃ z : Int64, v = some (.long z) ∧ (x1.toInt ≤ y1.toInt ∧ z = x1 ∨ ¬ x1.toInt ≤ y1.toInt ∧ z = y1) ∧ Fr n0 L ∧ h = h0
set_option maxRecDepth 65536 in
set_option maxHeartbeats 40000000 in
theorem rm4 (l : Launch) (Z : State) (a0 : Array Value) (hw : ∀ d ∈ tables_1, d.before a0 Z = true) (x1 : Int64) (y1 : Int64) (h0 : Heap) (n0 : Nat) (Z0 : n0 ≤ h0.size)  :
    MetN l Z (⟨"java/lang/Math", "min", "(JJ)J"⟩ : MethodName) jdk_29_method_70_code 4 (some .long) [] ({ frames := 0, cells := 0, slots := 0, locals := 0 } : Room) #[(.long x1), (.long y1)] h0 (Q4 Z x1 y1 h0 n0) := by
  refine met_n (Jvm.Free.JP.mathPlain rfl (by decide +kernel)) (fun m => ef_4 m x1 y1) ?_
  intro p e s m below meth c s₁ X0 hx hby hml hZ hown hnm hret hlk e0
  replace hown : s.vm.findClass "java/lang/Math" = some m.cls := hown
  replace hnm : meth.name = "min" := hnm
  replace hret : meth.sig.returnType = (some .long) := hret
  have N0 := Fr.nil n0
  have K0 : Keep h0 h0 [] := Keep.refl _ _
  show Ok p e below _ _ s₁ (mkF m 0 #[.val (.long x1), .second, .val (.long y1), .second] [])
  refine Ok.lloadN (pc' := 1) X0 hx (hb hby d4_0) rfl rfl ?_
  refine Ok.lloadN (pc' := 2) X0 hx (hb hby d4_1) rfl rfl ?_
  refine Ok.lcmp (pc' := 3) X0 hx (hb hby d4_2) rfl ?_
  by_cases hc3 : y1.toInt < x1.toInt
  · refine Ok.ifY (pc' := 10) X0 hx (hb hby d4_3) (bt (lc_all x1 y1).2.2.2.2.1 hc3) (by decide) (by decide) ?_
    refine Ok.lloadN (pc' := 11) X0 hx (hb hby d4_10) rfl rfl ?_
    refine Ok.retJ X0 hx hret hlk (hb hby d4_11) (by decide) (by decide) ?_
    show Q4 Z x1 y1 h0 n0 _ s₁.heap _
    rw [e0]
    exact ⟨y1, rfl, Or.inr ⟨by omega, rfl⟩, N0, rfl⟩
  · refine Ok.ifN (pc' := 6) X0 hx (hb hby d4_3) (bf (lc_all x1 y1).2.2.2.2.1 hc3) rfl ?_
    refine Ok.lloadN (pc' := 7) X0 hx (hb hby d4_6) rfl rfl ?_
    refine Ok.goto (pc' := 11) X0 hx (hb hby d4_7) (by decide) (by decide) ?_
    refine Ok.retJ X0 hx hret hlk (hb hby d4_11) (by decide) (by decide) ?_
    show Q4 Z x1 y1 h0 n0 _ s₁.heap _
    rw [e0]
    exact ⟨x1, rfl, Or.inl ⟨by omega, rfl⟩, N0, rfl⟩
theorem d2_0 : decode prog_21_method_1_code 0 = .ok (.aload_n 0, 1) := by decide +kernel
theorem d2_1 : decode prog_21_method_1_code 1 = .ok (.invokespecial 1, 3) := by decide +kernel
theorem d2_4 : decode prog_21_method_1_code 4 = .ok (.aload_n 0, 1) := by decide +kernel
theorem d2_5 : decode prog_21_method_1_code 5 = .ok (.lload 5, 2) := by decide +kernel
theorem d2_7 : decode prog_21_method_1_code 7 = .ok (.putfield 7, 3) := by decide +kernel
theorem d2_10 : decode prog_21_method_1_code 10 = .ok (.aload_n 0, 1) := by decide +kernel
theorem d2_11 : decode prog_21_method_1_code 11 = .ok (.ldc2_w 15, 3) := by decide +kernel
theorem d2_14 : decode prog_21_method_1_code 14 = .ok (.lload_n 1, 1) := by decide +kernel
theorem d2_15 : decode prog_21_method_1_code 15 = .ok (.lload_n 3, 1) := by decide +kernel
theorem d2_16 : decode prog_21_method_1_code 16 = .ok (.lload 5, 2) := by decide +kernel
theorem d2_18 : decode prog_21_method_1_code 18 = .ok (.lmul, 1) := by decide +kernel
theorem d2_19 : decode prog_21_method_1_code 19 = .ok (.ladd, 1) := by decide +kernel
theorem d2_20 : decode prog_21_method_1_code 20 = .ok (.invokestatic 17, 3) := by decide +kernel
theorem d2_23 : decode prog_21_method_1_code 23 = .ok (.putfield 23, 3) := by decide +kernel
theorem d2_26 : decode prog_21_method_1_code 26 = .ok (.aload_n 0, 1) := by decide +kernel
theorem d2_27 : decode prog_21_method_1_code 27 = .ok (.aload 7, 2) := by decide +kernel
theorem d2_29 : decode prog_21_method_1_code 29 = .ok (.putfield 26, 3) := by decide +kernel
theorem d2_32 : decode prog_21_method_1_code 32 = .ok (.return_, 1) := by decide +kernel
theorem pn_0 : plainName "com/example/infoset/infoset/document/SizeBound" = true := by first | (simp [plainName, overriddenIn]; done) | decide +kernel
theorem ef_2 (m : MethodId) (x0 : Addr) (x1 : Int64) (x2 : Int64) (x3 : Int64) (x4 : Addr) : entryFrame m #[(.ref x0), (.long x1), (.long x2), (.long x3), (.ref x4)] 8 = mkF m 0 #[.val (.ref x0), .val (.long x1), .second, .val (.long x2), .second, .val (.long x3), .second, .val (.ref x4)] [] := by first | (simp [entryFrame, mkF, argsToLocals, Value.category]; done) | rfl
def Q2 (Z : State) (a1 : Addr) (q2 : Int64) (q3 : Int64) (q4 : Int64) (q5 : Addr) (u_size : Value) (u_limit : Value) (u_unit : Value) (h0 : Heap) (n0 : Nat) (v : Option Value) (h : Heap) (L : List Loc) : Prop := ∃ z : Int64, v = none ∧ (2147483647 ≤ (q2 + (q3 * q4)).toInt ∧ z = (2147483647 : Int64) ∨ ¬ 2147483647 ≤ (q2 + (q3 * q4)).toInt ∧ z = (q2 + (q3 * q4))) ∧ Fr n0 L ∧ Keep h0 h [a1] ∧ Exa Z h a1 "com/example/infoset/infoset/document/SizeBound" ∧ Fld Z h a1 "com/example/infoset/infoset/document/SizeBound" "limit" "J" (.long z)
set_option maxRecDepth 65536 in
set_option maxHeartbeats 40000000 in
theorem rm2 (l : Launch) (Z : State) (a0 : Array Value) (hw : ∀ d ∈ tables_1, d.before a0 Z = true) (a1 : Addr) (q2 : Int64) (q3 : Int64) (q4 : Int64) (q5 : Addr) (u_size : Value) (u_limit : Value) (u_unit : Value) (h0 : Heap) (n0 : Nat) (Z0 : n0 ≤ h0.size) (E_a1 : Exa Z h0 a1 "com/example/infoset/infoset/document/SizeBound") (g_a1 : n0 ≤ a1) (F_size : Fld Z h0 a1 "com/example/infoset/infoset/document/SizeBound" "size" "J" u_size) (F_limit : Fld Z h0 a1 "com/example/infoset/infoset/document/SizeBound" "limit" "J" u_limit) (F_unit : Fld Z h0 a1 "com/example/infoset/infoset/document/SizeBound" "unit" "Ljava/lang/String;" u_unit) :
    MetN l Z (⟨"com/example/infoset/infoset/document/SizeBound", "<init>", "(JJJLjava/lang/String;)V"⟩ : MethodName) prog_21_method_1_code 8 none [] ({ frames := 1, cells := 0, slots := 0, locals := 16 } : Room) #[(.ref a1), (.long q2), (.long q3), (.long q4), (.ref q5)] h0 (Q2 Z a1 q2 q3 q4 q5 u_size u_limit u_unit h0 n0) := by
  refine met_n (plainFor_of_name pn_0) (fun m => ef_2 m a1 q2 q3 q4 q5) ?_
  intro p e s m below meth c s₁ X0 hx hby hml hZ hown hnm hret hlk e0
  replace hown : s.vm.findClass "com/example/infoset/infoset/document/SizeBound" = some m.cls := hown
  replace hnm : meth.name = "<init>" := hnm
  replace hret : meth.sig.returnType = none := hret
  have N0 := Fr.nil n0
  have K0 : Keep h0 h0 [a1] := Keep.refl _ _
  show Ok p e below _ _ s₁ (mkF m 0 #[.val (.ref a1), .val (.long q2), .second, .val (.long q3), .second, .val (.long q4), .second, .val (.ref q5)] [])
  refine Ok.aloadN (pc' := 1) X0 hx (hb hby d2_0) rfl rfl rfl ?_
  refine Ok.initO (pc' := 4) (W := 0) X0 hx hZ hown (hw _ (List.mem_of_getElem? (i := 41) rfl)) (hw _ (List.mem_of_getElem? (i := 13) rfl)) (hw _ (List.mem_of_getElem? (i := 14) rfl)) e0 (by rw [hml]; rfl) (hb hby d2_1) rfl (by decide) (Nat.le_of_eq rfl) (by decide) ?_
  intro T1 X1 e1
  refine Ok.aloadN (pc' := 5) X1 hx (hb hby d2_4) rfl rfl rfl ?_
  refine Ok.lload (pc' := 7) X1 hx (hb hby d2_5) rfl rfl ?_
  refine Ok.putF (pc' := 10) (ty := .long) X1 hx hZ hown (host := "") (Or.inl (hw _ (List.mem_of_getElem? (i := 42) rfl))) Via.refl e1 F_size E_a1 (Or.inr ⟨(hw _ (List.mem_of_getElem? (i := 43) rfl)), rfl, hnm⟩) (hw _ (List.mem_of_getElem? (i := 36) rfl)) (by decide) rfl rfl (hb hby d2_7) rfl ?_
  intro T2 h2 X2 e2 W2
  replace F_size := F_size.same W2
  replace E_a1 := E_a1.wr W2
  replace F_limit := F_limit.other W2 (Or.inr (slot_ne (Or.inr (hw _ (List.mem_of_getElem? (i := 50) rfl))) (Or.inr (hw _ (List.mem_of_getElem? (i := 43) rfl))) (by decide) (t := .long) (t' := .long) (by decide) (by decide)))
  replace F_unit := F_unit.other W2 (Or.inr (slot_ne (Or.inr (hw _ (List.mem_of_getElem? (i := 52) rfl))) (Or.inr (hw _ (List.mem_of_getElem? (i := 43) rfl))) (by decide) (t := (.object "java/lang/String")) (t' := .long) (by decide) (by decide)))
  have N2 := Fr.snoc X2 N0 g_a1
  have K2 : Keep h0 h2 [a1] := K0.wr W2 (Or.inl (List.mem_of_getElem? (i := 0) rfl))
  have Z3 : n0 ≤ h2.size := Nat.le_trans Z0 (Keep.of_wr W2).1
  refine Ok.aloadN (pc' := 11) X2 hx (hb hby d2_10) rfl rfl rfl ?_
  refine Ok.ldcJ (pc' := 14) (v := (2147483647 : Int64)) X2 hx hZ hown (hw _ (List.mem_of_getElem? (i := 44) rfl)) (hb hby d2_11) rfl ?_
  refine Ok.lloadN (pc' := 15) X2 hx (hb hby d2_14) rfl rfl ?_
  refine Ok.lloadN (pc' := 16) X2 hx (hb hby d2_15) rfl rfl ?_
  refine Ok.lload (pc' := 18) X2 hx (hb hby d2_16) rfl rfl ?_
  refine Ok.lmul (pc' := 19) X2 hx (hb hby d2_18) rfl ?_
  refine Ok.ladd (pc' := 20) X2 hx (hb hby d2_19) rfl ?_
  refine Ok.callS (pc' := 23) (W := 1)  (argsL := [(.long (2147483647 : Int64)), (.long (q2 + (q3 * q4)))]) (rest := [(.ref a1)]) X2 hx hZ hown (rm4 l Z a0 hw (2147483647 : Int64) (q2 + (q3 * q4)) h2 n0 Z3 ) (hw _ (List.mem_of_getElem? (i := 45) rfl)) (hw _ (List.mem_of_getElem? (i := 46) rfl)) (hw _ (List.mem_of_getElem? (i := 47) rfl)) (hw _ (List.mem_of_getElem? (i := 48) rfl)) (by decide) e2 (by decide) (by decide) (by decide) (by decide) (lenOf pd_8 rfl) rfl rfl (Nat.le_of_eq rfl) (by rw [hml]; rfl) (hb hby d2_20) rfl ?_
  intro v4 T4 L4 X4 hQ4
  obtain ⟨z4, rfl, hz4, Nq4, eq4⟩ := hQ4
  have N4 := Fr.app N2 Nq4
  show Ok p e below _ _ T4 (mkF m 23 #[.val (.ref a1), .val (.long q2), .second, .val (.long q3), .second, .val (.long q4), .second, .val (.ref q5)] [(.long z4), (.ref a1)])
  refine Ok.putF (pc' := 26) (ty := .long) X4 hx hZ hown (host := "") (Or.inl (hw _ (List.mem_of_getElem? (i := 49) rfl))) Via.refl eq4 F_limit E_a1 (Or.inr ⟨(hw _ (List.mem_of_getElem? (i := 50) rfl)), rfl, hnm⟩) (hw _ (List.mem_of_getElem? (i := 36) rfl)) (by decide) rfl rfl (hb hby d2_23) rfl ?_
  intro T5 h5 X5 e5 W5
  replace F_limit := F_limit.same W5
  replace E_a1 := E_a1.wr W5
  replace F_unit := F_unit.other W5 (Or.inr (slot_ne (Or.inr (hw _ (List.mem_of_getElem? (i := 52) rfl))) (Or.inr (hw _ (List.mem_of_getElem? (i := 50) rfl))) (by decide) (t := (.object "java/lang/String")) (t' := .long) (by decide) (by decide)))
  replace F_size := F_size.other W5 (Or.inr (slot_ne (Or.inr (hw _ (List.mem_of_getElem? (i := 43) rfl))) (Or.inr (hw _ (List.mem_of_getElem? (i := 50) rfl))) (by decide) (t := .long) (t' := .long) (by decide) (by decide)))
  have N5 := Fr.snoc X5 N4 g_a1
  have K5 : Keep h0 h5 [a1] := K2.wr W5 (Or.inl (List.mem_of_getElem? (i := 0) rfl))
  have Z6 : n0 ≤ h5.size := Nat.le_trans Z3 (Keep.of_wr W5).1
  refine Ok.aloadN (pc' := 27) X5 hx (hb hby d2_26) rfl rfl rfl ?_
  refine Ok.aload (pc' := 29) X5 hx (hb hby d2_27) rfl rfl rfl ?_
  refine Ok.putF (pc' := 32) (ty := (.object "java/lang/String")) X5 hx hZ hown (host := "") (Or.inl (hw _ (List.mem_of_getElem? (i := 51) rfl))) Via.refl e5 F_unit E_a1 (Or.inr ⟨(hw _ (List.mem_of_getElem? (i := 52) rfl)), rfl, hnm⟩) (hw _ (List.mem_of_getElem? (i := 36) rfl)) (by decide) rfl rfl (hb hby d2_29) rfl ?_
  intro T7 h7 X7 e7 W7
  replace F_unit := F_unit.same W7
  replace E_a1 := E_a1.wr W7
  replace F_size := F_size.other W7 (Or.inr (slot_ne (Or.inr (hw _ (List.mem_of_getElem? (i := 43) rfl))) (Or.inr (hw _ (List.mem_of_getElem? (i := 52) rfl))) (by decide) (t := .long) (t' := (.object "java/lang/String")) (by decide) (by decide)))
  replace F_limit := F_limit.other W7 (Or.inr (slot_ne (Or.inr (hw _ (List.mem_of_getElem? (i := 50) rfl))) (Or.inr (hw _ (List.mem_of_getElem? (i := 52) rfl))) (by decide) (t := .long) (t' := (.object "java/lang/String")) (by decide) (by decide)))
  have N7 := Fr.snoc X7 N5 g_a1
  have K7 : Keep h0 h7 [a1] := K5.wr W7 (Or.inl (List.mem_of_getElem? (i := 0) rfl))
  have Z8 : n0 ≤ h7.size := Nat.le_trans Z6 (Keep.of_wr W7).1
  refine Ok.retV X7 hx hret hlk (hb hby d2_32) (by decide) (by decide) ?_
  show Q2 Z a1 q2 q3 q4 q5 u_size u_limit u_unit h0 n0 _ T7.heap _
  rw [e7]
  exact ⟨z4, rfl, hz4, N7, K7, E_a1, F_limit⟩
theorem d5_0 : decode prog_21_method_4_code 0 = .ok (.aload_n 0, 1) := by decide +kernel
theorem d5_1 : decode prog_21_method_4_code 1 = .ok (.getfield 23, 3) := by decide +kernel
theorem d5_4 : decode prog_21_method_4_code 4 = .ok (.lreturn, 1) := by decide +kernel
theorem ef_5 (m : MethodId) (x0 : Addr) : entryFrame m #[(.ref x0)] 1 = mkF m 0 #[.val (.ref x0)] [] := by first | (simp [entryFrame, mkF, argsToLocals, Value.category]; done) | rfl
def Q5 (Z : State) (a1 : Addr) (q2 : Int64) (h0 : Heap) (n0 : Nat) (v : Option Value) (h : Heap) (L : List Loc) : Prop := v = some (.long q2) ∧ Fr n0 L ∧ h = h0
set_option maxRecDepth 65536 in
set_option maxHeartbeats 40000000 in
theorem rm5 (l : Launch) (Z : State) (a0 : Array Value) (hw : ∀ d ∈ tables_1, d.before a0 Z = true) (a1 : Addr) (q2 : Int64) (h0 : Heap) (n0 : Nat) (Z0 : n0 ≤ h0.size) (F_1 : Fld Z h0 a1 "com/example/infoset/infoset/document/SizeBound" "limit" "J" (.long q2)) :
    MetN l Z (⟨"com/example/infoset/infoset/document/SizeBound", "limit", "()J"⟩ : MethodName) prog_21_method_4_code 1 (some .long) [] ({ frames := 0, cells := 0, slots := 0, locals := 0 } : Room) #[(.ref a1)] h0 (Q5 Z a1 q2 h0 n0) := by
  refine met_n (plainFor_of_name pn_0) (fun m => ef_5 m a1) ?_
  intro p e s m below meth c s₁ X0 hx hby hml hZ hown hnm hret hlk e0
  replace hown : s.vm.findClass "com/example/infoset/infoset/document/SizeBound" = some m.cls := hown
  replace hnm : meth.name = "limit" := hnm
  replace hret : meth.sig.returnType = (some .long) := hret
  have N0 := Fr.nil n0
  have K0 : Keep h0 h0 [] := Keep.refl _ _
  show Ok p e below _ _ s₁ (mkF m 0 #[.val (.ref a1)] [])
  refine Ok.aloadN (pc' := 1) X0 hx (hb hby d5_0) rfl rfl rfl ?_
  refine Ok.getF (pc' := 4) X0 hx hZ hown (host := "") (Or.inl (hw _ (List.mem_of_getElem? (i := 49) rfl))) Via.refl e0 F_1 (hb hby d5_1) rfl ?_
  intro T9 X9 e9
  refine Ok.retJ X9 hx hret hlk (hb hby d5_4) (by decide) (by decide) ?_
  show Q5 Z a1 q2 h0 n0 _ T9.heap _
  rw [e9]
  exact ⟨rfl, N0, rfl⟩
theorem d10_0 : decode jdk_52_method_21_code 0 = .ok (.iconst 0, 1) := by decide +kernel
theorem d10_1 : decode jdk_52_method_21_code 1 = .ok (.istore 5, 2) := by decide +kernel
theorem d10_3 : decode jdk_52_method_21_code 3 = .ok (.iload 5, 2) := by decide +kernel
theorem d10_5 : decode jdk_52_method_21_code 5 = .ok (.iload 4, 2) := by decide +kernel
theorem d10_7 : decode jdk_52_method_21_code 7 = .ok (.if_icmp .ge 37, 3) := by decide +kernel
theorem d10_10 : decode jdk_52_method_21_code 10 = .ok (.aload_n 0, 1) := by decide +kernel
theorem d10_11 : decode jdk_52_method_21_code 11 = .ok (.iload_n 1, 1) := by decide +kernel
theorem d10_12 : decode jdk_52_method_21_code 12 = .ok (.caload, 1) := by decide +kernel
theorem d10_13 : decode jdk_52_method_21_code 13 = .ok (.istore 6, 2) := by decide +kernel
theorem d10_15 : decode jdk_52_method_21_code 15 = .ok (.iload 6, 2) := by decide +kernel
theorem d10_17 : decode jdk_52_method_21_code 17 = .ok (.sipush 255, 3) := by decide +kernel
theorem d10_20 : decode jdk_52_method_21_code 20 = .ok (.if_icmp .le 6, 3) := by decide +kernel
theorem d10_23 : decode jdk_52_method_21_code 23 = .ok (.iload 5, 2) := by decide +kernel
theorem d10_25 : decode jdk_52_method_21_code 25 = .ok (.ireturn, 1) := by decide +kernel
theorem d10_26 : decode jdk_52_method_21_code 26 = .ok (.aload_n 2, 1) := by decide +kernel
theorem d10_27 : decode jdk_52_method_21_code 27 = .ok (.iload_n 3, 1) := by decide +kernel
theorem d10_28 : decode jdk_52_method_21_code 28 = .ok (.iload 6, 2) := by decide +kernel
theorem d10_30 : decode jdk_52_method_21_code 30 = .ok (.i2b, 1) := by decide +kernel
theorem d10_31 : decode jdk_52_method_21_code 31 = .ok (.bastore, 1) := by decide +kernel
theorem d10_32 : decode jdk_52_method_21_code 32 = .ok (.iinc 1 1, 3) := by decide +kernel
theorem d10_35 : decode jdk_52_method_21_code 35 = .ok (.iinc 3 1, 3) := by decide +kernel
theorem d10_38 : decode jdk_52_method_21_code 38 = .ok (.iinc 5 1, 3) := by decide +kernel
theorem d10_41 : decode jdk_52_method_21_code 41 = .ok (.goto (-38), 3) := by decide +kernel
theorem d10_44 : decode jdk_52_method_21_code 44 = .ok (.iload 4, 2) := by decide +kernel
theorem d10_46 : decode jdk_52_method_21_code 46 = .ok (.ireturn, 1) := by decide +kernel
theorem pn_1 : plainName "java/lang/StringUTF16" = true := by first | (simp [plainName, overriddenIn]; done) | decide +kernel
theorem ef_10 (m : MethodId) (x0 : Addr) (x1 : Int32) (x2 : Addr) (x3 : Int32) (x4 : Int32) : entryFrame m #[(.ref x0), (.int x1), (.ref x2), (.int x3), (.int x4)] 7 = mkF m 0 #[.val (.ref x0), .val (.int x1), .val (.ref x2), .val (.int x3), .val (.int x4), .unset, .unset] [] := by first | (simp [entryFrame, mkF, argsToLocals, Value.category]; done) | rfl
def Q10 (Z : State) (a1 : Addr) (k1 : ClassId) (a2 : Addr) (k2 : ClassId) (c0 : Int32) (h0 : Heap) (n0 : Nat) (v : Option Value) (h : Heap) (L : List Loc) : Prop := v = some (.int (1 : Int32)) ∧ Fr n0 L ∧ Keep h0 h [a2] ∧ Arv Z h a2 k2 .byte (1 : Int32) [(.int c0.toInt8.toInt32.toInt8.toInt32)] (.int (0 : Int32))
set_option maxRecDepth 65536 in
set_option maxHeartbeats 40000000 in
theorem rm10 (l : Launch) (Z : State) (a0 : Array Value) (hw : ∀ d ∈ tables_1, d.before a0 Z = true) (a1 : Addr) (k1 : ClassId) (a2 : Addr) (k2 : ClassId) (c0 : Int32) (h0 : Heap) (n0 : Nat) (Z0 : n0 ≤ h0.size) (V_1 : Arv Z h0 a1 k1 .char (1 : Int32) [(.int c0)] (.int (0 : Int32))) (V_2 : Arv Z h0 a2 k2 .byte (1 : Int32) [(.int (0 : Int32))] (.int (0 : Int32))) (g_a2 : n0 ≤ a2) (ne_12 : a1 ≠ a2) (hc0 : 0 ≤ c0.toInt ∧ c0.toInt ≤ 255) :
    MetN l Z (⟨"java/lang/StringUTF16", "compress", "([CI[BII)I"⟩ : MethodName) jdk_52_method_21_code 7 (some .int) [] ({ frames := 0, cells := 0, slots := 0, locals := 0 } : Room) #[(.ref a1), (.int (0 : Int32)), (.ref a2), (.int (0 : Int32)), (.int (1 : Int32))] h0 (Q10 Z a1 k1 a2 k2 c0 h0 n0) := by
  refine met_n (plainFor_of_name pn_1) (fun m => ef_10 m a1 (0 : Int32) a2 (0 : Int32) (1 : Int32)) ?_
  intro p e s m below meth c s₁ X0 hx hby hml hZ hown hnm hret hlk e0
  replace hown : s.vm.findClass "java/lang/StringUTF16" = some m.cls := hown
  replace hnm : meth.name = "compress" := hnm
  replace hret : meth.sig.returnType = (some .int) := hret
  have N0 := Fr.nil n0
  have K0 : Keep h0 h0 [a2] := Keep.refl _ _
  show Ok p e below _ _ s₁ (mkF m 0 #[.val (.ref a1), .val (.int (0 : Int32)), .val (.ref a2), .val (.int (0 : Int32)), .val (.int (1 : Int32)), .unset, .unset] [])
  refine Ok.iconst (z := (0 : Int32)) (pc' := 1) X0 hx (hb hby d10_0) rfl rfl ?_
  refine Ok.istore (l' := #[.val (.ref a1), .val (.int (0 : Int32)), .val (.ref a2), .val (.int (0 : Int32)), .val (.int (1 : Int32)), .val (.int (0 : Int32)), .unset]) (pc' := 3) X0 hx (hb hby d10_1) rfl rfl ?_
  refine Ok.iload (pc' := 5) X0 hx (hb hby d10_3) rfl rfl ?_
  refine Ok.iload (pc' := 7) X0 hx (hb hby d10_5) rfl rfl ?_
  refine Ok.icN (pc' := 10) X0 hx (hb hby d10_7) (bf (ic_eq (0 : Int32) (1 : Int32)).2.2.2.1 (by decide)) rfl ?_
  refine Ok.aloadN (pc' := 11) X0 hx (hb hby d10_10) rfl rfl rfl ?_
  refine Ok.iloadN (pc' := 12) X0 hx (hb hby d10_11) rfl rfl ?_
  refine Ok.ldC (pc' := 13) (v := (.int c0)) X0 hx hZ e0 V_1 ⟨by decide, by decide⟩ rfl (hb hby d10_12) rfl ?_
  refine Ok.istore (l' := #[.val (.ref a1), .val (.int (0 : Int32)), .val (.ref a2), .val (.int (0 : Int32)), .val (.int (1 : Int32)), .val (.int (0 : Int32)), .val (.int c0)]) (pc' := 15) X0 hx (hb hby d10_13) rfl rfl ?_
  refine Ok.iload (pc' := 17) X0 hx (hb hby d10_15) rfl rfl ?_
  refine Ok.sipush (z := (255 : Int32)) (pc' := 20) X0 hx (hb hby d10_17) rfl rfl ?_
  refine Ok.icY (pc' := 26) X0 hx (hb hby d10_20) (bt (ic_eq c0 (255 : Int32)).2.2.2.2.2 (show c0.toInt ≤ 255 from hc0.2)) (by decide) (by decide) ?_
  refine Ok.aloadN (pc' := 27) X0 hx (hb hby d10_26) rfl rfl rfl ?_
  refine Ok.iloadN (pc' := 28) X0 hx (hb hby d10_27) rfl rfl ?_
  refine Ok.iload (pc' := 30) X0 hx (hb hby d10_28) rfl rfl ?_
  refine Ok.i2b (pc' := 31) X0 hx (hb hby d10_30) rfl ?_
  refine Ok.stB (pc' := 32) (i := 0) X0 hx hZ e0 V_2 ⟨by decide, by decide⟩ rfl (Nat.le_of_ble_eq_true rfl) (hb hby d10_31) rfl ?_
  intro T10 h10 X10 e10 W10 V10
  replace V_1 := V_1.other W10 ne_12
  replace V10 : Arv Z h10 a2 k2 .byte (1 : Int32) [(.int c0.toInt8.toInt32.toInt8.toInt32)] (.int (0 : Int32)) := V10
  have N10 := Fr.snoc X10 N0 g_a2
  have K10 : Keep h0 h10 [a2] := K0.wr W10 (Or.inl (List.mem_of_getElem? (i := 0) rfl))
  have Z11 : n0 ≤ h10.size := Nat.le_trans Z0 (Keep.of_wr W10).1
  refine Ok.iinc (z := (1 : Int32)) (l' := #[.val (.ref a1), .val (.int (1 : Int32)), .val (.ref a2), .val (.int (0 : Int32)), .val (.int (1 : Int32)), .val (.int (0 : Int32)), .val (.int c0)]) (pc' := 35) X10 hx (hb hby d10_32) rfl rfl rfl rfl ?_
  refine Ok.iinc (z := (1 : Int32)) (l' := #[.val (.ref a1), .val (.int (1 : Int32)), .val (.ref a2), .val (.int (1 : Int32)), .val (.int (1 : Int32)), .val (.int (0 : Int32)), .val (.int c0)]) (pc' := 38) X10 hx (hb hby d10_35) rfl rfl rfl rfl ?_
  refine Ok.iinc (z := (1 : Int32)) (l' := #[.val (.ref a1), .val (.int (1 : Int32)), .val (.ref a2), .val (.int (1 : Int32)), .val (.int (1 : Int32)), .val (.int (1 : Int32)), .val (.int c0)]) (pc' := 41) X10 hx (hb hby d10_38) rfl rfl rfl rfl ?_
  refine Ok.goto (pc' := 3) X10 hx (hb hby d10_41) (by decide) (by decide) ?_
  refine Ok.iload (pc' := 5) X10 hx (hb hby d10_3) rfl rfl ?_
  refine Ok.iload (pc' := 7) X10 hx (hb hby d10_5) rfl rfl ?_
  refine Ok.icY (pc' := 44) X10 hx (hb hby d10_7) (bt (ic_eq (1 : Int32) (1 : Int32)).2.2.2.1 (by decide)) (by decide) (by decide) ?_
  refine Ok.iload (pc' := 46) X10 hx (hb hby d10_44) rfl rfl ?_
  refine Ok.retI X10 hx hret hlk (Or.inl rfl) rfl (hb hby d10_46) (by decide) (by decide) ?_
  show Q10 Z a1 k1 a2 k2 c0 h0 n0 _ T10.heap _
  rw [e10]
  exact ⟨rfl, N10, K10, V10⟩
theorem d11_0 : decode jdk_52_method_16_code 0 = .ok (.iload_n 2, 1) := by decide +kernel
theorem d11_1 : decode jdk_52_method_16_code 1 = .ok (.newarray .byte, 2) := by decide +kernel
theorem d11_3 : decode jdk_52_method_16_code 3 = .ok (.astore_n 3, 1) := by decide +kernel
theorem d11_4 : decode jdk_52_method_16_code 4 = .ok (.aload_n 0, 1) := by decide +kernel
theorem d11_5 : decode jdk_52_method_16_code 5 = .ok (.iload_n 1, 1) := by decide +kernel
theorem d11_6 : decode jdk_52_method_16_code 6 = .ok (.aload_n 3, 1) := by decide +kernel
theorem d11_7 : decode jdk_52_method_16_code 7 = .ok (.iconst 0, 1) := by decide +kernel
theorem d11_8 : decode jdk_52_method_16_code 8 = .ok (.iload_n 2, 1) := by decide +kernel
theorem d11_9 : decode jdk_52_method_16_code 9 = .ok (.invokestatic 115, 3) := by decide +kernel
theorem d11_12 : decode jdk_52_method_16_code 12 = .ok (.istore 4, 2) := by decide +kernel
theorem d11_14 : decode jdk_52_method_16_code 14 = .ok (.iload 4, 2) := by decide +kernel
theorem d11_16 : decode jdk_52_method_16_code 16 = .ok (.iload_n 2, 1) := by decide +kernel
theorem d11_17 : decode jdk_52_method_16_code 17 = .ok (.if_icmp .eq 40, 3) := by decide +kernel
theorem d11_20 : decode jdk_52_method_16_code 20 = .ok (.aload_n 0, 1) := by decide +kernel
theorem d11_21 : decode jdk_52_method_16_code 21 = .ok (.iload_n 1, 1) := by decide +kernel
theorem d11_22 : decode jdk_52_method_16_code 22 = .ok (.iload_n 2, 1) := by decide +kernel
theorem d11_23 : decode jdk_52_method_16_code 23 = .ok (.invokestatic 119, 3) := by decide +kernel
theorem d11_26 : decode jdk_52_method_16_code 26 = .ok (.astore 5, 2) := by decide +kernel
theorem d11_28 : decode jdk_52_method_16_code 28 = .ok (.aload 5, 2) := by decide +kernel
theorem d11_30 : decode jdk_52_method_16_code 30 = .ok (.iload 4, 2) := by decide +kernel
theorem d11_32 : decode jdk_52_method_16_code 32 = .ok (.invokestatic 71, 3) := by decide +kernel
theorem d11_35 : decode jdk_52_method_16_code 35 = .ok (.sipush 255, 3) := by decide +kernel
theorem d11_38 : decode jdk_52_method_16_code 38 = .ok (.if_icmp .gt 16, 3) := by decide +kernel
theorem d11_41 : decode jdk_52_method_16_code 41 = .ok (.aload 5, 2) := by decide +kernel
theorem d11_43 : decode jdk_52_method_16_code 43 = .ok (.iconst 0, 1) := by decide +kernel
theorem d11_44 : decode jdk_52_method_16_code 44 = .ok (.aload_n 3, 1) := by decide +kernel
theorem d11_45 : decode jdk_52_method_16_code 45 = .ok (.iconst 0, 1) := by decide +kernel
theorem d11_46 : decode jdk_52_method_16_code 46 = .ok (.iload_n 2, 1) := by decide +kernel
theorem d11_47 : decode jdk_52_method_16_code 47 = .ok (.invokestatic 123, 3) := by decide +kernel
theorem d11_50 : decode jdk_52_method_16_code 50 = .ok (.iload_n 2, 1) := by decide +kernel
theorem d11_51 : decode jdk_52_method_16_code 51 = .ok (.if_icmp .eq 6, 3) := by decide +kernel
theorem d11_54 : decode jdk_52_method_16_code 54 = .ok (.aload 5, 2) := by decide +kernel
theorem d11_56 : decode jdk_52_method_16_code 56 = .ok (.areturn, 1) := by decide +kernel
theorem d11_57 : decode jdk_52_method_16_code 57 = .ok (.aload_n 3, 1) := by decide +kernel
theorem d11_58 : decode jdk_52_method_16_code 58 = .ok (.areturn, 1) := by decide +kernel
theorem ef_11 (m : MethodId) (x0 : Addr) (x1 : Int32) (x2 : Int32) : entryFrame m #[(.ref x0), (.int x1), (.int x2)] 6 = mkF m 0 #[.val (.ref x0), .val (.int x1), .val (.int x2), .unset, .unset, .unset] [] := by first | (simp [entryFrame, mkF, argsToLocals, Value.category]; done) | rfl
def Q11 (Z : State) (a1 : Addr) (k1 : ClassId) (c0 : Int32) (h0 : Heap) (n0 : Nat) (v : Option Value) (h : Heap) (L : List Loc) : Prop := ∃ (r : Addr) (kr : ClassId), v = some (.ref r) ∧ Fr n0 L ∧ Keep h0 h [] ∧ h0.size ≤ r ∧ Arv Z h r kr .byte (1 : Int32) [(.int c0.toInt8.toInt32.toInt8.toInt32)] (.int (0 : Int32))
set_option maxRecDepth 65536 in
set_option maxHeartbeats 40000000 in
theorem rm11 (l : Launch) (Z : State) (a0 : Array Value) (hw : ∀ d ∈ tables_1, d.before a0 Z = true) (a1 : Addr) (k1 : ClassId) (c0 : Int32) (h0 : Heap) (n0 : Nat) (Z0 : n0 ≤ h0.size) (V_1 : Arv Z h0 a1 k1 .char (1 : Int32) [(.int c0)] (.int (0 : Int32))) (hc0 : 0 ≤ c0.toInt ∧ c0.toInt ≤ 255) :
    MetN l Z (⟨"java/lang/StringUTF16", "compress", "([CII)[B"⟩ : MethodName) jdk_52_method_16_code 6 (some (.array .byte)) [] ({ frames := 1, cells := 1, slots := 1, locals := 18 } : Room) #[(.ref a1), (.int (0 : Int32)), (.int (1 : Int32))] h0 (Q11 Z a1 k1 c0 h0 n0) := by
  refine met_n (plainFor_of_name pn_1) (fun m => ef_11 m a1 (0 : Int32) (1 : Int32)) ?_
  intro p e s m below meth c s₁ X0 hx hby hml hZ hown hnm hret hlk e0
  replace hown : s.vm.findClass "java/lang/StringUTF16" = some m.cls := hown
  replace hnm : meth.name = "compress" := hnm
  replace hret : meth.sig.returnType = (some (.array .byte)) := hret
  have N0 := Fr.nil n0
  have K0 : Keep h0 h0 [] := Keep.refl _ _
  show Ok p e below _ _ s₁ (mkF m 0 #[.val (.ref a1), .val (.int (0 : Int32)), .val (.int (1 : Int32)), .unset, .unset, .unset] [])
  refine Ok.iloadN (pc' := 1) X0 hx (hb hby d11_0) rfl rfl ?_
  refine Ok.newP (pc' := 3) (cap := 1) X0 hx hZ (hw _ (List.mem_of_getElem? (i := 20) rfl)) rfl e0 (hb hby d11_1) rfl (by decide) (by decide) (by decide) (by decide) (by decide) ?_
  intro T12 h12 b12 kc12 g12 X12 e12 E12 V12
  have ne_a1_b12 : Nq a1 b12 := Nat.ne_of_lt (Nat.lt_of_lt_of_eq V_1.lt g12.symm)
  replace V_1 := V_1.ext E12
  have ge_b12 : n0 ≤ b12 := Nat.le_trans Z0 (Nat.le_of_eq g12.symm)
  have sz_b12 : h0.size ≤ b12 := Nat.le_trans K0.1 (Nat.le_of_eq g12.symm)
  have K12 : Keep h0 h12 [] := K0.ext E12
  have Z13 : n0 ≤ h12.size := Nat.le_trans Z0 E12.1
  replace V12 : Arv Z h12 b12 kc12 .byte (1 : Int32) [(.int (0 : Int32))] (.int (0 : Int32)) := V12.pad (pad_rep [] (.int (0 : Int32)) 1)
  show Ok p e below _ _ T12 (mkF m 3 #[.val (.ref a1), .val (.int (0 : Int32)), .val (.int (1 : Int32)), .unset, .unset, .unset] [(.ref b12)])
  refine Ok.astoreN (l' := #[.val (.ref a1), .val (.int (0 : Int32)), .val (.int (1 : Int32)), .val (.ref b12), .unset, .unset]) (pc' := 4) X12 hx (hb hby d11_3) rfl rfl rfl ?_
  refine Ok.aloadN (pc' := 5) X12 hx (hb hby d11_4) rfl rfl rfl ?_
  refine Ok.iloadN (pc' := 6) X12 hx (hb hby d11_5) rfl rfl ?_
  refine Ok.aloadN (pc' := 7) X12 hx (hb hby d11_6) rfl rfl rfl ?_
  refine Ok.iconst (z := (0 : Int32)) (pc' := 8) X12 hx (hb hby d11_7) rfl rfl ?_
  refine Ok.iloadN (pc' := 9) X12 hx (hb hby d11_8) rfl rfl ?_
  refine Ok.callS (pc' := 12) (W := 0)  (argsL := [(.ref a1), (.int (0 : Int32)), (.ref b12), (.int (0 : Int32)), (.int (1 : Int32))]) (rest := []) X12 hx hZ hown (rm10 l Z a0 hw a1 k1 b12 kc12 c0 h12 n0 Z13 V_1 V12 ge_b12 ne_a1_b12 hc0) (hw _ (List.mem_of_getElem? (i := 21) rfl)) (hw _ (List.mem_of_getElem? (i := 22) rfl)) (hw _ (List.mem_of_getElem? (i := 18) rfl)) (hw _ (List.mem_of_getElem? (i := 23) rfl)) (by decide) e12 (by decide) (by decide) (by decide) (by decide) (lenOf pd_4 rfl) rfl rfl (Nat.le_of_eq rfl) (by rw [hml]; rfl) (hb hby d11_9) rfl ?_
  intro v14 T14 L14 X14 hQ14
  obtain ⟨rfl, Nq14, Kq14, V14⟩ := hQ14
  have N14 := Fr.app N0 Nq14
  replace V_1 := V_1.keep Kq14 (ninS ne_a1_b12 nin0)
  have K14' : Keep h0 T14.heap [] := K12.trans Kq14 (allS (Or.inr sz_b12) all0)
  have Z15 : n0 ≤ T14.heap.size := Nat.le_trans Z13 Kq14.1
  show Ok p e below _ _ T14 (mkF m 12 #[.val (.ref a1), .val (.int (0 : Int32)), .val (.int (1 : Int32)), .val (.ref b12), .unset, .unset] [(.int (1 : Int32))])
  refine Ok.istore (l' := #[.val (.ref a1), .val (.int (0 : Int32)), .val (.int (1 : Int32)), .val (.ref b12), .val (.int (1 : Int32)), .unset]) (pc' := 14) X14 hx (hb hby d11_12) rfl rfl ?_
  refine Ok.iload (pc' := 16) X14 hx (hb hby d11_14) rfl rfl ?_
  refine Ok.iloadN (pc' := 17) X14 hx (hb hby d11_16) rfl rfl ?_
  refine Ok.icY (pc' := 57) X14 hx (hb hby d11_17) (bt (ic_eq (1 : Int32) (1 : Int32)).1 (by decide)) (by decide) (by decide) ?_
  refine Ok.aloadN (pc' := 58) X14 hx (hb hby d11_57) rfl rfl rfl ?_
  refine Ok.retA X14 hx hret hlk rfl rfl rfl (hb hby d11_58) (by decide) (by decide) ?_
  show Q11 Z a1 k1 c0 h0 n0 _ T14.heap _
  exact ⟨_, _, rfl, N14, K14', sz_b12, V14⟩
theorem d12_0 : decode jdk_52_method_15_code 0 = .ok (.iload_n 1, 1) := by decide +kernel
theorem d12_1 : decode jdk_52_method_15_code 1 = .ok (.aload_n 0, 1) := by decide +kernel
theorem d12_2 : decode jdk_52_method_15_code 2 = .ok (.arraylength, 1) := by decide +kernel
theorem d12_3 : decode jdk_52_method_15_code 3 = .ok (.isub, 1) := by decide +kernel
theorem d12_4 : decode jdk_52_method_15_code 4 = .ok (.bipush 31, 2) := by decide +kernel
theorem d12_6 : decode jdk_52_method_15_code 6 = .ok (.iushr, 1) := by decide +kernel
theorem d12_7 : decode jdk_52_method_15_code 7 = .ok (.i2b, 1) := by decide +kernel
theorem d12_8 : decode jdk_52_method_15_code 8 = .ok (.ireturn, 1) := by decide +kernel
theorem ef_12 (m : MethodId) (x0 : Addr) (x1 : Int32) : entryFrame m #[(.ref x0), (.int x1)] 2 = mkF m 0 #[.val (.ref x0), .val (.int x1)] [] := by first | (simp [entryFrame, mkF, argsToLocals, Value.category]; done) | rfl
def Q12 (Z : State) (a1 : Addr) (k1 : ClassId) (c0 : Int32) (h0 : Heap) (n0 : Nat) (v : Option Value) (h : Heap) (L : List Loc) : Prop := v = some (.int (0 : Int32)) ∧ Fr n0 L ∧ h = h0
set_option maxRecDepth 65536 in
set_option maxHeartbeats 40000000 in
theorem rm12 (l : Launch) (Z : State) (a0 : Array Value) (hw : ∀ d ∈ tables_1, d.before a0 Z = true) (a1 : Addr) (k1 : ClassId) (c0 : Int32) (h0 : Heap) (n0 : Nat) (Z0 : n0 ≤ h0.size) (V_1 : Arv Z h0 a1 k1 .byte (1 : Int32) [(.int c0.toInt8.toInt32.toInt8.toInt32)] (.int (0 : Int32))) :
    MetN l Z (⟨"java/lang/StringUTF16", "coderFromArrayLen", "([BI)B"⟩ : MethodName) jdk_52_method_15_code 2 (some .byte) [] ({ frames := 0, cells := 0, slots := 0, locals := 0 } : Room) #[(.ref a1), (.int (1 : Int32))] h0 (Q12 Z a1 k1 c0 h0 n0) := by
  refine met_n (plainFor_of_name pn_1) (fun m => ef_12 m a1 (1 : Int32)) ?_
  intro p e s m below meth c s₁ X0 hx hby hml hZ hown hnm hret hlk e0
  replace hown : s.vm.findClass "java/lang/StringUTF16" = some m.cls := hown
  replace hnm : meth.name = "coderFromArrayLen" := hnm
  replace hret : meth.sig.returnType = (some .byte) := hret
  have N0 := Fr.nil n0
  have K0 : Keep h0 h0 [] := Keep.refl _ _
  show Ok p e below _ _ s₁ (mkF m 0 #[.val (.ref a1), .val (.int (1 : Int32))] [])
  refine Ok.iloadN (pc' := 1) X0 hx (hb hby d12_0) rfl rfl ?_
  refine Ok.aloadN (pc' := 2) X0 hx (hb hby d12_1) rfl rfl rfl ?_
  refine Ok.len (pc' := 3) X0 hx hZ e0 V_1 (hb hby d12_2) rfl ?_
  refine Ok.isub (pc' := 4) X0 hx (hb hby d12_3) rfl ?_
  refine Ok.bipush (z := (31 : Int32)) (pc' := 6) X0 hx (hb hby d12_4) rfl rfl ?_
  refine Ok.iushr (pc' := 7) X0 hx (hb hby d12_6) rfl ?_
  refine Ok.i2b (pc' := 8) X0 hx (hb hby d12_7) rfl ?_
  refine Ok.retI X0 hx hret hlk (Or.inr (Or.inr (Or.inl rfl))) rfl (hb hby d12_8) (by decide) (by decide) ?_
  show Q12 Z a1 k1 c0 h0 n0 _ s₁.heap _
  rw [e0]
  exact ⟨rfl, N0, rfl⟩
theorem d13_0 : decode jdk_42_method_149_code 0 = .ok (.aload_n 0, 1) := by decide +kernel
theorem d13_1 : decode jdk_42_method_149_code 1 = .ok (.invokespecial 1, 3) := by decide +kernel
theorem d13_4 : decode jdk_42_method_149_code 4 = .ok (.iload_n 3, 1) := by decide +kernel
theorem d13_5 : decode jdk_42_method_149_code 5 = .ok (.ifCond .ne 22, 3) := by decide +kernel
theorem d13_8 : decode jdk_42_method_149_code 8 = .ok (.aload_n 0, 1) := by decide +kernel
theorem d13_9 : decode jdk_42_method_149_code 9 = .ok (.ldc 7, 2) := by decide +kernel
theorem d13_11 : decode jdk_42_method_149_code 11 = .ok (.getfield 9, 3) := by decide +kernel
theorem d13_14 : decode jdk_42_method_149_code 14 = .ok (.putfield 9, 3) := by decide +kernel
theorem d13_17 : decode jdk_42_method_149_code 17 = .ok (.aload_n 0, 1) := by decide +kernel
theorem d13_18 : decode jdk_42_method_149_code 18 = .ok (.ldc 7, 2) := by decide +kernel
theorem d13_20 : decode jdk_42_method_149_code 20 = .ok (.getfield 15, 3) := by decide +kernel
theorem d13_23 : decode jdk_42_method_149_code 23 = .ok (.putfield 15, 3) := by decide +kernel
theorem d13_26 : decode jdk_42_method_149_code 26 = .ok (.return_, 1) := by decide +kernel
theorem d13_27 : decode jdk_42_method_149_code 27 = .ok (.getstatic 38, 3) := by decide +kernel
theorem d13_30 : decode jdk_42_method_149_code 30 = .ok (.ifCond .eq 28, 3) := by decide +kernel
theorem d13_33 : decode jdk_42_method_149_code 33 = .ok (.aload_n 1, 1) := by decide +kernel
theorem d13_34 : decode jdk_42_method_149_code 34 = .ok (.iload_n 2, 1) := by decide +kernel
theorem d13_35 : decode jdk_42_method_149_code 35 = .ok (.iload_n 3, 1) := by decide +kernel
theorem d13_36 : decode jdk_42_method_149_code 36 = .ok (.invokestatic 177, 3) := by decide +kernel
theorem d13_39 : decode jdk_42_method_149_code 39 = .ok (.astore 5, 2) := by decide +kernel
theorem d13_41 : decode jdk_42_method_149_code 41 = .ok (.aload_n 0, 1) := by decide +kernel
theorem d13_42 : decode jdk_42_method_149_code 42 = .ok (.aload 5, 2) := by decide +kernel
theorem d13_44 : decode jdk_42_method_149_code 44 = .ok (.iload_n 3, 1) := by decide +kernel
theorem d13_45 : decode jdk_42_method_149_code 45 = .ok (.invokestatic 47, 3) := by decide +kernel
theorem d13_48 : decode jdk_42_method_149_code 48 = .ok (.putfield 15, 3) := by decide +kernel
theorem d13_51 : decode jdk_42_method_149_code 51 = .ok (.aload_n 0, 1) := by decide +kernel
theorem d13_52 : decode jdk_42_method_149_code 52 = .ok (.aload 5, 2) := by decide +kernel
theorem d13_54 : decode jdk_42_method_149_code 54 = .ok (.putfield 9, 3) := by decide +kernel
theorem d13_57 : decode jdk_42_method_149_code 57 = .ok (.return_, 1) := by decide +kernel
theorem d13_58 : decode jdk_42_method_149_code 58 = .ok (.aload_n 0, 1) := by decide +kernel
theorem d13_59 : decode jdk_42_method_149_code 59 = .ok (.iconst 1, 1) := by decide +kernel
theorem d13_60 : decode jdk_42_method_149_code 60 = .ok (.putfield 15, 3) := by decide +kernel
theorem d13_63 : decode jdk_42_method_149_code 63 = .ok (.aload_n 0, 1) := by decide +kernel
theorem d13_64 : decode jdk_42_method_149_code 64 = .ok (.aload_n 1, 1) := by decide +kernel
theorem d13_65 : decode jdk_42_method_149_code 65 = .ok (.iload_n 2, 1) := by decide +kernel
theorem d13_66 : decode jdk_42_method_149_code 66 = .ok (.iload_n 3, 1) := by decide +kernel
theorem d13_67 : decode jdk_42_method_149_code 67 = .ok (.invokestatic 180, 3) := by decide +kernel
theorem d13_70 : decode jdk_42_method_149_code 70 = .ok (.putfield 9, 3) := by decide +kernel
theorem d13_73 : decode jdk_42_method_149_code 73 = .ok (.return_, 1) := by decide +kernel
theorem pn_2 : plainName "java/lang/String" = true := by first | (simp [plainName, overriddenIn]; done) | decide +kernel
theorem ef_13 (m : MethodId) (x0 : Addr) (x1 : Addr) (x2 : Int32) (x3 : Int32) : entryFrame m #[(.ref x0), (.ref x1), (.int x2), (.int x3), .null] 6 = mkF m 0 #[.val (.ref x0), .val (.ref x1), .val (.int x2), .val (.int x3), .val .null, .unset] [] := by first | (simp [entryFrame, mkF, argsToLocals, Value.category]; done) | rfl
def Q13 (Z : State) (a1 : Addr) (a2 : Addr) (k2 : ClassId) (c0 : Int32) (u_value : Value) (u_coder : Value) (cs0 : Int32) (h0 : Heap) (n0 : Nat) (v : Option Value) (h : Heap) (L : List Loc) : Prop := v = none ∧ Fr n0 L ∧ Keep h0 h [a1] ∧ Exa Z h a1 "java/lang/String" ∧ ∃ (r : Addr) (kr : ClassId), h0.size ≤ r ∧ Fld Z h a1 "java/lang/String" "value" "[B" (.ref r) ∧ Fld Z h a1 "java/lang/String" "coder" "B" (.int (0 : Int32)) ∧ Arv Z h r kr .byte (1 : Int32) [(.int c0.toInt8.toInt32.toInt8.toInt32)] (.int (0 : Int32))
set_option maxRecDepth 65536 in
set_option maxHeartbeats 40000000 in
theorem rm13 (l : Launch) (Z : State) (a0 : Array Value) (hw : ∀ d ∈ tables_1, d.before a0 Z = true) (a1 : Addr) (a2 : Addr) (k2 : ClassId) (c0 : Int32) (u_value : Value) (u_coder : Value) (cs0 : Int32) (h0 : Heap) (n0 : Nat) (Z0 : n0 ≤ h0.size) (E_a1 : Exa Z h0 a1 "java/lang/String") (g_a1 : n0 ≤ a1) (F_value : Fld Z h0 a1 "java/lang/String" "value" "[B" u_value) (F_coder : Fld Z h0 a1 "java/lang/String" "coder" "B" u_coder) (V_2 : Arv Z h0 a2 k2 .char (1 : Int32) [(.int c0)] (.int (0 : Int32))) (hc0 : 0 ≤ c0.toInt ∧ c0.toInt ≤ 255) (O_0 : Old Z n0 h0) (S_cs : Sta Z Z.heap "java/lang/String" "COMPACT_STRINGS" "Z" (.int cs0)) (hcs : ¬ cs0.toInt = 0) :
    MetN l Z (⟨"java/lang/String", "<init>", "([CIILjava/lang/Void;)V"⟩ : MethodName) jdk_42_method_149_code 6 none [] ({ frames := 2, cells := 1, slots := 1, locals := 35 } : Room) #[(.ref a1), (.ref a2), (.int (0 : Int32)), (.int (1 : Int32)), .null] h0 (Q13 Z a1 a2 k2 c0 u_value u_coder cs0 h0 n0) := by
  refine met_n (plainFor_of_name pn_2) (fun m => ef_13 m a1 a2 (0 : Int32) (1 : Int32)) ?_
  intro p e s m below meth c s₁ X0 hx hby hml hZ hown hnm hret hlk e0
  replace hown : s.vm.findClass "java/lang/String" = some m.cls := hown
  replace hnm : meth.name = "<init>" := hnm
  replace hret : meth.sig.returnType = none := hret
  have N0 := Fr.nil n0
  have K0 : Keep h0 h0 [a1] := Keep.refl _ _
  show Ok p e below _ _ s₁ (mkF m 0 #[.val (.ref a1), .val (.ref a2), .val (.int (0 : Int32)), .val (.int (1 : Int32)), .val .null, .unset] [])
  refine Ok.aloadN (pc' := 1) X0 hx (hb hby d13_0) rfl rfl rfl ?_
  refine Ok.initO (pc' := 4) (W := 0) X0 hx hZ hown (hw _ (List.mem_of_getElem? (i := 12) rfl)) (hw _ (List.mem_of_getElem? (i := 13) rfl)) (hw _ (List.mem_of_getElem? (i := 14) rfl)) e0 (by rw [hml]; rfl) (hb hby d13_1) rfl (by decide) (Nat.le_of_eq rfl) (by decide) ?_
  intro T16 X16 e16
  refine Ok.iloadN (pc' := 5) X16 hx (hb hby d13_4) rfl rfl ?_
  refine Ok.ifY (pc' := 27) X16 hx (hb hby d13_5) (bt (i0 .ne (1 : Int32) (ic_eq (1 : Int32) 0).2.1) (by decide)) (by decide) (by decide) ?_
  refine Ok.getS (pc' := 30) X16 hx hZ hown (host := "") (Or.inl (hw _ (List.mem_of_getElem? (i := 15) rfl))) Via.refl e16 (S_cs.ext O_0.2) (hb hby d13_27) rfl ?_
  intro T17 X17 e17
  refine Ok.ifN (pc' := 33) X17 hx (hb hby d13_30) (bf (i0 .eq cs0 (ic_eq cs0 0).1) (show ¬ (cs0.toInt = 0) from hcs)) rfl ?_
  refine Ok.aloadN (pc' := 34) X17 hx (hb hby d13_33) rfl rfl rfl ?_
  refine Ok.iloadN (pc' := 35) X17 hx (hb hby d13_34) rfl rfl ?_
  refine Ok.iloadN (pc' := 36) X17 hx (hb hby d13_35) rfl rfl ?_
  refine Ok.callS (pc' := 39) (W := 0)  (argsL := [(.ref a2), (.int (0 : Int32)), (.int (1 : Int32))]) (rest := []) X17 hx hZ hown (rm11 l Z a0 hw a2 k2 c0 h0 n0 Z0 V_2 hc0) (hw _ (List.mem_of_getElem? (i := 16) rfl)) (hw _ (List.mem_of_getElem? (i := 17) rfl)) (hw _ (List.mem_of_getElem? (i := 18) rfl)) (hw _ (List.mem_of_getElem? (i := 19) rfl)) (by decide) e17 (by decide) (by decide) (by decide) (by decide) (lenOf pd_3 rfl) rfl rfl (Nat.le_of_eq rfl) (by rw [hml]; rfl) (hb hby d13_36) rfl ?_
  intro v18 T18 L18 X18 hQ18
  obtain ⟨r18, kr18, rfl, Nq18, Kq18, hr18, V18⟩ := hQ18
  have ne_a1_r18 : Nq a1 r18 := Nat.ne_of_lt (Nat.lt_of_lt_of_le E_a1.lt hr18)
  have ge_r18 : n0 ≤ r18 := Nat.le_trans Z0 hr18
  have sz_r18 : h0.size ≤ r18 := Nat.le_trans K0.1 hr18
  have N18 := Fr.app N0 Nq18
  replace E_a1 := E_a1.keep Kq18
  replace O_0 := O_0.keep Kq18 all0
  replace F_value := F_value.keep Kq18 nin0
  replace F_coder := F_coder.keep Kq18 nin0
  have K18' : Keep h0 T18.heap [a1] := K0.trans Kq18 all0
  have Z19 : n0 ≤ T18.heap.size := Nat.le_trans Z0 Kq18.1
  show Ok p e below _ _ T18 (mkF m 39 #[.val (.ref a1), .val (.ref a2), .val (.int (0 : Int32)), .val (.int (1 : Int32)), .val .null, .unset] [(.ref r18)])
  refine Ok.astore (l' := #[.val (.ref a1), .val (.ref a2), .val (.int (0 : Int32)), .val (.int (1 : Int32)), .val .null, .val (.ref r18)]) (pc' := 41) X18 hx (hb hby d13_39) rfl rfl rfl ?_
  refine Ok.aloadN (pc' := 42) X18 hx (hb hby d13_41) rfl rfl rfl ?_
  refine Ok.aload (pc' := 44) X18 hx (hb hby d13_42) rfl rfl rfl ?_
  refine Ok.iloadN (pc' := 45) X18 hx (hb hby d13_44) rfl rfl ?_
  refine Ok.callS (pc' := 48) (W := 1)  (argsL := [(.ref r18), (.int (1 : Int32))]) (rest := [(.ref a1)]) X18 hx hZ hown (rm12 l Z a0 hw r18 kr18 c0 T18.heap n0 Z19 V18) (hw _ (List.mem_of_getElem? (i := 24) rfl)) (hw _ (List.mem_of_getElem? (i := 25) rfl)) (hw _ (List.mem_of_getElem? (i := 18) rfl)) (hw _ (List.mem_of_getElem? (i := 26) rfl)) (by decide) rfl (by decide) (by decide) (by decide) (by decide) (lenOf pd_5 rfl) rfl rfl (Nat.le_of_eq rfl) (by rw [hml]; rfl) (hb hby d13_45) rfl ?_
  intro v20 T20 L20 X20 hQ20
  obtain ⟨rfl, Nq20, eq20⟩ := hQ20
  have N20 := Fr.app N18 Nq20
  show Ok p e below _ _ T20 (mkF m 48 #[.val (.ref a1), .val (.ref a2), .val (.int (0 : Int32)), .val (.int (1 : Int32)), .val .null, .val (.ref r18)] [(.int (0 : Int32)), (.ref a1)])
  refine Ok.putF (pc' := 51) (ty := .byte) X20 hx hZ hown (host := "") (Or.inl (hw _ (List.mem_of_getElem? (i := 27) rfl))) Via.refl eq20 F_coder E_a1 (Or.inr ⟨(hw _ (List.mem_of_getElem? (i := 28) rfl)), rfl, hnm⟩) (hw _ (List.mem_of_getElem? (i := 3) rfl)) (by decide) rfl rfl (hb hby d13_48) rfl ?_
  intro T21 h21 X21 e21 W21
  replace F_coder := F_coder.same W21
  replace E_a1 := E_a1.wr W21
  replace O_0 := O_0.wr W21 g_a1
  replace F_value := F_value.other W21 (Or.inr (slot_ne (Or.inr (hw _ (List.mem_of_getElem? (i := 30) rfl))) (Or.inr (hw _ (List.mem_of_getElem? (i := 28) rfl))) (by decide) (t := (.array .byte)) (t' := .byte) (by decide) (by decide)))
  replace V18 := V18.other W21 (Ne.symm ne_a1_r18)
  have N21 := Fr.snoc X21 N20 g_a1
  have K21 : Keep h0 h21 [a1] := K18'.wr W21 (Or.inl (List.mem_of_getElem? (i := 0) rfl))
  have Z22 : n0 ≤ h21.size := Nat.le_trans Z19 (Keep.of_wr W21).1
  refine Ok.aloadN (pc' := 52) X21 hx (hb hby d13_51) rfl rfl rfl ?_
  refine Ok.aload (pc' := 54) X21 hx (hb hby d13_52) rfl rfl rfl ?_
  refine Ok.putF (pc' := 57) (ty := (.array .byte)) X21 hx hZ hown (host := "") (Or.inl (hw _ (List.mem_of_getElem? (i := 29) rfl))) Via.refl e21 F_value E_a1 (Or.inr ⟨(hw _ (List.mem_of_getElem? (i := 30) rfl)), rfl, hnm⟩) (hw _ (List.mem_of_getElem? (i := 3) rfl)) (by decide) rfl rfl (hb hby d13_54) rfl ?_
  intro T23 h23 X23 e23 W23
  replace F_value := F_value.same W23
  replace E_a1 := E_a1.wr W23
  replace O_0 := O_0.wr W23 g_a1
  replace V18 := V18.other W23 (Ne.symm ne_a1_r18)
  replace F_coder := F_coder.other W23 (Or.inr (slot_ne (Or.inr (hw _ (List.mem_of_getElem? (i := 28) rfl))) (Or.inr (hw _ (List.mem_of_getElem? (i := 30) rfl))) (by decide) (t := .byte) (t' := (.array .byte)) (by decide) (by decide)))
  have N23 := Fr.snoc X23 N21 g_a1
  have K23 : Keep h0 h23 [a1] := K21.wr W23 (Or.inl (List.mem_of_getElem? (i := 0) rfl))
  have Z24 : n0 ≤ h23.size := Nat.le_trans Z22 (Keep.of_wr W23).1
  refine Ok.retV X23 hx hret hlk (hb hby d13_57) (by decide) (by decide) ?_
  show Q13 Z a1 a2 k2 c0 u_value u_coder cs0 h0 n0 _ T23.heap _
  rw [e23]
  exact ⟨rfl, N23, K23, E_a1, r18, _, sz_r18, F_value, F_coder, V18⟩
theorem d14_0 : decode jdk_42_method_3_code 0 = .ok (.aload_n 0, 1) := by decide +kernel
theorem d14_1 : decode jdk_42_method_3_code 1 = .ok (.aload_n 1, 1) := by decide +kernel
theorem d14_2 : decode jdk_42_method_3_code 2 = .ok (.iconst 0, 1) := by decide +kernel
theorem d14_3 : decode jdk_42_method_3_code 3 = .ok (.aload_n 1, 1) := by decide +kernel
theorem d14_4 : decode jdk_42_method_3_code 4 = .ok (.arraylength, 1) := by decide +kernel
theorem d14_5 : decode jdk_42_method_3_code 5 = .ok (.aconst_null, 1) := by decide +kernel
theorem d14_6 : decode jdk_42_method_3_code 6 = .ok (.invokespecial 27, 3) := by decide +kernel
theorem d14_9 : decode jdk_42_method_3_code 9 = .ok (.return_, 1) := by decide +kernel
theorem ef_14 (m : MethodId) (x0 : Addr) (x1 : Addr) : entryFrame m #[(.ref x0), (.ref x1)] 2 = mkF m 0 #[.val (.ref x0), .val (.ref x1)] [] := by first | (simp [entryFrame, mkF, argsToLocals, Value.category]; done) | rfl
def Q14 (Z : State) (a1 : Addr) (a2 : Addr) (k2 : ClassId) (c0 : Int32) (u_value : Value) (u_coder : Value) (cs0 : Int32) (h0 : Heap) (n0 : Nat) (v : Option Value) (h : Heap) (L : List Loc) : Prop := v = none ∧ Fr n0 L ∧ Keep h0 h [a1] ∧ Exa Z h a1 "java/lang/String" ∧ ∃ (r : Addr) (kr : ClassId), h0.size ≤ r ∧ Fld Z h a1 "java/lang/String" "value" "[B" (.ref r) ∧ Fld Z h a1 "java/lang/String" "coder" "B" (.int (0 : Int32)) ∧ Arv Z h r kr .byte (1 : Int32) [(.int c0.toInt8.toInt32.toInt8.toInt32)] (.int (0 : Int32))
set_option maxRecDepth 65536 in
set_option maxHeartbeats 40000000 in
theorem rm14 (l : Launch) (Z : State) (a0 : Array Value) (hw : ∀ d ∈ tables_1, d.before a0 Z = true) (a1 : Addr) (a2 : Addr) (k2 : ClassId) (c0 : Int32) (u_value : Value) (u_coder : Value) (cs0 : Int32) (h0 : Heap) (n0 : Nat) (Z0 : n0 ≤ h0.size) (E_a1 : Exa Z h0 a1 "java/lang/String") (g_a1 : n0 ≤ a1) (F_value : Fld Z h0 a1 "java/lang/String" "value" "[B" u_value) (F_coder : Fld Z h0 a1 "java/lang/String" "coder" "B" u_coder) (V_2 : Arv Z h0 a2 k2 .char (1 : Int32) [(.int c0)] (.int (0 : Int32))) (hc0 : 0 ≤ c0.toInt ∧ c0.toInt ≤ 255) (O_0 : Old Z n0 h0) (S_cs : Sta Z Z.heap "java/lang/String" "COMPACT_STRINGS" "Z" (.int cs0)) (hcs : ¬ cs0.toInt = 0) :
    MetN l Z (⟨"java/lang/String", "<init>", "([C)V"⟩ : MethodName) jdk_42_method_3_code 2 none [] ({ frames := 3, cells := 1, slots := 1, locals := 52 } : Room) #[(.ref a1), (.ref a2)] h0 (Q14 Z a1 a2 k2 c0 u_value u_coder cs0 h0 n0) := by
  refine met_n (plainFor_of_name pn_2) (fun m => ef_14 m a1 a2) ?_
  intro p e s m below meth c s₁ X0 hx hby hml hZ hown hnm hret hlk e0
  replace hown : s.vm.findClass "java/lang/String" = some m.cls := hown
  replace hnm : meth.name = "<init>" := hnm
  replace hret : meth.sig.returnType = none := hret
  have N0 := Fr.nil n0
  have K0 : Keep h0 h0 [a1] := Keep.refl _ _
  show Ok p e below _ _ s₁ (mkF m 0 #[.val (.ref a1), .val (.ref a2)] [])
  refine Ok.aloadN (pc' := 1) X0 hx (hb hby d14_0) rfl rfl rfl ?_
  refine Ok.aloadN (pc' := 2) X0 hx (hb hby d14_1) rfl rfl rfl ?_
  refine Ok.iconst (z := (0 : Int32)) (pc' := 3) X0 hx (hb hby d14_2) rfl rfl ?_
  refine Ok.aloadN (pc' := 4) X0 hx (hb hby d14_3) rfl rfl rfl ?_
  refine Ok.len (pc' := 5) X0 hx hZ e0 V_2 (hb hby d14_4) rfl ?_
  refine Ok.aconstNull (pc' := 6) X0 hx (hb hby d14_5) rfl ?_
  refine Ok.init (pc' := 9) (W := 0) (a := a1)  (argsL := [(.ref a2), (.int (0 : Int32)), (.int (1 : Int32)), .null]) (rest := []) X0 hx hZ hown (rm13 l Z a0 hw a1 a2 k2 c0 u_value u_coder cs0 h0 n0 Z0 E_a1 g_a1 F_value F_coder V_2 hc0 O_0 S_cs hcs) rfl (hw _ (List.mem_of_getElem? (i := 8) rfl)) (hw _ (List.mem_of_getElem? (i := 9) rfl)) (hw _ (List.mem_of_getElem? (i := 4) rfl)) (hw _ (List.mem_of_getElem? (i := 11) rfl)) (by decide) e0 (by decide) (by decide) (by decide) (by decide) (lenOf pd_1 rfl) rfl rfl (Nat.le_of_eq rfl) (by rw [hml]; rfl) (hb hby d14_6) rfl ?_
  intro v25 T25 L25 X25 hQ25
  obtain ⟨rfl, Nq25, Kq25, Aq25, hx25⟩ := hQ25
  have N25 := Fr.app N0 Nq25
  replace E_a1 := E_a1.keep Kq25
  replace O_0 := O_0.keep Kq25 (allS g_a1 all0)
  have K25' : Keep h0 T25.heap [a1] := K0.trans Kq25 (allS (Or.inl (List.mem_of_getElem? (i := 0) rfl)) all0)
  have Z26 : n0 ≤ T25.heap.size := Nat.le_trans Z0 Kq25.1
  show Ok p e below _ _ T25 (mkF m 9 #[.val (.ref a1), .val (.ref a2)] [])
  refine Ok.retV X25 hx hret hlk (hb hby d14_9) (by decide) (by decide) ?_
  show Q14 Z a1 a2 k2 c0 u_value u_coder cs0 h0 n0 _ T25.heap _
  exact ⟨rfl, N25, K25', E_a1, hx25⟩
theorem d1_0 : decode prog_21_method_2_code 0 = .ok (.new 8, 3) := by decide +kernel
theorem d1_3 : decode prog_21_method_2_code 3 = .ok (.dup, 1) := by decide +kernel
theorem d1_4 : decode prog_21_method_2_code 4 = .ok (.ldc2_w 30, 3) := by decide +kernel
theorem d1_7 : decode prog_21_method_2_code 7 = .ok (.lconst 1, 1) := by decide +kernel
theorem d1_8 : decode prog_21_method_2_code 8 = .ok (.lload_n 0, 1) := by decide +kernel
theorem d1_9 : decode prog_21_method_2_code 9 = .ok (.aload_n 2, 1) := by decide +kernel
theorem d1_10 : decode prog_21_method_2_code 10 = .ok (.invokespecial 32, 3) := by decide +kernel
theorem d1_13 : decode prog_21_method_2_code 13 = .ok (.areturn, 1) := by decide +kernel
theorem ef_1 (m : MethodId) (x0 : Int64) (x1 : Addr) : entryFrame m #[(.long x0), (.ref x1)] 3 = mkF m 0 #[.val (.long x0), .second, .val (.ref x1)] [] := by first | (simp [entryFrame, mkF, argsToLocals, Value.category]; done) | rfl
def Q1 (Z : State) (q1 : Int64) (a2 : Addr) (h0 : Heap) (n0 : Nat) (v : Option Value) (h : Heap) (L : List Loc) : Prop := ∃ (b : Addr) (z : Int64), v = some (.ref b) ∧ (2147483647 ≤ ((1000000 : Int64) + ((1 : Int64) * q1)).toInt ∧ z = (2147483647 : Int64) ∨ ¬ 2147483647 ≤ ((1000000 : Int64) + ((1 : Int64) * q1)).toInt ∧ z = ((1000000 : Int64) + ((1 : Int64) * q1))) ∧ Fr n0 L ∧ Keep h0 h [] ∧ Exa Z h b "com/example/infoset/infoset/document/SizeBound" ∧ Fld Z h b "com/example/infoset/infoset/document/SizeBound" "limit" "J" (.long z)
set_option maxRecDepth 65536 in
set_option maxHeartbeats 40000000 in
theorem rm1 (l : Launch) (Z : State) (a0 : Array Value) (hw : ∀ d ∈ tables_1, d.before a0 Z = true) (q1 : Int64) (a2 : Addr) (h0 : Heap) (n0 : Nat) (Z0 : n0 ≤ h0.size)  :
    MetN l Z (⟨"com/example/infoset/infoset/document/SizeBound", "times", "(JLjava/lang/String;)Lcom/example/infoset/infoset/document/SizeBound;"⟩ : MethodName) prog_21_method_2_code 3 (some (.object "com/example/infoset/infoset/document/SizeBound")) [] ({ frames := 2, cells := 1, slots := 3, locals := 36 } : Room) #[(.long q1), (.ref a2)] h0 (Q1 Z q1 a2 h0 n0) := by
  refine met_n (plainFor_of_name pn_0) (fun m => ef_1 m q1 a2) ?_
  intro p e s m below meth c s₁ X0 hx hby hml hZ hown hnm hret hlk e0
  replace hown : s.vm.findClass "com/example/infoset/infoset/document/SizeBound" = some m.cls := hown
  replace hnm : meth.name = "times" := hnm
  replace hret : meth.sig.returnType = (some (.object "com/example/infoset/infoset/document/SizeBound")) := hret
  have N0 := Fr.nil n0
  have K0 : Keep h0 h0 [] := Keep.refl _ _
  show Ok p e below _ _ s₁ (mkF m 0 #[.val (.long q1), .second, .val (.ref a2)] [])
  refine Ok.new (pc' := 3) X0 hx hZ hown (hw _ (List.mem_of_getElem? (i := 35) rfl)) (hw _ (List.mem_of_getElem? (i := 36) rfl)) (hw _ (List.mem_of_getElem? (i := 33) rfl)) e0 (hb hby d1_0) rfl (by decide) (by decide) ?_
  intro T27 h27 b27 g27 X27 e27 E27 A27 D27
  have ge_b27 : n0 ≤ b27 := Nat.le_trans Z0 (Nat.le_of_eq g27.symm)
  have sz_b27 : h0.size ≤ b27 := Nat.le_trans K0.1 (Nat.le_of_eq g27.symm)
  have K27 : Keep h0 h27 [] := K0.ext E27
  have Z28 : n0 ≤ h27.size := Nat.le_trans Z0 E27.1
  have F27_size : Fld Z h27 b27 "com/example/infoset/infoset/document/SizeBound" "size" "J" (.long (0 : Int64)) := D27 (Or.inr (hw _ (List.mem_of_getElem? (i := 43) rfl))) (ty := .long) (by decide)
  have F27_limit : Fld Z h27 b27 "com/example/infoset/infoset/document/SizeBound" "limit" "J" (.long (0 : Int64)) := D27 (Or.inr (hw _ (List.mem_of_getElem? (i := 50) rfl))) (ty := .long) (by decide)
  have F27_unit : Fld Z h27 b27 "com/example/infoset/infoset/document/SizeBound" "unit" "Ljava/lang/String;" .null := D27 (Or.inr (hw _ (List.mem_of_getElem? (i := 52) rfl))) (ty := (.object "java/lang/String")) (by decide)
  show Ok p e below _ _ T27 (mkF m 3 #[.val (.long q1), .second, .val (.ref a2)] [(.ref b27)])
  refine Ok.dup (pc' := 4) X27 hx (hb hby d1_3) rfl rfl ?_
  refine Ok.ldcJ (pc' := 7) (v := (1000000 : Int64)) X27 hx hZ hown (hw _ (List.mem_of_getElem? (i := 37) rfl)) (hb hby d1_4) rfl ?_
  refine Ok.lconst (z := (1 : Int64)) (pc' := 8) X27 hx (hb hby d1_7) rfl rfl ?_
  refine Ok.lloadN (pc' := 9) X27 hx (hb hby d1_8) rfl rfl ?_
  refine Ok.aloadN (pc' := 10) X27 hx (hb hby d1_9) rfl rfl rfl ?_
  refine Ok.init (pc' := 13) (W := 1) (a := b27)  (argsL := [(.long (1000000 : Int64)), (.long (1 : Int64)), (.long q1), (.ref a2)]) (rest := [(.ref b27)]) X27 hx hZ hown (rm2 l Z a0 hw b27 (1000000 : Int64) (1 : Int64) q1 a2 (.long (0 : Int64)) (.long (0 : Int64)) .null h27 n0 Z28 A27 ge_b27 F27_size F27_limit F27_unit) rfl (hw _ (List.mem_of_getElem? (i := 38) rfl)) (hw _ (List.mem_of_getElem? (i := 39) rfl)) (hw _ (List.mem_of_getElem? (i := 33) rfl)) (hw _ (List.mem_of_getElem? (i := 40) rfl)) (by decide) e27 (by decide) (by decide) (by decide) (by decide) (lenOf pd_7 rfl) rfl rfl (Nat.le_of_eq rfl) (by rw [hml]; rfl) (hb hby d1_10) rfl ?_
  intro v29 T29 L29 X29 hQ29
  obtain ⟨z29, rfl, hz29, Nq29, Kq29, Aq29, Fq29_limit⟩ := hQ29
  have N29 := Fr.app N0 Nq29
  replace A27 := A27.keep Kq29
  have K29' : Keep h0 T29.heap [] := K27.trans Kq29 (allS (Or.inr sz_b27) all0)
  have Z30 : n0 ≤ T29.heap.size := Nat.le_trans Z28 Kq29.1
  show Ok p e below _ _ T29 (mkF m 13 #[.val (.long q1), .second, .val (.ref a2)] [(.ref b27)])
  refine Ok.retA X29 hx hret hlk rfl rfl rfl (hb hby d1_13) (by decide) (by decide) ?_
  show Q1 Z q1 a2 h0 n0 _ T29.heap _
  exact ⟨_, z29, rfl, hz29, N29, K29', A27, Fq29_limit⟩
theorem pn_3 : plainName "com/example/infoset/infoset/document/SizeBoundTimesPinLaw" = true := by first | (simp [plainName, overriddenIn]; done) | decide +kernel
theorem ef_0 (m : MethodId) (x0 : Int64) (x1 : Int32) : entryFrame m #[(.long x0), (.int x1)] maxLocals = mkF m 0 #[.val (.long x0), .second, .val (.int x1), .unset, .unset, .unset, .unset, .unset, .unset, .unset] [] := by first | (simp [entryFrame, mkF, argsToLocals, Value.category, maxLocals]; done) | rfl
def Q0 (Z : State) (p1 : Int64) (p2 : Int32) (cs0 : Int32) (h0 : Heap) (n0 : Nat) (v : Option Value) (h : Heap) (L : List Loc) : Prop := v = some (.int (1 : Int32)) ∧ Fr n0 L
set_option maxRecDepth 65536 in
set_option maxHeartbeats 40000000 in
theorem rm0 (l : Launch) (Z : State) (a0 : Array Value) (hw : ∀ d ∈ tables_1, d.before a0 Z = true) (ws : List Jvm.Cond) (p1 : Int64) (p2 : Int32) (cs0 : Int32) (h0 : Heap) (n0 : Nat) (Z0 : n0 ≤ h0.size) (O_0 : Old Z n0 h0) (S_cs : Sta Z Z.heap "java/lang/String" "COMPACT_STRINGS" "Z" (.int cs0)) (hcs : ¬ cs0.toInt = 0) :
    MetN l Z x code maxLocals ret ws room_1 #[(.long p1), (.int p2)] h0 (Q0 Z p1 p2 cs0 h0 n0) := by
  refine met_n (plainFor_of_name pn_3) (fun m => ef_0 m p1 p2) ?_
  intro p e s m below meth c s₁ X0 hx hby hml hZ hown hnm hret hlk e0
  replace hown : s.vm.findClass "com/example/infoset/infoset/document/SizeBoundTimesPinLaw" = some m.cls := hown
  replace hnm : meth.name = "law" := hnm
  replace hret : meth.sig.returnType = (some .boolean) := hret
  have N0 := Fr.nil n0
  have K0 : Keep h0 h0 [] := Keep.refl _ _
  show Ok p e below _ _ s₁ (mkF m 0 #[.val (.long p1), .second, .val (.int p2), .unset, .unset, .unset, .unset, .unset, .unset, .unset] [])
  obtain ⟨sv, esv, hs0, hs1⟩ : ∃ z : Int64, (p1 &&& (4611686018427387903 : Int64)) = z ∧ 0 ≤ z.toInt ∧ z.toInt ≤ 4611686018427387903 := ⟨_, rfl, by rw [Jvm.Kit.i64_mask p1 4611686018427387903 (k := 62) (by decide) (by decide)]; omega, by rw [Jvm.Kit.i64_mask p1 4611686018427387903 (k := 62) (by decide) (by decide)]; omega⟩
  show Ok p e below _ _ s₁ (mkF m 0 #[.val (.long p1), .second, .val (.int p2), .unset, .unset, .unset, .unset, .unset, .unset, .unset] [])
  refine Ok.lloadN (pc' := 1) X0 hx (hb hby at_0) rfl rfl ?_
  refine Ok.ldcJ (pc' := 4) (v := (4611686018427387903 : Int64)) X0 hx hZ hown (hw _ (List.mem_of_getElem? (i := 0) rfl)) (hb hby at_1) rfl ?_
  refine Ok.land (pc' := 5) X0 hx (hb hby at_4) rfl ?_
  rw [esv]
  refine Ok.lstoreN (l' := #[.val (.long p1), .second, .val (.int p2), .val (.long sv), .second, .unset, .unset, .unset, .unset, .unset]) (pc' := 6) X0 hx (hb hby at_5) rfl rfl ?_
  refine Ok.iconst (z := (1 : Int32)) (pc' := 7) X0 hx (hb hby at_6) rfl rfl ?_
  refine Ok.newP (pc' := 9) (cap := 1) X0 hx hZ (hw _ (List.mem_of_getElem? (i := 1) rfl)) rfl e0 (hb hby at_7) rfl (by decide) (by decide) (by decide) (by decide) (by decide) ?_
  intro T31 h31 b31 kc31 g31 X31 e31 E31 V31
  replace O_0 := O_0.ext E31
  have ge_b31 : n0 ≤ b31 := Nat.le_trans Z0 (Nat.le_of_eq g31.symm)
  have sz_b31 : h0.size ≤ b31 := Nat.le_trans K0.1 (Nat.le_of_eq g31.symm)
  have K31 : Keep h0 h31 [] := K0.ext E31
  have Z32 : n0 ≤ h31.size := Nat.le_trans Z0 E31.1
  replace V31 : Arv Z h31 b31 kc31 .char (1 : Int32) [(.int (0 : Int32))] (.int (0 : Int32)) := V31.pad (pad_rep [] (.int (0 : Int32)) 1)
  show Ok p e below _ _ T31 (mkF m 9 #[.val (.long p1), .second, .val (.int p2), .val (.long sv), .second, .unset, .unset, .unset, .unset, .unset] [(.ref b31)])
  refine Ok.astore (l' := #[.val (.long p1), .second, .val (.int p2), .val (.long sv), .second, .val (.ref b31), .unset, .unset, .unset, .unset]) (pc' := 11) X31 hx (hb hby at_9) rfl rfl rfl ?_
  refine Ok.aload (pc' := 13) X31 hx (hb hby at_11) rfl rfl rfl ?_
  refine Ok.iconst (z := (0 : Int32)) (pc' := 14) X31 hx (hb hby at_13) rfl rfl ?_
  refine Ok.iloadN (pc' := 15) X31 hx (hb hby at_14) rfl rfl ?_
  refine Ok.sipush (z := (255 : Int32)) (pc' := 18) X31 hx (hb hby at_15) rfl rfl ?_
  refine Ok.iand (pc' := 19) X31 hx (hb hby at_18) rfl ?_
  refine Ok.i2c (pc' := 20) X31 hx (hb hby at_19) rfl ?_
  rw [char255]
  refine Ok.stC (pc' := 21) (i := 0) X31 hx hZ e31 V31 ⟨by decide, by decide⟩ rfl (Nat.le_of_ble_eq_true rfl) (hb hby at_20) rfl ?_
  intro T33 h33 X33 e33 W33 V33
  rw [nar_char_id (mask255 p2).1 (by have := (mask255 p2).2; omega)] at W33 V33
  replace O_0 := O_0.wr W33 ge_b31
  replace V33 : Arv Z h33 b31 kc31 .char (1 : Int32) [(.int (p2 &&& (255 : Int32)))] (.int (0 : Int32)) := V33
  have N33 := Fr.snoc X33 N0 ge_b31
  have K33 : Keep h0 h33 [] := K31.wr W33 (Or.inr sz_b31)
  have Z34 : n0 ≤ h33.size := Nat.le_trans Z32 (Keep.of_wr W33).1
  refine Ok.new (pc' := 24) X33 hx hZ hown (hw _ (List.mem_of_getElem? (i := 2) rfl)) (hw _ (List.mem_of_getElem? (i := 3) rfl)) (hw _ (List.mem_of_getElem? (i := 4) rfl)) e33 (hb hby at_21) rfl (by decide) (by decide) ?_
  intro T35 h35 b35 g35 X35 e35 E35 A35 D35
  have ne_b31_b35 : Nq b31 b35 := Nat.ne_of_lt (Nat.lt_of_lt_of_eq V33.lt g35.symm)
  replace O_0 := O_0.ext E35
  replace V33 := V33.ext E35
  have ge_b35 : n0 ≤ b35 := Nat.le_trans Z34 (Nat.le_of_eq g35.symm)
  have sz_b35 : h0.size ≤ b35 := Nat.le_trans K33.1 (Nat.le_of_eq g35.symm)
  have K35 : Keep h0 h35 [] := K33.ext E35
  have Z36 : n0 ≤ h35.size := Nat.le_trans Z34 E35.1
  have F35_coder : Fld Z h35 b35 "java/lang/String" "coder" "B" (.int (0 : Int32)) := D35 (Or.inr (hw _ (List.mem_of_getElem? (i := 28) rfl))) (ty := .byte) (by decide)
  have F35_value : Fld Z h35 b35 "java/lang/String" "value" "[B" .null := D35 (Or.inr (hw _ (List.mem_of_getElem? (i := 30) rfl))) (ty := (.array .byte)) (by decide)
  show Ok p e below _ _ T35 (mkF m 24 #[.val (.long p1), .second, .val (.int p2), .val (.long sv), .second, .val (.ref b31), .unset, .unset, .unset, .unset] [(.ref b35)])
  refine Ok.dup (pc' := 25) X35 hx (hb hby at_24) rfl rfl ?_
  refine Ok.aload (pc' := 27) X35 hx (hb hby at_25) rfl rfl rfl ?_
  refine Ok.init (pc' := 30) (W := 1) (a := b35)  (argsL := [(.ref b31)]) (rest := [(.ref b35)]) X35 hx hZ hown (rm14 l Z a0 hw b35 b31 kc31 (p2 &&& (255 : Int32)) .null (.int (0 : Int32)) cs0 h35 n0 Z36 A35 ge_b35 F35_value F35_coder V33 (mask255 p2) O_0 S_cs hcs) rfl (hw _ (List.mem_of_getElem? (i := 5) rfl)) (hw _ (List.mem_of_getElem? (i := 6) rfl)) (hw _ (List.mem_of_getElem? (i := 4) rfl)) (hw _ (List.mem_of_getElem? (i := 7) rfl)) (by decide) e35 (by decide) (by decide) (by decide) (by decide) (lenOf pd_0 rfl) rfl rfl (Nat.le_of_eq rfl) (by rw [hml]; rfl) (hb hby at_27) rfl ?_
  intro v37 T37 L37 X37 hQ37
  obtain ⟨rfl, Nq37, Kq37, Aq37, r37, kr37, hr37, Fv37, Fc37, V37⟩ := hQ37
  have ne_b31_r37 : Nq b31 r37 := Nat.ne_of_lt (Nat.lt_of_lt_of_le V33.lt hr37)
  have ne_b35_r37 : Nq b35 r37 := Nat.ne_of_lt (Nat.lt_of_lt_of_le A35.lt hr37)
  have ge_r37 : n0 ≤ r37 := Nat.le_trans Z36 hr37
  have sz_r37 : h0.size ≤ r37 := Nat.le_trans K35.1 hr37
  have N37 := Fr.app N33 Nq37
  replace O_0 := O_0.keep Kq37 (allS ge_b35 all0)
  replace V33 := V33.keep Kq37 (ninS ne_b31_b35 nin0)
  replace A35 := A35.keep Kq37
  have K37' : Keep h0 T37.heap [] := K35.trans Kq37 (allS (Or.inr sz_b35) all0)
  have Z38 : n0 ≤ T37.heap.size := Nat.le_trans Z36 Kq37.1
  show Ok p e below _ _ T37 (mkF m 30 #[.val (.long p1), .second, .val (.int p2), .val (.long sv), .second, .val (.ref b31), .unset, .unset, .unset, .unset] [(.ref b35)])
  refine Ok.astore (l' := #[.val (.long p1), .second, .val (.int p2), .val (.long sv), .second, .val (.ref b31), .val (.ref b35), .unset, .unset, .unset]) (pc' := 32) X37 hx (hb hby at_30) rfl rfl rfl ?_
  refine Ok.lloadN (pc' := 33) X37 hx (hb hby at_32) rfl rfl ?_
  refine Ok.aload (pc' := 35) X37 hx (hb hby at_33) rfl rfl rfl ?_
  refine Ok.callS (pc' := 38) (W := 0)  (argsL := [(.long sv), (.ref b35)]) (rest := []) X37 hx hZ hown (rm1 l Z a0 hw sv b35 T37.heap n0 Z38 ) (hw _ (List.mem_of_getElem? (i := 31) rfl)) (hw _ (List.mem_of_getElem? (i := 32) rfl)) (hw _ (List.mem_of_getElem? (i := 33) rfl)) (hw _ (List.mem_of_getElem? (i := 34) rfl)) (by decide) rfl (by decide) (by decide) (by decide) (by decide) (lenOf pd_6 rfl) rfl rfl (Nat.le_of_eq rfl) (by rw [hml]; rfl) (hb hby at_35) rfl ?_
  intro v39 T39 L39 X39 hQ39
  obtain ⟨b39, z39, rfl, hz39, Nq39, Kq39, A39, F39_limit⟩ := hQ39
  have N39 := Fr.app N37 Nq39
  replace O_0 := O_0.keep Kq39 all0
  replace V33 := V33.keep Kq39 nin0
  replace A35 := A35.keep Kq39
  replace Fv37 := Fv37.keep Kq39 nin0
  replace Fc37 := Fc37.keep Kq39 nin0
  replace V37 := V37.keep Kq39 nin0
  have K39' : Keep h0 T39.heap [] := K37'.trans Kq39 all0
  have Z40 : n0 ≤ T39.heap.size := Nat.le_trans Z38 Kq39.1
  show Ok p e below _ _ T39 (mkF m 38 #[.val (.long p1), .second, .val (.int p2), .val (.long sv), .second, .val (.ref b31), .val (.ref b35), .unset, .unset, .unset] [(.ref b39)])
  refine Ok.astore (l' := #[.val (.long p1), .second, .val (.int p2), .val (.long sv), .second, .val (.ref b31), .val (.ref b35), .val (.ref b39), .unset, .unset]) (pc' := 40) X39 hx (hb hby at_38) rfl rfl rfl ?_
  have k63 : ∀ (ex : Int64) (hex : sv.toInt ≤ 2146483647 ∧ ex.toInt = sv.toInt + 1000000 ∨ ¬ sv.toInt ≤ 2146483647 ∧ ex.toInt = 2147483647), Ok p e below (NE s room_1.cells room_1.slots) (Q0 Z p1 p2 cs0 h0 n0) T39 (mkF m 63 #[.val (.long p1), .second, .val (.int p2), .val (.long sv), .second, .val (.ref b31), .val (.ref b35), .val (.ref b39), .val (.long ex), .second] []) := by
    intro ex hex
    refine Ok.aload (pc' := 65) X39 hx (hb hby at_63) rfl rfl rfl ?_
    refine Ok.virt (pc' := 68) (W := 0) (a := b39)  (argsL := []) (rest := []) X39 hx hZ hown (rm5 l Z a0 hw b39 z39 T39.heap n0 Z40 F39_limit) (hw _ (List.mem_of_getElem? (i := 55) rfl)) (hw _ (List.mem_of_getElem? (i := 56) rfl)) (notFace_of_selects (args := #[]) (mvT hZ (hw _ (List.mem_of_getElem? (i := 58) rfl)))) (hw _ (List.mem_of_getElem? (i := 58) rfl)) (hw _ (List.mem_of_getElem? (i := 57) rfl)) (hw _ (List.mem_of_getElem? (i := 33) rfl)) (hw _ (List.mem_of_getElem? (i := 59) rfl)) (by decide) rfl A39 (by decide) (by decide) (by decide) (by decide) (lenOf pd_9 rfl) rfl rfl (Nat.le_of_eq rfl) (by rw [hml]; rfl) (hb hby at_65) rfl ?_
    intro v41 T41 L41 X41 hQ41
    obtain ⟨rfl, Nq41, eq41⟩ := hQ41
    have N41 := Fr.app N39 Nq41
    show Ok p e below _ _ T41 (mkF m 68 #[.val (.long p1), .second, .val (.int p2), .val (.long sv), .second, .val (.ref b31), .val (.ref b35), .val (.ref b39), .val (.long ex), .second] [(.long z39)])
    refine Ok.lload (pc' := 70) X41 hx (hb hby at_68) rfl rfl ?_
    refine Ok.lcmp (pc' := 71) X41 hx (hb hby at_70) rfl ?_
    by_cases hc71 : ¬ z39.toInt = ex.toInt
    · refine Ok.ifY (pc' := 78) X41 hx (hb hby at_71) (bt (lc_all z39 ex).2.1 hc71) (by decide) (by decide) ?_
      refine Ok.iconst (z := (0 : Int32)) (pc' := 79) X41 hx (hb hby at_78) rfl rfl ?_
      exfalso
      have e2 : ((1000000 : Int64)).toInt = 1000000 := rfl
      have e9 : ((2147483647 : Int64)).toInt = 2147483647 := rfl
      have e3 : (1 : Int64) * sv = sv := Int64.one_mul sv
      rw [e3] at hz39
      have ha := Jvm.Kit.i64_add (x := 1000000) (y := sv) (by rw [e2]; omega) (by rw [e2]; omega)
      rw [e2] at ha
      rcases hz39 with ⟨g1, g2⟩ | ⟨g1, g2⟩
      · subst g2; omega
      · subst g2; omega
    · refine Ok.ifN (pc' := 74) X41 hx (hb hby at_71) (bf (lc_all z39 ex).2.1 hc71) rfl ?_
      refine Ok.iconst (z := (1 : Int32)) (pc' := 75) X41 hx (hb hby at_74) rfl rfl ?_
      refine Ok.goto (pc' := 79) X41 hx (hb hby at_75) (by decide) (by decide) ?_
      refine Ok.retI X41 hx hret hlk (Or.inr (Or.inl rfl)) rfl (hb hby at_79) (by decide) (by decide) ?_
      show Q0 Z p1 p2 cs0 h0 n0 _ T41.heap _
      rw [eq41]
      exact ⟨rfl, N41⟩
  refine Ok.lloadN (pc' := 41) X39 hx (hb hby at_40) rfl rfl ?_
  refine Ok.ldcJ (pc' := 44) (v := (2146483647 : Int64)) X39 hx hZ hown (hw _ (List.mem_of_getElem? (i := 53) rfl)) (hb hby at_41) rfl ?_
  refine Ok.lcmp (pc' := 45) X39 hx (hb hby at_44) rfl ?_
  by_cases hc45 : 2146483647 < sv.toInt
  · refine Ok.ifY (pc' := 58) X39 hx (hb hby at_45) (bt (lc_all sv (2146483647 : Int64)).2.2.2.2.1 hc45) (by decide) (by decide) ?_
    refine Ok.ldcJ (pc' := 61) (v := (2147483647 : Int64)) X39 hx hZ hown (hw _ (List.mem_of_getElem? (i := 60) rfl)) (hb hby at_58) rfl ?_
    refine Ok.lstore (l' := #[.val (.long p1), .second, .val (.int p2), .val (.long sv), .second, .val (.ref b31), .val (.ref b35), .val (.ref b39), .val (.long (2147483647 : Int64)), .second]) (pc' := 63) X39 hx (hb hby at_61) rfl rfl ?_
    exact k63 _ (Or.inr ⟨by omega, rfl⟩)
  · refine Ok.ifN (pc' := 48) X39 hx (hb hby at_45) (bf (lc_all sv (2146483647 : Int64)).2.2.2.2.1 hc45) rfl ?_
    refine Ok.lloadN (pc' := 49) X39 hx (hb hby at_48) rfl rfl ?_
    refine Ok.ldcJ (pc' := 52) (v := (1000000 : Int64)) X39 hx hZ hown (hw _ (List.mem_of_getElem? (i := 54) rfl)) (hb hby at_49) rfl ?_
    refine Ok.ladd (pc' := 53) X39 hx (hb hby at_52) rfl ?_
    refine Ok.lstore (l' := #[.val (.long p1), .second, .val (.int p2), .val (.long sv), .second, .val (.ref b31), .val (.ref b35), .val (.ref b39), .val (.long (sv + (1000000 : Int64))), .second]) (pc' := 55) X39 hx (hb hby at_53) rfl rfl ?_
    refine Ok.goto (pc' := 63) X39 hx (hb hby at_55) (by decide) (by decide) ?_
    exact k63 _ (by clear hz39; have e2 : ((1000000 : Int64)).toInt = 1000000 := rfl; have e9 : ((2147483647 : Int64)).toInt = 2147483647 := rfl; have ha := Jvm.Kit.i64_add (x := sv) (y := 1000000) (by rw [e2]; omega) (by rw [e2]; omega); rw [e2] at ha; omega)
set_option maxRecDepth 65536 in
set_option maxHeartbeats 40000000 in
theorem comes_1 {Post : Tables → Env → Array Value → State → Outcome → State → Prop} (hpost : ∀ tb e args s v u, (limb_1_1.after args s (.returned v) u = true ∧ limb_1_2.after args s (.returned v) u = true ∧ True) → FrameEnd s (.returned v) u (Jvm.fieldLocs frame_1_writes args s ++ Jvm.arrayLocs frame_1_arrays args s ++ Jvm.staticLocs frame_1_statics s) 16 128 → Post tb e args s (.returned v) u) :
    ArmFor flags0 classFile x code maxLocals ret World_1 tables_1 room_1 Calls_1 rest_1 Pre_1 Post := by
  intro l hfl _ _ p e ha hc hk s m args below hf hA hF happ hP
  obtain ⟨hcalls, hrest, hpre⟩ := hP
  obtain ⟨-, -, -, hnamed, -, -, -, hat⟩ := (Spec.applies_iff hf).mp happ
  obtain ⟨hg, hn⟩ := and_e (Cond.before_iff.mp (show (Jvm.Cond.and given_1 narrow_1).before args s = true from hpre))
  obtain ⟨hcount, hg0⟩ := and_e hg
  obtain ⟨hk0, hg1⟩ := and_e hg0
  have hk1 := hg1
  obtain ⟨w0, w1, rfl⟩ : ∃ w0 w1 : Value, args = #[w0, w1] := by
    have hs : args.size = 2 := by simpa [Cond.value, given_1] using hcount
    obtain ⟨L⟩ := args
    match L, hs with
    | [w0, w1], _ => exact ⟨w0, w1, rfl⟩
  have hw := fun d (hd : d ∈ tables_1) => atoms_spec (ws := Jvm.Cond.code x code maxLocals ret :: tables_1) hat d (List.mem_cons_of_mem _ hd)
  have hfit : Fit s := fun {y c} hc i hi => by
    obtain ⟨ha, rfl⟩ := Array.getElem?_eq_some_iff.mp hc
    have q := List.all_eq_true.mp ((Array.all_eq_true_iff_forall_mem.mp hF) _ (Array.getElem_mem ha)) i (List.mem_range.mpr hi)
    simpa [Array.getElem?_eq_getElem hi] using q
  obtain ⟨hsets, hown0⟩ := atoms_of _ (rest_1_c_eq ▸ (show rest_1_c.before _ s = true from hrest))
  obtain ⟨i0, ei0⟩ := isL_v hk0
  obtain rfl : w0 = (.long i0) := Option.some.inj ei0
  obtain ⟨i1, ei1⟩ := is_v hk1
  obtain rfl : w1 = (.int i1) := Option.some.inj ei1
  obtain ⟨cs0, ecs⟩ := is_v (Cond.before_iff.mp (hsets _ (List.mem_of_getElem? (i := 1) rfl)))
  have S_cs := Sta.start ecs (Or.inl (hsets _ (List.mem_of_getElem? (i := 0) rfl)))
  have hcs : ¬ cs0.toInt = 0 := fun q => by
    have h0 := not_v (Cond.before_iff.mp (hsets _ (List.mem_of_getElem? (i := 2) rfl)))
    have h1 := Cond.eq_ints ecs (Term.int_eval (0))
    rw [h0] at h1
    have h2 : cs0 = 0 := Int32.toInt_inj.mp (by rw [q]; rfl)
    simp [h2] at h1
  obtain ⟨n, o, h1, h2, h3, _, L, rfl, ⟨rfl, N⟩, hq⟩ := rm0 l s _ hw tables_1 i0 i1 cs0 s.heap s.heap.size (Nat.le_refl _) (Old.start s) S_cs hcs p e ha hc hk s m _ below hf ((Spec.applies_iff_loose hf).mp happ).1 ⟨rfl, State.Warmed39.refl s, rfl⟩ trivial
  refine ⟨n, _, h1, h2, h3, hpost _ _ _ _ _ _ ⟨Cond.after_iff.mpr rfl, Cond.after_iff.mpr (eq_i res_at (Term.int_eval (1)) rfl), trivial⟩ ⟨hq.1, hq.2.1, (hq.2.2.sift fun y hy => Or.inr (N y hy)).mono (by decide) (by decide)⟩⟩
theorem main_1_1 : Claimed_1_1 := comes_1 fun _ _ _ _ _ _ h hF => ⟨h.1, hF⟩
theorem main_1_2 : Claimed_1_2 := comes_1 fun _ _ _ _ _ _ h hF => ⟨h.2.1, hF⟩
end Jvm.Pilot.@@N@@
namespace Jvm.Pilot.@@N@@
open Jvm Jvm.ClassFile Sem Op Lib Jvm.Free Jvm.Stand Jvm.Pilot.@@N@@.Jvm.D
/-! MADE BY PROGRAM (witnessworld.py) out of the Statement's table words and the real class files: 21 classes; the members and pool entries that the words name. The judged class is class 1, her method 1. -/
namespace start1
open Jvm.ClassFile
def u (s : String) : CpInfo := .utf8 (stringToUtf16 s)
/-- a pool by its gaps: so many unusable entries, then the entry; so many at the end -/
def gap : Nat → List CpInfo → List CpInfo
  | 0, r => r
  | n + 1, r => .unusable :: gap n r
def poolList (es : List (Nat × CpInfo)) (last : Nat) : List CpInfo := es.foldr (fun e r => gap e.1 (e.2 :: r)) (gap last [])
def pool (es : List (Nat × CpInfo)) (last : Nat) : Array CpInfo := ⟨poolList es last⟩
def fileOf (pool : Array CpInfo) (this : Nat) (attrs : Array Attribute := #[]) (ms : Array MethodInfo := #[]) (fl : Nat := 33) (sup : Nat := 0) (ifs : Array Nat := #[]) (fds : Array FieldInfo := #[]) : ClassFile where
  minorVersion := 0
  majorVersion := 65
  constantPool := pool
  accessFlags := fl
  thisClass := this
  superClass := sup
  interfaces := ifs
  fields := fds
  methods := ms
  attributes := attrs
def plain (name : String) (sup : Option ClassId) : Class where
  name := name
  kind := .ordinary
  loader := none
  accessFlags := 33
  super := sup
  interfaces := #[]
  cf := none
  fields := #[]
  methods := #[]
  instanceTypes := #[]
  staticTypes := #[]
  resolved := #[]
  callSites := []
  init := .initialized
  statics := none
  mirror := none

def pool0 : Array CpInfo := pool [(5, u "<init>"), (0, u "()V"), (1, .class_ 10), (1, u "java/lang/Object")] 113

def k0c0 : Code := { maxStack := 0, maxLocals := 1, code := object_method_1_code, exceptionTable := #[], attributes := #[] }
def k0m0 : Method := { name := "<init>", desc := "()V", sig := { parameters := [], returnType := none }, accessFlags := 1, code := some k0c0 }
/-- java/lang/Object -/
def k0 : Class := { plain "java/lang/Object" none with
  accessFlags := 33
  interfaces := #[]
  cf := some (fileOf pool0 8 #[] #[{ accessFlags := 1, nameIndex := 5, descriptorIndex := 6, attributes := #[] }] 33 0 #[] #[])
  fields := #[]
  methods := #[k0m0]
  instanceTypes := #[]
  staticTypes := #[]
  resolved := Array.replicate 124 none
  statics := none }

def pool1 : Array CpInfo := pool [(2, .class_ 4), (1, u "java/lang/Object"), (0, u "<init>"), (0, u "()V"), (0, .long 4611686018427387903), (1, .class_ 10), (0, u "java/lang/String"), (0, .methodref 9 12), (0, .nameAndType 5 13), (0, u "([C)V"), (0, .methodref 15 16), (0, .class_ 17), (0, .nameAndType 18 19), (0, u "com/example/infoset/infoset/document/SizeBound"), (0, u "times"), (0, u "(JLjava/lang/String;)Lcom/example/infoset/infoset/document/SizeBound;"), (0, .long 2146483647), (1, .long 1000000), (1, .long 2147483647), (1, .methodref 15 27), (0, .nameAndType 28 29), (0, u "limit"), (0, u "()J"), (0, .class_ 31), (0, u "com/example/infoset/infoset/document/SizeBoundTimesPinLaw"), (2, u "law"), (0, u "(JI)Z")] 5

def k1m0 : Method := { name := "<init>", desc := "()V", sig := { parameters := [], returnType := none }, accessFlags := 1, code := none }
def k1c1 : Code := { maxStack := 4, maxLocals := 10, code := code, exceptionTable := #[], attributes := #[] }
def k1m1 : Method := { name := "law", desc := "(JI)Z", sig := { parameters := [.long, .int], returnType := some .boolean }, accessFlags := 9, code := some k1c1 }
/-- com/example/infoset/infoset/document/SizeBoundTimesPinLaw -/
def k1 : Class := { plain "com/example/infoset/infoset/document/SizeBoundTimesPinLaw" (some 0) with
  accessFlags := 49
  interfaces := #[]
  cf := some (fileOf pool1 30 #[] #[{ accessFlags := 1, nameIndex := 5, descriptorIndex := 6, attributes := #[] }, { accessFlags := 9, nameIndex := 34, descriptorIndex := 35, attributes := #[] }] 49 2 #[] #[])
  fields := #[]
  methods := #[k1m0, k1m1]
  instanceTypes := #[]
  staticTypes := #[]
  resolved := Array.replicate 41 none
  statics := none }

def pool2 : Array CpInfo := pool [(1, .class_ 2), (0, u "java/io/Serializable"), (0, .class_ 4), (0, u "java/lang/Object")] 2

/-- java/io/Serializable -/
def k2 : Class := { plain "java/io/Serializable" (some 0) with
  accessFlags := 1537
  interfaces := #[]
  cf := some (fileOf pool2 1 #[] #[] 1537 3 #[] #[])
  fields := #[]
  methods := #[]
  instanceTypes := #[]
  staticTypes := #[]
  resolved := Array.replicate 7 none
  statics := none }

def pool3 : Array CpInfo := pool [(1, .class_ 2), (0, u "java/lang/Comparable"), (0, .class_ 4), (0, u "java/lang/Object")] 7

/-- java/lang/Comparable -/
def k3 : Class := { plain "java/lang/Comparable" (some 0) with
  accessFlags := 1537
  interfaces := #[]
  cf := some (fileOf pool3 1 #[] #[] 1537 3 #[] #[])
  fields := #[]
  methods := #[]
  instanceTypes := #[]
  staticTypes := #[]
  resolved := Array.replicate 12 none
  statics := none }

def pool4 : Array CpInfo := pool [(2, .class_ 4), (1, u "java/lang/CharSequence"), (42, .class_ 48), (0, u "java/lang/CharSequence$1CodePointIterator"), (10, .class_ 60), (0, u "java/lang/CharSequence$1CharIterator"), (5, .class_ 67), (0, u "java/lang/Object")] 63

/-- java/lang/CharSequence -/
def k4 : Class := { plain "java/lang/CharSequence" (some 0) with
  accessFlags := 1537
  interfaces := #[]
  cf := some (fileOf pool4 2 #[.nestMembers #[47, 59]] #[] 1537 66 #[] #[])
  fields := #[]
  methods := #[]
  instanceTypes := #[]
  staticTypes := #[]
  resolved := Array.replicate 131 none
  statics := none }

def pool5 : Array CpInfo := pool [(1, .class_ 2), (0, u "java/lang/constant/Constable"), (0, .class_ 4), (0, u "java/lang/Object")] 6

/-- java/lang/constant/Constable -/
def k5 : Class := { plain "java/lang/constant/Constable" (some 0) with
  accessFlags := 1537
  interfaces := #[]
  cf := some (fileOf pool5 1 #[] #[] 1537 3 #[] #[])
  fields := #[]
  methods := #[]
  instanceTypes := #[]
  staticTypes := #[]
  resolved := Array.replicate 11 none
  statics := none }

def pool6 : Array CpInfo := pool [(1, .class_ 2), (0, u "java/lang/constant/ConstantDesc"), (0, .class_ 4), (0, u "java/lang/Object")] 32

/-- java/lang/constant/ConstantDesc -/
def k6 : Class := { plain "java/lang/constant/ConstantDesc" (some 0) with
  accessFlags := 1537
  interfaces := #[]
  cf := some (fileOf pool6 1 #[] #[] 1537 3 #[] #[])
  fields := #[]
  methods := #[]
  instanceTypes := #[]
  staticTypes := #[]
  resolved := Array.replicate 37 none
  statics := none }

def pool7 : Array CpInfo := pool [(1, .methodref 2 3), (0, .class_ 4), (0, .nameAndType 5 6), (0, u "java/lang/Object"), (0, u "<init>"), (0, u "()V"), (2, .fieldref 10 11), (0, .class_ 12), (0, .nameAndType 13 14), (0, u "java/lang/String"), (0, u "value"), (0, u "[B"), (0, .fieldref 10 16), (0, .nameAndType 17 18), (0, u "coder"), (0, u "B"), (2, u "hash"), (0, u "I"), (2, u "hashIsZero"), (0, u "Z"), (0, .methodref 10 28), (0, .nameAndType 5 29), (0, u "([CIILjava/lang/Void;)V"), (8, .fieldref 10 39), (0, .nameAndType 40 26), (0, u "COMPACT_STRINGS"), (1, .class_ 44), (1, u "java/lang/StringUTF16"), (0, u "compress"), (1, .methodref 42 48), (0, .nameAndType 49 50), (0, u "coderFromArrayLen"), (0, u "([BI)B"), (126, .methodref 42 178), (0, .nameAndType 45 179), (0, u "([CII)[B"), (395, .class_ 576), (0, u "java/lang/CharSequence"), (22, u "CASE_INSENSITIVE_ORDER"), (0, u "Ljava/util/Comparator;"), (409, u "([C)V"), (90, u "serialPersistentFields"), (0, u "[Ljava/io/ObjectStreamField;"), (0, .class_ 1104), (0, u "java/lang/String$CaseInsensitiveComparator"), (1, .class_ 1107), (0, u "java/io/Serializable"), (0, .class_ 1109), (0, u "java/lang/Comparable"), (0, .class_ 1111), (0, u "java/lang/constant/Constable"), (0, .class_ 1113), (0, u "java/lang/constant/ConstantDesc"), (2, u "serialVersionUID"), (0, u "J"), (3, u "REPL"), (0, u "C"), (2, u "LATIN1"), (1, u "UTF16")] 323

def k7m0 : Method := { name := "<init>", desc := "()V", sig := { parameters := [], returnType := none }, accessFlags := 1, code := none }
def k7c1 : Code := { maxStack := 5, maxLocals := 2, code := jdk_42_method_3_code, exceptionTable := #[], attributes := #[] }
def k7m1 : Method := { name := "<init>", desc := "([C)V", sig := { parameters := [(.array .char)], returnType := none }, accessFlags := 1, code := some k7c1 }
def k7c2 : Code := { maxStack := 4, maxLocals := 6, code := jdk_42_method_149_code, exceptionTable := #[], attributes := #[] }
def k7m2 : Method := { name := "<init>", desc := "([CIILjava/lang/Void;)V", sig := { parameters := [(.array .char), .int, .int, (.object "java/lang/Void")], returnType := none }, accessFlags := 2, code := some k7c2 }
/-- java/lang/String -/
def k7 : Class := { plain "java/lang/String" (some 0) with
  accessFlags := 49
  interfaces := #[2, 3, 4, 5, 6]
  cf := some (fileOf pool7 10 #[.nestMembers #[1103]] #[{ accessFlags := 1, nameIndex := 5, descriptorIndex := 6, attributes := #[] }, { accessFlags := 1, nameIndex := 5, descriptorIndex := 1010, attributes := #[] }, { accessFlags := 2, nameIndex := 5, descriptorIndex := 29, attributes := #[] }] 49 2 #[1106, 1108, 575, 1110, 1112] #[{ accessFlags := 18, nameIndex := 13, descriptorIndex := 14, attributes := #[] }, { accessFlags := 18, nameIndex := 17, descriptorIndex := 18, attributes := #[] }, { accessFlags := 2, nameIndex := 21, descriptorIndex := 22, attributes := #[] }, { accessFlags := 2, nameIndex := 25, descriptorIndex := 26, attributes := #[] }, { accessFlags := 26, nameIndex := 1116, descriptorIndex := 1117, attributes := #[] }, { accessFlags := 24, nameIndex := 40, descriptorIndex := 26, attributes := #[] }, { accessFlags := 26, nameIndex := 1101, descriptorIndex := 1102, attributes := #[] }, { accessFlags := 26, nameIndex := 1121, descriptorIndex := 1122, attributes := #[] }, { accessFlags := 25, nameIndex := 599, descriptorIndex := 600, attributes := #[] }, { accessFlags := 24, nameIndex := 1125, descriptorIndex := 18, attributes := #[] }, { accessFlags := 24, nameIndex := 1127, descriptorIndex := 18, attributes := #[] }])
  fields := #[{ name := "value", type := (.array .byte), accessFlags := 18, slot := 0, constantValue := 0 }, { name := "coder", type := .byte, accessFlags := 18, slot := 1, constantValue := 0 }, { name := "hash", type := .int, accessFlags := 2, slot := 2, constantValue := 0 }, { name := "hashIsZero", type := .boolean, accessFlags := 2, slot := 3, constantValue := 0 }, { name := "serialVersionUID", type := .long, accessFlags := 26, slot := 0, constantValue := 0 }, { name := "COMPACT_STRINGS", type := .boolean, accessFlags := 24, slot := 1, constantValue := 0 }, { name := "serialPersistentFields", type := (.array (.object "java/io/ObjectStreamField")), accessFlags := 26, slot := 2, constantValue := 0 }, { name := "REPL", type := .char, accessFlags := 26, slot := 3, constantValue := 0 }, { name := "CASE_INSENSITIVE_ORDER", type := (.object "java/util/Comparator"), accessFlags := 25, slot := 4, constantValue := 0 }, { name := "LATIN1", type := .byte, accessFlags := 24, slot := 5, constantValue := 0 }, { name := "UTF16", type := .byte, accessFlags := 24, slot := 6, constantValue := 0 }]
  methods := #[k7m0, k7m1, k7m2]
  instanceTypes := #[(.array .byte), .byte, .int, .boolean]
  staticTypes := #[.long, .boolean, (.array (.object "java/io/ObjectStreamField")), .char, (.object "java/util/Comparator"), .byte, .byte]
  resolved := Array.replicate 1451 none
  statics := some 0 }

def pool8 : Array CpInfo := pool [(6, .class_ 8), (1, u "java/lang/Object"), (0, u "<init>"), (0, u "()V"), (1, .class_ 14), (1, u "java/lang/StringUTF16"), (31, u "$assertionsDisabled"), (0, u "Z"), (13, u "HI_BYTE_SHIFT"), (0, u "I"), (2, u "LO_BYTE_SHIFT"), (49, .methodref 12 116), (0, .nameAndType 117 118), (0, u "compress"), (0, u "([CI[BII)I"), (3, u "([CII)[B"), (138, u "coderFromArrayLen"), (0, u "([BI)B"), (106, .class_ 371), (1, u "java/lang/StringUTF16$LinesSpliterator"), (58, u "MAX_LENGTH"), (196, .class_ 628), (0, u "java/lang/StringUTF16$CodePointsSpliterator"), (0, .class_ 630), (0, u "java/lang/StringUTF16$CharsSpliterator")] 4

def k8m0 : Method := { name := "<init>", desc := "()V", sig := { parameters := [], returnType := none }, accessFlags := 0, code := none }
def k8c1 : Code := { maxStack := 2, maxLocals := 2, code := jdk_52_method_15_code, exceptionTable := #[], attributes := #[] }
def k8m1 : Method := { name := "coderFromArrayLen", desc := "([BI)B", sig := { parameters := [(.array .byte), .int], returnType := some .byte }, accessFlags := 8, code := some k8c1 }
def k8c2 : Code := { maxStack := 5, maxLocals := 6, code := jdk_52_method_16_code, exceptionTable := #[], attributes := #[] }
def k8m2 : Method := { name := "compress", desc := "([CII)[B", sig := { parameters := [(.array .char), .int, .int], returnType := some (.array .byte) }, accessFlags := 9, code := some k8c2 }
def k8c3 : Code := { maxStack := 3, maxLocals := 7, code := jdk_52_method_21_code, exceptionTable := #[], attributes := #[] }
def k8m3 : Method := { name := "compress", desc := "([CI[BII)I", sig := { parameters := [(.array .char), .int, (.array .byte), .int, .int], returnType := some .int }, accessFlags := 9, code := some k8c3 }
/-- java/lang/StringUTF16 -/
def k8 : Class := { plain "java/lang/StringUTF16" (some 0) with
  accessFlags := 48
  interfaces := #[]
  cf := some (fileOf pool8 12 #[.nestMembers #[627, 629, 369]] #[{ accessFlags := 0, nameIndex := 9, descriptorIndex := 10, attributes := #[] }, { accessFlags := 8, nameIndex := 261, descriptorIndex := 262, attributes := #[] }, { accessFlags := 9, nameIndex := 117, descriptorIndex := 122, attributes := #[] }, { accessFlags := 9, nameIndex := 117, descriptorIndex := 118, attributes := #[] }] 48 6 #[] #[{ accessFlags := 26, nameIndex := 61, descriptorIndex := 62, attributes := #[] }, { accessFlags := 26, nameIndex := 65, descriptorIndex := 62, attributes := #[] }, { accessFlags := 24, nameIndex := 430, descriptorIndex := 62, attributes := #[] }, { accessFlags := 4120, nameIndex := 46, descriptorIndex := 47, attributes := #[] }])
  fields := #[{ name := "HI_BYTE_SHIFT", type := .int, accessFlags := 26, slot := 0, constantValue := 0 }, { name := "LO_BYTE_SHIFT", type := .int, accessFlags := 26, slot := 1, constantValue := 0 }, { name := "MAX_LENGTH", type := .int, accessFlags := 24, slot := 2, constantValue := 0 }, { name := "$assertionsDisabled", type := .boolean, accessFlags := 4120, slot := 3, constantValue := 0 }]
  methods := #[k8m0, k8m1, k8m2, k8m3]
  instanceTypes := #[]
  staticTypes := #[.int, .int, .int, .boolean]
  resolved := Array.replicate 635 none
  statics := none }

def pool9 : Array CpInfo := pool [(1, .methodref 2 3), (0, .class_ 4), (0, .nameAndType 5 6), (0, u "java/lang/Object"), (0, u "<init>"), (0, u "()V"), (0, .fieldref 8 9), (0, .class_ 10), (0, .nameAndType 11 12), (0, u "com/example/infoset/infoset/document/SizeBound"), (0, u "size"), (0, u "J"), (2, .long 2147483647), (1, .methodref 18 19), (0, .class_ 20), (0, .nameAndType 21 22), (0, u "java/lang/Math"), (0, u "min"), (0, u "(JJ)J"), (0, .fieldref 8 24), (0, .nameAndType 25 12), (0, u "limit"), (0, .fieldref 8 27), (0, .nameAndType 28 29), (0, u "unit"), (0, u "Ljava/lang/String;"), (0, .long 1000000), (1, .methodref 8 33), (0, .nameAndType 5 34), (0, u "(JJJLjava/lang/String;)V"), (34, u "TIMES"), (1, u "TIMES_PER_BYTE"), (2, u "CHARACTERS"), (0, u "CHARACTERS_PER_BYTE"), (2, u "times"), (0, u "(JLjava/lang/String;)Lcom/example/infoset/infoset/document/SizeBound;"), (1, u "()J")] 19

def k9c0 : Code := { maxStack := 9, maxLocals := 8, code := prog_21_method_1_code, exceptionTable := #[], attributes := #[] }
def k9m0 : Method := { name := "<init>", desc := "(JJJLjava/lang/String;)V", sig := { parameters := [.long, .long, .long, (.object "java/lang/String")], returnType := none }, accessFlags := 2, code := some k9c0 }
def k9c1 : Code := { maxStack := 9, maxLocals := 3, code := prog_21_method_2_code, exceptionTable := #[], attributes := #[] }
def k9m1 : Method := { name := "times", desc := "(JLjava/lang/String;)Lcom/example/infoset/infoset/document/SizeBound;", sig := { parameters := [.long, (.object "java/lang/String")], returnType := some (.object "com/example/infoset/infoset/document/SizeBound") }, accessFlags := 8, code := some k9c1 }
def k9c2 : Code := { maxStack := 2, maxLocals := 1, code := prog_21_method_4_code, exceptionTable := #[], attributes := #[] }
def k9m2 : Method := { name := "limit", desc := "()J", sig := { parameters := [], returnType := some .long }, accessFlags := 0, code := some k9c2 }
/-- com/example/infoset/infoset/document/SizeBound -/
def k9 : Class := { plain "com/example/infoset/infoset/document/SizeBound" (some 0) with
  accessFlags := 32
  interfaces := #[]
  cf := some (fileOf pool9 8 #[] #[{ accessFlags := 2, nameIndex := 5, descriptorIndex := 34, attributes := #[] }, { accessFlags := 8, nameIndex := 78, descriptorIndex := 79, attributes := #[] }, { accessFlags := 0, nameIndex := 25, descriptorIndex := 81, attributes := #[] }] 32 2 #[] #[{ accessFlags := 26, nameIndex := 69, descriptorIndex := 12, attributes := #[] }, { accessFlags := 26, nameIndex := 71, descriptorIndex := 12, attributes := #[] }, { accessFlags := 26, nameIndex := 74, descriptorIndex := 12, attributes := #[] }, { accessFlags := 26, nameIndex := 75, descriptorIndex := 12, attributes := #[] }, { accessFlags := 18, nameIndex := 11, descriptorIndex := 12, attributes := #[] }, { accessFlags := 18, nameIndex := 25, descriptorIndex := 12, attributes := #[] }, { accessFlags := 18, nameIndex := 28, descriptorIndex := 29, attributes := #[] }])
  fields := #[{ name := "TIMES", type := .long, accessFlags := 26, slot := 0, constantValue := 0 }, { name := "TIMES_PER_BYTE", type := .long, accessFlags := 26, slot := 1, constantValue := 0 }, { name := "CHARACTERS", type := .long, accessFlags := 26, slot := 2, constantValue := 0 }, { name := "CHARACTERS_PER_BYTE", type := .long, accessFlags := 26, slot := 3, constantValue := 0 }, { name := "size", type := .long, accessFlags := 18, slot := 0, constantValue := 0 }, { name := "limit", type := .long, accessFlags := 18, slot := 1, constantValue := 0 }, { name := "unit", type := (.object "java/lang/String"), accessFlags := 18, slot := 2, constantValue := 0 }]
  methods := #[k9m0, k9m1, k9m2]
  instanceTypes := #[.long, .long, (.object "java/lang/String")]
  staticTypes := #[.long, .long, .long, .long]
  resolved := Array.replicate 101 none
  statics := none }

def pool10 : Array CpInfo := pool [(1, .class_ 2), (0, u "java/lang/Math"), (1, .class_ 6), (1, u "java/lang/Object"), (0, u "<init>"), (0, u "()V"), (89, .class_ 100), (1, u "java/lang/Math$RandomNumberGeneratorHolder"), (20, u "(JJ)J"), (50, u "negativeZeroFloatBits"), (0, u "J"), (2, u "negativeZeroDoubleBits"), (24, u "min"), (43, u "$assertionsDisabled"), (0, u "Z"), (91, u "twoToTheDoubleScaleDown"), (0, u "D"), (4, u "twoToTheDoubleScaleUp"), (9, u "E"), (3, u "PI"), (2, u "TAU"), (2, u "DEGREES_TO_RADIANS"), (0, u "RADIANS_TO_DEGREES")] 94

def k10m0 : Method := { name := "<init>", desc := "()V", sig := { parameters := [], returnType := none }, accessFlags := 2, code := none }
def k10c1 : Code := { maxStack := 4, maxLocals := 4, code := jdk_29_method_70_code, exceptionTable := #[], attributes := #[] }
def k10m1 : Method := { name := "min", desc := "(JJ)J", sig := { parameters := [.long, .long], returnType := some .long }, accessFlags := 9, code := some k10c1 }
/-- java/lang/Math -/
def k10 : Class := { plain "java/lang/Math" (some 0) with
  accessFlags := 49
  interfaces := #[]
  cf := some (fileOf pool10 1 #[.nestMembers #[98]] #[{ accessFlags := 2, nameIndex := 7, descriptorIndex := 8, attributes := #[] }, { accessFlags := 9, nameIndex := 201, descriptorIndex := 121, attributes := #[] }] 49 4 #[] #[{ accessFlags := 25, nameIndex := 354, descriptorIndex := 339, attributes := #[] }, { accessFlags := 25, nameIndex := 358, descriptorIndex := 339, attributes := #[] }, { accessFlags := 25, nameIndex := 361, descriptorIndex := 339, attributes := #[] }, { accessFlags := 26, nameIndex := 364, descriptorIndex := 339, attributes := #[] }, { accessFlags := 26, nameIndex := 365, descriptorIndex := 339, attributes := #[] }, { accessFlags := 26, nameIndex := 172, descriptorIndex := 173, attributes := #[] }, { accessFlags := 26, nameIndex := 176, descriptorIndex := 173, attributes := #[] }, { accessFlags := 8, nameIndex := 344, descriptorIndex := 339, attributes := #[] }, { accessFlags := 8, nameIndex := 338, descriptorIndex := 339, attributes := #[] }, { accessFlags := 4120, nameIndex := 245, descriptorIndex := 246, attributes := #[] }])
  fields := #[{ name := "E", type := .double, accessFlags := 25, slot := 0, constantValue := 0 }, { name := "PI", type := .double, accessFlags := 25, slot := 1, constantValue := 0 }, { name := "TAU", type := .double, accessFlags := 25, slot := 2, constantValue := 0 }, { name := "DEGREES_TO_RADIANS", type := .double, accessFlags := 26, slot := 3, constantValue := 0 }, { name := "RADIANS_TO_DEGREES", type := .double, accessFlags := 26, slot := 4, constantValue := 0 }, { name := "negativeZeroFloatBits", type := .long, accessFlags := 26, slot := 5, constantValue := 0 }, { name := "negativeZeroDoubleBits", type := .long, accessFlags := 26, slot := 6, constantValue := 0 }, { name := "twoToTheDoubleScaleUp", type := .double, accessFlags := 8, slot := 7, constantValue := 0 }, { name := "twoToTheDoubleScaleDown", type := .double, accessFlags := 8, slot := 8, constantValue := 0 }, { name := "$assertionsDisabled", type := .boolean, accessFlags := 4120, slot := 9, constantValue := 0 }]
  methods := #[k10m0, k10m1]
  instanceTypes := #[]
  staticTypes := #[.double, .double, .double, .double, .double, .long, .long, .double, .double, .boolean]
  resolved := Array.replicate 460 none
  statics := none }

def pool11 : Array CpInfo := pool [(4, .class_ 6), (1, u "java/lang/Object"), (0, u "<init>"), (0, u "()V"), (5, .class_ 16), (1, u "java/lang/StringLatin1"), (104, u "$assertionsDisabled"), (0, u "Z"), (98, .class_ 223), (1, u "java/lang/StringLatin1$LinesSpliterator"), (166, .class_ 391), (0, u "java/lang/StringLatin1$CharsSpliterator")] 3

def k11m0 : Method := { name := "<init>", desc := "()V", sig := { parameters := [], returnType := none }, accessFlags := 0, code := none }
/-- java/lang/StringLatin1 -/
def k11 : Class := { plain "java/lang/StringLatin1" (some 0) with
  accessFlags := 48
  interfaces := #[]
  cf := some (fileOf pool11 14 #[.nestMembers #[390, 221]] #[{ accessFlags := 0, nameIndex := 7, descriptorIndex := 8, attributes := #[] }] 48 4 #[] #[{ accessFlags := 4120, nameIndex := 121, descriptorIndex := 122, attributes := #[] }])
  fields := #[{ name := "$assertionsDisabled", type := .boolean, accessFlags := 4120, slot := 0, constantValue := 0 }]
  methods := #[k11m0]
  instanceTypes := #[]
  staticTypes := #[.boolean]
  resolved := Array.replicate 395 none
  statics := none }

def pool12 : Array CpInfo := pool [(2, .class_ 4), (1, u "java/lang/Object"), (0, u "<init>"), (0, u "()V"), (17, .class_ 26), (1, u "jdk/internal/util/Preconditions"), (28, .class_ 56), (0, u "jdk/internal/util/Preconditions$4"), (57, .class_ 115), (0, u "jdk/internal/util/Preconditions$1"), (7, u "SIOOBE_FORMATTER"), (0, u "Ljava/util/function/BiFunction;"), (0, .class_ 126), (0, u "jdk/internal/util/Preconditions$2"), (3, u "AIOOBE_FORMATTER"), (0, .class_ 132), (0, u "jdk/internal/util/Preconditions$3"), (3, u "IOOBE_FORMATTER")] 57

def k12m0 : Method := { name := "<init>", desc := "()V", sig := { parameters := [], returnType := none }, accessFlags := 1, code := none }
/-- jdk/internal/util/Preconditions -/
def k12 : Class := { plain "jdk/internal/util/Preconditions" (some 0) with
  accessFlags := 33
  interfaces := #[]
  cf := some (fileOf pool12 24 #[.nestMembers #[55, 131, 125, 114]] #[{ accessFlags := 1, nameIndex := 5, descriptorIndex := 6, attributes := #[] }] 33 2 #[] #[{ accessFlags := 25, nameIndex := 123, descriptorIndex := 124, attributes := #[] }, { accessFlags := 25, nameIndex := 130, descriptorIndex := 124, attributes := #[] }, { accessFlags := 25, nameIndex := 136, descriptorIndex := 124, attributes := #[] }])
  fields := #[{ name := "SIOOBE_FORMATTER", type := (.object "java/util/function/BiFunction"), accessFlags := 25, slot := 0, constantValue := 0 }, { name := "AIOOBE_FORMATTER", type := (.object "java/util/function/BiFunction"), accessFlags := 25, slot := 1, constantValue := 0 }, { name := "IOOBE_FORMATTER", type := (.object "java/util/function/BiFunction"), accessFlags := 25, slot := 2, constantValue := 0 }]
  methods := #[k12m0]
  instanceTypes := #[]
  staticTypes := #[(.object "java/util/function/BiFunction"), (.object "java/util/function/BiFunction"), (.object "java/util/function/BiFunction")]
  resolved := Array.replicate 194 none
  statics := some 1 }

def pool13 : Array CpInfo := pool [(9, u "<init>"), (6, .class_ 18), (1, u "java/lang/Object"), (0, u "()V"), (1, .class_ 23), (1, u "jdk/internal/util/ArraysSupport"), (0, u "LOG2_ARRAY_LONG_INDEX_SCALE"), (0, u "I"), (2, u "U"), (0, u "Ljdk/internal/misc/Unsafe;"), (8, u "BIG_ENDIAN"), (0, u "Z"), (8, u "LOG2_BYTE_BIT_SIZE"), (4, u "LOG2_ARRAY_INT_INDEX_SCALE"), (54, u "JLA"), (0, u "Ljdk/internal/access/JavaLangAccess;"), (11, u "LOG2_ARRAY_BOOLEAN_INDEX_SCALE"), (9, u "LOG2_ARRAY_BYTE_INDEX_SCALE"), (5, u "LOG2_ARRAY_CHAR_INDEX_SCALE"), (5, u "LOG2_ARRAY_SHORT_INDEX_SCALE"), (18, u "LOG2_ARRAY_FLOAT_INDEX_SCALE"), (24, u "LOG2_ARRAY_DOUBLE_INDEX_SCALE"), (89, u "T_BOOLEAN"), (2, u "T_CHAR"), (1, u "T_FLOAT"), (1, u "T_DOUBLE"), (1, u "T_BYTE"), (1, u "T_SHORT"), (1, u "T_INT"), (1, u "T_LONG"), (1, u "SOFT_MAX_ARRAY_LENGTH")] 83

def k13m0 : Method := { name := "<init>", desc := "()V", sig := { parameters := [], returnType := none }, accessFlags := 2, code := none }
/-- jdk/internal/util/ArraysSupport -/
def k13 : Class := { plain "jdk/internal/util/ArraysSupport" (some 0) with
  accessFlags := 33
  interfaces := #[]
  cf := some (fileOf pool13 21 #[] #[{ accessFlags := 2, nameIndex := 9, descriptorIndex := 19, attributes := #[] }] 33 16 #[] #[{ accessFlags := 24, nameIndex := 28, descriptorIndex := 29, attributes := #[] }, { accessFlags := 26, nameIndex := 38, descriptorIndex := 39, attributes := #[] }, { accessFlags := 25, nameIndex := 121, descriptorIndex := 25, attributes := #[] }, { accessFlags := 25, nameIndex := 131, descriptorIndex := 25, attributes := #[] }, { accessFlags := 25, nameIndex := 137, descriptorIndex := 25, attributes := #[] }, { accessFlags := 25, nameIndex := 143, descriptorIndex := 25, attributes := #[] }, { accessFlags := 25, nameIndex := 53, descriptorIndex := 25, attributes := #[] }, { accessFlags := 25, nameIndex := 24, descriptorIndex := 25, attributes := #[] }, { accessFlags := 25, nameIndex := 162, descriptorIndex := 25, attributes := #[] }, { accessFlags := 25, nameIndex := 187, descriptorIndex := 25, attributes := #[] }, { accessFlags := 26, nameIndex := 48, descriptorIndex := 25, attributes := #[] }, { accessFlags := 25, nameIndex := 277, descriptorIndex := 25, attributes := #[] }, { accessFlags := 25, nameIndex := 280, descriptorIndex := 25, attributes := #[] }, { accessFlags := 25, nameIndex := 282, descriptorIndex := 25, attributes := #[] }, { accessFlags := 25, nameIndex := 284, descriptorIndex := 25, attributes := #[] }, { accessFlags := 25, nameIndex := 286, descriptorIndex := 25, attributes := #[] }, { accessFlags := 25, nameIndex := 288, descriptorIndex := 25, attributes := #[] }, { accessFlags := 25, nameIndex := 290, descriptorIndex := 25, attributes := #[] }, { accessFlags := 25, nameIndex := 292, descriptorIndex := 25, attributes := #[] }, { accessFlags := 26, nameIndex := 108, descriptorIndex := 109, attributes := #[] }, { accessFlags := 25, nameIndex := 294, descriptorIndex := 25, attributes := #[] }])
  fields := #[{ name := "U", type := (.object "jdk/internal/misc/Unsafe"), accessFlags := 24, slot := 0, constantValue := 0 }, { name := "BIG_ENDIAN", type := .boolean, accessFlags := 26, slot := 1, constantValue := 0 }, { name := "LOG2_ARRAY_BOOLEAN_INDEX_SCALE", type := .int, accessFlags := 25, slot := 2, constantValue := 0 }, { name := "LOG2_ARRAY_BYTE_INDEX_SCALE", type := .int, accessFlags := 25, slot := 3, constantValue := 0 }, { name := "LOG2_ARRAY_CHAR_INDEX_SCALE", type := .int, accessFlags := 25, slot := 4, constantValue := 0 }, { name := "LOG2_ARRAY_SHORT_INDEX_SCALE", type := .int, accessFlags := 25, slot := 5, constantValue := 0 }, { name := "LOG2_ARRAY_INT_INDEX_SCALE", type := .int, accessFlags := 25, slot := 6, constantValue := 0 }, { name := "LOG2_ARRAY_LONG_INDEX_SCALE", type := .int, accessFlags := 25, slot := 7, constantValue := 0 }, { name := "LOG2_ARRAY_FLOAT_INDEX_SCALE", type := .int, accessFlags := 25, slot := 8, constantValue := 0 }, { name := "LOG2_ARRAY_DOUBLE_INDEX_SCALE", type := .int, accessFlags := 25, slot := 9, constantValue := 0 }, { name := "LOG2_BYTE_BIT_SIZE", type := .int, accessFlags := 26, slot := 10, constantValue := 0 }, { name := "T_BOOLEAN", type := .int, accessFlags := 25, slot := 11, constantValue := 0 }, { name := "T_CHAR", type := .int, accessFlags := 25, slot := 12, constantValue := 0 }, { name := "T_FLOAT", type := .int, accessFlags := 25, slot := 13, constantValue := 0 }, { name := "T_DOUBLE", type := .int, accessFlags := 25, slot := 14, constantValue := 0 }, { name := "T_BYTE", type := .int, accessFlags := 25, slot := 15, constantValue := 0 }, { name := "T_SHORT", type := .int, accessFlags := 25, slot := 16, constantValue := 0 }, { name := "T_INT", type := .int, accessFlags := 25, slot := 17, constantValue := 0 }, { name := "T_LONG", type := .int, accessFlags := 25, slot := 18, constantValue := 0 }, { name := "JLA", type := (.object "jdk/internal/access/JavaLangAccess"), accessFlags := 26, slot := 19, constantValue := 0 }, { name := "SOFT_MAX_ARRAY_LENGTH", type := .int, accessFlags := 25, slot := 20, constantValue := 0 }]
  methods := #[k13m0]
  instanceTypes := #[]
  staticTypes := #[(.object "jdk/internal/misc/Unsafe"), .boolean, .int, .int, .int, .int, .int, .int, .int, .int, .int, .int, .int, .int, .int, .int, .int, .int, .int, (.object "jdk/internal/access/JavaLangAccess"), .int]
  resolved := Array.replicate 378 none
  statics := none }

def pool14 : Array CpInfo := pool [(1, u "java/lang/Cloneable"), (0, .class_ 1), (0, u "java/lang/Object"), (0, .class_ 3)] 3

/-- java/lang/Cloneable -/
def k14 : Class := { plain "java/lang/Cloneable" (some 0) with
  accessFlags := 1537
  interfaces := #[]
  cf := some (fileOf pool14 2 #[] #[] 1537 4 #[] #[])
  fields := #[]
  methods := #[]
  instanceTypes := #[]
  staticTypes := #[]
  resolved := Array.replicate 8 none
  statics := none }

/-- the primitive byte -/
def k15 : Class := { plain "byte" none with kind := .primitive 'B', accessFlags := 0x411 }
/-- [B -/
def k16 : Class := { plain "[B" (some 0) with kind := .array 15 .byte, interfaces := #[14, 2], accessFlags := 1041 }

/-- the primitive char -/
def k17 : Class := { plain "char" none with kind := .primitive 'C', accessFlags := 0x411 }
/-- [C -/
def k18 : Class := { plain "[C" (some 0) with kind := .array 17 .char, interfaces := #[14, 2], accessFlags := 1041 }

/-- the primitive int -/
def k19 : Class := { plain "int" none with kind := .primitive 'I', accessFlags := 0x411 }
/-- [I -/
def k20 : Class := { plain "[I" (some 0) with kind := .array 19 .int, interfaces := #[14, 2], accessFlags := 1041 }

def heap : Heap := #[{ cls := 7, slots := #[.long 0, .int 1, .null, .int 0, .null, .int 0, .int 0], vm := .statics 7 },
  { cls := 12, slots := #[.null, .null, .null], vm := .statics 12 }]
def classes : Array Class := #[k0, k1, k2, k3, k4, k5, k6, k7, k8, k9, k10, k11, k12, k13, k14, k15, k16, k17, k18, k19, k20]
def interned : List (Array UInt16 × Addr) := []
def slotsUsed : Nat := 10
def theMethod : MethodId := ⟨1, 1⟩
def args0 : Array Value := #[.long 5, .int 6]
def aboutOver (below : List Frame) : State where
  vm := { classes := classes, interned := interned.toArray }
  heap := heap
  slotsUsed := slotsUsed
  threads := #[{ frames := .invoking theMethod args0 :: below }]
def below0 : List Frame := [.native { method := ⟨0, 0⟩, args := #[] }]
def about1 : State := aboutOver below0
def p0 : Program := .bare "" "" ""
def e0 : Env := launch0.env 0 0 0
theorem w_frames : about1.frames = Frame.invoking theMethod args0 :: below0 := rfl
set_option maxRecDepth 65536 in
theorem w_args : argsFit about1.vm theMethod args0 = true := by decide +kernel
set_option maxRecDepth 65536 in
theorem w_heap : heapFits about1 = true := by decide +kernel
set_option maxRecDepth 65536 in
theorem w_runnable : about1.curStatus? = some .runnable := by decide +kernel
set_option maxRecDepth 65536 in
theorem w_alone : about1.alone = true := by decide +kernel
set_option maxRecDepth 65536 in
theorem w_named : about1.methodNamed? x = some theMethod := by decide +kernel
set_option maxRecDepth 65536 in
theorem w_hears : about1.hears theMethod below0 = true := by decide +kernel
set_option maxRecDepth 65536 in
theorem w_ripe : about1.ripe theMethod args0 below0 = true := by decide +kernel
theorem w_running : about1.status = .running := rfl
set_option maxRecDepth 65536 in
theorem w_room : about1.hasRoom e0.platform room_1 = true :=
  launch0.hasRoom_least _ room_1 (by decide +kernel) (by decide +kernel) (by decide +kernel) (by decide +kernel) (by decide +kernel) (by decide +kernel)
theorem allAtoms_all (ts : List Jvm.Cond) (a : Array Jvm.Value) (st : Jvm.State) : (allAtoms ts).before a st = ts.all (fun c => c.before a st) := by
  induction ts with
  | nil => rfl
  | cons c t ih =>
    show (Jvm.Cond.and c (allAtoms t)).before a st = _
    rw [Jvm.Cond.before_and, ih, List.all_cons]
def words1 : List Jvm.Cond := Jvm.Cond.code x code maxLocals ret :: tables_1
/-- a 'code' word, met by the world's own term for the bytes: nothing is compared byte by byte -/
theorem code_word {y : MethodName} {bytes : ByteArray} {mx : Nat} {rt : Option FieldType} {a : Array Value} {s : State} {m : MethodId} {meth : Method} {c : Code} (h1 : s.methodNamed? y = some m) (h2 : s.vm.method? m = some meth) (h3 : meth.code = some c) (h4 : c.code = bytes)
    (h5 : (c.maxLocals == mx && c.exceptionTable.isEmpty && decide (c.maxStack ≤ mostOperands) && decide (meth.sig.returnType = rt) && !meth.locks && decide (parseMethodDescriptor y.desc = some meth.sig)) = true) : (Jvm.Cond.code y bytes mx rt).before a s = true := by
  simp only [Bool.and_eq_true, beq_iff_eq, Bool.not_eq_true', decide_eq_true_eq] at h5
  obtain ⟨⟨⟨⟨⟨g1, g2⟩, g3⟩, g4⟩, g5⟩, g6⟩ := h5
  simp [Cond.before, Cond.holds, Cond.value, h1, h2, h3, h4, g1, g2, g3, g4, g5, g6]
def isCode : Jvm.Cond → Bool
  | .code _ _ _ _ => true
  | _ => false
theorem all_split {L : List Jvm.Cond} {P : Jvm.Cond → Bool} (h1 : L.all (fun c => isCode c || P c) = true) (h2 : ∀ c ∈ L.filter isCode, P c = true) : L.all P = true := by
  refine List.all_eq_true.mpr fun c hc => ?_
  have h := List.all_eq_true.mp h1 c hc
  rcases Bool.eq_false_or_eq_true (isCode c) with hi | hi
  · exact h2 c (List.mem_filter.mpr ⟨hc, hi⟩)
  · simpa [hi] using h
set_option maxRecDepth 65536 in
theorem w_c0 : (Jvm.Cond.code x code maxLocals ret).before args0 about1 = true := code_word (m := ⟨1, 1⟩) (meth := k1m1) (c := k1c1) (by decide +kernel) rfl rfl rfl (by decide +kernel)
set_option maxRecDepth 65536 in
theorem w_c1 : (Jvm.Cond.code ({ cls := "java/lang/String", name := "<init>", desc := "([C)V" } : Jvm.MethodName) jdk_42_method_3_code (2 : Nat) (Option.none : Option Jvm.ClassFile.FieldType)).before args0 about1 = true := code_word (m := ⟨7, 1⟩) (meth := k7m1) (c := k7c1) (by decide +kernel) rfl rfl rfl (by decide +kernel)
set_option maxRecDepth 65536 in
theorem w_c2 : (Jvm.Cond.code ({ cls := "java/lang/String", name := "<init>", desc := "([CIILjava/lang/Void;)V" } : Jvm.MethodName) jdk_42_method_149_code (6 : Nat) (Option.none : Option Jvm.ClassFile.FieldType)).before args0 about1 = true := code_word (m := ⟨7, 2⟩) (meth := k7m2) (c := k7c2) (by decide +kernel) rfl rfl rfl (by decide +kernel)
set_option maxRecDepth 65536 in
theorem w_c3 : (Jvm.Cond.code ({ cls := "java/lang/Object", name := "<init>", desc := "()V" } : Jvm.MethodName) object_method_1_code (1 : Nat) (Option.none : Option Jvm.ClassFile.FieldType)).before args0 about1 = true := code_word (m := ⟨0, 0⟩) (meth := k0m0) (c := k0c0) (by decide +kernel) rfl rfl rfl (by decide +kernel)
set_option maxRecDepth 65536 in
theorem w_c4 : (Jvm.Cond.code ({ cls := "java/lang/StringUTF16", name := "compress", desc := "([CII)[B" } : Jvm.MethodName) jdk_52_method_16_code (6 : Nat) (Option.some (Jvm.ClassFile.FieldType.array Jvm.ClassFile.FieldType.byte))).before args0 about1 = true := code_word (m := ⟨8, 2⟩) (meth := k8m2) (c := k8c2) (by decide +kernel) rfl rfl rfl (by decide +kernel)
set_option maxRecDepth 65536 in
theorem w_c5 : (Jvm.Cond.code ({ cls := "java/lang/StringUTF16", name := "compress", desc := "([CI[BII)I" } : Jvm.MethodName) jdk_52_method_21_code (7 : Nat) (Option.some Jvm.ClassFile.FieldType.int)).before args0 about1 = true := code_word (m := ⟨8, 3⟩) (meth := k8m3) (c := k8c3) (by decide +kernel) rfl rfl rfl (by decide +kernel)
set_option maxRecDepth 65536 in
theorem w_c6 : (Jvm.Cond.code ({ cls := "java/lang/StringUTF16", name := "coderFromArrayLen", desc := "([BI)B" } : Jvm.MethodName) jdk_52_method_15_code (2 : Nat) (Option.some Jvm.ClassFile.FieldType.byte)).before args0 about1 = true := code_word (m := ⟨8, 1⟩) (meth := k8m1) (c := k8c1) (by decide +kernel) rfl rfl rfl (by decide +kernel)
set_option maxRecDepth 65536 in
theorem w_c7 : (Jvm.Cond.code ({ cls := "com/example/infoset/infoset/document/SizeBound", name := "times", desc := "(JLjava/lang/String;)Lcom/example/infoset/infoset/document/SizeBound;" } : Jvm.MethodName) prog_21_method_2_code (3 : Nat) (Option.some (Jvm.ClassFile.FieldType.object "com/example/infoset/infoset/document/SizeBound"))).before args0 about1 = true := code_word (m := ⟨9, 1⟩) (meth := k9m1) (c := k9c1) (by decide +kernel) rfl rfl rfl (by decide +kernel)
set_option maxRecDepth 65536 in
theorem w_c8 : (Jvm.Cond.code ({ cls := "com/example/infoset/infoset/document/SizeBound", name := "<init>", desc := "(JJJLjava/lang/String;)V" } : Jvm.MethodName) prog_21_method_1_code (8 : Nat) (Option.none : Option Jvm.ClassFile.FieldType)).before args0 about1 = true := code_word (m := ⟨9, 0⟩) (meth := k9m0) (c := k9c0) (by decide +kernel) rfl rfl rfl (by decide +kernel)
set_option maxRecDepth 65536 in
theorem w_c9 : (Jvm.Cond.code ({ cls := "java/lang/Math", name := "min", desc := "(JJ)J" } : Jvm.MethodName) jdk_29_method_70_code (4 : Nat) (Option.some Jvm.ClassFile.FieldType.long)).before args0 about1 = true := code_word (m := ⟨10, 1⟩) (meth := k10m1) (c := k10c1) (by decide +kernel) rfl rfl rfl (by decide +kernel)
set_option maxRecDepth 65536 in
theorem w_c10 : (Jvm.Cond.code ({ cls := "com/example/infoset/infoset/document/SizeBound", name := "limit", desc := "()J" } : Jvm.MethodName) prog_21_method_4_code (1 : Nat) (Option.some Jvm.ClassFile.FieldType.long)).before args0 about1 = true := code_word (m := ⟨9, 2⟩) (meth := k9m2) (c := k9c2) (by decide +kernel) rfl rfl rfl (by decide +kernel)
def codes1 : List Jvm.Cond := [Jvm.Cond.code x code maxLocals ret, Jvm.Cond.code ({ cls := "java/lang/String", name := "<init>", desc := "([C)V" } : Jvm.MethodName) jdk_42_method_3_code (2 : Nat) (Option.none : Option Jvm.ClassFile.FieldType), Jvm.Cond.code ({ cls := "java/lang/String", name := "<init>", desc := "([CIILjava/lang/Void;)V" } : Jvm.MethodName) jdk_42_method_149_code (6 : Nat) (Option.none : Option Jvm.ClassFile.FieldType), Jvm.Cond.code ({ cls := "java/lang/Object", name := "<init>", desc := "()V" } : Jvm.MethodName) object_method_1_code (1 : Nat) (Option.none : Option Jvm.ClassFile.FieldType), Jvm.Cond.code ({ cls := "java/lang/StringUTF16", name := "compress", desc := "([CII)[B" } : Jvm.MethodName) jdk_52_method_16_code (6 : Nat) (Option.some (Jvm.ClassFile.FieldType.array Jvm.ClassFile.FieldType.byte)), Jvm.Cond.code ({ cls := "java/lang/StringUTF16", name := "compress", desc := "([CI[BII)I" } : Jvm.MethodName) jdk_52_method_21_code (7 : Nat) (Option.some Jvm.ClassFile.FieldType.int), Jvm.Cond.code ({ cls := "java/lang/StringUTF16", name := "coderFromArrayLen", desc := "([BI)B" } : Jvm.MethodName) jdk_52_method_15_code (2 : Nat) (Option.some Jvm.ClassFile.FieldType.byte), Jvm.Cond.code ({ cls := "com/example/infoset/infoset/document/SizeBound", name := "times", desc := "(JLjava/lang/String;)Lcom/example/infoset/infoset/document/SizeBound;" } : Jvm.MethodName) prog_21_method_2_code (3 : Nat) (Option.some (Jvm.ClassFile.FieldType.object "com/example/infoset/infoset/document/SizeBound")), Jvm.Cond.code ({ cls := "com/example/infoset/infoset/document/SizeBound", name := "<init>", desc := "(JJJLjava/lang/String;)V" } : Jvm.MethodName) prog_21_method_1_code (8 : Nat) (Option.none : Option Jvm.ClassFile.FieldType), Jvm.Cond.code ({ cls := "java/lang/Math", name := "min", desc := "(JJ)J" } : Jvm.MethodName) jdk_29_method_70_code (4 : Nat) (Option.some Jvm.ClassFile.FieldType.long), Jvm.Cond.code ({ cls := "com/example/infoset/infoset/document/SizeBound", name := "limit", desc := "()J" } : Jvm.MethodName) prog_21_method_4_code (1 : Nat) (Option.some Jvm.ClassFile.FieldType.long)]
set_option maxRecDepth 65536 in
theorem codes_eq : words1.filter isCode = codes1 := rfl
theorem w_codes : ∀ c ∈ words1.filter isCode, c.before args0 about1 = true := by
  rw [codes_eq]
  intro c hc
  simp only [codes1, List.mem_cons, List.not_mem_nil, or_false] at hc
  rcases hc with rfl | rfl | rfl | rfl | rfl | rfl | rfl | rfl | rfl | rfl | rfl
  · exact w_c0
  · exact w_c1
  · exact w_c2
  · exact w_c3
  · exact w_c4
  · exact w_c5
  · exact w_c6
  · exact w_c7
  · exact w_c8
  · exact w_c9
  · exact w_c10
set_option maxRecDepth 65536 in
theorem w_t1 : (words1.take 24).all (fun c => isCode c || c.before args0 about1) = true := by decide +kernel
set_option maxRecDepth 65536 in
theorem w_t2 : ((words1.drop 24).take 24).all (fun c => isCode c || c.before args0 about1) = true := by decide +kernel
set_option maxRecDepth 65536 in
theorem w_t3 : ((words1.drop 24).drop 24).all (fun c => isCode c || c.before args0 about1) = true := by decide +kernel
theorem w_tables : (allAtoms (Jvm.Cond.code x code maxLocals ret :: tables_1)).before args0 about1 = true := by
  rw [allAtoms_all]
  show words1.all (fun c => c.before args0 about1) = true
  refine all_split ?_ w_codes
  rw [← List.take_append_drop 24 words1, List.all_append, w_t1, ← List.take_append_drop 24 (words1.drop 24), List.all_append, w_t2, w_t3]
  rfl
set_option maxRecDepth 65536 in
theorem w_rest : rest_1_c.before args0 about1 = true := by decide +kernel
set_option maxRecDepth 65536 in
theorem w_case : (Jvm.Cond.and given_1 narrow_1).before args0 about1 = true := by decide +kernel
theorem w_applies : (headSpec (Jvm.Cond.code x code maxLocals ret :: tables_1) room_1).applies x e0.platform about1 = true :=
  (Spec.applies_iff w_frames).mpr ⟨w_running, w_runnable, w_alone, w_named, w_hears, w_ripe, w_room, w_tables⟩
theorem atStart : AtStart classFile x code maxLocals ret World_1 tables_1 room_1 Calls_1 rest_1 Pre_1 launch0 p0 e0 about1 theMethod args0 below0 :=
  ⟨lists_1, trivial, launch0.admits_env _ _ _, launch0.least_env, fairChoices_fair.cas, fairChoices_fair.clock, w_frames, w_args, w_heap, w_applies, trivial, w_rest, w_case⟩
end start1
theorem witness_1 : WitnessClaimed_1 := ⟨start1.p0, start1.e0, start1.about1, start1.theMethod, start1.args0, start1.below0, start1.atStart⟩
end Jvm.Pilot.@@N@@
