import JvmDerived
import JvmDerived.Pilot.@@N@@Statement
import JvmDerived.Pilot.@@N@@Code
set_option linter.unusedVariables false
set_option linter.unusedSimpArgs false
@@BLOCK:NumsL.lean.txt@@
namespace Jvm.Pilot.@@N@@
open Jvm Jvm.ClassFile Sem Op Lib Jvm.Free Jvm.Stand Jvm.LawKit Jvm.RoadKit Bundle Jvm.Pilot.@@N@@.Jvm.D
def Nq (a b : Addr) : Prop := a ≠ b
section Layer
variable {p : Program} {l : Launch} {e : Env} {R : Room} {s : State} {m : MethodId} {args : Array Value} {below : List Frame} {meth : Method} {c : Code} {T T' : State} {locs : List Loc} {cells slots : Nat} {Fe : Outcome → State → List Loc → Prop} {Q : Option Value → Heap → List Loc → Prop} {pc pc' : Nat} {Ls l' : Array Slot} {g g' : JFrame} {Z : State} {a0 : Array Value}
/-- from the frame g over T the run comes to a return of which Q and the frame's condition Fe hold -/
def Ok (p : Program) (e : Env) (below : List Frame) (Fe : Outcome → State → List Loc → Prop) (Q : Option Value → Heap → List Loc → Prop) (T : State) (g : JFrame) : Prop :=
  ∃ s₂ o, Steps p.tables e below (T.setTop g) s₂ ∧ s₂.status = .running ∧ Ended s₂ below o ∧ ∃ v L, o = .returned v ∧ Q v s₂.heap L ∧ Fe o s₂ L
def NE (s : State) (nc ns : Nat) (o : Outcome) (t : State) (L : List Loc) : Prop := FrameEnd s o t L nc ns
def WE (s : State) (nc ns : Nat) (o : Outcome) (t : State) (L : List Loc) : Prop := ReturnedEndW s o t L nc ns
theorem Ok.st (h : ∀ t, Steps p.tables e below (T'.setTop g') t → Steps p.tables e below (T.setTop g) t) (k : Ok p e below Fe Q T' g') : Ok p e below Fe Q T g := by
  obtain ⟨t, o, st, r⟩ := k
  exact ⟨t, o, h t st, r⟩
theorem Ok.tr (h : Steps p.tables e below (T.setTop g) (T'.setTop g')) (k : Ok p e below Fe Q T' g') : Ok p e below Fe Q T g := Ok.st (fun _ k' => h.trans k') k
theorem Ok.fr (h : g = g') (k : Ok p e below Fe Q T g') : Ok p e below Fe Q T g := h ▸ k
theorem Ok.iadd {x y : Int32} {rest : List Value} (X : Stand p l e R s m args below meth c T locs cells slots) (hx : p.tables.exec = Jvm.exec) (hd : decode c.code pc = .ok (.iadd, 1)) (hp : pc + 1 = pc')  (k : Ok p e below Fe Q T (mkF m pc' Ls (.int (x + y) :: rest))) : Ok p e below Fe Q T (mkF m pc Ls (.int y :: .int x :: rest)) := by
  subst hp
  exact Ok.st (fun t k => XS.iadd X.here hx rfl hd rfl k) k
theorem Ok.ladd {x y : Int64} {rest : List Value} (X : Stand p l e R s m args below meth c T locs cells slots) (hx : p.tables.exec = Jvm.exec) (hd : decode c.code pc = .ok (.ladd, 1)) (hp : pc + 1 = pc')  (k : Ok p e below Fe Q T (mkF m pc' Ls (.long (x + y) :: rest))) : Ok p e below Fe Q T (mkF m pc Ls (.long y :: .long x :: rest)) := by
  subst hp
  exact Ok.st (fun t k => XS.ladd X.here hx rfl hd rfl k) k
theorem Ok.isub {x y : Int32} {rest : List Value} (X : Stand p l e R s m args below meth c T locs cells slots) (hx : p.tables.exec = Jvm.exec) (hd : decode c.code pc = .ok (.isub, 1)) (hp : pc + 1 = pc')  (k : Ok p e below Fe Q T (mkF m pc' Ls (.int (x - y) :: rest))) : Ok p e below Fe Q T (mkF m pc Ls (.int y :: .int x :: rest)) := by
  subst hp
  exact Ok.st (fun t k => XS.isub X.here hx rfl hd rfl k) k
theorem Ok.lsub {x y : Int64} {rest : List Value} (X : Stand p l e R s m args below meth c T locs cells slots) (hx : p.tables.exec = Jvm.exec) (hd : decode c.code pc = .ok (.lsub, 1)) (hp : pc + 1 = pc')  (k : Ok p e below Fe Q T (mkF m pc' Ls (.long (x - y) :: rest))) : Ok p e below Fe Q T (mkF m pc Ls (.long y :: .long x :: rest)) := by
  subst hp
  exact Ok.st (fun t k => XS.lsub X.here hx rfl hd rfl k) k
theorem Ok.imul {x y : Int32} {rest : List Value} (X : Stand p l e R s m args below meth c T locs cells slots) (hx : p.tables.exec = Jvm.exec) (hd : decode c.code pc = .ok (.imul, 1)) (hp : pc + 1 = pc')  (k : Ok p e below Fe Q T (mkF m pc' Ls (.int (x * y) :: rest))) : Ok p e below Fe Q T (mkF m pc Ls (.int y :: .int x :: rest)) := by
  subst hp
  exact Ok.st (fun t k => XS.imul X.here hx rfl hd rfl k) k
theorem Ok.lmul {x y : Int64} {rest : List Value} (X : Stand p l e R s m args below meth c T locs cells slots) (hx : p.tables.exec = Jvm.exec) (hd : decode c.code pc = .ok (.lmul, 1)) (hp : pc + 1 = pc')  (k : Ok p e below Fe Q T (mkF m pc' Ls (.long (x * y) :: rest))) : Ok p e below Fe Q T (mkF m pc Ls (.long y :: .long x :: rest)) := by
  subst hp
  exact Ok.st (fun t k => XS.lmul X.here hx rfl hd rfl k) k
theorem Ok.iand {x y : Int32} {rest : List Value} (X : Stand p l e R s m args below meth c T locs cells slots) (hx : p.tables.exec = Jvm.exec) (hd : decode c.code pc = .ok (.iand, 1)) (hp : pc + 1 = pc')  (k : Ok p e below Fe Q T (mkF m pc' Ls (.int (x &&& y) :: rest))) : Ok p e below Fe Q T (mkF m pc Ls (.int y :: .int x :: rest)) := by
  subst hp
  exact Ok.st (fun t k => XS.iand X.here hx rfl hd rfl k) k
theorem Ok.land {x y : Int64} {rest : List Value} (X : Stand p l e R s m args below meth c T locs cells slots) (hx : p.tables.exec = Jvm.exec) (hd : decode c.code pc = .ok (.land, 1)) (hp : pc + 1 = pc')  (k : Ok p e below Fe Q T (mkF m pc' Ls (.long (x &&& y) :: rest))) : Ok p e below Fe Q T (mkF m pc Ls (.long y :: .long x :: rest)) := by
  subst hp
  exact Ok.st (fun t k => XS.land X.here hx rfl hd rfl k) k
theorem Ok.ior {x y : Int32} {rest : List Value} (X : Stand p l e R s m args below meth c T locs cells slots) (hx : p.tables.exec = Jvm.exec) (hd : decode c.code pc = .ok (.ior, 1)) (hp : pc + 1 = pc')  (k : Ok p e below Fe Q T (mkF m pc' Ls (.int (x ||| y) :: rest))) : Ok p e below Fe Q T (mkF m pc Ls (.int y :: .int x :: rest)) := by
  subst hp
  exact Ok.st (fun t k => XS.ior X.here hx rfl hd rfl k) k
theorem Ok.lor {x y : Int64} {rest : List Value} (X : Stand p l e R s m args below meth c T locs cells slots) (hx : p.tables.exec = Jvm.exec) (hd : decode c.code pc = .ok (.lor, 1)) (hp : pc + 1 = pc')  (k : Ok p e below Fe Q T (mkF m pc' Ls (.long (x ||| y) :: rest))) : Ok p e below Fe Q T (mkF m pc Ls (.long y :: .long x :: rest)) := by
  subst hp
  exact Ok.st (fun t k => XS.lor X.here hx rfl hd rfl k) k
theorem Ok.ixor {x y : Int32} {rest : List Value} (X : Stand p l e R s m args below meth c T locs cells slots) (hx : p.tables.exec = Jvm.exec) (hd : decode c.code pc = .ok (.ixor, 1)) (hp : pc + 1 = pc')  (k : Ok p e below Fe Q T (mkF m pc' Ls (.int (x ^^^ y) :: rest))) : Ok p e below Fe Q T (mkF m pc Ls (.int y :: .int x :: rest)) := by
  subst hp
  exact Ok.st (fun t k => XS.ixor X.here hx rfl hd rfl k) k
theorem Ok.lxor {x y : Int64} {rest : List Value} (X : Stand p l e R s m args below meth c T locs cells slots) (hx : p.tables.exec = Jvm.exec) (hd : decode c.code pc = .ok (.lxor, 1)) (hp : pc + 1 = pc')  (k : Ok p e below Fe Q T (mkF m pc' Ls (.long (x ^^^ y) :: rest))) : Ok p e below Fe Q T (mkF m pc Ls (.long y :: .long x :: rest)) := by
  subst hp
  exact Ok.st (fun t k => XS.lxor X.here hx rfl hd rfl k) k
theorem Ok.idiv {x y : Int32} {rest : List Value} (X : Stand p l e R s m args below meth c T locs cells slots) (hx : p.tables.exec = Jvm.exec) (hd : decode c.code pc = .ok (.idiv, 1)) (hp : pc + 1 = pc') (hy : y ≠ 0) (k : Ok p e below Fe Q T (mkF m pc' Ls (.int (x / y) :: rest))) : Ok p e below Fe Q T (mkF m pc Ls (.int y :: .int x :: rest)) := by
  subst hp
  exact Ok.st (fun t k => XS.idiv X.here hx rfl hd rfl hy k) k
theorem Ok.ldiv {x y : Int64} {rest : List Value} (X : Stand p l e R s m args below meth c T locs cells slots) (hx : p.tables.exec = Jvm.exec) (hd : decode c.code pc = .ok (.ldiv, 1)) (hp : pc + 1 = pc') (hy : y ≠ 0) (k : Ok p e below Fe Q T (mkF m pc' Ls (.long (x / y) :: rest))) : Ok p e below Fe Q T (mkF m pc Ls (.long y :: .long x :: rest)) := by
  subst hp
  exact Ok.st (fun t k => XS.ldiv X.here hx rfl hd rfl hy k) k
theorem Ok.irem {x y : Int32} {rest : List Value} (X : Stand p l e R s m args below meth c T locs cells slots) (hx : p.tables.exec = Jvm.exec) (hd : decode c.code pc = .ok (.irem, 1)) (hp : pc + 1 = pc') (hy : y ≠ 0) (k : Ok p e below Fe Q T (mkF m pc' Ls (.int (x % y) :: rest))) : Ok p e below Fe Q T (mkF m pc Ls (.int y :: .int x :: rest)) := by
  subst hp
  exact Ok.st (fun t k => iremM X hx rfl hd rfl hy k) k
theorem Ok.lrem {x y : Int64} {rest : List Value} (X : Stand p l e R s m args below meth c T locs cells slots) (hx : p.tables.exec = Jvm.exec) (hd : decode c.code pc = .ok (.lrem, 1)) (hp : pc + 1 = pc') (hy : y ≠ 0) (k : Ok p e below Fe Q T (mkF m pc' Ls (.long (x - (x / y) * y) :: rest))) : Ok p e below Fe Q T (mkF m pc Ls (.long y :: .long x :: rest)) := by
  subst hp
  exact Ok.st (fun t k => XS.lrem X.here hx rfl hd rfl hy k) k
theorem Ok.ishl {x y : Int32} {rest : List Value} (X : Stand p l e R s m args below meth c T locs cells slots) (hx : p.tables.exec = Jvm.exec) (hd : decode c.code pc = .ok (.ishl, 1)) (hp : pc + 1 = pc')  (k : Ok p e below Fe Q T (mkF m pc' Ls (.int (x <<< (y &&& 31)) :: rest))) : Ok p e below Fe Q T (mkF m pc Ls (.int y :: .int x :: rest)) := by
  subst hp
  exact Ok.st (fun t k => XS.ishl X.here hx rfl hd rfl k) k
theorem Ok.ishr {x y : Int32} {rest : List Value} (X : Stand p l e R s m args below meth c T locs cells slots) (hx : p.tables.exec = Jvm.exec) (hd : decode c.code pc = .ok (.ishr, 1)) (hp : pc + 1 = pc')  (k : Ok p e below Fe Q T (mkF m pc' Ls (.int (x >>> (y &&& 31)) :: rest))) : Ok p e below Fe Q T (mkF m pc Ls (.int y :: .int x :: rest)) := by
  subst hp
  exact Ok.st (fun t k => XS.ishr X.here hx rfl hd rfl k) k
theorem Ok.iushr {x y : Int32} {rest : List Value} (X : Stand p l e R s m args below meth c T locs cells slots) (hx : p.tables.exec = Jvm.exec) (hd : decode c.code pc = .ok (.iushr, 1)) (hp : pc + 1 = pc')  (k : Ok p e below Fe Q T (mkF m pc' Ls (.int ((x.toUInt32 >>> (y &&& 31).toUInt32).toInt32) :: rest))) : Ok p e below Fe Q T (mkF m pc Ls (.int y :: .int x :: rest)) := by
  subst hp
  exact Ok.st (fun t k => XS.iushr X.here hx rfl hd rfl k) k
theorem Ok.lshl {x : Int64} {y : Int32} {rest : List Value} (X : Stand p l e R s m args below meth c T locs cells slots) (hx : p.tables.exec = Jvm.exec) (hd : decode c.code pc = .ok (.lshl, 1)) (hp : pc + 1 = pc')  (k : Ok p e below Fe Q T (mkF m pc' Ls (.long (x <<< (y &&& 0x3f).toInt64) :: rest))) : Ok p e below Fe Q T (mkF m pc Ls (.int y :: .long x :: rest)) := by
  subst hp
  exact Ok.st (fun t k => XS.lshl X.here hx rfl hd rfl k) k
theorem Ok.lshr {x : Int64} {y : Int32} {rest : List Value} (X : Stand p l e R s m args below meth c T locs cells slots) (hx : p.tables.exec = Jvm.exec) (hd : decode c.code pc = .ok (.lshr, 1)) (hp : pc + 1 = pc')  (k : Ok p e below Fe Q T (mkF m pc' Ls (.long (x >>> (y &&& 0x3f).toInt64) :: rest))) : Ok p e below Fe Q T (mkF m pc Ls (.int y :: .long x :: rest)) := by
  subst hp
  exact Ok.st (fun t k => XS.lshr X.here hx rfl hd rfl k) k
theorem Ok.lushr {x : Int64} {y : Int32} {rest : List Value} (X : Stand p l e R s m args below meth c T locs cells slots) (hx : p.tables.exec = Jvm.exec) (hd : decode c.code pc = .ok (.lushr, 1)) (hp : pc + 1 = pc')  (k : Ok p e below Fe Q T (mkF m pc' Ls (.long ((x.toUInt64 >>> (y &&& 0x3f).toInt64.toUInt64).toInt64) :: rest))) : Ok p e below Fe Q T (mkF m pc Ls (.int y :: .long x :: rest)) := by
  subst hp
  exact Ok.st (fun t k => XS.lushr X.here hx rfl hd rfl k) k
theorem Ok.ineg {x : Int32} {rest : List Value} (X : Stand p l e R s m args below meth c T locs cells slots) (hx : p.tables.exec = Jvm.exec) (hd : decode c.code pc = .ok (.ineg, 1)) (hp : pc + 1 = pc')  (k : Ok p e below Fe Q T (mkF m pc' Ls (.int (-x) :: rest))) : Ok p e below Fe Q T (mkF m pc Ls (.int x :: rest)) := by
  subst hp
  exact Ok.st (fun t k => XS.ineg X.here hx rfl hd rfl k) k
theorem Ok.lneg {x : Int64} {rest : List Value} (X : Stand p l e R s m args below meth c T locs cells slots) (hx : p.tables.exec = Jvm.exec) (hd : decode c.code pc = .ok (.lneg, 1)) (hp : pc + 1 = pc')  (k : Ok p e below Fe Q T (mkF m pc' Ls (.long (-x) :: rest))) : Ok p e below Fe Q T (mkF m pc Ls (.long x :: rest)) := by
  subst hp
  exact Ok.st (fun t k => XS.lneg X.here hx rfl hd rfl k) k
theorem Ok.i2l {x : Int32} {rest : List Value} (X : Stand p l e R s m args below meth c T locs cells slots) (hx : p.tables.exec = Jvm.exec) (hd : decode c.code pc = .ok (.i2l, 1)) (hp : pc + 1 = pc')  (k : Ok p e below Fe Q T (mkF m pc' Ls (.long x.toInt64 :: rest))) : Ok p e below Fe Q T (mkF m pc Ls (.int x :: rest)) := by
  subst hp
  exact Ok.st (fun t k => XS.i2l X.here hx rfl hd rfl k) k
theorem Ok.l2i {x : Int64} {rest : List Value} (X : Stand p l e R s m args below meth c T locs cells slots) (hx : p.tables.exec = Jvm.exec) (hd : decode c.code pc = .ok (.l2i, 1)) (hp : pc + 1 = pc')  (k : Ok p e below Fe Q T (mkF m pc' Ls (.int x.toInt32 :: rest))) : Ok p e below Fe Q T (mkF m pc Ls (.long x :: rest)) := by
  subst hp
  exact Ok.st (fun t k => XS.l2i X.here hx rfl hd rfl k) k
theorem Ok.i2b {x : Int32} {rest : List Value} (X : Stand p l e R s m args below meth c T locs cells slots) (hx : p.tables.exec = Jvm.exec) (hd : decode c.code pc = .ok (.i2b, 1)) (hp : pc + 1 = pc')  (k : Ok p e below Fe Q T (mkF m pc' Ls (.int x.toInt8.toInt32 :: rest))) : Ok p e below Fe Q T (mkF m pc Ls (.int x :: rest)) := by
  subst hp
  exact Ok.st (fun t k => XS.i2b X.here hx rfl hd rfl k) k
theorem Ok.i2c {x : Int32} {rest : List Value} (X : Stand p l e R s m args below meth c T locs cells slots) (hx : p.tables.exec = Jvm.exec) (hd : decode c.code pc = .ok (.i2c, 1)) (hp : pc + 1 = pc')  (k : Ok p e below Fe Q T (mkF m pc' Ls (.int x.toUInt32.toUInt16.toUInt32.toInt32 :: rest))) : Ok p e below Fe Q T (mkF m pc Ls (.int x :: rest)) := by
  subst hp
  exact Ok.st (fun t k => XS.i2c X.here hx rfl hd rfl k) k
theorem Ok.i2s {x : Int32} {rest : List Value} (X : Stand p l e R s m args below meth c T locs cells slots) (hx : p.tables.exec = Jvm.exec) (hd : decode c.code pc = .ok (.i2s, 1)) (hp : pc + 1 = pc')  (k : Ok p e below Fe Q T (mkF m pc' Ls (.int x.toInt16.toInt32 :: rest))) : Ok p e below Fe Q T (mkF m pc Ls (.int x :: rest)) := by
  subst hp
  exact Ok.st (fun t k => XS.i2s X.here hx rfl hd rfl k) k
theorem Ok.lcmp {x y : Int64} {rest : List Value} (X : Stand p l e R s m args below meth c T locs cells slots) (hx : p.tables.exec = Jvm.exec) (hd : decode c.code pc = .ok (.lcmp, 1)) (hp : pc + 1 = pc')  (k : Ok p e below Fe Q T (mkF m pc' Ls (.int (lcmpW x y) :: rest))) : Ok p e below Fe Q T (mkF m pc Ls (.long y :: .long x :: rest)) := by
  subst hp
  exact Ok.st (fun t k => XS.lcmp X.here hx rfl hd rfl k) k
theorem Ok.iconst {i : Int} {z : Int32} {rest : List Value} (X : Stand p l e R s m args below meth c T locs cells slots) (hx : p.tables.exec = Jvm.exec) (hd : decode c.code pc = .ok (.iconst i, 1)) (hp : pc + 1 = pc') (hz : z = Int32.ofInt i) (k : Ok p e below Fe Q T (mkF m pc' Ls (.int z :: rest))) : Ok p e below Fe Q T (mkF m pc Ls rest) := by
  subst hp
  exact Ok.st (fun t k => XS.iconst X.here hx rfl hd (hz ▸ k)) k
theorem Ok.bipush {i : Int} {z : Int32} {rest : List Value} (X : Stand p l e R s m args below meth c T locs cells slots) (hx : p.tables.exec = Jvm.exec) (hd : decode c.code pc = .ok (.bipush i, 2)) (hp : pc + 2 = pc') (hz : z = (Int8.ofInt i).toInt32) (k : Ok p e below Fe Q T (mkF m pc' Ls (.int z :: rest))) : Ok p e below Fe Q T (mkF m pc Ls rest) := by
  subst hp
  exact Ok.st (fun t k => XS.bipush X.here hx rfl hd (hz ▸ k)) k
theorem Ok.sipush {i : Int} {z : Int32} {rest : List Value} (X : Stand p l e R s m args below meth c T locs cells slots) (hx : p.tables.exec = Jvm.exec) (hd : decode c.code pc = .ok (.sipush i, 3)) (hp : pc + 3 = pc') (hz : z = (Int16.ofInt i).toInt32) (k : Ok p e below Fe Q T (mkF m pc' Ls (.int z :: rest))) : Ok p e below Fe Q T (mkF m pc Ls rest) := by
  subst hp
  exact Ok.st (fun t k => XS.sipush X.here hx rfl hd (hz ▸ k)) k
theorem Ok.lconst {i : Fin 2} {z : Int64} {rest : List Value} (X : Stand p l e R s m args below meth c T locs cells slots) (hx : p.tables.exec = Jvm.exec) (hd : decode c.code pc = .ok (.lconst i, 1)) (hp : pc + 1 = pc') (hz : z = Int64.ofNat i) (k : Ok p e below Fe Q T (mkF m pc' Ls (.long z :: rest))) : Ok p e below Fe Q T (mkF m pc Ls rest) := by
  subst hp
  exact Ok.st (fun t k => XS.lconst X.here hx rfl hd (hz ▸ k)) k
theorem Ok.aconstNull {rest : List Value} (X : Stand p l e R s m args below meth c T locs cells slots) (hx : p.tables.exec = Jvm.exec) (hd : decode c.code pc = .ok (.aconst_null, 1)) (hp : pc + 1 = pc')  (k : Ok p e below Fe Q T (mkF m pc' Ls (.null :: rest))) : Ok p e below Fe Q T (mkF m pc Ls rest) := by
  subst hp
  exact Ok.st (fun t k => XS.aconstNull X.here hx rfl hd k) k
theorem Ok.dup {x : Value} {rest : List Value} (X : Stand p l e R s m args below meth c T locs cells slots) (hx : p.tables.exec = Jvm.exec) (hd : decode c.code pc = .ok (.dup, 1)) (hp : pc + 1 = pc') (hc : x.category = 1) (k : Ok p e below Fe Q T (mkF m pc' Ls (x :: x :: rest))) : Ok p e below Fe Q T (mkF m pc Ls (x :: rest)) := by
  subst hp
  exact Ok.st (fun t k => XS.dup X.here hx rfl hd rfl hc k) k
theorem Ok.pop {x : Value} {rest : List Value} (X : Stand p l e R s m args below meth c T locs cells slots) (hx : p.tables.exec = Jvm.exec) (hd : decode c.code pc = .ok (.pop, 1)) (hp : pc + 1 = pc') (hc : x.category = 1) (k : Ok p e below Fe Q T (mkF m pc' Ls rest)) : Ok p e below Fe Q T (mkF m pc Ls (x :: rest)) := by
  subst hp
  exact Ok.st (fun t k => XS.pop X.here hx rfl hd rfl hc k) k
theorem Ok.iload {i : Nat} {v : Int32} {rest : List Value} (X : Stand p l e R s m args below meth c T locs cells slots) (hx : p.tables.exec = Jvm.exec) (hd : decode c.code pc = .ok (.iload i, 2)) (hp : pc + 2 = pc') (hl : Ls[i]? = some (.val (.int v))) (k : Ok p e below Fe Q T (mkF m pc' Ls (.int v :: rest))) : Ok p e below Fe Q T (mkF m pc Ls rest) := by
  subst hp
  exact Ok.st (fun t k => XS.iload X.here hx rfl hd hl k) k
theorem Ok.iloadN {i : Fin 4} {v : Int32} {rest : List Value} (X : Stand p l e R s m args below meth c T locs cells slots) (hx : p.tables.exec = Jvm.exec) (hd : decode c.code pc = .ok (.iload_n i, 1)) (hp : pc + 1 = pc') (hl : Ls[i.val]? = some (.val (.int v))) (k : Ok p e below Fe Q T (mkF m pc' Ls (.int v :: rest))) : Ok p e below Fe Q T (mkF m pc Ls rest) := by
  subst hp
  exact Ok.st (fun t k => XS.iloadN X.here hx rfl hd hl k) k
theorem Ok.lload {i : Nat} {v : Int64} {rest : List Value} (X : Stand p l e R s m args below meth c T locs cells slots) (hx : p.tables.exec = Jvm.exec) (hd : decode c.code pc = .ok (.lload i, 2)) (hp : pc + 2 = pc') (hl : Ls[i]? = some (.val (.long v))) (k : Ok p e below Fe Q T (mkF m pc' Ls (.long v :: rest))) : Ok p e below Fe Q T (mkF m pc Ls rest) := by
  subst hp
  exact Ok.st (fun t k => XS.lload X.here hx rfl hd hl k) k
theorem Ok.lloadN {i : Fin 4} {v : Int64} {rest : List Value} (X : Stand p l e R s m args below meth c T locs cells slots) (hx : p.tables.exec = Jvm.exec) (hd : decode c.code pc = .ok (.lload_n i, 1)) (hp : pc + 1 = pc') (hl : Ls[i.val]? = some (.val (.long v))) (k : Ok p e below Fe Q T (mkF m pc' Ls (.long v :: rest))) : Ok p e below Fe Q T (mkF m pc Ls rest) := by
  subst hp
  exact Ok.st (fun t k => XS.lloadN X.here hx rfl hd hl k) k
theorem Ok.aload {i : Nat} {v : Value} {rest : List Value} (X : Stand p l e R s m args below meth c T locs cells slots) (hx : p.tables.exec = Jvm.exec) (hd : decode c.code pc = .ok (.aload i, 2)) (hp : pc + 2 = pc') (hl : Ls[i]? = some (.val v)) (hv : v.isRef = true) (k : Ok p e below Fe Q T (mkF m pc' Ls (v :: rest))) : Ok p e below Fe Q T (mkF m pc Ls rest) := by
  subst hp
  exact Ok.st (fun t k => XS.aload X.here hx rfl hd hl hv k) k
theorem Ok.aloadN {i : Fin 4} {v : Value} {rest : List Value} (X : Stand p l e R s m args below meth c T locs cells slots) (hx : p.tables.exec = Jvm.exec) (hd : decode c.code pc = .ok (.aload_n i, 1)) (hp : pc + 1 = pc') (hl : Ls[i.val]? = some (.val v)) (hv : v.isRef = true) (k : Ok p e below Fe Q T (mkF m pc' Ls (v :: rest))) : Ok p e below Fe Q T (mkF m pc Ls rest) := by
  subst hp
  exact Ok.st (fun t k => XS.aloadN X.here hx rfl hd hl hv k) k
theorem Ok.istore {i : Nat} {x : Int32} {rest : List Value} (X : Stand p l e R s m args below meth c T locs cells slots) (hx : p.tables.exec = Jvm.exec) (hd : decode c.code pc = .ok (.istore i, 2)) (hp : pc + 2 = pc') (hl : storeLocals Ls i (.int x) = some l') (k : Ok p e below Fe Q T (mkF m pc' l' rest)) : Ok p e below Fe Q T (mkF m pc Ls ((.int x) :: rest)) := by
  subst hp
  exact Ok.st (fun t k => XS.istore X.here hx rfl hd rfl hl k) k
theorem Ok.istoreN {i : Fin 4} {x : Int32} {rest : List Value} (X : Stand p l e R s m args below meth c T locs cells slots) (hx : p.tables.exec = Jvm.exec) (hd : decode c.code pc = .ok (.istore_n i, 1)) (hp : pc + 1 = pc') (hl : storeLocals Ls i.val (.int x) = some l') (k : Ok p e below Fe Q T (mkF m pc' l' rest)) : Ok p e below Fe Q T (mkF m pc Ls ((.int x) :: rest)) := by
  subst hp
  exact Ok.st (fun t k => XS.istoreN X.here hx rfl hd rfl hl k) k
theorem Ok.lstore {i : Nat} {x : Int64} {rest : List Value} (X : Stand p l e R s m args below meth c T locs cells slots) (hx : p.tables.exec = Jvm.exec) (hd : decode c.code pc = .ok (.lstore i, 2)) (hp : pc + 2 = pc') (hl : storeLocals Ls i (.long x) = some l') (k : Ok p e below Fe Q T (mkF m pc' l' rest)) : Ok p e below Fe Q T (mkF m pc Ls ((.long x) :: rest)) := by
  subst hp
  exact Ok.st (fun t k => XS.lstore X.here hx rfl hd rfl hl k) k
theorem Ok.lstoreN {i : Fin 4} {x : Int64} {rest : List Value} (X : Stand p l e R s m args below meth c T locs cells slots) (hx : p.tables.exec = Jvm.exec) (hd : decode c.code pc = .ok (.lstore_n i, 1)) (hp : pc + 1 = pc') (hl : storeLocals Ls i.val (.long x) = some l') (k : Ok p e below Fe Q T (mkF m pc' l' rest)) : Ok p e below Fe Q T (mkF m pc Ls ((.long x) :: rest)) := by
  subst hp
  exact Ok.st (fun t k => XS.lstoreN X.here hx rfl hd rfl hl k) k
theorem Ok.astore {i : Nat} {x : Value} {rest : List Value} (X : Stand p l e R s m args below meth c T locs cells slots) (hx : p.tables.exec = Jvm.exec) (hd : decode c.code pc = .ok (.astore i, 2)) (hp : pc + 2 = pc') (hv : x.isRef = true) (hl : storeLocals Ls i x = some l') (k : Ok p e below Fe Q T (mkF m pc' l' rest)) : Ok p e below Fe Q T (mkF m pc Ls (x :: rest)) := by
  subst hp
  exact Ok.st (fun t k => XS.astore X.here hx rfl hd rfl hv hl k) k
theorem Ok.astoreN {i : Fin 4} {x : Value} {rest : List Value} (X : Stand p l e R s m args below meth c T locs cells slots) (hx : p.tables.exec = Jvm.exec) (hd : decode c.code pc = .ok (.astore_n i, 1)) (hp : pc + 1 = pc') (hv : x.isRef = true) (hl : storeLocals Ls i.val x = some l') (k : Ok p e below Fe Q T (mkF m pc' l' rest)) : Ok p e below Fe Q T (mkF m pc Ls (x :: rest)) := by
  subst hp
  exact Ok.st (fun t k => XS.astoreN X.here hx rfl hd rfl hv hl k) k
theorem Ok.iinc {i : Nat} {cst : Int} {x z : Int32} {st : List Value} (X : Stand p l e R s m args below meth c T locs cells slots) (hx : p.tables.exec = Jvm.exec) (hd : decode c.code pc = .ok (.iinc i cst, 3)) (hp : pc + 3 = pc') (hl : Ls[i]? = some (.val (.int x))) (hz : z = x + Int32.ofInt cst) (hl' : storeLocals Ls i (.int z) = some l') (k : Ok p e below Fe Q T (mkF m pc' l' st)) : Ok p e below Fe Q T (mkF m pc Ls st) := by
  subst hp hz
  exact Ok.st (fun t k => XS.iinc X.here hx rfl hd hl hl' k) k
theorem Ok.goto {o : Int} {st : List Value} (X : Stand p l e R s m args below meth c T locs cells slots) (hx : p.tables.exec = Jvm.exec) (hd : decode c.code pc = .ok (.goto o, 3)) (ho : 0 ≤ (pc : Int) + o) (hp : ((pc : Int) + o).toNat = pc') (k : Ok p e below Fe Q T (mkF m pc' Ls st)) : Ok p e below Fe Q T (mkF m pc Ls st) :=
  Ok.st (fun t k => XS.goto X.here hx rfl (pc0 := pc) rfl hd ho hp k) k
theorem Ok.ifY {cd : ClassFile.Cond} {x : Int32} {rest : List Value} {o : Int} (X : Stand p l e R s m args below meth c T locs cells slots) (hx : p.tables.exec = Jvm.exec) (hd : decode c.code pc = .ok (.ifCond cd o, 3)) (hc : ifCond.holds cd x = true) (ho : 0 ≤ (pc : Int) + o) (hp : ((pc : Int) + o).toNat = pc') (k : Ok p e below Fe Q T (mkF m pc' Ls rest)) : Ok p e below Fe Q T (mkF m pc Ls (.int x :: rest)) :=
  Ok.st (fun t k => XS.ifYes X.here hx rfl (pc0 := pc) rfl hd rfl hc ho hp k) k
theorem Ok.ifN {cd : ClassFile.Cond} {x : Int32} {rest : List Value} {o : Int} (X : Stand p l e R s m args below meth c T locs cells slots) (hx : p.tables.exec = Jvm.exec) (hd : decode c.code pc = .ok (.ifCond cd o, 3)) (hc : ifCond.holds cd x = false) (hp : pc + 3 = pc') (k : Ok p e below Fe Q T (mkF m pc' Ls rest)) : Ok p e below Fe Q T (mkF m pc Ls (.int x :: rest)) := by
  subst hp
  exact Ok.st (fun t k => XS.ifNo X.here hx rfl hd rfl hc k) k
theorem Ok.icY {cd : ClassFile.Cond} {x y : Int32} {rest : List Value} {o : Int} (X : Stand p l e R s m args below meth c T locs cells slots) (hx : p.tables.exec = Jvm.exec) (hd : decode c.code pc = .ok (.if_icmp cd o, 3)) (hc : if_icmp.holds cd x y = true) (ho : 0 ≤ (pc : Int) + o) (hp : ((pc : Int) + o).toNat = pc') (k : Ok p e below Fe Q T (mkF m pc' Ls rest)) : Ok p e below Fe Q T (mkF m pc Ls (.int y :: .int x :: rest)) :=
  Ok.st (fun t k => XS.icmpYes X.here hx rfl (pc0 := pc) rfl hd rfl hc ho hp k) k
theorem Ok.icN {cd : ClassFile.Cond} {x y : Int32} {rest : List Value} {o : Int} (X : Stand p l e R s m args below meth c T locs cells slots) (hx : p.tables.exec = Jvm.exec) (hd : decode c.code pc = .ok (.if_icmp cd o, 3)) (hc : if_icmp.holds cd x y = false) (hp : pc + 3 = pc') (k : Ok p e below Fe Q T (mkF m pc' Ls rest)) : Ok p e below Fe Q T (mkF m pc Ls (.int y :: .int x :: rest)) := by
  subst hp
  exact Ok.st (fun t k => XS.icmpNo X.here hx rfl hd rfl hc k) k
theorem Ok.nullY {rest : List Value} {o : Int} (X : Stand p l e R s m args below meth c T locs cells slots) (hx : p.tables.exec = Jvm.exec) (hd : decode c.code pc = .ok (.ifnull o, 3)) (ho : 0 ≤ (pc : Int) + o) (hp : ((pc : Int) + o).toNat = pc') (k : Ok p e below Fe Q T (mkF m pc' Ls rest)) : Ok p e below Fe Q T (mkF m pc Ls (.null :: rest)) :=
  Ok.st (fun t k => XS.ifnullYes X.here hx rfl (pc0 := pc) rfl hd rfl ho hp k) k
theorem Ok.nullN {b : Addr} {rest : List Value} {o : Int} (X : Stand p l e R s m args below meth c T locs cells slots) (hx : p.tables.exec = Jvm.exec) (hd : decode c.code pc = .ok (.ifnull o, 3)) (hp : pc + 3 = pc') (k : Ok p e below Fe Q T (mkF m pc' Ls rest)) : Ok p e below Fe Q T (mkF m pc Ls (.ref b :: rest)) := by
  subst hp
  exact Ok.st (fun t k => XS.ifnullNo X.here hx rfl hd rfl k) k
theorem Ok.nonnullY {b : Addr} {rest : List Value} {o : Int} (X : Stand p l e R s m args below meth c T locs cells slots) (hx : p.tables.exec = Jvm.exec) (hd : decode c.code pc = .ok (.ifnonnull o, 3)) (ho : 0 ≤ (pc : Int) + o) (hp : ((pc : Int) + o).toNat = pc') (k : Ok p e below Fe Q T (mkF m pc' Ls rest)) : Ok p e below Fe Q T (mkF m pc Ls (.ref b :: rest)) :=
  Ok.st (fun t k => XS.ifnonnullYes X.here hx rfl (pc0 := pc) rfl hd rfl ho hp k) k
theorem Ok.nonnullN {rest : List Value} {o : Int} (X : Stand p l e R s m args below meth c T locs cells slots) (hx : p.tables.exec = Jvm.exec) (hd : decode c.code pc = .ok (.ifnonnull o, 3)) (hp : pc + 3 = pc') (k : Ok p e below Fe Q T (mkF m pc' Ls rest)) : Ok p e below Fe Q T (mkF m pc Ls (.null :: rest)) := by
  subst hp
  exact Ok.st (fun t k => XS.ifnonnullNo X.here hx rfl hd rfl k) k
theorem Ok.ldcI {own : String} {index : Nat} {v : Int32} {st : List Value} (X : Stand p l e R s m args below meth c T locs cells slots) (hx : p.tables.exec = Jvm.exec) (hZ : Z.Warmed39 s.vm) (hown : s.vm.findClass own = some m.cls) (w : (Jvm.Cond.constant own index v).before a0 Z = true) (hd : decode c.code pc = .ok (.ldc index, 2)) (hp : pc + 2 = pc') (k : Ok p e below Fe Q T (mkF m pc' Ls (.int v :: st))) : Ok p e below Fe Q T (mkF m pc Ls st) := by
  subst hp
  exact Ok.st (X.ldcInt hx hown (mvT hZ w) (g := mkF m pc Ls st) rfl hd) k
theorem Ok.ldcJ {own : String} {index : Nat} {v : Int64} {st : List Value} (X : Stand p l e R s m args below meth c T locs cells slots) (hx : p.tables.exec = Jvm.exec) (hZ : Z.Warmed39 s.vm) (hown : s.vm.findClass own = some m.cls) (w : (Jvm.Cond.constantLong own index v).before a0 Z = true) (hd : decode c.code pc = .ok (.ldc2_w index, 3)) (hp : pc + 3 = pc') (k : Ok p e below Fe Q T (mkF m pc' Ls (.long v :: st))) : Ok p e below Fe Q T (mkF m pc Ls st) := by
  subst hp
  exact Ok.st (X.ldc2Long hx hown (mvT hZ w) (g := mkF m pc Ls st) rfl hd) k
/-! the ends -/
theorem Ok.retV (X : Stand p l e R s m args below meth c T locs cells slots) (hx : p.tables.exec = Jvm.exec) (hret : meth.sig.returnType = none) (hlk : meth.locks = false) (hd : decode c.code pc = .ok (.return_, 1)) {nc ns : Nat} (hc : cells ≤ nc) (hs : slots ≤ ns) (q : Q none T.heap locs) : Ok p e below (NE s nc ns) Q T (mkF m pc Ls []) := by
  obtain ⟨fs, hr, hrun, hended, hW, hsame⟩ := X.leave (v := none) (fun _ => rfl) hlk
  exact ⟨_, _, X.returnOut hx hret hd hr, hrun, hended, _, _, rfl, q, ⟨_, rfl⟩, hW, hsame.mono hc hs⟩
theorem Ok.retI {z : Int32} {rest : List Value} {t : FieldType} (X : Stand p l e R s m args below meth c T locs cells slots) (hx : p.tables.exec = Jvm.exec) (hret : meth.sig.returnType = some t) (hlk : meth.locks = false) (ht : t = .int ∨ t = .boolean ∨ t = .byte ∨ t = .char ∨ t = .short) (hn : narrow t (.int z) = .int z) (hd : decode c.code pc = .ok (.ireturn, 1)) {nc ns : Nat} (hc : cells ≤ nc) (hs : slots ≤ ns) (q : Q (some (.int z)) T.heap locs) : Ok p e below (NE s nc ns) Q T (mkF m pc Ls (.int z :: rest)) := by
  obtain ⟨fs, hr, hrun, hended, hW, hsame⟩ := X.leave (v := some (.int z)) (fun h => by rw [hret] at h; cases h) hlk
  exact ⟨_, _, retOut X hx hret hn (Or.inl ⟨rfl, ht, _, rfl⟩) hd hr, hrun, hended, _, _, rfl, q, ⟨_, rfl⟩, hW, hsame.mono hc hs⟩
theorem Ok.retJ {z : Int64} {rest : List Value} (X : Stand p l e R s m args below meth c T locs cells slots) (hx : p.tables.exec = Jvm.exec) (hret : meth.sig.returnType = some .long) (hlk : meth.locks = false) (hd : decode c.code pc = .ok (.lreturn, 1)) {nc ns : Nat} (hc : cells ≤ nc) (hs : slots ≤ ns) (q : Q (some (.long z)) T.heap locs) : Ok p e below (NE s nc ns) Q T (mkF m pc Ls (.long z :: rest)) := by
  obtain ⟨fs, hr, hrun, hended, hW, hsame⟩ := X.leave (v := some (.long z)) (fun h => by rw [hret] at h; cases h) hlk
  exact ⟨_, _, retOut X hx hret rfl (Or.inr (Or.inl ⟨rfl, rfl, _, rfl⟩)) hd hr, hrun, hended, _, _, rfl, q, ⟨_, rfl⟩, hW, hsame.mono hc hs⟩
theorem Ok.retA {w : Value} {rest : List Value} {t : FieldType} (X : Stand p l e R s m args below meth c T locs cells slots) (hx : p.tables.exec = Jvm.exec) (hret : meth.sig.returnType = some t) (hlk : meth.locks = false) (ht : t.isReference = true) (hn : narrow t w = w) (hw : w.isRef = true) (hd : decode c.code pc = .ok (.areturn, 1)) {nc ns : Nat} (hc : cells ≤ nc) (hs : slots ≤ ns) (q : Q (some w) T.heap locs) : Ok p e below (NE s nc ns) Q T (mkF m pc Ls (w :: rest)) := by
  obtain ⟨fs, hr, hrun, hended, hW, hsame⟩ := X.leave (v := some w) (fun h => by rw [hret] at h; cases h) hlk
  exact ⟨_, _, retOut X hx hret hn (Or.inr (Or.inr (Or.inr (Or.inr ⟨rfl, ht, hw⟩)))) hd hr, hrun, hended, _, _, rfl, q, ⟨_, rfl⟩, hW, hsame.mono hc hs⟩
theorem Ok.retVW {V : Vm} {n : Nat} (X : Stand p l e R (s.setVm V) m args below meth c T locs cells slots) (hx : p.tables.exec = Jvm.exec) (hS : s.Since V n) (hSn : n ≤ T.heap.size) (hret : meth.sig.returnType = none) (hlk : meth.locks = false) (hd : decode c.code pc = .ok (.return_, 1)) {nc ns : Nat} (hc : cells ≤ nc) (hs : slots ≤ ns) (q : Q none T.heap locs) : Ok p e below (WE s nc ns) Q T (mkF m pc Ls []) := by
  obtain ⟨fs, hr, hrun, hended, h1, h2, h3, h4⟩ := X.leaveW hS hSn (v := none) (fun _ => rfl) hlk
  exact ⟨_, _, X.returnOut hx hret hd hr, hrun, hended, _, _, rfl, q, h1, h2, h3, h4.mono hc hs⟩
theorem Ok.retIW {V : Vm} {n : Nat} {z : Int32} {rest : List Value} {t : FieldType} (X : Stand p l e R (s.setVm V) m args below meth c T locs cells slots) (hx : p.tables.exec = Jvm.exec) (hS : s.Since V n) (hSn : n ≤ T.heap.size) (hret : meth.sig.returnType = some t) (hlk : meth.locks = false) (ht : t = .int ∨ t = .boolean ∨ t = .byte ∨ t = .char ∨ t = .short) (hn : narrow t (.int z) = .int z) (hd : decode c.code pc = .ok (.ireturn, 1)) {nc ns : Nat} (hc : cells ≤ nc) (hs : slots ≤ ns) (q : Q (some (.int z)) T.heap locs) : Ok p e below (WE s nc ns) Q T (mkF m pc Ls (.int z :: rest)) := by
  obtain ⟨fs, hr, hrun, hended, h1, h2, h3, h4⟩ := X.leaveW hS hSn (v := some (.int z)) (fun h => by rw [hret] at h; cases h) hlk
  exact ⟨_, _, retOut X hx hret hn (Or.inl ⟨rfl, ht, _, rfl⟩) hd hr, hrun, hended, _, _, rfl, q, h1, h2, h3, h4.mono hc hs⟩
theorem Ok.retJW {V : Vm} {n : Nat} {z : Int64} {rest : List Value} (X : Stand p l e R (s.setVm V) m args below meth c T locs cells slots) (hx : p.tables.exec = Jvm.exec) (hS : s.Since V n) (hSn : n ≤ T.heap.size) (hret : meth.sig.returnType = some .long) (hlk : meth.locks = false) (hd : decode c.code pc = .ok (.lreturn, 1)) {nc ns : Nat} (hc : cells ≤ nc) (hs : slots ≤ ns) (q : Q (some (.long z)) T.heap locs) : Ok p e below (WE s nc ns) Q T (mkF m pc Ls (.long z :: rest)) := by
  obtain ⟨fs, hr, hrun, hended, h1, h2, h3, h4⟩ := X.leaveW hS hSn (v := some (.long z)) (fun h => by rw [hret] at h; cases h) hlk
  exact ⟨_, _, retOut X hx hret rfl (Or.inr (Or.inl ⟨rfl, rfl, _, rfl⟩)) hd hr, hrun, hended, _, _, rfl, q, h1, h2, h3, h4.mono hc hs⟩
theorem Ok.retAW {V : Vm} {n : Nat} {w : Value} {rest : List Value} {t : FieldType} (X : Stand p l e R (s.setVm V) m args below meth c T locs cells slots) (hx : p.tables.exec = Jvm.exec) (hS : s.Since V n) (hSn : n ≤ T.heap.size) (hret : meth.sig.returnType = some t) (hlk : meth.locks = false) (ht : t.isReference = true) (hn : narrow t w = w) (hw : w.isRef = true) (hd : decode c.code pc = .ok (.areturn, 1)) {nc ns : Nat} (hc : cells ≤ nc) (hs : slots ≤ ns) (q : Q (some w) T.heap locs) : Ok p e below (WE s nc ns) Q T (mkF m pc Ls (w :: rest)) := by
  obtain ⟨fs, hr, hrun, hended, h1, h2, h3, h4⟩ := X.leaveW hS hSn (v := some w) (fun h => by rw [hret] at h; cases h) hlk
  exact ⟨_, _, retOut X hx hret hn (Or.inr (Or.inr (Or.inr (Or.inr ⟨rfl, ht, hw⟩)))) hd hr, hrun, hended, _, _, rfl, q, h1, h2, h3, h4.mono hc hs⟩
/-! a body's contract -/
abbrev MetN (l : Launch) (Z : State) (y : MethodName) (bytes : ByteArray) (maxL : Nat) (ret : Option FieldType) (ws : List Jvm.Cond) (rm : Room) (as' : Array Value) (h0 : Heap) (Q : Option Value → Heap → List Loc → Prop) : Prop :=
  MetFree l y (head1 (Jvm.Cond.code y bytes maxL ret :: ws) rm) (fun a U => a = as' ∧ Z.Warmed39 U.vm ∧ U.heap = h0) (fun _ _ _ _ _ => True) (fun _ U o U' => ∃ v L, o = .returned v ∧ Q v U'.heap L ∧ FrameEnd U o U' L rm.cells rm.slots)
abbrev MetW (l : Launch) (Z : State) (y : MethodName) (bytes : ByteArray) (maxL : Nat) (ret : Option FieldType) (ws : List Jvm.Cond) (rm : Room) (as' : Array Value) (h0 : Heap) (Q : Option Value → Heap → List Loc → Prop) : Prop :=
  MetFree l y (head1 (Jvm.Cond.code y bytes maxL ret :: ws) rm) (fun a U => a = as' ∧ Z.Warmed39 U.vm ∧ U.heap = h0) (fun _ _ _ _ _ => True) (fun _ U o U' => ∃ v L, o = .returned v ∧ Q v U'.heap L ∧ ReturnedEndW U o U' L rm.cells rm.slots)
theorem met_n {y : MethodName} {bytes : ByteArray} {maxL : Nat} {ret : Option FieldType} {rm : Room} {ws : List Jvm.Cond} {as' : Array Value} {h0 : Heap} {F0 : MethodId → JFrame} (hp : plainFor y = true) (hf : ∀ m, entryFrame m as' maxL = F0 m)
    (body : ∀ (p : Program) (e : Env) (s : State) (m : MethodId) (below : List Frame) (meth : Method) (c : Code) (s₁ : State), Stand p l e rm s m as' below meth c s₁ [] 0 0 → p.tables.exec = Jvm.exec → c.code = bytes → c.maxLocals = maxL → Z.Warmed39 s.vm → s.vm.findClass y.cls = some m.cls → meth.name = y.name → meth.sig.returnType = ret → meth.locks = false → s₁.heap = h0 → Ok p e below (NE s rm.cells rm.slots) Q s₁ (F0 m)) :
    MetN l Z y bytes maxL ret ws rm as' h0 Q := by
  refine MetFree.of_bodySF hp hisR ?_
  intro p e s m args below meth c s₁ Bd hml0 hP hK
  obtain ⟨rfl, hZ, hh⟩ := hP
  have e0 : s₁.heap = h0 := by rw [← hh, Bd.state]; rfl
  exact Ok.fr (hf m) (body p e s m below meth c s₁ (Stand.of_body Bd) Bd.exec Bd.bytes hml0 hZ (findClass_of_methodNamed Bd.named) (name_of_methodNamed Bd.named Bd.method).1 Bd.returns (BodyLoose.notSynchronized Bd) e0)
theorem met_w {y : MethodName} {bytes : ByteArray} {maxL : Nat} {ret : Option FieldType} {rm : Room} {ws : List Jvm.Cond} {as' : Array Value} {h0 : Heap} {F0 : MethodId → JFrame} (hp : plainFor y = true) (hf : ∀ m, entryFrame m as' maxL = F0 m)
    (body : ∀ (p : Program) (e : Env) (s : State) (m : MethodId) (below : List Frame) (meth : Method) (c : Code) (s₁ : State) (V : Vm) (n : Nat), Stand p l e rm (s.setVm V) m as' below meth c s₁ [] 0 0 → p.tables.exec = Jvm.exec → c.code = bytes → c.maxLocals = maxL → Z.Warmed39 V → V.findClass y.cls = some m.cls → meth.name = y.name → meth.sig.returnType = ret → meth.locks = false → s₁.heap = h0 → s.Since V n → n ≤ h0.size → Ok p e below (WE s rm.cells rm.slots) Q s₁ (F0 m)) :
    MetW l Z y bytes maxL ret ws rm as' h0 Q := by
  refine MetFree.of_bodySF hp hisR ?_
  intro p e s m args below meth c s₁ Bd hml0 hP hK
  obtain ⟨rfl, hZ, hh⟩ := hP
  have e0 : s₁.heap = h0 := by rw [← hh, Bd.state]; rfl
  exact Ok.fr (hf m) (body p e s m below meth c s₁ s.vm 0 (Stand.of_body Bd) Bd.exec Bd.bytes hml0 hZ (findClass_of_methodNamed Bd.named) (name_of_methodNamed Bd.named Bd.method).1 Bd.returns (BodyLoose.notSynchronized Bd) e0 ((State.WarmedH.refl s).since 0) (Nat.zero_le _))
/-! calls, by a contract -/
theorem Ok.callS {y : MethodName} {bytes : ByteArray} {maxL : Nat} {ret : Option FieldType} {rm : Room} {as' : Array Value} {h : Heap} {Qc : Option Value → Heap → List Loc → Prop} {own : String} {index : Nat} {argsL rest st : List Value} {W : Nat} (X : Stand p l e R s m args below meth c T locs cells slots) (hx : p.tables.exec = Jvm.exec) (hZ : Z.Warmed39 s.vm) (hown : s.vm.findClass own = some m.cls)
    (hM : MetN l Z y bytes maxL ret [] rm as' h Qc) (wl : (Jvm.Cond.methodLink own index y).before a0 Z = true) (ws : (Jvm.Cond.static y).before a0 Z = true) (wz : (Jvm.Cond.initialized y.cls).before a0 Z = true) (wc : (Jvm.Cond.code y bytes maxL ret).before a0 Z = true) (hy : y.cls ≠ "java/lang/invoke/MethodHandle" ∧ y.cls ≠ "java/lang/invoke/VarHandle")
    (eT : T.heap = h) (hf : rm.frames + 1 ≤ R.frames) (hl : W + (maxL + 11) + rm.locals ≤ R.locals) (hc : cells + rm.cells ≤ R.cells) (hs : slots + rm.slots ≤ R.slots) (hlen : ∀ sig, parseMethodDescriptor y.desc = some sig → argsL.length = sig.parameters.length) (has : argsL.toArray = as') (hst : st = argsL.reverse ++ rest) (hW : (rest.map fun v => v.category).sum ≤ W) (hsize : Ls.size = c.maxLocals)
    (hd : decode c.code pc = .ok (.invokestatic index, 3)) (hp : pc + 3 = pc')
    (k : ∀ (v : Option Value) (T' : State) (L : List Loc), Stand p l e R s m args below meth c T' (locs ++ L) (cells + rm.cells) (slots + rm.slots) → Qc v T'.heap L → Ok p e below Fe Q T' (mkF m pc' Ls (v.toList ++ rest))) : Ok p e below Fe Q T (mkF m pc Ls st) := by
  subst hp
  obtain ⟨v, _, ⟨T1, L1, k1, n1⟩, -, X1, ⟨Lc, hQ, l1, y1, z1⟩, st1⟩ := Jvm.LawKit.callS X hx (y := y) hown (mvT hZ wl) (mvT hZ ws) (mvT hZ wz) (mvT hZ wc) hy (backOf (W := W) hM hZ wc wz hf hl) (g := mkF m pc Ls st) rfl hsize (argsL := argsL) (rest := rest) hlen hst (by show 2 * 0 + _ ≤ _; omega) hd (fun _ _ => ⟨has, eT, hc, hs⟩)
  dsimp only [Pt.U, Pt.locs, Pt.cells, Pt.slots] at X1 l1 y1 z1 st1 hQ
  subst l1 y1 z1
  exact Ok.st st1 (k v T1 Lc X1 hQ)
theorem Ok.init {y : MethodName} {bytes : ByteArray} {maxL : Nat} {rm : Room} {as' : Array Value} {h : Heap} {Qc : Option Value → Heap → List Loc → Prop} {own : String} {index : Nat} {a : Addr} {argsL rest st : List Value} {W : Nat} (X : Stand p l e R s m args below meth c T locs cells slots) (hx : p.tables.exec = Jvm.exec) (hZ : Z.Warmed39 s.vm) (hown : s.vm.findClass own = some m.cls)
    (hM : MetN l Z y bytes maxL none [] rm as' h Qc) (hyn : y.name = "<init>") (wl : (Jvm.Cond.methodLink own index y).before a0 Z = true) (wi : (Jvm.Cond.instanceMethod y).before a0 Z = true) (wz : (Jvm.Cond.initialized y.cls).before a0 Z = true) (wc : (Jvm.Cond.code y bytes maxL none).before a0 Z = true) (hy : y.cls ≠ "java/lang/invoke/MethodHandle" ∧ y.cls ≠ "java/lang/invoke/VarHandle")
    (eT : T.heap = h) (hf : rm.frames + 1 ≤ R.frames) (hl : W + (maxL + 11) + rm.locals ≤ R.locals) (hc : cells + rm.cells ≤ R.cells) (hs : slots + rm.slots ≤ R.slots) (hlen : ∀ sig, parseMethodDescriptor y.desc = some sig → argsL.length = sig.parameters.length) (has : (.ref a :: argsL).toArray = as') (hst : st = argsL.reverse ++ .ref a :: rest) (hW : (rest.map fun v => v.category).sum ≤ W) (hsize : Ls.size = c.maxLocals)
    (hd : decode c.code pc = .ok (.invokespecial index, 3)) (hp : pc + 3 = pc')
    (k : ∀ (v : Option Value) (T' : State) (L : List Loc), Stand p l e R s m args below meth c T' (locs ++ L) (cells + rm.cells) (slots + rm.slots) → Qc v T'.heap L → Ok p e below Fe Q T' (mkF m pc' Ls (v.toList ++ rest))) : Ok p e below Fe Q T (mkF m pc Ls st) := by
  subst hp
  obtain ⟨v, _, ⟨T1, L1, k1, n1⟩, -, X1, ⟨Lc, hQ, l1, y1, z1⟩, st1⟩ := X.specialBack hx (y := y) hyn hown (mvT hZ wl) (mvT hZ wi) (mvT hZ wc) hy (backOf (W := W) hM hZ wc wz hf hl) (g := mkF m pc Ls st) rfl hsize (Steps.refl _) (a := a) (argsL := argsL) (rest := rest) hlen hst (by show 2 * 0 + _ ≤ _; omega) hd (fun _ _ => ⟨has, eT, hc, hs⟩)
  dsimp only [Pt.U, Pt.locs, Pt.cells, Pt.slots] at X1 l1 y1 z1 st1 hQ
  subst l1 y1 z1
  exact Ok.tr st1 (k v T1 Lc X1 hQ)
theorem Ok.virt {y z : MethodName} {bytes : ByteArray} {maxL : Nat} {ret : Option FieldType} {rm : Room} {as' : Array Value} {h : Heap} {Qc : Option Value → Heap → List Loc → Prop} {own C : String} {index : Nat} {a : Addr} {argsL rest st : List Value} {W : Nat} (X : Stand p l e R s m args below meth c T locs cells slots) (hx : p.tables.exec = Jvm.exec) (hZ : Z.Warmed39 s.vm) (hown : s.vm.findClass own = some m.cls)
    (hM : MetN l Z z bytes maxL ret [] rm as' h Qc) (wl : (Jvm.Cond.methodLink own index y).before a0 Z = true) (wd : (Jvm.Cond.declares y).before a0 Z = true) (hnf : NotFace s y) (wse : (Jvm.Cond.selects C y z).before a0 Z = true) (wi : (Jvm.Cond.instanceMethod z).before a0 Z = true) (wz : (Jvm.Cond.initialized z.cls).before a0 Z = true) (wc : (Jvm.Cond.code z bytes maxL ret).before a0 Z = true) (hy : y.cls ≠ "java/lang/invoke/MethodHandle" ∧ y.cls ≠ "java/lang/invoke/VarHandle")
    (eT : T.heap = h) (E : Exa Z h a C) (hf : rm.frames + 1 ≤ R.frames) (hl : W + (maxL + 11) + rm.locals ≤ R.locals) (hc : cells + rm.cells ≤ R.cells) (hs : slots + rm.slots ≤ R.slots) (hlen : ∀ sig, parseMethodDescriptor y.desc = some sig → argsL.length = sig.parameters.length) (has : (.ref a :: argsL).toArray = as') (hst : st = argsL.reverse ++ .ref a :: rest) (hW : (rest.map fun v => v.category).sum ≤ W) (hsize : Ls.size = c.maxLocals)
    (hd : decode c.code pc = .ok (.invokevirtual index, 3)) (hp : pc + 3 = pc')
    (k : ∀ (v : Option Value) (T' : State) (L : List Loc), Stand p l e R s m args below meth c T' (locs ++ L) (cells + rm.cells) (slots + rm.slots) → Qc v T'.heap L → Ok p e below Fe Q T' (mkF m pc' Ls (v.toList ++ rest))) : Ok p e below Fe Q T (mkF m pc Ls st) := by
  subst hp
  obtain ⟨cq, kq, qa, qb, qc⟩ := isOf hZ eT E
  obtain ⟨v, _, ⟨T1, L1, k1, n1⟩, -, X1, ⟨Lc, hQ, l1, y1, z1⟩, st1⟩ := X.virtualBack hx (y := y) (z := z) hown (mvT hZ wl) (mvT hZ wd) hnf (mvT hZ wse) (mvT hZ wi) hy (backOf (W := W) hM hZ wc wz hf hl) qa qc (g := mkF m pc Ls st) rfl hsize (Steps.refl _) (argsL := argsL) (rest := rest) hlen hst (by show 2 * 0 + _ ≤ _; omega) hd (fun _ _ => ⟨has, eT, hc, hs⟩)
  dsimp only [Pt.U, Pt.locs, Pt.cells, Pt.slots] at X1 l1 y1 z1 st1 hQ
  subst l1 y1 z1
  exact Ok.tr st1 (k v T1 Lc X1 hQ)
/-! calls of bodies that may intern a string, by their wide contract, from a walk that may have interned -/
theorem Ok.callSW {y : MethodName} {bytes : ByteArray} {maxL : Nat} {ret : Option FieldType} {rm : Room} {as' : Array Value} {h : Heap} {Qc : Option Value → Heap → List Loc → Prop} {own : String} {index : Nat} {argsL rest st : List Value} {W n : Nat} {V : Vm} (X : Stand p l e R (s.setVm V) m args below meth c T locs cells slots) (hx : p.tables.exec = Jvm.exec) (hZ : Z.Warmed39 V) (hown : V.findClass own = some m.cls) (hS : s.Since V n) (hSn : n ≤ h.size)
    (hM : MetW l Z y bytes maxL ret [] rm as' h Qc) (wl : (Jvm.Cond.methodLink own index y).before a0 Z = true) (ws : (Jvm.Cond.static y).before a0 Z = true) (wz : (Jvm.Cond.initialized y.cls).before a0 Z = true) (wc : (Jvm.Cond.code y bytes maxL ret).before a0 Z = true) (hy : y.cls ≠ "java/lang/invoke/MethodHandle" ∧ y.cls ≠ "java/lang/invoke/VarHandle")
    (eT : T.heap = h) (hf : rm.frames + 1 ≤ R.frames) (hl : W + (maxL + 11) + rm.locals ≤ R.locals) (hc : cells + rm.cells ≤ R.cells) (hs : slots + rm.slots ≤ R.slots) (hlen : ∀ sig, parseMethodDescriptor y.desc = some sig → argsL.length = sig.parameters.length) (has : argsL.toArray = as') (hst : st = argsL.reverse ++ rest) (hW : (rest.map fun v => v.category).sum ≤ W) (hsize : Ls.size = c.maxLocals)
    (hd : decode c.code pc = .ok (.invokestatic index, 3)) (hp : pc + 3 = pc')
    (k : ∀ (v : Option Value) (T' : State) (L : List Loc), Stand p l e R (s.setVm T'.vm) m args below meth c T' (locs ++ L) (cells + rm.cells) (slots + rm.slots) → Z.Warmed39 T'.vm → T'.vm.findClass own = some m.cls → s.Since T'.vm T'.heap.size → Qc v T'.heap L → Ok p e below Fe Q T' (mkF m pc' Ls (v.toList ++ rest))) : Ok p e below Fe Q T (mkF m pc Ls st) := by
  subst hp
  have hZ' : Z.Warmed39 (s.setVm V).vm := hZ
  obtain ⟨v, _, ⟨T1, L1, k1, n1⟩, -, X1, hS1, hgr, ⟨Lc, hQ, l1, y1, z1⟩, st1⟩ := callSS X hx (y := y) hown (mvT hZ' wl) (mvT hZ' ws) (mvT hZ' wz) (mvT hZ' wc) hy (backOfS (W := W) hM hZ' wc wz hf hl) (g := mkF m pc Ls st) rfl hsize (argsL := argsL) (rest := rest) hlen hst (by show 2 * 0 + _ ≤ _; omega) hd (fun _ _ => ⟨has, eT, hc, hs⟩)
  dsimp only [Pt.U, Pt.locs, Pt.cells, Pt.slots] at X1 l1 y1 z1 st1 hQ hS1 hgr
  subst l1 y1 z1
  refine Ok.tr st1 (k v T1 Lc X1 (State.Warmed39.trans (t := s.setVm V) hZ hS1.1) (by rw [hS1.1.alike.findClass]; exact hown) (hS.trans hS1 ?_) hQ)
  rw [eT] at hgr
  exact Nat.le_trans hSn hgr
theorem Ok.initW {y : MethodName} {bytes : ByteArray} {maxL : Nat} {rm : Room} {as' : Array Value} {h : Heap} {Qc : Option Value → Heap → List Loc → Prop} {own : String} {index : Nat} {a : Addr} {argsL rest st : List Value} {W n : Nat} {V : Vm} (X : Stand p l e R (s.setVm V) m args below meth c T locs cells slots) (hx : p.tables.exec = Jvm.exec) (hZ : Z.Warmed39 V) (hown : V.findClass own = some m.cls) (hS : s.Since V n) (hSn : n ≤ h.size)
    (hM : MetW l Z y bytes maxL none [] rm as' h Qc) (hyn : y.name = "<init>") (wl : (Jvm.Cond.methodLink own index y).before a0 Z = true) (wi : (Jvm.Cond.instanceMethod y).before a0 Z = true) (wz : (Jvm.Cond.initialized y.cls).before a0 Z = true) (wc : (Jvm.Cond.code y bytes maxL none).before a0 Z = true) (hy : y.cls ≠ "java/lang/invoke/MethodHandle" ∧ y.cls ≠ "java/lang/invoke/VarHandle")
    (eT : T.heap = h) (hf : rm.frames + 1 ≤ R.frames) (hl : W + (maxL + 11) + rm.locals ≤ R.locals) (hc : cells + rm.cells ≤ R.cells) (hs : slots + rm.slots ≤ R.slots) (hlen : ∀ sig, parseMethodDescriptor y.desc = some sig → argsL.length = sig.parameters.length) (has : (.ref a :: argsL).toArray = as') (hst : st = argsL.reverse ++ .ref a :: rest) (hW : (rest.map fun v => v.category).sum ≤ W) (hsize : Ls.size = c.maxLocals)
    (hd : decode c.code pc = .ok (.invokespecial index, 3)) (hp : pc + 3 = pc')
    (k : ∀ (v : Option Value) (T' : State) (L : List Loc), Stand p l e R (s.setVm T'.vm) m args below meth c T' (locs ++ L) (cells + rm.cells) (slots + rm.slots) → Z.Warmed39 T'.vm → T'.vm.findClass own = some m.cls → s.Since T'.vm T'.heap.size → Qc v T'.heap L → Ok p e below Fe Q T' (mkF m pc' Ls (v.toList ++ rest))) : Ok p e below Fe Q T (mkF m pc Ls st) := by
  subst hp
  have hZ' : Z.Warmed39 (s.setVm V).vm := hZ
  obtain ⟨v, _, ⟨T1, L1, k1, n1⟩, -, X1, hS1, hgr, ⟨Lc, hQ, l1, y1, z1⟩, st1⟩ := X.specialBackS hx (y := y) hyn hown (mvT hZ' wl) (mvT hZ' wi) (mvT hZ' wc) hy (backOfS (W := W) hM hZ' wc wz hf hl) (g := mkF m pc Ls st) rfl hsize (Steps.refl _) (a := a) (argsL := argsL) (rest := rest) hlen hst (by show 2 * 0 + _ ≤ _; omega) hd (fun _ _ => ⟨has, eT, hc, hs⟩)
  dsimp only [Pt.U, Pt.locs, Pt.cells, Pt.slots] at X1 l1 y1 z1 st1 hQ hS1 hgr
  subst l1 y1 z1
  refine Ok.tr st1 (k v T1 Lc X1 (State.Warmed39.trans (t := s.setVm V) hZ hS1.1) (by rw [hS1.1.alike.findClass]; exact hown) (hS.trans hS1 ?_) hQ)
  rw [eT] at hgr
  exact Nat.le_trans hSn hgr
theorem Ok.virtW {y z : MethodName} {bytes : ByteArray} {maxL : Nat} {ret : Option FieldType} {rm : Room} {as' : Array Value} {h : Heap} {Qc : Option Value → Heap → List Loc → Prop} {own C : String} {index : Nat} {a : Addr} {argsL rest st : List Value} {W n : Nat} {V : Vm} (X : Stand p l e R (s.setVm V) m args below meth c T locs cells slots) (hx : p.tables.exec = Jvm.exec) (hZ : Z.Warmed39 V) (hown : V.findClass own = some m.cls) (hS : s.Since V n) (hSn : n ≤ h.size)
    (hM : MetW l Z z bytes maxL ret [] rm as' h Qc) (wl : (Jvm.Cond.methodLink own index y).before a0 Z = true) (wd : (Jvm.Cond.declares y).before a0 Z = true) (wse : (Jvm.Cond.selects C y z).before a0 Z = true) (hnf : NotFace (s.setVm V) y) (wi : (Jvm.Cond.instanceMethod z).before a0 Z = true) (wz : (Jvm.Cond.initialized z.cls).before a0 Z = true) (wc : (Jvm.Cond.code z bytes maxL ret).before a0 Z = true) (hy : y.cls ≠ "java/lang/invoke/MethodHandle" ∧ y.cls ≠ "java/lang/invoke/VarHandle")
    (eT : T.heap = h) (E : Exa Z h a C) (hf : rm.frames + 1 ≤ R.frames) (hl : W + (maxL + 11) + rm.locals ≤ R.locals) (hc : cells + rm.cells ≤ R.cells) (hs : slots + rm.slots ≤ R.slots) (hlen : ∀ sig, parseMethodDescriptor y.desc = some sig → argsL.length = sig.parameters.length) (has : (.ref a :: argsL).toArray = as') (hst : st = argsL.reverse ++ .ref a :: rest) (hW : (rest.map fun v => v.category).sum ≤ W) (hsize : Ls.size = c.maxLocals)
    (hd : decode c.code pc = .ok (.invokevirtual index, 3)) (hp : pc + 3 = pc')
    (k : ∀ (v : Option Value) (T' : State) (L : List Loc), Stand p l e R (s.setVm T'.vm) m args below meth c T' (locs ++ L) (cells + rm.cells) (slots + rm.slots) → Z.Warmed39 T'.vm → T'.vm.findClass own = some m.cls → s.Since T'.vm T'.heap.size → Qc v T'.heap L → Ok p e below Fe Q T' (mkF m pc' Ls (v.toList ++ rest))) : Ok p e below Fe Q T (mkF m pc Ls st) := by
  subst hp
  have hZ' : Z.Warmed39 (s.setVm V).vm := hZ
  obtain ⟨cq, kq, qa, qb, qc⟩ := isOf hZ' eT E
  obtain ⟨v, _, ⟨T1, L1, k1, n1⟩, -, X1, hS1, hgr, ⟨Lc, hQ, l1, y1, z1⟩, st1⟩ := X.virtualBackS hx (y := y) (z := z) hown (mvT hZ' wl) (mvT hZ' wd) hnf (mvT hZ' wse) (mvT hZ' wi) hy (backOfS (W := W) hM hZ' wc wz hf hl) qa qc (g := mkF m pc Ls st) rfl hsize (Steps.refl _) (argsL := argsL) (rest := rest) hlen hst (by show 2 * 0 + _ ≤ _; omega) hd (fun _ _ => ⟨has, eT, hc, hs⟩)
  dsimp only [Pt.U, Pt.locs, Pt.cells, Pt.slots] at X1 l1 y1 z1 st1 hQ hS1 hgr
  subst l1 y1 z1
  refine Ok.tr st1 (k v T1 Lc X1 (State.Warmed39.trans (t := s.setVm V) hZ hS1.1) (by rw [hS1.1.alike.findClass]; exact hown) (hS.trans hS1 ?_) hQ)
  rw [eT] at hgr
  exact Nat.le_trans hSn hgr
theorem Ok.faceW {y z : MethodName} {bytes : ByteArray} {maxL : Nat} {ret : Option FieldType} {rm : Room} {as' : Array Value} {h : Heap} {Qc : Option Value → Heap → List Loc → Prop} {own C : String} {index count : Nat} {a : Addr} {argsL rest st : List Value} {W n : Nat} {V : Vm} (X : Stand p l e R (s.setVm V) m args below meth c T locs cells slots) (hx : p.tables.exec = Jvm.exec) (hZ : Z.Warmed39 V) (hown : V.findClass own = some m.cls) (hS : s.Since V n) (hSn : n ≤ h.size)
    (hM : MetW l Z z bytes maxL ret [] rm as' h Qc) (wl : (Jvm.Cond.methodLink own index y).before a0 Z = true) (wd : (Jvm.Cond.declares y).before a0 Z = true) (wf : (Jvm.Cond.interfaceMethod y.cls y.cls y.name y.desc).before a0 Z = true) (hfa : ((Jvm.Cond.interfaceMethod y.cls y.cls y.name y.desc).onTables && (Jvm.Cond.interfaceMethod y.cls y.cls y.name y.desc).keepsFace) = true) (wse : (Jvm.Cond.selects C y z).before a0 Z = true) (wi : (Jvm.Cond.instanceMethod z).before a0 Z = true) (wp : (Jvm.Cond.publicMethod z).before a0 Z = true) (wu : (Jvm.Cond.unhidden C y.name y.desc).before a0 Z = true) (wk : (Jvm.Cond.castable C y.cls).before a0 Z = true) (wz : (Jvm.Cond.initialized z.cls).before a0 Z = true) (wc : (Jvm.Cond.code z bytes maxL ret).before a0 Z = true) (hy : y.cls ≠ "java/lang/invoke/MethodHandle" ∧ y.cls ≠ "java/lang/invoke/VarHandle")
    (eT : T.heap = h) (E : Exa Z h a C) (hf : rm.frames + 1 ≤ R.frames) (hl : W + (maxL + 11) + rm.locals ≤ R.locals) (hc : cells + rm.cells ≤ R.cells) (hs : slots + rm.slots ≤ R.slots) (hlen : ∀ sig, parseMethodDescriptor y.desc = some sig → argsL.length = sig.parameters.length) (has : (.ref a :: argsL).toArray = as') (hst : st = argsL.reverse ++ .ref a :: rest) (hW : (rest.map fun v => v.category).sum ≤ W) (hsize : Ls.size = c.maxLocals)
    (hd : decode c.code pc = .ok (.invokeinterface index count, 5)) (hp : pc + 5 = pc')
    (k : ∀ (v : Option Value) (T' : State) (L : List Loc), Stand p l e R (s.setVm T'.vm) m args below meth c T' (locs ++ L) (cells + rm.cells) (slots + rm.slots) → Z.Warmed39 T'.vm → T'.vm.findClass own = some m.cls → s.Since T'.vm T'.heap.size → Qc v T'.heap L → Ok p e below Fe Q T' (mkF m pc' Ls (v.toList ++ rest))) : Ok p e below Fe Q T (mkF m pc Ls st) := by
  subst hp
  have hZ' : Z.Warmed39 (s.setVm V).vm := hZ
  obtain ⟨cq, kq, qa, qb, qc⟩ := isOf hZ' eT E
  obtain ⟨v, _, ⟨T1, L1, k1, n1⟩, -, X1, hS1, hgr, ⟨Lc, hQ, l1, y1, z1⟩, st1⟩ := X.interfaceBackS hx (xi := y) (y := z) hown (mvT hZ' wl) (mvT hZ' wd) (mvT hZ' wf hfa) (mvT hZ' wse) (mvT hZ' wi) (mvT hZ' wp) (mvT hZ' wu) (mvT hZ' wk) hy (backOfS (W := W) hM hZ' wc wz hf hl) qa qb qc (g := mkF m pc Ls st) rfl hsize (Steps.refl _) (argsL := argsL) (rest := rest) hlen hst (by show 2 * 0 + _ ≤ _; omega) hd (fun _ _ => ⟨has, eT, hc, hs⟩)
  dsimp only [Pt.U, Pt.locs, Pt.cells, Pt.slots] at X1 l1 y1 z1 st1 hQ hS1 hgr
  subst l1 y1 z1
  refine Ok.tr st1 (k v T1 Lc X1 (State.Warmed39.trans (t := s.setVm V) hZ hS1.1) (by rw [hS1.1.alike.findClass]; exact hown) (hS.trans hS1 ?_) hQ)
  rw [eT] at hgr
  exact Nat.le_trans hSn hgr
theorem Ok.ldcS {own text : String} {index n N : Nat} {h : Heap} {st : List Value} {V : Vm} (X : Stand p l e R (s.setVm V) m args below meth c T locs cells slots) (hx : p.tables.exec = Jvm.exec) (hZ : Z.Warmed39 V) (hown : V.findClass own = some m.cls) (hS : s.Since V n) (hSn : n ≤ h.size) (w : (Jvm.Cond.stringLink own index text).before a0 Z = true) (wS : ∀ a ∈ Bundle.stringAtoms, a.before a0 Z = true)
    (eT : T.heap = h) (hN : 4 * text.toList.length ≤ N) (hbig : N ≤ 536870912) (hc : cells + 2 ≤ R.cells) (hl : slots + (N + 4) ≤ R.slots) (hd : decode c.code pc = .ok (.ldc index, 2)) (hp : pc + 2 = pc')
    (k : ∀ (a : Addr) (T' : State) (h' : Heap) (n' : Nat), Stand p l e R (s.setVm T'.vm) m args below meth c T' locs (cells + 2) (slots + (N + 4)) → Z.Warmed39 T'.vm → T'.vm.findClass own = some m.cls → s.Since T'.vm n' → n' ≤ h'.size → T'.heap = h' → Ext h h' → Ok p e below Fe Q T' (mkF m pc' Ls (.ref a :: st))) : Ok p e below Fe Q T (mkF m pc Ls st) := by
  subst hp
  obtain ⟨a, T1, h1, n1, X1, e1, E1, hS1, hSn1, hZ1, hown1, st1⟩ := Jvm.RoadKit.ldcS X hx hZ hown w wS eT hS hSn (g := mkF m pc Ls st) rfl hd hN hbig hc hl
  exact Ok.st st1 (k a T1 h1 n1 X1 hZ1 hown1 hS1 hSn1 e1 E1)
theorem ic_eq (x y : Int32) : (if_icmp.holds .eq x y = true ↔ x.toInt = y.toInt) ∧ (if_icmp.holds .ne x y = true ↔ ¬ x.toInt = y.toInt) ∧ (if_icmp.holds .lt x y = true ↔ x.toInt < y.toInt) ∧ (if_icmp.holds .ge x y = true ↔ y.toInt ≤ x.toInt) ∧ (if_icmp.holds .gt x y = true ↔ y.toInt < x.toInt) ∧ (if_icmp.holds .le x y = true ↔ x.toInt ≤ y.toInt) := by
  simp [if_icmp.holds, Int32.lt_iff_toInt_lt, Int32.le_iff_toInt_le, Int32.toInt_inj]
theorem bt {b : Bool} {P : Prop} (h : b = true ↔ P) (hp : P) : b = true := h.mpr hp
theorem bf {b : Bool} {P : Prop} (h : b = true ↔ P) (hp : ¬ P) : b = false := by
  cases b
  · rfl
  · exact absurd (h.mp rfl) hp
theorem i0 (cd : ClassFile.Cond) (x : Int32) {P : Prop} (h : if_icmp.holds cd x 0 = true ↔ P) : ifCond.holds cd x = true ↔ P := by rw [if0]; exact h
theorem lc_all (x y : Int64) : (ifCond.holds .eq (lcmpW x y) = true ↔ x.toInt = y.toInt) ∧ (ifCond.holds .ne (lcmpW x y) = true ↔ ¬ x.toInt = y.toInt) ∧ (ifCond.holds .lt (lcmpW x y) = true ↔ x.toInt < y.toInt) ∧ (ifCond.holds .ge (lcmpW x y) = true ↔ y.toInt ≤ x.toInt) ∧ (ifCond.holds .gt (lcmpW x y) = true ↔ y.toInt < x.toInt) ∧ (ifCond.holds .le (lcmpW x y) = true ↔ x.toInt ≤ y.toInt) := by
  have h1 := lc_lt x y
  have h2 := lc_gt x y
  have h3 := lc_eq x y
  have h4 := lc_le x y
  have h5 := lc_ge x y
  rw [← lcW] at h1 h2 h3 h4 h5
  simp only [if0, if_icmp.holds, decide_eq_true_eq, beq_iff_eq, bne_iff_ne, ne_eq, h3, GT.gt, GE.ge]
  simp only [h1, h2, h4, h5, Int64.lt_iff_toInt_lt, Int64.le_iff_toInt_le, Int64.toInt_inj]
  simp
end Layer
section Layer2
variable {p : Program} {l : Launch} {e : Env} {R : Room} {s : State} {m : MethodId} {args : Array Value} {below : List Frame} {meth : Method} {c : Code} {T T' : State} {locs : List Loc} {cells slots : Nat} {Fe : Outcome → State → List Loc → Prop} {Q : Option Value → Heap → List Loc → Prop} {pc pc' : Nat} {Ls l' : Array Slot} {g g' : JFrame} {Z : State} {a0 : Array Value} {h : Heap} {own : String} {rest st : List Value}
theorem Ok.new {C : String} {index n : Nat} (X : Stand p l e R s m args below meth c T locs cells slots) (hx : p.tables.exec = Jvm.exec) (hZ : Z.Warmed39 s.vm) (hown : s.vm.findClass own = some m.cls) (w : (Jvm.Cond.classLink own index C).before a0 Z = true) (wi : (Jvm.Cond.instantiable C n).before a0 Z = true) (wz : (Jvm.Cond.initialized C).before a0 Z = true) (eT : T.heap = h) (hd : decode c.code pc = .ok (.new index, 3)) (hp : pc + 3 = pc') (hc : cells + 1 ≤ R.cells) (hl : slots + n ≤ R.slots)
    (k : ∀ (T' : State) (h' : Heap) (a : Addr), a = h.size → Stand p l e R s m args below meth c T' locs (cells + 1) (slots + n) → T'.heap = h' → Ext h h' → Exa Z h' a C → (∀ {O nm d : String} {ty : FieldType}, Laid Z a0 C O nm d → parseFieldDescriptor d = some ty → Fld Z h' a O nm d (defaultValue ty)) → Ok p e below Fe Q T' (mkF m pc' Ls (.ref a :: st))) : Ok p e below Fe Q T (mkF m pc Ls st) := by
  subst hp
  obtain ⟨T1, h1, X1, e1, E1, A1, D1, -, st1⟩ := newO X hx hZ hown w wi wz eT (g := mkF m pc Ls st) rfl hd hc hl
  exact Ok.st st1 (k T1 h1 _ rfl X1 e1 E1 A1 D1)
theorem Ok.initO {index : Nat} {a : Addr} {W : Nat} (X : Stand p l e R s m args below meth c T locs cells slots) (hx : p.tables.exec = Jvm.exec) (hZ : Z.Warmed39 s.vm) (hown : s.vm.findClass own = some m.cls) (w1 : (Jvm.Cond.methodLink own index Lib.objectInit).before a0 Z = true) (w2 : (Jvm.Cond.instanceMethod Lib.objectInit).before a0 Z = true) (w3 : (Jvm.Cond.code Lib.objectInit ⟨#[0xb1]⟩ 1 none).before a0 Z = true) (eT : T.heap = h) (hsize : Ls.size = c.maxLocals) (hd : decode c.code pc = .ok (.invokespecial index, 3)) (hp : pc + 3 = pc') (hf : 1 ≤ R.frames) (hW : (rest.map fun v => v.category).sum ≤ W) (hl : W + 12 ≤ R.locals)
    (k : ∀ (T' : State), Stand p l e R s m args below meth c T' locs cells slots → T'.heap = h → Ok p e below Fe Q T' (mkF m pc' Ls rest)) : Ok p e below Fe Q T (mkF m pc Ls (.ref a :: rest)) := by
  subst hp
  obtain ⟨T1, X1, e1, st1⟩ := Jvm.RoadKit.initO X hx hZ hown w1 w2 w3 eT (g := mkF m pc Ls (.ref a :: rest)) rfl hsize rfl hd hf (W := W) (by show 2 * 0 + _ ≤ _; omega) hl
  exact Ok.st st1 (k T1 X1 e1)
theorem Ok.getF {R0 O n d host : String} {index : Nat} {a : Addr} {v : Value} (X : Stand p l e R s m args below meth c T locs cells slots) (hx : p.tables.exec = Jvm.exec) (hZ : Z.Warmed39 s.vm) (hown : s.vm.findClass own = some m.cls) (w : (Jvm.Cond.fieldLink own index R0 n d).before a0 Z = true ∨ (Jvm.Cond.fieldLinkNest own index R0 n d host).before a0 Z = true) (via : Via Z R0 O n d) (eT : T.heap = h) (F : Fld Z h a O n d v) (hd : decode c.code pc = .ok (.getfield index, 3)) (hp : pc + 3 = pc')
    (k : ∀ (T' : State), Stand p l e R s m args below meth c T' locs cells slots → T'.heap = h → Ok p e below Fe Q T' (mkF m pc' Ls (v :: rest))) : Ok p e below Fe Q T (mkF m pc Ls (.ref a :: rest)) := by
  subst hp
  obtain ⟨T1, X1, e1, st1⟩ := Jvm.RoadKit.getF X hx hZ hown w via eT F (g := mkF m pc Ls (.ref a :: rest)) rfl rfl hd
  exact Ok.st st1 (k T1 X1 e1)
theorem Ok.getS {R0 O n d host : String} {index : Nat} {v : Value} (X : Stand p l e R s m args below meth c T locs cells slots) (hx : p.tables.exec = Jvm.exec) (hZ : Z.Warmed39 s.vm) (hown : s.vm.findClass own = some m.cls) (w : (Jvm.Cond.fieldLink own index R0 n d).before a0 Z = true ∨ (Jvm.Cond.fieldLinkNest own index R0 n d host).before a0 Z = true) (via : Via Z R0 O n d) (eT : T.heap = h) (F : Sta Z h O n d v) (hd : decode c.code pc = .ok (.getstatic index, 3)) (hp : pc + 3 = pc')
    (k : ∀ (T' : State), Stand p l e R s m args below meth c T' locs cells slots → T'.heap = h → Ok p e below Fe Q T' (mkF m pc' Ls (v :: st))) : Ok p e below Fe Q T (mkF m pc Ls st) := by
  subst hp
  obtain ⟨T1, X1, e1, st1⟩ := Jvm.RoadKit.getS2 X hx hZ hown w via eT F (g := mkF m pc Ls st) rfl hd
  exact Ok.st st1 (k T1 X1 e1)
theorem Ok.putF {R0 O n d host C : String} {index kk : Nat} {ty : FieldType} {a : Addr} {v old : Value} (X : Stand p l e R s m args below meth c T locs cells slots) (hx : p.tables.exec = Jvm.exec) (hZ : Z.Warmed39 s.vm) (hown : s.vm.findClass own = some m.cls) (w : (Jvm.Cond.fieldLink own index R0 n d).before a0 Z = true ∨ (Jvm.Cond.fieldLinkNest own index R0 n d host).before a0 Z = true) (via : Via Z R0 O n d) (eT : T.heap = h) (F : Fld Z h a O n d old) (E : Exa Z h a C) (L : (Jvm.Cond.lays C O n d).before a0 Z = true ∨ ((Jvm.Cond.laysFinal C O n d).before a0 Z = true ∧ own = O ∧ meth.name = "<init>")) (wi : (Jvm.Cond.instantiable C kk).before a0 Z = true)
    (hty : parseFieldDescriptor d = some ty) (hn : narrow ty v = v) (hf : fits ty v = true) (hd : decode c.code pc = .ok (.putfield index, 3)) (hp : pc + 3 = pc')
    (k : ∀ (T' : State) (h' : Heap), Stand p l e R s m args below meth c T' (locs ++ [⟨a, Jvm.RoadKit.slotOf Z O n d⟩]) cells slots → T'.heap = h' → Wr h h' a (Jvm.RoadKit.slotOf Z O n d) v → Ok p e below Fe Q T' (mkF m pc' Ls rest)) : Ok p e below Fe Q T (mkF m pc Ls (v :: .ref a :: rest)) := by
  subst hp
  obtain ⟨T1, h1, X1, e1, W1, st1⟩ := Jvm.RoadKit.putF X hx hZ hown w via eT F E L wi hty hn hf (g := mkF m pc Ls (v :: .ref a :: rest)) rfl rfl hd
  exact Ok.st st1 (k T1 h1 X1 e1 W1)
theorem Ok.castY {K : String} {index : Nat} {a : Addr} (X : Stand p l e R s m args below meth c T locs cells slots) (hx : p.tables.exec = Jvm.exec) (hZ : Z.Warmed39 s.vm) (hown : s.vm.findClass own = some m.cls) (w : (Jvm.Cond.classLink own index K).before a0 Z = true) (eT : T.heap = h) (F : Ins Z h a K true) (hd : decode c.code pc = .ok (.checkcast index, 3)) (hp : pc + 3 = pc')
    (k : ∀ (T' : State), Stand p l e R s m args below meth c T' locs cells slots → T'.heap = h → Ok p e below Fe Q T' (mkF m pc' Ls (.ref a :: rest))) : Ok p e below Fe Q T (mkF m pc Ls (.ref a :: rest)) := by
  subst hp
  obtain ⟨T1, X1, e1, st1⟩ := Jvm.RoadKit.castY X hx hZ hown w eT F (g := mkF m pc Ls (.ref a :: rest)) rfl rfl hd
  exact Ok.st st1 (k T1 X1 e1)
theorem Ok.instY {K : String} {index : Nat} {a : Addr} (X : Stand p l e R s m args below meth c T locs cells slots) (hx : p.tables.exec = Jvm.exec) (hZ : Z.Warmed39 s.vm) (hown : s.vm.findClass own = some m.cls) (w : (Jvm.Cond.classLink own index K).before a0 Z = true) (eT : T.heap = h) (F : Ins Z h a K true) (hd : decode c.code pc = .ok (.instanceof index, 3)) (hp : pc + 3 = pc')
    (k : ∀ (T' : State), Stand p l e R s m args below meth c T' locs cells slots → T'.heap = h → Ok p e below Fe Q T' (mkF m pc' Ls (.int (1 : Int32) :: rest))) : Ok p e below Fe Q T (mkF m pc Ls (.ref a :: rest)) := by
  subst hp
  obtain ⟨T1, X1, e1, st1⟩ := Jvm.RoadKit.instY X hx hZ hown w eT F (g := mkF m pc Ls (.ref a :: rest)) rfl rfl hd
  exact Ok.st st1 (k T1 X1 e1)
theorem Ok.instNo {K C : String} {index : Nat} {a : Addr} (X : Stand p l e R s m args below meth c T locs cells slots) (hx : p.tables.exec = Jvm.exec) (hZ : Z.Warmed39 s.vm) (hown : s.vm.findClass own = some m.cls) (w : (Jvm.Cond.classLink own index K).before a0 Z = true) (eT : T.heap = h) (E : Exa Z h a C) (F : ∃ c t, Z.vm.findClass C = some c ∧ Z.vm.findClass K = some t ∧ Z.vm.assignable c t = false) (hd : decode c.code pc = .ok (.instanceof index, 3)) (hp : pc + 3 = pc')
    (k : ∀ (T' : State), Stand p l e R s m args below meth c T' locs cells slots → T'.heap = h → Ok p e below Fe Q T' (mkF m pc' Ls (.int (0 : Int32) :: rest))) : Ok p e below Fe Q T (mkF m pc Ls (.ref a :: rest)) := by
  subst hp
  obtain ⟨T1, X1, e1, st1⟩ := Jvm.RoadKit.instNo X hx hZ hown w eT E F (g := mkF m pc Ls (.ref a :: rest)) rfl rfl hd
  exact Ok.st st1 (k T1 X1 e1)
theorem Ok.instNull {index : Nat} (X : Stand p l e R s m args below meth c T locs cells slots) (hx : p.tables.exec = Jvm.exec) (hd : decode c.code pc = .ok (.instanceof index, 3)) (hp : pc + 3 = pc') (k : Ok p e below Fe Q T (mkF m pc' Ls (.int (0 : Int32) :: rest))) : Ok p e below Fe Q T (mkF m pc Ls (.null :: rest)) := by
  subst hp
  exact Ok.st (X.instanceofNull hx (g := mkF m pc Ls (.null :: rest)) rfl rfl hd) k
theorem Ok.newP {aty : ArrayType} {ty : FieldType} {n : Int32} {cap : Nat} (X : Stand p l e R s m args below meth c T locs cells slots) (hx : p.tables.exec = Jvm.exec) (hZ : Z.Warmed39 s.vm) (w : (Jvm.Cond.arrayClass ty).before a0 Z = true) (hty : newarray.typeOf aty = ty) (eT : T.heap = h) (hd : decode c.code pc = .ok (.newarray aty, 2)) (hp : pc + 2 = pc') (hn : ¬ n < 0) (hcap : n.toNatClampNeg ≤ cap) (hb : cap * 8 ≤ 536870912) (hc : cells + 1 ≤ R.cells) (hl : slots + cap ≤ R.slots)
    (k : ∀ (T' : State) (h' : Heap) (a : Addr) (cA : ClassId), a = h.size → Stand p l e R s m args below meth c T' locs (cells + 1) (slots + cap) → T'.heap = h' → Ext h h' → Arv Z h' a cA ty n [] (defaultValue ty) → Ok p e below Fe Q T' (mkF m pc' Ls (.ref a :: rest))) : Ok p e below Fe Q T (mkF m pc Ls (.int n :: rest)) := by
  subst hp hty
  obtain ⟨T1, h1, cA, X1, e1, E1, A1, st1⟩ := Jvm.RoadKit.newP X hx hZ w eT (g := mkF m pc Ls (.int n :: rest)) rfl hd rfl hn hcap hb hc hl
  exact Ok.st st1 (k T1 h1 _ cA rfl X1 e1 E1 (Arv.new A1 hn))
theorem Ok.stI {a : Addr} {kc : ClassId} {z j x : Int32} {vs : List Value} {dv : Value} (X : Stand p l e R s m args below meth c T locs cells slots) (hx : p.tables.exec = Jvm.exec) (hZ : Z.Warmed39 s.vm) (eT : T.heap = h) (V : Arv Z h a kc .int z vs dv) (hj : ¬ j < 0 ∧ j < z) {i : Nat} (hji : j.toNatClampNeg = i) (hi : i < vs.length) (hd : decode c.code pc = .ok (.iastore, 1)) (hp : pc + 1 = pc')
    (k : ∀ (T' : State) (h' : Heap), Stand p l e R s m args below meth c T' (locs ++ [⟨a, j.toNatClampNeg⟩]) cells slots → T'.heap = h' → Wr h h' a j.toNatClampNeg (.int x) → Arv Z h' a kc .int z (vs.set i (.int x)) dv → Ok p e below Fe Q T' (mkF m pc' Ls rest)) : Ok p e below Fe Q T (mkF m pc Ls (.int x :: .int j :: .ref a :: rest)) := by
  subst hp
  obtain ⟨cl, Ar, q, S1, N1, H1, G1⟩ := V
  obtain ⟨T1, h1, X1, e1, W1, st1⟩ := Jvm.RoadKit.stI X hx hZ eT Ar (j := j) (inb_of S1 hj) (g := mkF m pc Ls (.int x :: .int j :: .ref a :: rest)) rfl rfl hd
  exact Ok.st st1 (k T1 h1 X1 e1 W1 (Arv.set Ar q S1 N1 H1 G1 rfl W1 i hji hi))
theorem Ok.stC {a : Addr} {kc : ClassId} {z j x : Int32} {vs : List Value} {dv : Value} (X : Stand p l e R s m args below meth c T locs cells slots) (hx : p.tables.exec = Jvm.exec) (hZ : Z.Warmed39 s.vm) (eT : T.heap = h) (V : Arv Z h a kc .char z vs dv) (hj : ¬ j < 0 ∧ j < z) {i : Nat} (hji : j.toNatClampNeg = i) (hi : i < vs.length) (hd : decode c.code pc = .ok (.castore, 1)) (hp : pc + 1 = pc')
    (k : ∀ (T' : State) (h' : Heap), Stand p l e R s m args below meth c T' (locs ++ [⟨a, j.toNatClampNeg⟩]) cells slots → T'.heap = h' → Wr h h' a j.toNatClampNeg (.int (nar .char x)) → Arv Z h' a kc .char z (vs.set i (.int (nar .char x))) dv → Ok p e below Fe Q T' (mkF m pc' Ls rest)) : Ok p e below Fe Q T (mkF m pc Ls (.int x :: .int j :: .ref a :: rest)) := by
  subst hp
  obtain ⟨cl, Ar, q, S1, N1, H1, G1⟩ := V
  obtain ⟨T1, h1, X1, e1, W1, st1⟩ := Jvm.RoadKit.stC X hx hZ eT Ar (j := j) (inb_of S1 hj) (g := mkF m pc Ls (.int x :: .int j :: .ref a :: rest)) rfl rfl hd
  exact Ok.st st1 (k T1 h1 X1 e1 W1 (Arv.set Ar q S1 N1 H1 G1 (fits_nar_char _) W1 i hji hi))
theorem Ok.stB {a : Addr} {kc : ClassId} {z j x : Int32} {vs : List Value} {dv : Value} (X : Stand p l e R s m args below meth c T locs cells slots) (hx : p.tables.exec = Jvm.exec) (hZ : Z.Warmed39 s.vm) (eT : T.heap = h) (V : Arv Z h a kc .byte z vs dv) (hj : ¬ j < 0 ∧ j < z) {i : Nat} (hji : j.toNatClampNeg = i) (hi : i < vs.length) (hd : decode c.code pc = .ok (.bastore, 1)) (hp : pc + 1 = pc')
    (k : ∀ (T' : State) (h' : Heap), Stand p l e R s m args below meth c T' (locs ++ [⟨a, j.toNatClampNeg⟩]) cells slots → T'.heap = h' → Wr h h' a j.toNatClampNeg (.int x.toInt8.toInt32) → Arv Z h' a kc .byte z (vs.set i (.int x.toInt8.toInt32)) dv → Ok p e below Fe Q T' (mkF m pc' Ls rest)) : Ok p e below Fe Q T (mkF m pc Ls (.int x :: .int j :: .ref a :: rest)) := by
  subst hp
  obtain ⟨cl, Ar, q, S1, N1, H1, G1⟩ := V
  obtain ⟨T1, h1, X1, e1, W1, st1⟩ := Jvm.RoadKit.stB X hx hZ eT Ar (j := j) (inb_of S1 hj) (g := mkF m pc Ls (.int x :: .int j :: .ref a :: rest)) rfl rfl hd
  exact Ok.st st1 (k T1 h1 X1 e1 W1 (Arv.set Ar q S1 N1 H1 G1 (fits_nar_byte _) W1 i hji hi))
theorem Ok.len {a : Addr} {kc : ClassId} {ty : FieldType} {z : Int32} {vs : List Value} {dv : Value} (X : Stand p l e R s m args below meth c T locs cells slots) (hx : p.tables.exec = Jvm.exec) (hZ : Z.Warmed39 s.vm) (eT : T.heap = h) (V : Arv Z h a kc ty z vs dv) (hd : decode c.code pc = .ok (.arraylength, 1)) (hp : pc + 1 = pc') (k : Ok p e below Fe Q T (mkF m pc' Ls (.int z :: rest))) : Ok p e below Fe Q T (mkF m pc Ls (.ref a :: rest)) := by
  subst hp
  obtain ⟨cl, Ar, q, S1, N1, H1, G1⟩ := V
  refine Ok.st (X.arraylength hx (by rw [eT]; exact Ar.1) (State.isArrayOf_alike hZ.alike Ar.2.1) (g := mkF m pc Ls (.ref a :: rest)) rfl rfl hd) ?_
  rw [len_of S1 N1]
  exact k
theorem Ok.ldI {a : Addr} {kc : ClassId} {z j : Int32} {v : Value} {vs : List Value} {dv : Value} (X : Stand p l e R s m args below meth c T locs cells slots) (hx : p.tables.exec = Jvm.exec) (hZ : Z.Warmed39 s.vm) (eT : T.heap = h) (V : Arv Z h a kc .int z vs dv) (hj : ¬ j < 0 ∧ j < z) (hv : vs.getD j.toNatClampNeg dv = v) (hd : decode c.code pc = .ok (.iaload, 1)) (hp : pc + 1 = pc') (k : Ok p e below Fe Q T (mkF m pc' Ls (v :: rest))) : Ok p e below Fe Q T (mkF m pc Ls (.int j :: .ref a :: rest)) := by
  subst hp
  obtain ⟨cl, Ar, q, S1, N1, H1, G1⟩ := V
  exact Ok.st (X.iaload hx (j := j) (v := v) (by rw [eT]; exact Ar.1) (State.isArrayOf_alike hZ.alike Ar.2.1) Ar.2.2 (inb_of S1 hj) (H1.at (inb_of S1 hj) hv) (g := mkF m pc Ls (.int j :: .ref a :: rest)) rfl rfl hd) k
theorem Ok.ldB {a : Addr} {kc : ClassId} {z j : Int32} {v : Value} {vs : List Value} {dv : Value} (X : Stand p l e R s m args below meth c T locs cells slots) (hx : p.tables.exec = Jvm.exec) (hZ : Z.Warmed39 s.vm) (eT : T.heap = h) (V : Arv Z h a kc .byte z vs dv) (hj : ¬ j < 0 ∧ j < z) (hv : vs.getD j.toNatClampNeg dv = v) (hd : decode c.code pc = .ok (.baload, 1)) (hp : pc + 1 = pc') (k : Ok p e below Fe Q T (mkF m pc' Ls (v :: rest))) : Ok p e below Fe Q T (mkF m pc Ls (.int j :: .ref a :: rest)) := by
  subst hp
  obtain ⟨cl, Ar, q, S1, N1, H1, G1⟩ := V
  exact Ok.st (X.baloadBytes hx (j := j) (v := v) (by rw [eT]; exact Ar.1) (State.isArrayOf_alike hZ.alike Ar.2.1) Ar.2.2 (inb_of S1 hj) (H1.at (inb_of S1 hj) hv) (g := mkF m pc Ls (.int j :: .ref a :: rest)) rfl rfl hd) k
theorem Ok.ldC {a : Addr} {kc : ClassId} {z j : Int32} {v : Value} {vs : List Value} {dv : Value} (X : Stand p l e R s m args below meth c T locs cells slots) (hx : p.tables.exec = Jvm.exec) (hZ : Z.Warmed39 s.vm) (eT : T.heap = h) (V : Arv Z h a kc .char z vs dv) (hj : ¬ j < 0 ∧ j < z) (hv : vs.getD j.toNatClampNeg dv = v) (hd : decode c.code pc = .ok (.caload, 1)) (hp : pc + 1 = pc') (k : Ok p e below Fe Q T (mkF m pc' Ls (v :: rest))) : Ok p e below Fe Q T (mkF m pc Ls (.int j :: .ref a :: rest)) := by
  subst hp
  obtain ⟨cl, Ar, q, S1, N1, H1, G1⟩ := V
  exact Ok.st (X.caload hx (j := j) (v := v) (by rw [eT]; exact Ar.1) (State.isArrayOf_alike hZ.alike Ar.2.1) Ar.2.2 (inb_of S1 hj) (H1.at (inb_of S1 hj) hv) (g := mkF m pc Ls (.int j :: .ref a :: rest)) rfl rfl hd) k
theorem Ok.aald {a : Addr} {cl : Cell} {ty : FieldType} {j : Int32} {v : Value} (X : Stand p l e R s m args below meth c T locs cells slots) (hx : p.tables.exec = Jvm.exec) (hZ : Z.Warmed39 s.vm) (eT : T.heap = h) (A : Arr Z h a cl ty) (hty : ty.isReference = true) (hin : ¬ (j < 0 ∨ cl.slots.size ≤ j.toNatClampNeg)) (hv : cl.slots[j.toNatClampNeg]? = some v) (hd : decode c.code pc = .ok (.aaload, 1)) (hp : pc + 1 = pc') (k : Ok p e below Fe Q T (mkF m pc' Ls (v :: rest))) : Ok p e below Fe Q T (mkF m pc Ls (.int j :: .ref a :: rest)) := by
  subst hp
  exact Ok.st (X.aaload hx (j := j) (v := v) (by rw [eT]; exact A.1) (State.isArrayOf_alike hZ.alike A.2.1) hty A.2.2 hin hv (g := mkF m pc Ls (.int j :: .ref a :: rest)) rfl rfl hd) k
theorem Ok.ldcF {index : Nat} {v : UInt32} (X : Stand p l e R s m args below meth c T locs cells slots) (hx : p.tables.exec = Jvm.exec) (hZ : Z.Warmed39 s.vm) (hown : s.vm.findClass own = some m.cls) (w : (Jvm.Cond.constantFloat own index v).before a0 Z = true) (hd : decode c.code pc = .ok (.ldc index, 2)) (hp : pc + 2 = pc') (k : Ok p e below Fe Q T (mkF m pc' Ls (.float v :: st))) : Ok p e below Fe Q T (mkF m pc Ls st) := by
  subst hp
  exact Ok.st (X.ldcFloatC hx hown (mvT hZ w) (g := mkF m pc Ls st) rfl hd) k
theorem own_root {O K : String} {n : Nat} (w : (Jvm.Cond.noSuperclass O).before a0 Z = true) (wk : (Jvm.Cond.instantiable K n).before a0 Z = true) (hn : O ≠ K) : NS Z O K := by
  obtain ⟨c, k, h1, h2, h3, -, -⟩ := Cond.noSuperclass_spec w
  obtain ⟨t, k', g1, -⟩ := Cond.instantiable_spec wk
  have ne := ids_ne h1 g1 hn
  refine ⟨c, t, h1, g1, fun fuel => ?_⟩
  cases fuel with
  | zero => rfl
  | succ f => simp [Vm.isSubclassAux, ne, h2, h3]
theorem own_no {C S K : String} {n : Nat} (w : (Jvm.Cond.superclass C S).before a0 Z = true) (wk : (Jvm.Cond.instantiable K n).before a0 Z = true) (ns : NS Z C K) (hn : C ≠ K) : ∃ c t, Z.vm.findClass C = some c ∧ Z.vm.findClass K = some t ∧ Z.vm.assignable c t = false := by
  obtain ⟨c, t, h0, g0, n3⟩ := ns
  obtain ⟨p, k, kp, h1, h2, h3, h4, h5, -, h7⟩ := Cond.superclass_spec h0 w
  obtain ⟨t', k', g1, g2, g5, g7, -⟩ := Cond.instantiable_spec wk
  cases g0.symm.trans g1
  have g8 : k'.isInterface = false := by
    cases hq : k'.isInterface
    · rfl
    · rw [hq] at g7
      cases g7
  have ne := ids_ne h0 g0 hn
  refine ⟨c, t, h0, g0, ?_⟩
  show Z.vm.assignableAux (255 + 1) c t = false
  simp [Vm.assignableAux, ne, h2, g2, h5, g5, g8, Vm.isSubclass, n3]
end Layer2
theorem ofNat_toInt {n : Nat} (h : n < 2 ^ 31) : (Int32.ofNat n).toInt = n := Int32.toInt_ofNat_of_lt h
theorem ofNat_clamp {n : Nat} (h : n < 2 ^ 31) : (Int32.ofNat n).toNatClampNeg = n := by
  show (Int32.ofNat n).toInt.toNat = n
  rw [ofNat_toInt h]
  rfl
theorem ofNat_in {i n : Nat} (h : i < n) (hn : n < 2 ^ 31) : ¬ Int32.ofNat i < 0 ∧ Int32.ofNat i < Int32.ofNat n := by
  rw [Int32.lt_iff_toInt_lt, Int32.lt_iff_toInt_lt, ofNat_toInt (by omega), ofNat_toInt hn]
  simp
  omega
theorem ofNat_one (i : Nat) : Int32.ofNat (i + 1) = Int32.ofNat i + Int32.ofInt 1 := Int32.ofNat_add i 1
theorem ofNat_of {x : Int32} (h : 0 ≤ x.toInt) : x = Int32.ofNat x.toInt.toNat := by
  apply Int32.toInt_inj.mp
  have := x.toInt_lt
  rw [Int32.toInt_ofNat_of_lt (by omega)]
  omega
theorem getD_ints (l : List Int32) (i : Nat) : (l.map Value.int).getD i (.int (0 : Int32)) = .int (l.getD i 0) := by
  simp only [List.getD_eq_getElem?_getD, List.getElem?_map]
  cases l[i]? <;> rfl
def suml : List Int32 → Int64 → Int64
  | [], s => s
  | x :: r, s => suml r (s + x.toInt64)
theorem suml_drop {l : List Int32} {i : Nat} (h : i < l.length) (s : Int64) : suml (l.drop i) s = suml (l.drop (i + 1)) (s + (l.getD i 0).toInt64) := by
  rw [List.drop_eq_getElem_cons h]
  simp [suml, List.getD_eq_getElem?_getD, List.getElem?_eq_getElem h]
theorem suml_done (l : List Int32) (s : Int64) : suml (l.drop l.length) s = s := by
  rw [List.drop_length]
  rfl
theorem pd_0 : parseMethodDescriptor "(II)I" = some ⟨[.int, .int], some .int⟩ := by decide +kernel
theorem pd_1 : parseMethodDescriptor "([I[I[I)V" = some ⟨[(.array .int), (.array .int), (.array .int)], none⟩ := by decide +kernel
theorem pd_2 : parseMethodDescriptor "()V" = some ⟨[], none⟩ := by decide +kernel
theorem pd_3 : parseMethodDescriptor "()J" = some ⟨[], some .long⟩ := by decide +kernel
theorem Sta_keep {Z : State} {h h' : Heap} {C n d : String} {w : Value} {ws : List Addr} (F : Sta Z h C n d w) (K : Keep h h' ws) (q : ∀ x ∈ ws, ∃ k, Exa Z h x k) : Sta Z h' C n d w := by
  obtain ⟨cf, i, k, f, st, cell, h1, h2, h3, h4, h5, h6, h7⟩ := F
  refine ⟨cf, i, k, f, st, cell, h1, h2, h3, h4, K.2.1 st cell h5 fun hm => ?_, h6, h7⟩
  obtain ⟨k', c', k'', g1, -, -, g4, -⟩ := q st hm
  cases h5.symm.trans g1
  rw [h6] at g4
  cases g4
theorem d1_0 : decode jdk_29_method_69_code 0 = .ok (.iload_n 0, 1) := by decide +kernel
theorem d1_1 : decode jdk_29_method_69_code 1 = .ok (.iload_n 1, 1) := by decide +kernel
theorem d1_2 : decode jdk_29_method_69_code 2 = .ok (.if_icmp .gt 7, 3) := by decide +kernel
theorem d1_5 : decode jdk_29_method_69_code 5 = .ok (.iload_n 0, 1) := by decide +kernel
theorem d1_6 : decode jdk_29_method_69_code 6 = .ok (.goto 4, 3) := by decide +kernel
theorem d1_9 : decode jdk_29_method_69_code 9 = .ok (.iload_n 1, 1) := by decide +kernel
theorem d1_10 : decode jdk_29_method_69_code 10 = .ok (.ireturn, 1) := by decide +kernel
theorem ef_1 (m : MethodId) (x0 : Int32) (x1 : Int32) : entryFrame m #[(.int x0), (.int x1)] 2 = mkF m 0 #[.val (.int x0), .val (.int x1)] [] := by first | (simp [entryFrame, mkF, argsToLocals, Value.category]; done) | rfl
def Q1 (Z : State) (x1 : Int32) (y1 : Int32) (h0 : Heap) (n0 : Nat) (v : Option Value) (h : Heap) (L : List Loc) : Prop := ∃ z : Int32, v = some (.int z) ∧ (x1.toInt ≤ y1.toInt ∧ z = x1 ∨ ¬ x1.toInt ≤ y1.toInt ∧ z = y1) ∧ Fr n0 L ∧ h = h0
set_option maxRecDepth 65536 in
set_option maxHeartbeats 40000000 in
theorem rm1 (l : Launch) (Z : State) (a0 : Array Value) (hw : ∀ d ∈ tables_1, d.before a0 Z = true) (x1 : Int32) (y1 : Int32) (h0 : Heap) (n0 : Nat) (Z0 : n0 ≤ h0.size)  :
    MetN l Z (⟨"java/lang/Math", "min", "(II)I"⟩ : MethodName) jdk_29_method_69_code 2 (some .int) [] ({ frames := 0, cells := 0, slots := 0, locals := 0 } : Room) #[(.int x1), (.int y1)] h0 (Q1 Z x1 y1 h0 n0) := by
  refine met_n (Jvm.Free.JP.mathPlain rfl (by decide +kernel)) (fun m => ef_1 m x1 y1) ?_
  intro p e s m below meth c s₁ X0 hx hby hml hZ hown hnm hret hlk e0
  replace hown : s.vm.findClass "java/lang/Math" = some m.cls := hown
  replace hnm : meth.name = "min" := hnm
  replace hret : meth.sig.returnType = (some .int) := hret
  have N0 := Fr.nil n0
  have K0 : Keep h0 h0 [] := Keep.refl _ _
  show Ok p e below _ _ s₁ (mkF m 0 #[.val (.int x1), .val (.int y1)] [])
  refine Ok.iloadN (pc' := 1) X0 hx (hb hby d1_0) rfl rfl ?_
  refine Ok.iloadN (pc' := 2) X0 hx (hb hby d1_1) rfl rfl ?_
  by_cases hc2 : y1.toInt < x1.toInt
  · refine Ok.icY (pc' := 9) X0 hx (hb hby d1_2) (bt (ic_eq x1 y1).2.2.2.2.1 hc2) (by decide) (by decide) ?_
    refine Ok.iloadN (pc' := 10) X0 hx (hb hby d1_9) rfl rfl ?_
    refine Ok.retI X0 hx hret hlk (Or.inl rfl) rfl (hb hby d1_10) (by decide) (by decide) ?_
    show Q1 Z x1 y1 h0 n0 _ s₁.heap _
    rw [e0]
    exact ⟨y1, rfl, Or.inr ⟨by omega, rfl⟩, N0, rfl⟩
  · refine Ok.icN (pc' := 5) X0 hx (hb hby d1_2) (bf (ic_eq x1 y1).2.2.2.2.1 hc2) rfl ?_
    refine Ok.iloadN (pc' := 6) X0 hx (hb hby d1_5) rfl rfl ?_
    refine Ok.goto (pc' := 10) X0 hx (hb hby d1_6) (by decide) (by decide) ?_
    refine Ok.retI X0 hx hret hlk (Or.inl rfl) rfl (hb hby d1_10) (by decide) (by decide) ?_
    show Q1 Z x1 y1 h0 n0 _ s₁.heap _
    rw [e0]
    exact ⟨x1, rfl, Or.inl ⟨by omega, rfl⟩, N0, rfl⟩
theorem d2_0 : decode prog_58_method_1_code 0 = .ok (.aload_n 0, 1) := by decide +kernel
theorem d2_1 : decode prog_58_method_1_code 1 = .ok (.invokespecial 1, 3) := by decide +kernel
theorem d2_4 : decode prog_58_method_1_code 4 = .ok (.aload_n 0, 1) := by decide +kernel
theorem d2_5 : decode prog_58_method_1_code 5 = .ok (.aload_n 1, 1) := by decide +kernel
theorem d2_6 : decode prog_58_method_1_code 6 = .ok (.putfield 7, 3) := by decide +kernel
theorem d2_9 : decode prog_58_method_1_code 9 = .ok (.aload_n 0, 1) := by decide +kernel
theorem d2_10 : decode prog_58_method_1_code 10 = .ok (.aload_n 2, 1) := by decide +kernel
theorem d2_11 : decode prog_58_method_1_code 11 = .ok (.putfield 13, 3) := by decide +kernel
theorem d2_14 : decode prog_58_method_1_code 14 = .ok (.aload_n 0, 1) := by decide +kernel
theorem d2_15 : decode prog_58_method_1_code 15 = .ok (.aload_n 3, 1) := by decide +kernel
theorem d2_16 : decode prog_58_method_1_code 16 = .ok (.putfield 16, 3) := by decide +kernel
theorem d2_19 : decode prog_58_method_1_code 19 = .ok (.return_, 1) := by decide +kernel
theorem pn_0 : plainName "com/example/raie/raie/tdf/Frame" = true := by first | (simp [plainName, overriddenIn]; done) | decide +kernel
theorem ef_2 (m : MethodId) (x0 : Addr) (x1 : Addr) (x2 : Addr) (x3 : Addr) : entryFrame m #[(.ref x0), (.ref x1), (.ref x2), (.ref x3)] 4 = mkF m 0 #[.val (.ref x0), .val (.ref x1), .val (.ref x2), .val (.ref x3)] [] := by first | (simp [entryFrame, mkF, argsToLocals, Value.category]; done) | rfl
def Q2 (Z : State) (a1 : Addr) (q2 : Addr) (q3 : Addr) (q4 : Addr) (u_scanStarts : Value) (u_tofIndices : Value) (u_intensities : Value) (h0 : Heap) (n0 : Nat) (v : Option Value) (h : Heap) (L : List Loc) : Prop := v = none ∧ Fr n0 L ∧ Keep h0 h [a1] ∧ Exa Z h a1 "com/example/raie/raie/tdf/Frame" ∧ Fld Z h a1 "com/example/raie/raie/tdf/Frame" "scanStarts" "[I" (.ref q2) ∧ Fld Z h a1 "com/example/raie/raie/tdf/Frame" "tofIndices" "[I" (.ref q3) ∧ Fld Z h a1 "com/example/raie/raie/tdf/Frame" "intensities" "[I" (.ref q4)
set_option maxRecDepth 65536 in
set_option maxHeartbeats 40000000 in
theorem rm2 (l : Launch) (Z : State) (a0 : Array Value) (hw : ∀ d ∈ tables_1, d.before a0 Z = true) (a1 : Addr) (q2 : Addr) (q3 : Addr) (q4 : Addr) (u_scanStarts : Value) (u_tofIndices : Value) (u_intensities : Value) (h0 : Heap) (n0 : Nat) (Z0 : n0 ≤ h0.size) (E_a1 : Exa Z h0 a1 "com/example/raie/raie/tdf/Frame") (g_a1 : n0 ≤ a1) (F_scanStarts : Fld Z h0 a1 "com/example/raie/raie/tdf/Frame" "scanStarts" "[I" u_scanStarts) (F_tofIndices : Fld Z h0 a1 "com/example/raie/raie/tdf/Frame" "tofIndices" "[I" u_tofIndices) (F_intensities : Fld Z h0 a1 "com/example/raie/raie/tdf/Frame" "intensities" "[I" u_intensities) :
    MetN l Z (⟨"com/example/raie/raie/tdf/Frame", "<init>", "([I[I[I)V"⟩ : MethodName) prog_58_method_1_code 4 none [] ({ frames := 1, cells := 0, slots := 0, locals := 12 } : Room) #[(.ref a1), (.ref q2), (.ref q3), (.ref q4)] h0 (Q2 Z a1 q2 q3 q4 u_scanStarts u_tofIndices u_intensities h0 n0) := by
  refine met_n (plainFor_of_name pn_0) (fun m => ef_2 m a1 q2 q3 q4) ?_
  intro p e s m below meth c s₁ X0 hx hby hml hZ hown hnm hret hlk e0
  replace hown : s.vm.findClass "com/example/raie/raie/tdf/Frame" = some m.cls := hown
  replace hnm : meth.name = "<init>" := hnm
  replace hret : meth.sig.returnType = none := hret
  have N0 := Fr.nil n0
  have K0 : Keep h0 h0 [a1] := Keep.refl _ _
  show Ok p e below _ _ s₁ (mkF m 0 #[.val (.ref a1), .val (.ref q2), .val (.ref q3), .val (.ref q4)] [])
  refine Ok.aloadN (pc' := 1) X0 hx (hb hby d2_0) rfl rfl rfl ?_
  refine Ok.initO (pc' := 4) (W := 0) X0 hx hZ hown (hw _ (List.mem_of_getElem? (i := 12) rfl)) (hw _ (List.mem_of_getElem? (i := 13) rfl)) (hw _ (List.mem_of_getElem? (i := 14) rfl)) e0 (by rw [hml]; rfl) (hb hby d2_1) rfl (by decide) (Nat.le_of_eq rfl) (by decide) ?_
  intro T1 X1 e1
  refine Ok.aloadN (pc' := 5) X1 hx (hb hby d2_4) rfl rfl rfl ?_
  refine Ok.aloadN (pc' := 6) X1 hx (hb hby d2_5) rfl rfl rfl ?_
  refine Ok.putF (pc' := 9) (ty := (.array .int)) X1 hx hZ hown (host := "") (Or.inl (hw _ (List.mem_of_getElem? (i := 15) rfl))) Via.refl e1 F_scanStarts E_a1 (Or.inr ⟨(hw _ (List.mem_of_getElem? (i := 16) rfl)), rfl, hnm⟩) (hw _ (List.mem_of_getElem? (i := 7) rfl)) (by decide) rfl rfl (hb hby d2_6) rfl ?_
  intro T2 h2 X2 e2 W2
  replace F_scanStarts := F_scanStarts.same W2
  replace E_a1 := E_a1.wr W2
  replace F_tofIndices := F_tofIndices.other W2 (Or.inr (slot_ne (Or.inr (hw _ (List.mem_of_getElem? (i := 18) rfl))) (Or.inr (hw _ (List.mem_of_getElem? (i := 16) rfl))) (by decide) (t := (.array .int)) (t' := (.array .int)) (by decide) (by decide)))
  replace F_intensities := F_intensities.other W2 (Or.inr (slot_ne (Or.inr (hw _ (List.mem_of_getElem? (i := 20) rfl))) (Or.inr (hw _ (List.mem_of_getElem? (i := 16) rfl))) (by decide) (t := (.array .int)) (t' := (.array .int)) (by decide) (by decide)))
  have N2 := Fr.snoc X2 N0 g_a1
  have K2 : Keep h0 h2 [a1] := K0.wr W2 (Or.inl (List.mem_of_getElem? (i := 0) rfl))
  have Z3 : n0 ≤ h2.size := Nat.le_trans Z0 (Keep.of_wr W2).1
  refine Ok.aloadN (pc' := 10) X2 hx (hb hby d2_9) rfl rfl rfl ?_
  refine Ok.aloadN (pc' := 11) X2 hx (hb hby d2_10) rfl rfl rfl ?_
  refine Ok.putF (pc' := 14) (ty := (.array .int)) X2 hx hZ hown (host := "") (Or.inl (hw _ (List.mem_of_getElem? (i := 17) rfl))) Via.refl e2 F_tofIndices E_a1 (Or.inr ⟨(hw _ (List.mem_of_getElem? (i := 18) rfl)), rfl, hnm⟩) (hw _ (List.mem_of_getElem? (i := 7) rfl)) (by decide) rfl rfl (hb hby d2_11) rfl ?_
  intro T4 h4 X4 e4 W4
  replace F_tofIndices := F_tofIndices.same W4
  replace E_a1 := E_a1.wr W4
  replace F_intensities := F_intensities.other W4 (Or.inr (slot_ne (Or.inr (hw _ (List.mem_of_getElem? (i := 20) rfl))) (Or.inr (hw _ (List.mem_of_getElem? (i := 18) rfl))) (by decide) (t := (.array .int)) (t' := (.array .int)) (by decide) (by decide)))
  replace F_scanStarts := F_scanStarts.other W4 (Or.inr (slot_ne (Or.inr (hw _ (List.mem_of_getElem? (i := 16) rfl))) (Or.inr (hw _ (List.mem_of_getElem? (i := 18) rfl))) (by decide) (t := (.array .int)) (t' := (.array .int)) (by decide) (by decide)))
  have N4 := Fr.snoc X4 N2 g_a1
  have K4 : Keep h0 h4 [a1] := K2.wr W4 (Or.inl (List.mem_of_getElem? (i := 0) rfl))
  have Z5 : n0 ≤ h4.size := Nat.le_trans Z3 (Keep.of_wr W4).1
  refine Ok.aloadN (pc' := 15) X4 hx (hb hby d2_14) rfl rfl rfl ?_
  refine Ok.aloadN (pc' := 16) X4 hx (hb hby d2_15) rfl rfl rfl ?_
  refine Ok.putF (pc' := 19) (ty := (.array .int)) X4 hx hZ hown (host := "") (Or.inl (hw _ (List.mem_of_getElem? (i := 19) rfl))) Via.refl e4 F_intensities E_a1 (Or.inr ⟨(hw _ (List.mem_of_getElem? (i := 20) rfl)), rfl, hnm⟩) (hw _ (List.mem_of_getElem? (i := 7) rfl)) (by decide) rfl rfl (hb hby d2_16) rfl ?_
  intro T6 h6 X6 e6 W6
  replace F_intensities := F_intensities.same W6
  replace E_a1 := E_a1.wr W6
  replace F_scanStarts := F_scanStarts.other W6 (Or.inr (slot_ne (Or.inr (hw _ (List.mem_of_getElem? (i := 16) rfl))) (Or.inr (hw _ (List.mem_of_getElem? (i := 20) rfl))) (by decide) (t := (.array .int)) (t' := (.array .int)) (by decide) (by decide)))
  replace F_tofIndices := F_tofIndices.other W6 (Or.inr (slot_ne (Or.inr (hw _ (List.mem_of_getElem? (i := 18) rfl))) (Or.inr (hw _ (List.mem_of_getElem? (i := 20) rfl))) (by decide) (t := (.array .int)) (t' := (.array .int)) (by decide) (by decide)))
  have N6 := Fr.snoc X6 N4 g_a1
  have K6 : Keep h0 h6 [a1] := K4.wr W6 (Or.inl (List.mem_of_getElem? (i := 0) rfl))
  have Z7 : n0 ≤ h6.size := Nat.le_trans Z5 (Keep.of_wr W6).1
  refine Ok.retV X6 hx hret hlk (hb hby d2_19) (by decide) (by decide) ?_
  show Q2 Z a1 q2 q3 q4 u_scanStarts u_tofIndices u_intensities h0 n0 _ T6.heap _
  rw [e6]
  exact ⟨rfl, N6, K6, E_a1, F_scanStarts, F_tofIndices, F_intensities⟩
theorem d4_0 : decode prog_58_method_9_code 0 = .ok (.lconst 0, 1) := by decide +kernel
theorem d4_1 : decode prog_58_method_9_code 1 = .ok (.lstore_n 1, 1) := by decide +kernel
theorem d4_2 : decode prog_58_method_9_code 2 = .ok (.aload_n 0, 1) := by decide +kernel
theorem d4_3 : decode prog_58_method_9_code 3 = .ok (.getfield 16, 3) := by decide +kernel
theorem d4_6 : decode prog_58_method_9_code 6 = .ok (.astore_n 3, 1) := by decide +kernel
theorem d4_7 : decode prog_58_method_9_code 7 = .ok (.aload_n 3, 1) := by decide +kernel
theorem d4_8 : decode prog_58_method_9_code 8 = .ok (.arraylength, 1) := by decide +kernel
theorem d4_9 : decode prog_58_method_9_code 9 = .ok (.istore 4, 2) := by decide +kernel
theorem d4_11 : decode prog_58_method_9_code 11 = .ok (.iconst 0, 1) := by decide +kernel
theorem d4_12 : decode prog_58_method_9_code 12 = .ok (.istore 5, 2) := by decide +kernel
theorem d4_14 : decode prog_58_method_9_code 14 = .ok (.iload 5, 2) := by decide +kernel
theorem d4_16 : decode prog_58_method_9_code 16 = .ok (.iload 4, 2) := by decide +kernel
theorem d4_18 : decode prog_58_method_9_code 18 = .ok (.if_icmp .ge 21, 3) := by decide +kernel
theorem d4_21 : decode prog_58_method_9_code 21 = .ok (.aload_n 3, 1) := by decide +kernel
theorem d4_22 : decode prog_58_method_9_code 22 = .ok (.iload 5, 2) := by decide +kernel
theorem d4_24 : decode prog_58_method_9_code 24 = .ok (.iaload, 1) := by decide +kernel
theorem d4_25 : decode prog_58_method_9_code 25 = .ok (.istore 6, 2) := by decide +kernel
theorem d4_27 : decode prog_58_method_9_code 27 = .ok (.lload_n 1, 1) := by decide +kernel
theorem d4_28 : decode prog_58_method_9_code 28 = .ok (.iload 6, 2) := by decide +kernel
theorem d4_30 : decode prog_58_method_9_code 30 = .ok (.i2l, 1) := by decide +kernel
theorem d4_31 : decode prog_58_method_9_code 31 = .ok (.ladd, 1) := by decide +kernel
theorem d4_32 : decode prog_58_method_9_code 32 = .ok (.lstore_n 1, 1) := by decide +kernel
theorem d4_33 : decode prog_58_method_9_code 33 = .ok (.iinc 5 1, 3) := by decide +kernel
theorem d4_36 : decode prog_58_method_9_code 36 = .ok (.goto (-22), 3) := by decide +kernel
theorem d4_39 : decode prog_58_method_9_code 39 = .ok (.lload_n 1, 1) := by decide +kernel
theorem d4_40 : decode prog_58_method_9_code 40 = .ok (.lreturn, 1) := by decide +kernel
theorem ef_4 (m : MethodId) (x0 : Addr) : entryFrame m #[(.ref x0)] 7 = mkF m 0 #[.val (.ref x0), .unset, .unset, .unset, .unset, .unset, .unset] [] := by first | (simp [entryFrame, mkF, argsToLocals, Value.category]; done) | rfl
def Q4 (Z : State) (a1 : Addr) (ar : Addr) (kc : ClassId) (vl : List Int32) (h0 : Heap) (n0 : Nat) (v : Option Value) (h : Heap) (L : List Loc) : Prop := v = some (.long (suml vl 0)) ∧ Fr n0 L ∧ h = h0
set_option maxRecDepth 65536 in
set_option maxHeartbeats 40000000 in
theorem rm4 (l : Launch) (Z : State) (a0 : Array Value) (hw : ∀ d ∈ tables_1, d.before a0 Z = true) (a1 : Addr) (ar : Addr) (kc : ClassId) (vl : List Int32) (h0 : Heap) (n0 : Nat) (Z0 : n0 ≤ h0.size) (F_1 : Fld Z h0 a1 "com/example/raie/raie/tdf/Frame" "intensities" "[I" (.ref ar)) (V_1 : Arv Z h0 ar kc .int (Int32.ofNat vl.length) (vl.map Value.int) (.int (0 : Int32))) (hlen : vl.length < 2 ^ 31) :
    MetN l Z (⟨"com/example/raie/raie/tdf/Frame", "summedIntensity", "()J"⟩ : MethodName) prog_58_method_9_code 7 (some .long) [] ({ frames := 0, cells := 0, slots := 0, locals := 0 } : Room) #[(.ref a1)] h0 (Q4 Z a1 ar kc vl h0 n0) := by
  refine met_n (plainFor_of_name pn_0) (fun m => ef_4 m a1) ?_
  intro p e s m below meth c s₁ X0 hx hby hml hZ hown hnm hret hlk e0
  replace hown : s.vm.findClass "com/example/raie/raie/tdf/Frame" = some m.cls := hown
  replace hnm : meth.name = "summedIntensity" := hnm
  replace hret : meth.sig.returnType = (some .long) := hret
  have N0 := Fr.nil n0
  have K0 : Keep h0 h0 [] := Keep.refl _ _
  show Ok p e below _ _ s₁ (mkF m 0 #[.val (.ref a1), .unset, .unset, .unset, .unset, .unset, .unset] [])
  refine Ok.lconst (z := (0 : Int64)) (pc' := 1) X0 hx (hb hby d4_0) rfl rfl ?_
  refine Ok.lstoreN (l' := #[.val (.ref a1), .val (.long (0 : Int64)), .second, .unset, .unset, .unset, .unset]) (pc' := 2) X0 hx (hb hby d4_1) rfl rfl ?_
  refine Ok.aloadN (pc' := 3) X0 hx (hb hby d4_2) rfl rfl rfl ?_
  refine Ok.getF (pc' := 6) X0 hx hZ hown (host := "") (Or.inl (hw _ (List.mem_of_getElem? (i := 19) rfl))) Via.refl e0 F_1 (hb hby d4_3) rfl ?_
  intro T8 X8 e8
  refine Ok.astoreN (l' := #[.val (.ref a1), .val (.long (0 : Int64)), .second, .val (.ref ar), .unset, .unset, .unset]) (pc' := 7) X8 hx (hb hby d4_6) rfl rfl rfl ?_
  refine Ok.aloadN (pc' := 8) X8 hx (hb hby d4_7) rfl rfl rfl ?_
  refine Ok.len (pc' := 9) X8 hx hZ e8 V_1 (hb hby d4_8) rfl ?_
  refine Ok.istore (l' := #[.val (.ref a1), .val (.long (0 : Int64)), .second, .val (.ref ar), .val (.int (Int32.ofNat vl.length)), .unset, .unset]) (pc' := 11) X8 hx (hb hby d4_9) rfl rfl ?_
  refine Ok.iconst (z := (0 : Int32)) (pc' := 12) X8 hx (hb hby d4_11) rfl rfl ?_
  refine Ok.istore (l' := #[.val (.ref a1), .val (.long (0 : Int64)), .second, .val (.ref ar), .val (.int (Int32.ofNat vl.length)), .val (.int (0 : Int32)), .unset]) (pc' := 14) X8 hx (hb hby d4_12) rfl rfl ?_
  have hln := ofNat_toInt hlen
  have loop : ∀ (k i : Nat) (S : Int64) (sl6 : Slot), i + k = vl.length → (sl6 = .unset ∨ ∃ z : Int32, sl6 = .val (.int z)) → suml (vl.drop i) S = suml vl 0 → Ok p e below (NE s ({ frames := 0, cells := 0, slots := 0, locals := 0 } : Room).cells ({ frames := 0, cells := 0, slots := 0, locals := 0 } : Room).slots) (Q4 Z a1 ar kc vl h0 n0) T8 (mkF m 14 #[.val (.ref a1), .val (.long S), .second, .val (.ref ar), .val (.int (Int32.ofNat vl.length)), .val (.int (Int32.ofNat i)), sl6] []) := by
    intro k
    induction k with
    | zero =>
      intro i S sl6 hi h_sl6 hS
      have hin := ofNat_toInt (n := i) (by omega)
      show Ok p e below _ _ T8 (mkF m 14 #[.val (.ref a1), .val (.long S), .second, .val (.ref ar), .val (.int (Int32.ofNat vl.length)), .val (.int (Int32.ofNat i)), sl6] [])
      refine Ok.iload (pc' := 16) X8 hx (hb hby d4_14) rfl rfl ?_
      refine Ok.iload (pc' := 18) X8 hx (hb hby d4_16) rfl rfl ?_
      refine Ok.icY (pc' := 39) X8 hx (hb hby d4_18) (bt (ic_eq (Int32.ofNat i) (Int32.ofNat vl.length)).2.2.2.1 (by omega)) (by decide) (by decide) ?_
      refine Ok.lloadN (pc' := 40) X8 hx (hb hby d4_39) rfl rfl ?_
      refine Ok.retJ X8 hx hret hlk (hb hby d4_40) (by decide) (by decide) ?_
      show Q4 Z a1 ar kc vl h0 n0 _ T8.heap _
      rw [e8]
      exact ⟨by rw [← hS, show i = vl.length by omega, suml_done], N0, rfl⟩
    | succ k ih =>
      intro i S sl6 hi h_sl6 hS
      have hin := ofNat_toInt (n := i) (by omega)
      show Ok p e below _ _ T8 (mkF m 14 #[.val (.ref a1), .val (.long S), .second, .val (.ref ar), .val (.int (Int32.ofNat vl.length)), .val (.int (Int32.ofNat i)), sl6] [])
      refine Ok.iload (pc' := 16) X8 hx (hb hby d4_14) rfl rfl ?_
      refine Ok.iload (pc' := 18) X8 hx (hb hby d4_16) rfl rfl ?_
      refine Ok.icN (pc' := 21) X8 hx (hb hby d4_18) (bf (ic_eq (Int32.ofNat i) (Int32.ofNat vl.length)).2.2.2.1 (by omega)) rfl ?_
      refine Ok.aloadN (pc' := 22) X8 hx (hb hby d4_21) rfl rfl rfl ?_
      refine Ok.iload (pc' := 24) X8 hx (hb hby d4_22) rfl rfl ?_
      refine Ok.ldI (pc' := 25) (v := (.int (vl.getD i 0))) X8 hx hZ e8 V_1 (ofNat_in (by omega) hlen) (by rw [ofNat_clamp (by omega)]; exact getD_ints vl i) (hb hby d4_24) rfl ?_
      refine Ok.istore (l' := #[.val (.ref a1), .val (.long S), .second, .val (.ref ar), .val (.int (Int32.ofNat vl.length)), .val (.int (Int32.ofNat i)), .val (.int (vl.getD i 0))]) (pc' := 27) X8 hx (hb hby d4_25) rfl (by rcases h_sl6 with rfl | ⟨_, rfl⟩ <;> rfl) ?_
      refine Ok.lloadN (pc' := 28) X8 hx (hb hby d4_27) rfl rfl ?_
      refine Ok.iload (pc' := 30) X8 hx (hb hby d4_28) rfl rfl ?_
      refine Ok.i2l (pc' := 31) X8 hx (hb hby d4_30) rfl ?_
      refine Ok.ladd (pc' := 32) X8 hx (hb hby d4_31) rfl ?_
      refine Ok.lstoreN (l' := #[.val (.ref a1), .val (.long (S + (vl.getD i 0).toInt64)), .second, .val (.ref ar), .val (.int (Int32.ofNat vl.length)), .val (.int (Int32.ofNat i)), .val (.int (vl.getD i 0))]) (pc' := 33) X8 hx (hb hby d4_32) rfl rfl ?_
      refine Ok.iinc (z := (Int32.ofNat (i + 1))) (l' := #[.val (.ref a1), .val (.long (S + (vl.getD i 0).toInt64)), .second, .val (.ref ar), .val (.int (Int32.ofNat vl.length)), .val (.int (Int32.ofNat (i + 1))), .val (.int (vl.getD i 0))]) (pc' := 36) X8 hx (hb hby d4_33) rfl rfl (ofNat_one i) rfl ?_
      refine Ok.goto (pc' := 14) X8 hx (hb hby d4_36) (by decide) (by decide) ?_
      exact ih (i + 1) _ _ (by omega) (Or.inr ⟨_, rfl⟩) (by rw [← suml_drop (by omega)]; exact hS)
  exact loop vl.length 0 0 .unset (by omega) (Or.inl rfl) rfl
theorem pn_1 : plainName "com/example/raie/raie/tdf/FrameSummedIntensityPinLaw" = true := by first | (simp [plainName, overriddenIn]; done) | decide +kernel
theorem ef_0 (m : MethodId) (x0 : Int32) (x1 : Int32) (x2 : Int32) (x3 : Int32) : entryFrame m #[(.int x0), (.int x1), (.int x2), (.int x3)] maxLocals = mkF m 0 #[.val (.int x0), .val (.int x1), .val (.int x2), .val (.int x3), .unset, .unset, .unset, .unset, .unset, .unset, .unset, .unset, .unset, .unset, .unset, .unset] [] := by first | (simp [entryFrame, mkF, argsToLocals, Value.category, maxLocals]; done) | rfl
def Q0 (Z : State) (pa : Int32) (pb : Int32) (pc0 : Int32) (pk : Int32) (h0 : Heap) (n0 : Nat) (v : Option Value) (h : Heap) (L : List Loc) : Prop := v = some (.int (1 : Int32)) ∧ Fr n0 L
set_option maxRecDepth 65536 in
set_option maxHeartbeats 40000000 in
theorem rm0 (l : Launch) (Z : State) (a0 : Array Value) (hw : ∀ d ∈ tables_1, d.before a0 Z = true) (ws : List Jvm.Cond) (pa : Int32) (pb : Int32) (pc0 : Int32) (pk : Int32) (h0 : Heap) (n0 : Nat) (Z0 : n0 ≤ h0.size)  :
    MetN l Z x code maxLocals ret ws room_1 #[(.int pa), (.int pb), (.int pc0), (.int pk)] h0 (Q0 Z pa pb pc0 pk h0 n0) := by
  refine met_n (plainFor_of_name pn_1) (fun m => ef_0 m pa pb pc0 pk) ?_
  intro p e s m below meth c s₁ X0 hx hby hml hZ hown hnm hret hlk e0
  replace hown : s.vm.findClass "com/example/raie/raie/tdf/FrameSummedIntensityPinLaw" = some m.cls := hown
  replace hnm : meth.name = "law" := hnm
  replace hret : meth.sig.returnType = (some .boolean) := hret
  have N0 := Fr.nil n0
  have K0 : Keep h0 h0 [] := Keep.refl _ _
  show Ok p e below _ _ s₁ (mkF m 0 #[.val (.int pa), .val (.int pb), .val (.int pc0), .val (.int pk), .unset, .unset, .unset, .unset, .unset, .unset, .unset, .unset, .unset, .unset, .unset, .unset] [])
  refine Ok.iloadN (pc' := 1) X0 hx (hb hby at_0) rfl rfl ?_
  refine Ok.ldcI (pc' := 3) (v := (2147483647 : Int32)) X0 hx hZ hown (hw _ (List.mem_of_getElem? (i := 0) rfl)) (hb hby at_1) rfl ?_
  refine Ok.iand (pc' := 4) X0 hx (hb hby at_3) rfl ?_
  refine Ok.istore (l' := #[.val (.int pa), .val (.int pb), .val (.int pc0), .val (.int pk), .val (.int (pa &&& (2147483647 : Int32))), .unset, .unset, .unset, .unset, .unset, .unset, .unset, .unset, .unset, .unset, .unset]) (pc' := 6) X0 hx (hb hby at_4) rfl rfl ?_
  refine Ok.iloadN (pc' := 7) X0 hx (hb hby at_6) rfl rfl ?_
  refine Ok.ldcI (pc' := 9) (v := (2147483647 : Int32)) X0 hx hZ hown (hw _ (List.mem_of_getElem? (i := 0) rfl)) (hb hby at_7) rfl ?_
  refine Ok.iand (pc' := 10) X0 hx (hb hby at_9) rfl ?_
  refine Ok.istore (l' := #[.val (.int pa), .val (.int pb), .val (.int pc0), .val (.int pk), .val (.int (pa &&& (2147483647 : Int32))), .val (.int (pb &&& (2147483647 : Int32))), .unset, .unset, .unset, .unset, .unset, .unset, .unset, .unset, .unset, .unset]) (pc' := 12) X0 hx (hb hby at_10) rfl rfl ?_
  refine Ok.iloadN (pc' := 13) X0 hx (hb hby at_12) rfl rfl ?_
  refine Ok.ldcI (pc' := 15) (v := (2147483647 : Int32)) X0 hx hZ hown (hw _ (List.mem_of_getElem? (i := 0) rfl)) (hb hby at_13) rfl ?_
  refine Ok.iand (pc' := 16) X0 hx (hb hby at_15) rfl ?_
  refine Ok.istore (l' := #[.val (.int pa), .val (.int pb), .val (.int pc0), .val (.int pk), .val (.int (pa &&& (2147483647 : Int32))), .val (.int (pb &&& (2147483647 : Int32))), .val (.int (pc0 &&& (2147483647 : Int32))), .unset, .unset, .unset, .unset, .unset, .unset, .unset, .unset, .unset]) (pc' := 18) X0 hx (hb hby at_16) rfl rfl ?_
  refine Ok.iloadN (pc' := 19) X0 hx (hb hby at_18) rfl rfl ?_
  refine Ok.iconst (z := (3 : Int32)) (pc' := 20) X0 hx (hb hby at_19) rfl rfl ?_
  refine Ok.iand (pc' := 21) X0 hx (hb hby at_20) rfl ?_
  refine Ok.istore (l' := #[.val (.int pa), .val (.int pb), .val (.int pc0), .val (.int pk), .val (.int (pa &&& (2147483647 : Int32))), .val (.int (pb &&& (2147483647 : Int32))), .val (.int (pc0 &&& (2147483647 : Int32))), .val (.int (pk &&& (3 : Int32))), .unset, .unset, .unset, .unset, .unset, .unset, .unset, .unset]) (pc' := 23) X0 hx (hb hby at_21) rfl rfl ?_
  have k36 : ∀ (tw : Int32), Ok p e below (NE s room_1.cells room_1.slots) (Q0 Z pa pb pc0 pk h0 n0) s₁ (mkF m 36 #[.val (.int pa), .val (.int pb), .val (.int pc0), .val (.int pk), .val (.int (pa &&& (2147483647 : Int32))), .val (.int (pb &&& (2147483647 : Int32))), .val (.int (pc0 &&& (2147483647 : Int32))), .val (.int (pk &&& (3 : Int32))), .unset, .unset, .unset, .unset, .unset, .unset, .unset, .unset] [(.int tw)]) := by
    intro tw
    refine Ok.istore (l' := #[.val (.int pa), .val (.int pb), .val (.int pc0), .val (.int pk), .val (.int (pa &&& (2147483647 : Int32))), .val (.int (pb &&& (2147483647 : Int32))), .val (.int (pc0 &&& (2147483647 : Int32))), .val (.int (pk &&& (3 : Int32))), .val (.int tw), .unset, .unset, .unset, .unset, .unset, .unset, .unset]) (pc' := 38) X0 hx (hb hby at_36) rfl rfl ?_
    refine Ok.iload (pc' := 40) X0 hx (hb hby at_38) rfl rfl ?_
    by_cases hc40 : ¬ (pk &&& (3 : Int32)).toInt = 0
    · refine Ok.ifY (pc' := 59) X0 hx (hb hby at_40) (bt (i0 .ne (pk &&& (3 : Int32)) (ic_eq (pk &&& (3 : Int32)) 0).2.1) hc40) (by decide) (by decide) ?_
      refine Ok.iload (pc' := 61) X0 hx (hb hby at_59) rfl rfl ?_
      refine Ok.iconst (z := (1 : Int32)) (pc' := 62) X0 hx (hb hby at_61) rfl rfl ?_
      by_cases hc62 : ¬ (pk &&& (3 : Int32)).toInt = 1
      · refine Ok.icY (pc' := 92) X0 hx (hb hby at_62) (bt (ic_eq (pk &&& (3 : Int32)) (1 : Int32)).2.1 hc62) (by decide) (by decide) ?_
        refine Ok.iload (pc' := 94) X0 hx (hb hby at_92) rfl rfl ?_
        refine Ok.iconst (z := (2 : Int32)) (pc' := 95) X0 hx (hb hby at_94) rfl rfl ?_
        by_cases hc95 : ¬ (pk &&& (3 : Int32)).toInt = 2
        · refine Ok.icY (pc' := 138) X0 hx (hb hby at_95) (bt (ic_eq (pk &&& (3 : Int32)) (2 : Int32)).2.1 hc95) (by decide) (by decide) ?_
          refine Ok.iconst (z := (3 : Int32)) (pc' := 139) X0 hx (hb hby at_138) rfl rfl ?_
          refine Ok.newP (pc' := 141) (cap := 3) X0 hx hZ (hw _ (List.mem_of_getElem? (i := 1) rfl)) rfl e0 (hb hby at_139) rfl (by decide) (by decide) (by decide) (by decide) (by decide) ?_
          intro T9 h9 b9 kc9 g9 X9 e9 E9 V9
          have ge_b9 : n0 ≤ b9 := Nat.le_trans Z0 (Nat.le_of_eq g9.symm)
          have sz_b9 : h0.size ≤ b9 := Nat.le_trans K0.1 (Nat.le_of_eq g9.symm)
          have K9 : Keep h0 h9 [] := K0.ext E9
          have Z10 : n0 ≤ h9.size := Nat.le_trans Z0 E9.1
          replace V9 : Arv Z h9 b9 kc9 .int (3 : Int32) [(.int (0 : Int32)), (.int (0 : Int32)), (.int (0 : Int32))] (.int (0 : Int32)) := V9.pad (pad_rep [] (.int (0 : Int32)) 3)
          show Ok p e below _ _ T9 (mkF m 141 #[.val (.int pa), .val (.int pb), .val (.int pc0), .val (.int pk), .val (.int (pa &&& (2147483647 : Int32))), .val (.int (pb &&& (2147483647 : Int32))), .val (.int (pc0 &&& (2147483647 : Int32))), .val (.int (pk &&& (3 : Int32))), .val (.int tw), .unset, .unset, .unset, .unset, .unset, .unset, .unset] [(.ref b9)])
          refine Ok.dup (pc' := 142) X9 hx (hb hby at_141) rfl rfl ?_
          refine Ok.iconst (z := (0 : Int32)) (pc' := 143) X9 hx (hb hby at_142) rfl rfl ?_
          refine Ok.iconst (z := (0 : Int32)) (pc' := 144) X9 hx (hb hby at_143) rfl rfl ?_
          refine Ok.stI (pc' := 145) (i := 0) X9 hx hZ e9 V9 ⟨by decide, by decide⟩ rfl (Nat.le_of_ble_eq_true rfl) (hb hby at_144) rfl ?_
          intro T11 h11 X11 e11 W11 V11
          replace V11 : Arv Z h11 b9 kc9 .int (3 : Int32) [(.int (0 : Int32)), (.int (0 : Int32)), (.int (0 : Int32))] (.int (0 : Int32)) := V11
          have N11 := Fr.snoc X11 N0 ge_b9
          have K11 : Keep h0 h11 [] := K9.wr W11 (Or.inr sz_b9)
          have Z12 : n0 ≤ h11.size := Nat.le_trans Z10 (Keep.of_wr W11).1
          refine Ok.dup (pc' := 146) X11 hx (hb hby at_145) rfl rfl ?_
          refine Ok.iconst (z := (1 : Int32)) (pc' := 147) X11 hx (hb hby at_146) rfl rfl ?_
          refine Ok.iconst (z := (1 : Int32)) (pc' := 148) X11 hx (hb hby at_147) rfl rfl ?_
          refine Ok.stI (pc' := 149) (i := 1) X11 hx hZ e11 V11 ⟨by decide, by decide⟩ rfl (Nat.le_of_ble_eq_true rfl) (hb hby at_148) rfl ?_
          intro T13 h13 X13 e13 W13 V13
          replace V13 : Arv Z h13 b9 kc9 .int (3 : Int32) [(.int (0 : Int32)), (.int (1 : Int32)), (.int (0 : Int32))] (.int (0 : Int32)) := V13
          have N13 := Fr.snoc X13 N11 ge_b9
          have K13 : Keep h0 h13 [] := K11.wr W13 (Or.inr sz_b9)
          have Z14 : n0 ≤ h13.size := Nat.le_trans Z12 (Keep.of_wr W13).1
          refine Ok.dup (pc' := 150) X13 hx (hb hby at_149) rfl rfl ?_
          refine Ok.iconst (z := (2 : Int32)) (pc' := 151) X13 hx (hb hby at_150) rfl rfl ?_
          refine Ok.iconst (z := (2 : Int32)) (pc' := 152) X13 hx (hb hby at_151) rfl rfl ?_
          refine Ok.stI (pc' := 153) (i := 2) X13 hx hZ e13 V13 ⟨by decide, by decide⟩ rfl (Nat.le_of_ble_eq_true rfl) (hb hby at_152) rfl ?_
          intro T15 h15 X15 e15 W15 V15
          replace V15 : Arv Z h15 b9 kc9 .int (3 : Int32) [(.int (0 : Int32)), (.int (1 : Int32)), (.int (2 : Int32))] (.int (0 : Int32)) := V15
          have N15 := Fr.snoc X15 N13 ge_b9
          have K15 : Keep h0 h15 [] := K13.wr W15 (Or.inr sz_b9)
          have Z16 : n0 ≤ h15.size := Nat.le_trans Z14 (Keep.of_wr W15).1
          refine Ok.astore (l' := #[.val (.int pa), .val (.int pb), .val (.int pc0), .val (.int pk), .val (.int (pa &&& (2147483647 : Int32))), .val (.int (pb &&& (2147483647 : Int32))), .val (.int (pc0 &&& (2147483647 : Int32))), .val (.int (pk &&& (3 : Int32))), .val (.int tw), .val (.ref b9), .unset, .unset, .unset, .unset, .unset, .unset]) (pc' := 155) X15 hx (hb hby at_153) rfl rfl rfl ?_
          refine Ok.iconst (z := (3 : Int32)) (pc' := 156) X15 hx (hb hby at_155) rfl rfl ?_
          refine Ok.newP (pc' := 158) (cap := 3) X15 hx hZ (hw _ (List.mem_of_getElem? (i := 1) rfl)) rfl e15 (hb hby at_156) rfl (by decide) (by decide) (by decide) (by decide) (by decide) ?_
          intro T17 h17 b17 kc17 g17 X17 e17 E17 V17
          have ne_b9_b17 : Nq b9 b17 := Nat.ne_of_lt (Nat.lt_of_lt_of_eq V15.lt g17.symm)
          replace V15 := V15.ext E17
          have ge_b17 : n0 ≤ b17 := Nat.le_trans Z16 (Nat.le_of_eq g17.symm)
          have sz_b17 : h0.size ≤ b17 := Nat.le_trans K15.1 (Nat.le_of_eq g17.symm)
          have K17 : Keep h0 h17 [] := K15.ext E17
          have Z18 : n0 ≤ h17.size := Nat.le_trans Z16 E17.1
          replace V17 : Arv Z h17 b17 kc17 .int (3 : Int32) [(.int (0 : Int32)), (.int (0 : Int32)), (.int (0 : Int32))] (.int (0 : Int32)) := V17.pad (pad_rep [] (.int (0 : Int32)) 3)
          show Ok p e below _ _ T17 (mkF m 158 #[.val (.int pa), .val (.int pb), .val (.int pc0), .val (.int pk), .val (.int (pa &&& (2147483647 : Int32))), .val (.int (pb &&& (2147483647 : Int32))), .val (.int (pc0 &&& (2147483647 : Int32))), .val (.int (pk &&& (3 : Int32))), .val (.int tw), .val (.ref b9), .unset, .unset, .unset, .unset, .unset, .unset] [(.ref b17)])
          refine Ok.dup (pc' := 159) X17 hx (hb hby at_158) rfl rfl ?_
          refine Ok.iconst (z := (0 : Int32)) (pc' := 160) X17 hx (hb hby at_159) rfl rfl ?_
          refine Ok.iload (pc' := 162) X17 hx (hb hby at_160) rfl rfl ?_
          refine Ok.stI (pc' := 163) (i := 0) X17 hx hZ e17 V17 ⟨by decide, by decide⟩ rfl (Nat.le_of_ble_eq_true rfl) (hb hby at_162) rfl ?_
          intro T19 h19 X19 e19 W19 V19
          replace V15 := V15.other W19 ne_b9_b17
          replace V19 : Arv Z h19 b17 kc17 .int (3 : Int32) [(.int (pa &&& (2147483647 : Int32))), (.int (0 : Int32)), (.int (0 : Int32))] (.int (0 : Int32)) := V19
          have N19 := Fr.snoc X19 N15 ge_b17
          have K19 : Keep h0 h19 [] := K17.wr W19 (Or.inr sz_b17)
          have Z20 : n0 ≤ h19.size := Nat.le_trans Z18 (Keep.of_wr W19).1
          refine Ok.dup (pc' := 164) X19 hx (hb hby at_163) rfl rfl ?_
          refine Ok.iconst (z := (1 : Int32)) (pc' := 165) X19 hx (hb hby at_164) rfl rfl ?_
          refine Ok.iload (pc' := 167) X19 hx (hb hby at_165) rfl rfl ?_
          refine Ok.stI (pc' := 168) (i := 1) X19 hx hZ e19 V19 ⟨by decide, by decide⟩ rfl (Nat.le_of_ble_eq_true rfl) (hb hby at_167) rfl ?_
          intro T21 h21 X21 e21 W21 V21
          replace V15 := V15.other W21 ne_b9_b17
          replace V21 : Arv Z h21 b17 kc17 .int (3 : Int32) [(.int (pa &&& (2147483647 : Int32))), (.int (pb &&& (2147483647 : Int32))), (.int (0 : Int32))] (.int (0 : Int32)) := V21
          have N21 := Fr.snoc X21 N19 ge_b17
          have K21 : Keep h0 h21 [] := K19.wr W21 (Or.inr sz_b17)
          have Z22 : n0 ≤ h21.size := Nat.le_trans Z20 (Keep.of_wr W21).1
          refine Ok.dup (pc' := 169) X21 hx (hb hby at_168) rfl rfl ?_
          refine Ok.iconst (z := (2 : Int32)) (pc' := 170) X21 hx (hb hby at_169) rfl rfl ?_
          refine Ok.iload (pc' := 172) X21 hx (hb hby at_170) rfl rfl ?_
          refine Ok.stI (pc' := 173) (i := 2) X21 hx hZ e21 V21 ⟨by decide, by decide⟩ rfl (Nat.le_of_ble_eq_true rfl) (hb hby at_172) rfl ?_
          intro T23 h23 X23 e23 W23 V23
          replace V15 := V15.other W23 ne_b9_b17
          replace V23 : Arv Z h23 b17 kc17 .int (3 : Int32) [(.int (pa &&& (2147483647 : Int32))), (.int (pb &&& (2147483647 : Int32))), (.int (pc0 &&& (2147483647 : Int32)))] (.int (0 : Int32)) := V23
          have N23 := Fr.snoc X23 N21 ge_b17
          have K23 : Keep h0 h23 [] := K21.wr W23 (Or.inr sz_b17)
          have Z24 : n0 ≤ h23.size := Nat.le_trans Z22 (Keep.of_wr W23).1
          refine Ok.astore (l' := #[.val (.int pa), .val (.int pb), .val (.int pc0), .val (.int pk), .val (.int (pa &&& (2147483647 : Int32))), .val (.int (pb &&& (2147483647 : Int32))), .val (.int (pc0 &&& (2147483647 : Int32))), .val (.int (pk &&& (3 : Int32))), .val (.int tw), .val (.ref b9), .val (.ref b17), .unset, .unset, .unset, .unset, .unset]) (pc' := 175) X23 hx (hb hby at_173) rfl rfl rfl ?_
          refine Ok.iload (pc' := 177) X23 hx (hb hby at_175) rfl rfl ?_
          refine Ok.i2l (pc' := 178) X23 hx (hb hby at_177) rfl ?_
          refine Ok.iload (pc' := 180) X23 hx (hb hby at_178) rfl rfl ?_
          refine Ok.i2l (pc' := 181) X23 hx (hb hby at_180) rfl ?_
          refine Ok.ladd (pc' := 182) X23 hx (hb hby at_181) rfl ?_
          refine Ok.iload (pc' := 184) X23 hx (hb hby at_182) rfl rfl ?_
          refine Ok.i2l (pc' := 185) X23 hx (hb hby at_184) rfl ?_
          refine Ok.ladd (pc' := 186) X23 hx (hb hby at_185) rfl ?_
          refine Ok.lstore (l' := #[.val (.int pa), .val (.int pb), .val (.int pc0), .val (.int pk), .val (.int (pa &&& (2147483647 : Int32))), .val (.int (pb &&& (2147483647 : Int32))), .val (.int (pc0 &&& (2147483647 : Int32))), .val (.int (pk &&& (3 : Int32))), .val (.int tw), .val (.ref b9), .val (.ref b17), .val (.long (((pa &&& (2147483647 : Int32)).toInt64 + (pb &&& (2147483647 : Int32)).toInt64) + (pc0 &&& (2147483647 : Int32)).toInt64)), .second, .unset, .unset, .unset]) (pc' := 188) X23 hx (hb hby at_186) rfl rfl ?_
          refine Ok.iconst (z := (1 : Int32)) (pc' := 189) X23 hx (hb hby at_188) rfl rfl ?_
          refine Ok.iload (pc' := 191) X23 hx (hb hby at_189) rfl rfl ?_
          refine Ok.callS (pc' := 194) (W := 0)  (argsL := [(.int (1 : Int32)), (.int (pk &&& (3 : Int32)))]) (rest := []) X23 hx hZ hown (rm1 l Z a0 hw (1 : Int32) (pk &&& (3 : Int32)) h23 n0 Z24 ) (hw _ (List.mem_of_getElem? (i := 2) rfl)) (hw _ (List.mem_of_getElem? (i := 3) rfl)) (hw _ (List.mem_of_getElem? (i := 4) rfl)) (hw _ (List.mem_of_getElem? (i := 5) rfl)) (by decide) e23 (by decide) (by decide) (by decide) (by decide) (lenOf pd_0 rfl) rfl rfl (Nat.le_of_eq rfl) (by rw [hml]; rfl) (hb hby at_191) rfl ?_
          intro v25 T25 L25 X25 hQ25
          obtain ⟨z25, rfl, hz25, Nq25, eq25⟩ := hQ25
          have N25 := Fr.app N23 Nq25
          show Ok p e below _ _ T25 (mkF m 194 #[.val (.int pa), .val (.int pb), .val (.int pc0), .val (.int pk), .val (.int (pa &&& (2147483647 : Int32))), .val (.int (pb &&& (2147483647 : Int32))), .val (.int (pc0 &&& (2147483647 : Int32))), .val (.int (pk &&& (3 : Int32))), .val (.int tw), .val (.ref b9), .val (.ref b17), .val (.long (((pa &&& (2147483647 : Int32)).toInt64 + (pb &&& (2147483647 : Int32)).toInt64) + (pc0 &&& (2147483647 : Int32)).toInt64)), .second, .unset, .unset, .unset] [(.int z25)])
          refine Ok.istore (l' := #[.val (.int pa), .val (.int pb), .val (.int pc0), .val (.int pk), .val (.int (pa &&& (2147483647 : Int32))), .val (.int (pb &&& (2147483647 : Int32))), .val (.int (pc0 &&& (2147483647 : Int32))), .val (.int (pk &&& (3 : Int32))), .val (.int tw), .val (.ref b9), .val (.ref b17), .val (.long (((pa &&& (2147483647 : Int32)).toInt64 + (pb &&& (2147483647 : Int32)).toInt64) + (pc0 &&& (2147483647 : Int32)).toInt64)), .second, .val (.int z25), .unset, .unset]) (pc' := 196) X25 hx (hb hby at_194) rfl rfl ?_
          refine Ok.iload (pc' := 198) X25 hx (hb hby at_196) rfl rfl ?_
          by_cases hc198 : tw.toInt = 0
          · refine Ok.ifY (pc' := 221) X25 hx (hb hby at_198) (bt (i0 .eq tw (ic_eq tw 0).1) hc198) (by decide) (by decide) ?_
            refine Ok.iconst (z := (2 : Int32)) (pc' := 222) X25 hx (hb hby at_221) rfl rfl ?_
            refine Ok.newP (pc' := 224) (cap := 2) X25 hx hZ (hw _ (List.mem_of_getElem? (i := 1) rfl)) rfl eq25 (hb hby at_222) rfl (by decide) (by decide) (by decide) (by decide) (by decide) ?_
            intro T26 h26 b26 kc26 g26 X26 e26 E26 V26
            have ne_b9_b26 : Nq b9 b26 := Nat.ne_of_lt (Nat.lt_of_lt_of_eq V15.lt g26.symm)
            have ne_b17_b26 : Nq b17 b26 := Nat.ne_of_lt (Nat.lt_of_lt_of_eq V23.lt g26.symm)
            replace V15 := V15.ext E26
            replace V23 := V23.ext E26
            have ge_b26 : n0 ≤ b26 := Nat.le_trans Z24 (Nat.le_of_eq g26.symm)
            have sz_b26 : h0.size ≤ b26 := Nat.le_trans K23.1 (Nat.le_of_eq g26.symm)
            have K26 : Keep h0 h26 [] := K23.ext E26
            have Z27 : n0 ≤ h26.size := Nat.le_trans Z24 E26.1
            replace V26 : Arv Z h26 b26 kc26 .int (2 : Int32) [(.int (0 : Int32)), (.int (0 : Int32))] (.int (0 : Int32)) := V26.pad (pad_rep [] (.int (0 : Int32)) 2)
            show Ok p e below _ _ T26 (mkF m 224 #[.val (.int pa), .val (.int pb), .val (.int pc0), .val (.int pk), .val (.int (pa &&& (2147483647 : Int32))), .val (.int (pb &&& (2147483647 : Int32))), .val (.int (pc0 &&& (2147483647 : Int32))), .val (.int (pk &&& (3 : Int32))), .val (.int tw), .val (.ref b9), .val (.ref b17), .val (.long (((pa &&& (2147483647 : Int32)).toInt64 + (pb &&& (2147483647 : Int32)).toInt64) + (pc0 &&& (2147483647 : Int32)).toInt64)), .second, .val (.int z25), .unset, .unset] [(.ref b26)])
            refine Ok.dup (pc' := 225) X26 hx (hb hby at_224) rfl rfl ?_
            refine Ok.iconst (z := (0 : Int32)) (pc' := 226) X26 hx (hb hby at_225) rfl rfl ?_
            refine Ok.iconst (z := (0 : Int32)) (pc' := 227) X26 hx (hb hby at_226) rfl rfl ?_
            refine Ok.stI (pc' := 228) (i := 0) X26 hx hZ e26 V26 ⟨by decide, by decide⟩ rfl (Nat.le_of_ble_eq_true rfl) (hb hby at_227) rfl ?_
            intro T28 h28 X28 e28 W28 V28
            replace V15 := V15.other W28 ne_b9_b26
            replace V23 := V23.other W28 ne_b17_b26
            replace V28 : Arv Z h28 b26 kc26 .int (2 : Int32) [(.int (0 : Int32)), (.int (0 : Int32))] (.int (0 : Int32)) := V28
            have N28 := Fr.snoc X28 N25 ge_b26
            have K28 : Keep h0 h28 [] := K26.wr W28 (Or.inr sz_b26)
            have Z29 : n0 ≤ h28.size := Nat.le_trans Z27 (Keep.of_wr W28).1
            refine Ok.dup (pc' := 229) X28 hx (hb hby at_228) rfl rfl ?_
            refine Ok.iconst (z := (1 : Int32)) (pc' := 230) X28 hx (hb hby at_229) rfl rfl ?_
            refine Ok.iload (pc' := 232) X28 hx (hb hby at_230) rfl rfl ?_
            refine Ok.stI (pc' := 233) (i := 1) X28 hx hZ e28 V28 ⟨by decide, by decide⟩ rfl (Nat.le_of_ble_eq_true rfl) (hb hby at_232) rfl ?_
            intro T30 h30 X30 e30 W30 V30
            replace V15 := V15.other W30 ne_b9_b26
            replace V23 := V23.other W30 ne_b17_b26
            replace V30 : Arv Z h30 b26 kc26 .int (2 : Int32) [(.int (0 : Int32)), (.int (pk &&& (3 : Int32)))] (.int (0 : Int32)) := V30
            have N30 := Fr.snoc X30 N28 ge_b26
            have K30 : Keep h0 h30 [] := K28.wr W30 (Or.inr sz_b26)
            have Z31 : n0 ≤ h30.size := Nat.le_trans Z29 (Keep.of_wr W30).1
            refine Ok.astore (l' := #[.val (.int pa), .val (.int pb), .val (.int pc0), .val (.int pk), .val (.int (pa &&& (2147483647 : Int32))), .val (.int (pb &&& (2147483647 : Int32))), .val (.int (pc0 &&& (2147483647 : Int32))), .val (.int (pk &&& (3 : Int32))), .val (.int tw), .val (.ref b9), .val (.ref b17), .val (.long (((pa &&& (2147483647 : Int32)).toInt64 + (pb &&& (2147483647 : Int32)).toInt64) + (pc0 &&& (2147483647 : Int32)).toInt64)), .second, .val (.int z25), .val (.ref b26), .unset]) (pc' := 235) X30 hx (hb hby at_233) rfl rfl rfl ?_
            refine Ok.new (pc' := 238) X30 hx hZ hown (hw _ (List.mem_of_getElem? (i := 6) rfl)) (hw _ (List.mem_of_getElem? (i := 7) rfl)) (hw _ (List.mem_of_getElem? (i := 8) rfl)) e30 (hb hby at_235) rfl (by decide) (by decide) ?_
            intro T32 h32 b32 g32 X32 e32 E32 A32 D32
            have ne_b9_b32 : Nq b9 b32 := Nat.ne_of_lt (Nat.lt_of_lt_of_eq V15.lt g32.symm)
            have ne_b17_b32 : Nq b17 b32 := Nat.ne_of_lt (Nat.lt_of_lt_of_eq V23.lt g32.symm)
            have ne_b26_b32 : Nq b26 b32 := Nat.ne_of_lt (Nat.lt_of_lt_of_eq V30.lt g32.symm)
            replace V15 := V15.ext E32
            replace V23 := V23.ext E32
            replace V30 := V30.ext E32
            have ge_b32 : n0 ≤ b32 := Nat.le_trans Z31 (Nat.le_of_eq g32.symm)
            have sz_b32 : h0.size ≤ b32 := Nat.le_trans K30.1 (Nat.le_of_eq g32.symm)
            have K32 : Keep h0 h32 [] := K30.ext E32
            have Z33 : n0 ≤ h32.size := Nat.le_trans Z31 E32.1
            have F32_scanStarts : Fld Z h32 b32 "com/example/raie/raie/tdf/Frame" "scanStarts" "[I" .null := D32 (Or.inr (hw _ (List.mem_of_getElem? (i := 16) rfl))) (ty := (.array .int)) (by decide)
            have F32_tofIndices : Fld Z h32 b32 "com/example/raie/raie/tdf/Frame" "tofIndices" "[I" .null := D32 (Or.inr (hw _ (List.mem_of_getElem? (i := 18) rfl))) (ty := (.array .int)) (by decide)
            have F32_intensities : Fld Z h32 b32 "com/example/raie/raie/tdf/Frame" "intensities" "[I" .null := D32 (Or.inr (hw _ (List.mem_of_getElem? (i := 20) rfl))) (ty := (.array .int)) (by decide)
            show Ok p e below _ _ T32 (mkF m 238 #[.val (.int pa), .val (.int pb), .val (.int pc0), .val (.int pk), .val (.int (pa &&& (2147483647 : Int32))), .val (.int (pb &&& (2147483647 : Int32))), .val (.int (pc0 &&& (2147483647 : Int32))), .val (.int (pk &&& (3 : Int32))), .val (.int tw), .val (.ref b9), .val (.ref b17), .val (.long (((pa &&& (2147483647 : Int32)).toInt64 + (pb &&& (2147483647 : Int32)).toInt64) + (pc0 &&& (2147483647 : Int32)).toInt64)), .second, .val (.int z25), .val (.ref b26), .unset] [(.ref b32)])
            refine Ok.dup (pc' := 239) X32 hx (hb hby at_238) rfl rfl ?_
            refine Ok.aload (pc' := 241) X32 hx (hb hby at_239) rfl rfl rfl ?_
            refine Ok.aload (pc' := 243) X32 hx (hb hby at_241) rfl rfl rfl ?_
            refine Ok.aload (pc' := 245) X32 hx (hb hby at_243) rfl rfl rfl ?_
            refine Ok.init (pc' := 248) (W := 1) (a := b32)  (argsL := [(.ref b26), (.ref b9), (.ref b17)]) (rest := [(.ref b32)]) X32 hx hZ hown (rm2 l Z a0 hw b32 b26 b9 b17 .null .null .null h32 n0 Z33 A32 ge_b32 F32_scanStarts F32_tofIndices F32_intensities) rfl (hw _ (List.mem_of_getElem? (i := 9) rfl)) (hw _ (List.mem_of_getElem? (i := 10) rfl)) (hw _ (List.mem_of_getElem? (i := 8) rfl)) (hw _ (List.mem_of_getElem? (i := 11) rfl)) (by decide) e32 (by decide) (by decide) (by decide) (by decide) (lenOf pd_1 rfl) rfl rfl (Nat.le_of_eq rfl) (by rw [hml]; rfl) (hb hby at_245) rfl ?_
            intro v34 T34 L34 X34 hQ34
            obtain ⟨rfl, Nq34, Kq34, Aq34, Fq34_scanStarts, Fq34_tofIndices, Fq34_intensities⟩ := hQ34
            have N34 := Fr.app N30 Nq34
            replace V15 := V15.keep Kq34 (ninS ne_b9_b32 nin0)
            replace V23 := V23.keep Kq34 (ninS ne_b17_b32 nin0)
            replace V30 := V30.keep Kq34 (ninS ne_b26_b32 nin0)
            replace A32 := A32.keep Kq34
            have K34' : Keep h0 T34.heap [] := K32.trans Kq34 (allS (Or.inr sz_b32) all0)
            have Z35 : n0 ≤ T34.heap.size := Nat.le_trans Z33 Kq34.1
            show Ok p e below _ _ T34 (mkF m 248 #[.val (.int pa), .val (.int pb), .val (.int pc0), .val (.int pk), .val (.int (pa &&& (2147483647 : Int32))), .val (.int (pb &&& (2147483647 : Int32))), .val (.int (pc0 &&& (2147483647 : Int32))), .val (.int (pk &&& (3 : Int32))), .val (.int tw), .val (.ref b9), .val (.ref b17), .val (.long (((pa &&& (2147483647 : Int32)).toInt64 + (pb &&& (2147483647 : Int32)).toInt64) + (pc0 &&& (2147483647 : Int32)).toInt64)), .second, .val (.int z25), .val (.ref b26), .unset] [(.ref b32)])
            refine Ok.astore (l' := #[.val (.int pa), .val (.int pb), .val (.int pc0), .val (.int pk), .val (.int (pa &&& (2147483647 : Int32))), .val (.int (pb &&& (2147483647 : Int32))), .val (.int (pc0 &&& (2147483647 : Int32))), .val (.int (pk &&& (3 : Int32))), .val (.int tw), .val (.ref b9), .val (.ref b17), .val (.long (((pa &&& (2147483647 : Int32)).toInt64 + (pb &&& (2147483647 : Int32)).toInt64) + (pc0 &&& (2147483647 : Int32)).toInt64)), .second, .val (.int z25), .val (.ref b26), .val (.ref b32)]) (pc' := 250) X34 hx (hb hby at_248) rfl rfl rfl ?_
            refine Ok.aload (pc' := 252) X34 hx (hb hby at_250) rfl rfl rfl ?_
            refine Ok.virt (pc' := 255) (W := 0) (a := b32)  (argsL := []) (rest := []) X34 hx hZ hown (rm4 l Z a0 hw b32 b17 kc17 [(pa &&& (2147483647 : Int32)), (pb &&& (2147483647 : Int32)), (pc0 &&& (2147483647 : Int32))] T34.heap n0 Z35 Fq34_intensities V23 (by show 3 < 2 ^ 31; decide)) (hw _ (List.mem_of_getElem? (i := 21) rfl)) (hw _ (List.mem_of_getElem? (i := 22) rfl)) (notFace_of_selects (args := #[]) (mvT hZ (hw _ (List.mem_of_getElem? (i := 24) rfl)))) (hw _ (List.mem_of_getElem? (i := 24) rfl)) (hw _ (List.mem_of_getElem? (i := 23) rfl)) (hw _ (List.mem_of_getElem? (i := 8) rfl)) (hw _ (List.mem_of_getElem? (i := 25) rfl)) (by decide) rfl A32 (by decide) (by decide) (by decide) (by decide) (lenOf pd_3 rfl) rfl rfl (Nat.le_of_eq rfl) (by rw [hml]; rfl) (hb hby at_252) rfl ?_
            intro v36 T36 L36 X36 hQ36
            obtain ⟨rfl, Nq36, eq36⟩ := hQ36
            have N36 := Fr.app N34 Nq36
            show Ok p e below _ _ T36 (mkF m 255 #[.val (.int pa), .val (.int pb), .val (.int pc0), .val (.int pk), .val (.int (pa &&& (2147483647 : Int32))), .val (.int (pb &&& (2147483647 : Int32))), .val (.int (pc0 &&& (2147483647 : Int32))), .val (.int (pk &&& (3 : Int32))), .val (.int tw), .val (.ref b9), .val (.ref b17), .val (.long (((pa &&& (2147483647 : Int32)).toInt64 + (pb &&& (2147483647 : Int32)).toInt64) + (pc0 &&& (2147483647 : Int32)).toInt64)), .second, .val (.int z25), .val (.ref b26), .val (.ref b32)] [(.long (suml [(pa &&& (2147483647 : Int32)), (pb &&& (2147483647 : Int32)), (pc0 &&& (2147483647 : Int32))] 0))])
            have hs36 : suml [(pa &&& (2147483647 : Int32)), (pb &&& (2147483647 : Int32)), (pc0 &&& (2147483647 : Int32))] 0 = (((pa &&& (2147483647 : Int32)).toInt64 + (pb &&& (2147483647 : Int32)).toInt64) + (pc0 &&& (2147483647 : Int32)).toInt64) := by simp [suml]
            refine Ok.lload (pc' := 257) X36 hx (hb hby at_255) rfl rfl ?_
            refine Ok.lcmp (pc' := 258) X36 hx (hb hby at_257) rfl ?_
            refine Ok.ifN (pc' := 261) X36 hx (hb hby at_258) (bf (lc_all (suml [(pa &&& (2147483647 : Int32)), (pb &&& (2147483647 : Int32)), (pc0 &&& (2147483647 : Int32))] 0) (((pa &&& (2147483647 : Int32)).toInt64 + (pb &&& (2147483647 : Int32)).toInt64) + (pc0 &&& (2147483647 : Int32)).toInt64)).2.1 (fun q => q (by rw [hs36]))) rfl ?_
            refine Ok.iconst (z := (1 : Int32)) (pc' := 262) X36 hx (hb hby at_261) rfl rfl ?_
            refine Ok.goto (pc' := 266) X36 hx (hb hby at_262) (by decide) (by decide) ?_
            refine Ok.retI X36 hx hret hlk (Or.inr (Or.inl rfl)) rfl (hb hby at_266) (by decide) (by decide) ?_
            show Q0 Z pa pb pc0 pk h0 n0 _ T36.heap _
            rw [eq36]
            exact ⟨rfl, N36⟩
          · refine Ok.ifN (pc' := 201) X25 hx (hb hby at_198) (bf (i0 .eq tw (ic_eq tw 0).1) hc198) rfl ?_
            refine Ok.iconst (z := (3 : Int32)) (pc' := 202) X25 hx (hb hby at_201) rfl rfl ?_
            refine Ok.newP (pc' := 204) (cap := 3) X25 hx hZ (hw _ (List.mem_of_getElem? (i := 1) rfl)) rfl eq25 (hb hby at_202) rfl (by decide) (by decide) (by decide) (by decide) (by decide) ?_
            intro T37 h37 b37 kc37 g37 X37 e37 E37 V37
            have ne_b9_b37 : Nq b9 b37 := Nat.ne_of_lt (Nat.lt_of_lt_of_eq V15.lt g37.symm)
            have ne_b17_b37 : Nq b17 b37 := Nat.ne_of_lt (Nat.lt_of_lt_of_eq V23.lt g37.symm)
            replace V15 := V15.ext E37
            replace V23 := V23.ext E37
            have ge_b37 : n0 ≤ b37 := Nat.le_trans Z24 (Nat.le_of_eq g37.symm)
            have sz_b37 : h0.size ≤ b37 := Nat.le_trans K23.1 (Nat.le_of_eq g37.symm)
            have K37 : Keep h0 h37 [] := K23.ext E37
            have Z38 : n0 ≤ h37.size := Nat.le_trans Z24 E37.1
            replace V37 : Arv Z h37 b37 kc37 .int (3 : Int32) [(.int (0 : Int32)), (.int (0 : Int32)), (.int (0 : Int32))] (.int (0 : Int32)) := V37.pad (pad_rep [] (.int (0 : Int32)) 3)
            show Ok p e below _ _ T37 (mkF m 204 #[.val (.int pa), .val (.int pb), .val (.int pc0), .val (.int pk), .val (.int (pa &&& (2147483647 : Int32))), .val (.int (pb &&& (2147483647 : Int32))), .val (.int (pc0 &&& (2147483647 : Int32))), .val (.int (pk &&& (3 : Int32))), .val (.int tw), .val (.ref b9), .val (.ref b17), .val (.long (((pa &&& (2147483647 : Int32)).toInt64 + (pb &&& (2147483647 : Int32)).toInt64) + (pc0 &&& (2147483647 : Int32)).toInt64)), .second, .val (.int z25), .unset, .unset] [(.ref b37)])
            refine Ok.dup (pc' := 205) X37 hx (hb hby at_204) rfl rfl ?_
            refine Ok.iconst (z := (0 : Int32)) (pc' := 206) X37 hx (hb hby at_205) rfl rfl ?_
            refine Ok.iconst (z := (0 : Int32)) (pc' := 207) X37 hx (hb hby at_206) rfl rfl ?_
            refine Ok.stI (pc' := 208) (i := 0) X37 hx hZ e37 V37 ⟨by decide, by decide⟩ rfl (Nat.le_of_ble_eq_true rfl) (hb hby at_207) rfl ?_
            intro T39 h39 X39 e39 W39 V39
            replace V15 := V15.other W39 ne_b9_b37
            replace V23 := V23.other W39 ne_b17_b37
            replace V39 : Arv Z h39 b37 kc37 .int (3 : Int32) [(.int (0 : Int32)), (.int (0 : Int32)), (.int (0 : Int32))] (.int (0 : Int32)) := V39
            have N39 := Fr.snoc X39 N25 ge_b37
            have K39 : Keep h0 h39 [] := K37.wr W39 (Or.inr sz_b37)
            have Z40 : n0 ≤ h39.size := Nat.le_trans Z38 (Keep.of_wr W39).1
            refine Ok.dup (pc' := 209) X39 hx (hb hby at_208) rfl rfl ?_
            refine Ok.iconst (z := (1 : Int32)) (pc' := 210) X39 hx (hb hby at_209) rfl rfl ?_
            refine Ok.iload (pc' := 212) X39 hx (hb hby at_210) rfl rfl ?_
            refine Ok.stI (pc' := 213) (i := 1) X39 hx hZ e39 V39 ⟨by decide, by decide⟩ rfl (Nat.le_of_ble_eq_true rfl) (hb hby at_212) rfl ?_
            intro T41 h41 X41 e41 W41 V41
            replace V15 := V15.other W41 ne_b9_b37
            replace V23 := V23.other W41 ne_b17_b37
            replace V41 : Arv Z h41 b37 kc37 .int (3 : Int32) [(.int (0 : Int32)), (.int z25), (.int (0 : Int32))] (.int (0 : Int32)) := V41
            have N41 := Fr.snoc X41 N39 ge_b37
            have K41 : Keep h0 h41 [] := K39.wr W41 (Or.inr sz_b37)
            have Z42 : n0 ≤ h41.size := Nat.le_trans Z40 (Keep.of_wr W41).1
            refine Ok.dup (pc' := 214) X41 hx (hb hby at_213) rfl rfl ?_
            refine Ok.iconst (z := (2 : Int32)) (pc' := 215) X41 hx (hb hby at_214) rfl rfl ?_
            refine Ok.iload (pc' := 217) X41 hx (hb hby at_215) rfl rfl ?_
            refine Ok.stI (pc' := 218) (i := 2) X41 hx hZ e41 V41 ⟨by decide, by decide⟩ rfl (Nat.le_of_ble_eq_true rfl) (hb hby at_217) rfl ?_
            intro T43 h43 X43 e43 W43 V43
            replace V15 := V15.other W43 ne_b9_b37
            replace V23 := V23.other W43 ne_b17_b37
            replace V43 : Arv Z h43 b37 kc37 .int (3 : Int32) [(.int (0 : Int32)), (.int z25), (.int (pk &&& (3 : Int32)))] (.int (0 : Int32)) := V43
            have N43 := Fr.snoc X43 N41 ge_b37
            have K43 : Keep h0 h43 [] := K41.wr W43 (Or.inr sz_b37)
            have Z44 : n0 ≤ h43.size := Nat.le_trans Z42 (Keep.of_wr W43).1
            refine Ok.goto (pc' := 233) X43 hx (hb hby at_218) (by decide) (by decide) ?_
            refine Ok.astore (l' := #[.val (.int pa), .val (.int pb), .val (.int pc0), .val (.int pk), .val (.int (pa &&& (2147483647 : Int32))), .val (.int (pb &&& (2147483647 : Int32))), .val (.int (pc0 &&& (2147483647 : Int32))), .val (.int (pk &&& (3 : Int32))), .val (.int tw), .val (.ref b9), .val (.ref b17), .val (.long (((pa &&& (2147483647 : Int32)).toInt64 + (pb &&& (2147483647 : Int32)).toInt64) + (pc0 &&& (2147483647 : Int32)).toInt64)), .second, .val (.int z25), .val (.ref b37), .unset]) (pc' := 235) X43 hx (hb hby at_233) rfl rfl rfl ?_
            refine Ok.new (pc' := 238) X43 hx hZ hown (hw _ (List.mem_of_getElem? (i := 6) rfl)) (hw _ (List.mem_of_getElem? (i := 7) rfl)) (hw _ (List.mem_of_getElem? (i := 8) rfl)) e43 (hb hby at_235) rfl (by decide) (by decide) ?_
            intro T45 h45 b45 g45 X45 e45 E45 A45 D45
            have ne_b9_b45 : Nq b9 b45 := Nat.ne_of_lt (Nat.lt_of_lt_of_eq V15.lt g45.symm)
            have ne_b17_b45 : Nq b17 b45 := Nat.ne_of_lt (Nat.lt_of_lt_of_eq V23.lt g45.symm)
            have ne_b37_b45 : Nq b37 b45 := Nat.ne_of_lt (Nat.lt_of_lt_of_eq V43.lt g45.symm)
            replace V15 := V15.ext E45
            replace V23 := V23.ext E45
            replace V43 := V43.ext E45
            have ge_b45 : n0 ≤ b45 := Nat.le_trans Z44 (Nat.le_of_eq g45.symm)
            have sz_b45 : h0.size ≤ b45 := Nat.le_trans K43.1 (Nat.le_of_eq g45.symm)
            have K45 : Keep h0 h45 [] := K43.ext E45
            have Z46 : n0 ≤ h45.size := Nat.le_trans Z44 E45.1
            have F45_scanStarts : Fld Z h45 b45 "com/example/raie/raie/tdf/Frame" "scanStarts" "[I" .null := D45 (Or.inr (hw _ (List.mem_of_getElem? (i := 16) rfl))) (ty := (.array .int)) (by decide)
            have F45_tofIndices : Fld Z h45 b45 "com/example/raie/raie/tdf/Frame" "tofIndices" "[I" .null := D45 (Or.inr (hw _ (List.mem_of_getElem? (i := 18) rfl))) (ty := (.array .int)) (by decide)
            have F45_intensities : Fld Z h45 b45 "com/example/raie/raie/tdf/Frame" "intensities" "[I" .null := D45 (Or.inr (hw _ (List.mem_of_getElem? (i := 20) rfl))) (ty := (.array .int)) (by decide)
            show Ok p e below _ _ T45 (mkF m 238 #[.val (.int pa), .val (.int pb), .val (.int pc0), .val (.int pk), .val (.int (pa &&& (2147483647 : Int32))), .val (.int (pb &&& (2147483647 : Int32))), .val (.int (pc0 &&& (2147483647 : Int32))), .val (.int (pk &&& (3 : Int32))), .val (.int tw), .val (.ref b9), .val (.ref b17), .val (.long (((pa &&& (2147483647 : Int32)).toInt64 + (pb &&& (2147483647 : Int32)).toInt64) + (pc0 &&& (2147483647 : Int32)).toInt64)), .second, .val (.int z25), .val (.ref b37), .unset] [(.ref b45)])
            refine Ok.dup (pc' := 239) X45 hx (hb hby at_238) rfl rfl ?_
            refine Ok.aload (pc' := 241) X45 hx (hb hby at_239) rfl rfl rfl ?_
            refine Ok.aload (pc' := 243) X45 hx (hb hby at_241) rfl rfl rfl ?_
            refine Ok.aload (pc' := 245) X45 hx (hb hby at_243) rfl rfl rfl ?_
            refine Ok.init (pc' := 248) (W := 1) (a := b45)  (argsL := [(.ref b37), (.ref b9), (.ref b17)]) (rest := [(.ref b45)]) X45 hx hZ hown (rm2 l Z a0 hw b45 b37 b9 b17 .null .null .null h45 n0 Z46 A45 ge_b45 F45_scanStarts F45_tofIndices F45_intensities) rfl (hw _ (List.mem_of_getElem? (i := 9) rfl)) (hw _ (List.mem_of_getElem? (i := 10) rfl)) (hw _ (List.mem_of_getElem? (i := 8) rfl)) (hw _ (List.mem_of_getElem? (i := 11) rfl)) (by decide) e45 (by decide) (by decide) (by decide) (by decide) (lenOf pd_1 rfl) rfl rfl (Nat.le_of_eq rfl) (by rw [hml]; rfl) (hb hby at_245) rfl ?_
            intro v47 T47 L47 X47 hQ47
            obtain ⟨rfl, Nq47, Kq47, Aq47, Fq47_scanStarts, Fq47_tofIndices, Fq47_intensities⟩ := hQ47
            have N47 := Fr.app N43 Nq47
            replace V15 := V15.keep Kq47 (ninS ne_b9_b45 nin0)
            replace V23 := V23.keep Kq47 (ninS ne_b17_b45 nin0)
            replace V43 := V43.keep Kq47 (ninS ne_b37_b45 nin0)
            replace A45 := A45.keep Kq47
            have K47' : Keep h0 T47.heap [] := K45.trans Kq47 (allS (Or.inr sz_b45) all0)
            have Z48 : n0 ≤ T47.heap.size := Nat.le_trans Z46 Kq47.1
            show Ok p e below _ _ T47 (mkF m 248 #[.val (.int pa), .val (.int pb), .val (.int pc0), .val (.int pk), .val (.int (pa &&& (2147483647 : Int32))), .val (.int (pb &&& (2147483647 : Int32))), .val (.int (pc0 &&& (2147483647 : Int32))), .val (.int (pk &&& (3 : Int32))), .val (.int tw), .val (.ref b9), .val (.ref b17), .val (.long (((pa &&& (2147483647 : Int32)).toInt64 + (pb &&& (2147483647 : Int32)).toInt64) + (pc0 &&& (2147483647 : Int32)).toInt64)), .second, .val (.int z25), .val (.ref b37), .unset] [(.ref b45)])
            refine Ok.astore (l' := #[.val (.int pa), .val (.int pb), .val (.int pc0), .val (.int pk), .val (.int (pa &&& (2147483647 : Int32))), .val (.int (pb &&& (2147483647 : Int32))), .val (.int (pc0 &&& (2147483647 : Int32))), .val (.int (pk &&& (3 : Int32))), .val (.int tw), .val (.ref b9), .val (.ref b17), .val (.long (((pa &&& (2147483647 : Int32)).toInt64 + (pb &&& (2147483647 : Int32)).toInt64) + (pc0 &&& (2147483647 : Int32)).toInt64)), .second, .val (.int z25), .val (.ref b37), .val (.ref b45)]) (pc' := 250) X47 hx (hb hby at_248) rfl rfl rfl ?_
            refine Ok.aload (pc' := 252) X47 hx (hb hby at_250) rfl rfl rfl ?_
            refine Ok.virt (pc' := 255) (W := 0) (a := b45)  (argsL := []) (rest := []) X47 hx hZ hown (rm4 l Z a0 hw b45 b17 kc17 [(pa &&& (2147483647 : Int32)), (pb &&& (2147483647 : Int32)), (pc0 &&& (2147483647 : Int32))] T47.heap n0 Z48 Fq47_intensities V23 (by show 3 < 2 ^ 31; decide)) (hw _ (List.mem_of_getElem? (i := 21) rfl)) (hw _ (List.mem_of_getElem? (i := 22) rfl)) (notFace_of_selects (args := #[]) (mvT hZ (hw _ (List.mem_of_getElem? (i := 24) rfl)))) (hw _ (List.mem_of_getElem? (i := 24) rfl)) (hw _ (List.mem_of_getElem? (i := 23) rfl)) (hw _ (List.mem_of_getElem? (i := 8) rfl)) (hw _ (List.mem_of_getElem? (i := 25) rfl)) (by decide) rfl A45 (by decide) (by decide) (by decide) (by decide) (lenOf pd_3 rfl) rfl rfl (Nat.le_of_eq rfl) (by rw [hml]; rfl) (hb hby at_252) rfl ?_
            intro v49 T49 L49 X49 hQ49
            obtain ⟨rfl, Nq49, eq49⟩ := hQ49
            have N49 := Fr.app N47 Nq49
            show Ok p e below _ _ T49 (mkF m 255 #[.val (.int pa), .val (.int pb), .val (.int pc0), .val (.int pk), .val (.int (pa &&& (2147483647 : Int32))), .val (.int (pb &&& (2147483647 : Int32))), .val (.int (pc0 &&& (2147483647 : Int32))), .val (.int (pk &&& (3 : Int32))), .val (.int tw), .val (.ref b9), .val (.ref b17), .val (.long (((pa &&& (2147483647 : Int32)).toInt64 + (pb &&& (2147483647 : Int32)).toInt64) + (pc0 &&& (2147483647 : Int32)).toInt64)), .second, .val (.int z25), .val (.ref b37), .val (.ref b45)] [(.long (suml [(pa &&& (2147483647 : Int32)), (pb &&& (2147483647 : Int32)), (pc0 &&& (2147483647 : Int32))] 0))])
            have hs49 : suml [(pa &&& (2147483647 : Int32)), (pb &&& (2147483647 : Int32)), (pc0 &&& (2147483647 : Int32))] 0 = (((pa &&& (2147483647 : Int32)).toInt64 + (pb &&& (2147483647 : Int32)).toInt64) + (pc0 &&& (2147483647 : Int32)).toInt64) := by simp [suml]
            refine Ok.lload (pc' := 257) X49 hx (hb hby at_255) rfl rfl ?_
            refine Ok.lcmp (pc' := 258) X49 hx (hb hby at_257) rfl ?_
            refine Ok.ifN (pc' := 261) X49 hx (hb hby at_258) (bf (lc_all (suml [(pa &&& (2147483647 : Int32)), (pb &&& (2147483647 : Int32)), (pc0 &&& (2147483647 : Int32))] 0) (((pa &&& (2147483647 : Int32)).toInt64 + (pb &&& (2147483647 : Int32)).toInt64) + (pc0 &&& (2147483647 : Int32)).toInt64)).2.1 (fun q => q (by rw [hs49]))) rfl ?_
            refine Ok.iconst (z := (1 : Int32)) (pc' := 262) X49 hx (hb hby at_261) rfl rfl ?_
            refine Ok.goto (pc' := 266) X49 hx (hb hby at_262) (by decide) (by decide) ?_
            refine Ok.retI X49 hx hret hlk (Or.inr (Or.inl rfl)) rfl (hb hby at_266) (by decide) (by decide) ?_
            show Q0 Z pa pb pc0 pk h0 n0 _ T49.heap _
            rw [eq49]
            exact ⟨rfl, N49⟩
        · refine Ok.icN (pc' := 98) X0 hx (hb hby at_95) (bf (ic_eq (pk &&& (3 : Int32)) (2 : Int32)).2.1 hc95) rfl ?_
          refine Ok.iconst (z := (2 : Int32)) (pc' := 99) X0 hx (hb hby at_98) rfl rfl ?_
          refine Ok.newP (pc' := 101) (cap := 2) X0 hx hZ (hw _ (List.mem_of_getElem? (i := 1) rfl)) rfl e0 (hb hby at_99) rfl (by decide) (by decide) (by decide) (by decide) (by decide) ?_
          intro T50 h50 b50 kc50 g50 X50 e50 E50 V50
          have ge_b50 : n0 ≤ b50 := Nat.le_trans Z0 (Nat.le_of_eq g50.symm)
          have sz_b50 : h0.size ≤ b50 := Nat.le_trans K0.1 (Nat.le_of_eq g50.symm)
          have K50 : Keep h0 h50 [] := K0.ext E50
          have Z51 : n0 ≤ h50.size := Nat.le_trans Z0 E50.1
          replace V50 : Arv Z h50 b50 kc50 .int (2 : Int32) [(.int (0 : Int32)), (.int (0 : Int32))] (.int (0 : Int32)) := V50.pad (pad_rep [] (.int (0 : Int32)) 2)
          show Ok p e below _ _ T50 (mkF m 101 #[.val (.int pa), .val (.int pb), .val (.int pc0), .val (.int pk), .val (.int (pa &&& (2147483647 : Int32))), .val (.int (pb &&& (2147483647 : Int32))), .val (.int (pc0 &&& (2147483647 : Int32))), .val (.int (pk &&& (3 : Int32))), .val (.int tw), .unset, .unset, .unset, .unset, .unset, .unset, .unset] [(.ref b50)])
          refine Ok.dup (pc' := 102) X50 hx (hb hby at_101) rfl rfl ?_
          refine Ok.iconst (z := (0 : Int32)) (pc' := 103) X50 hx (hb hby at_102) rfl rfl ?_
          refine Ok.iconst (z := (0 : Int32)) (pc' := 104) X50 hx (hb hby at_103) rfl rfl ?_
          refine Ok.stI (pc' := 105) (i := 0) X50 hx hZ e50 V50 ⟨by decide, by decide⟩ rfl (Nat.le_of_ble_eq_true rfl) (hb hby at_104) rfl ?_
          intro T52 h52 X52 e52 W52 V52
          replace V52 : Arv Z h52 b50 kc50 .int (2 : Int32) [(.int (0 : Int32)), (.int (0 : Int32))] (.int (0 : Int32)) := V52
          have N52 := Fr.snoc X52 N0 ge_b50
          have K52 : Keep h0 h52 [] := K50.wr W52 (Or.inr sz_b50)
          have Z53 : n0 ≤ h52.size := Nat.le_trans Z51 (Keep.of_wr W52).1
          refine Ok.dup (pc' := 106) X52 hx (hb hby at_105) rfl rfl ?_
          refine Ok.iconst (z := (1 : Int32)) (pc' := 107) X52 hx (hb hby at_106) rfl rfl ?_
          refine Ok.iconst (z := (1 : Int32)) (pc' := 108) X52 hx (hb hby at_107) rfl rfl ?_
          refine Ok.stI (pc' := 109) (i := 1) X52 hx hZ e52 V52 ⟨by decide, by decide⟩ rfl (Nat.le_of_ble_eq_true rfl) (hb hby at_108) rfl ?_
          intro T54 h54 X54 e54 W54 V54
          replace V54 : Arv Z h54 b50 kc50 .int (2 : Int32) [(.int (0 : Int32)), (.int (1 : Int32))] (.int (0 : Int32)) := V54
          have N54 := Fr.snoc X54 N52 ge_b50
          have K54 : Keep h0 h54 [] := K52.wr W54 (Or.inr sz_b50)
          have Z55 : n0 ≤ h54.size := Nat.le_trans Z53 (Keep.of_wr W54).1
          refine Ok.astore (l' := #[.val (.int pa), .val (.int pb), .val (.int pc0), .val (.int pk), .val (.int (pa &&& (2147483647 : Int32))), .val (.int (pb &&& (2147483647 : Int32))), .val (.int (pc0 &&& (2147483647 : Int32))), .val (.int (pk &&& (3 : Int32))), .val (.int tw), .val (.ref b50), .unset, .unset, .unset, .unset, .unset, .unset]) (pc' := 111) X54 hx (hb hby at_109) rfl rfl rfl ?_
          refine Ok.iconst (z := (2 : Int32)) (pc' := 112) X54 hx (hb hby at_111) rfl rfl ?_
          refine Ok.newP (pc' := 114) (cap := 2) X54 hx hZ (hw _ (List.mem_of_getElem? (i := 1) rfl)) rfl e54 (hb hby at_112) rfl (by decide) (by decide) (by decide) (by decide) (by decide) ?_
          intro T56 h56 b56 kc56 g56 X56 e56 E56 V56
          have ne_b50_b56 : Nq b50 b56 := Nat.ne_of_lt (Nat.lt_of_lt_of_eq V54.lt g56.symm)
          replace V54 := V54.ext E56
          have ge_b56 : n0 ≤ b56 := Nat.le_trans Z55 (Nat.le_of_eq g56.symm)
          have sz_b56 : h0.size ≤ b56 := Nat.le_trans K54.1 (Nat.le_of_eq g56.symm)
          have K56 : Keep h0 h56 [] := K54.ext E56
          have Z57 : n0 ≤ h56.size := Nat.le_trans Z55 E56.1
          replace V56 : Arv Z h56 b56 kc56 .int (2 : Int32) [(.int (0 : Int32)), (.int (0 : Int32))] (.int (0 : Int32)) := V56.pad (pad_rep [] (.int (0 : Int32)) 2)
          show Ok p e below _ _ T56 (mkF m 114 #[.val (.int pa), .val (.int pb), .val (.int pc0), .val (.int pk), .val (.int (pa &&& (2147483647 : Int32))), .val (.int (pb &&& (2147483647 : Int32))), .val (.int (pc0 &&& (2147483647 : Int32))), .val (.int (pk &&& (3 : Int32))), .val (.int tw), .val (.ref b50), .unset, .unset, .unset, .unset, .unset, .unset] [(.ref b56)])
          refine Ok.dup (pc' := 115) X56 hx (hb hby at_114) rfl rfl ?_
          refine Ok.iconst (z := (0 : Int32)) (pc' := 116) X56 hx (hb hby at_115) rfl rfl ?_
          refine Ok.iload (pc' := 118) X56 hx (hb hby at_116) rfl rfl ?_
          refine Ok.stI (pc' := 119) (i := 0) X56 hx hZ e56 V56 ⟨by decide, by decide⟩ rfl (Nat.le_of_ble_eq_true rfl) (hb hby at_118) rfl ?_
          intro T58 h58 X58 e58 W58 V58
          replace V54 := V54.other W58 ne_b50_b56
          replace V58 : Arv Z h58 b56 kc56 .int (2 : Int32) [(.int (pa &&& (2147483647 : Int32))), (.int (0 : Int32))] (.int (0 : Int32)) := V58
          have N58 := Fr.snoc X58 N54 ge_b56
          have K58 : Keep h0 h58 [] := K56.wr W58 (Or.inr sz_b56)
          have Z59 : n0 ≤ h58.size := Nat.le_trans Z57 (Keep.of_wr W58).1
          refine Ok.dup (pc' := 120) X58 hx (hb hby at_119) rfl rfl ?_
          refine Ok.iconst (z := (1 : Int32)) (pc' := 121) X58 hx (hb hby at_120) rfl rfl ?_
          refine Ok.iload (pc' := 123) X58 hx (hb hby at_121) rfl rfl ?_
          refine Ok.stI (pc' := 124) (i := 1) X58 hx hZ e58 V58 ⟨by decide, by decide⟩ rfl (Nat.le_of_ble_eq_true rfl) (hb hby at_123) rfl ?_
          intro T60 h60 X60 e60 W60 V60
          replace V54 := V54.other W60 ne_b50_b56
          replace V60 : Arv Z h60 b56 kc56 .int (2 : Int32) [(.int (pa &&& (2147483647 : Int32))), (.int (pb &&& (2147483647 : Int32)))] (.int (0 : Int32)) := V60
          have N60 := Fr.snoc X60 N58 ge_b56
          have K60 : Keep h0 h60 [] := K58.wr W60 (Or.inr sz_b56)
          have Z61 : n0 ≤ h60.size := Nat.le_trans Z59 (Keep.of_wr W60).1
          refine Ok.astore (l' := #[.val (.int pa), .val (.int pb), .val (.int pc0), .val (.int pk), .val (.int (pa &&& (2147483647 : Int32))), .val (.int (pb &&& (2147483647 : Int32))), .val (.int (pc0 &&& (2147483647 : Int32))), .val (.int (pk &&& (3 : Int32))), .val (.int tw), .val (.ref b50), .val (.ref b56), .unset, .unset, .unset, .unset, .unset]) (pc' := 126) X60 hx (hb hby at_124) rfl rfl rfl ?_
          refine Ok.iload (pc' := 128) X60 hx (hb hby at_126) rfl rfl ?_
          refine Ok.i2l (pc' := 129) X60 hx (hb hby at_128) rfl ?_
          refine Ok.iload (pc' := 131) X60 hx (hb hby at_129) rfl rfl ?_
          refine Ok.i2l (pc' := 132) X60 hx (hb hby at_131) rfl ?_
          refine Ok.ladd (pc' := 133) X60 hx (hb hby at_132) rfl ?_
          refine Ok.lstore (l' := #[.val (.int pa), .val (.int pb), .val (.int pc0), .val (.int pk), .val (.int (pa &&& (2147483647 : Int32))), .val (.int (pb &&& (2147483647 : Int32))), .val (.int (pc0 &&& (2147483647 : Int32))), .val (.int (pk &&& (3 : Int32))), .val (.int tw), .val (.ref b50), .val (.ref b56), .val (.long ((pa &&& (2147483647 : Int32)).toInt64 + (pb &&& (2147483647 : Int32)).toInt64)), .second, .unset, .unset, .unset]) (pc' := 135) X60 hx (hb hby at_133) rfl rfl ?_
          refine Ok.goto (pc' := 188) X60 hx (hb hby at_135) (by decide) (by decide) ?_
          refine Ok.iconst (z := (1 : Int32)) (pc' := 189) X60 hx (hb hby at_188) rfl rfl ?_
          refine Ok.iload (pc' := 191) X60 hx (hb hby at_189) rfl rfl ?_
          refine Ok.callS (pc' := 194) (W := 0)  (argsL := [(.int (1 : Int32)), (.int (pk &&& (3 : Int32)))]) (rest := []) X60 hx hZ hown (rm1 l Z a0 hw (1 : Int32) (pk &&& (3 : Int32)) h60 n0 Z61 ) (hw _ (List.mem_of_getElem? (i := 2) rfl)) (hw _ (List.mem_of_getElem? (i := 3) rfl)) (hw _ (List.mem_of_getElem? (i := 4) rfl)) (hw _ (List.mem_of_getElem? (i := 5) rfl)) (by decide) e60 (by decide) (by decide) (by decide) (by decide) (lenOf pd_0 rfl) rfl rfl (Nat.le_of_eq rfl) (by rw [hml]; rfl) (hb hby at_191) rfl ?_
          intro v62 T62 L62 X62 hQ62
          obtain ⟨z62, rfl, hz62, Nq62, eq62⟩ := hQ62
          have N62 := Fr.app N60 Nq62
          show Ok p e below _ _ T62 (mkF m 194 #[.val (.int pa), .val (.int pb), .val (.int pc0), .val (.int pk), .val (.int (pa &&& (2147483647 : Int32))), .val (.int (pb &&& (2147483647 : Int32))), .val (.int (pc0 &&& (2147483647 : Int32))), .val (.int (pk &&& (3 : Int32))), .val (.int tw), .val (.ref b50), .val (.ref b56), .val (.long ((pa &&& (2147483647 : Int32)).toInt64 + (pb &&& (2147483647 : Int32)).toInt64)), .second, .unset, .unset, .unset] [(.int z62)])
          refine Ok.istore (l' := #[.val (.int pa), .val (.int pb), .val (.int pc0), .val (.int pk), .val (.int (pa &&& (2147483647 : Int32))), .val (.int (pb &&& (2147483647 : Int32))), .val (.int (pc0 &&& (2147483647 : Int32))), .val (.int (pk &&& (3 : Int32))), .val (.int tw), .val (.ref b50), .val (.ref b56), .val (.long ((pa &&& (2147483647 : Int32)).toInt64 + (pb &&& (2147483647 : Int32)).toInt64)), .second, .val (.int z62), .unset, .unset]) (pc' := 196) X62 hx (hb hby at_194) rfl rfl ?_
          refine Ok.iload (pc' := 198) X62 hx (hb hby at_196) rfl rfl ?_
          by_cases hc198 : tw.toInt = 0
          · refine Ok.ifY (pc' := 221) X62 hx (hb hby at_198) (bt (i0 .eq tw (ic_eq tw 0).1) hc198) (by decide) (by decide) ?_
            refine Ok.iconst (z := (2 : Int32)) (pc' := 222) X62 hx (hb hby at_221) rfl rfl ?_
            refine Ok.newP (pc' := 224) (cap := 2) X62 hx hZ (hw _ (List.mem_of_getElem? (i := 1) rfl)) rfl eq62 (hb hby at_222) rfl (by decide) (by decide) (by decide) (by decide) (by decide) ?_
            intro T63 h63 b63 kc63 g63 X63 e63 E63 V63
            have ne_b50_b63 : Nq b50 b63 := Nat.ne_of_lt (Nat.lt_of_lt_of_eq V54.lt g63.symm)
            have ne_b56_b63 : Nq b56 b63 := Nat.ne_of_lt (Nat.lt_of_lt_of_eq V60.lt g63.symm)
            replace V54 := V54.ext E63
            replace V60 := V60.ext E63
            have ge_b63 : n0 ≤ b63 := Nat.le_trans Z61 (Nat.le_of_eq g63.symm)
            have sz_b63 : h0.size ≤ b63 := Nat.le_trans K60.1 (Nat.le_of_eq g63.symm)
            have K63 : Keep h0 h63 [] := K60.ext E63
            have Z64 : n0 ≤ h63.size := Nat.le_trans Z61 E63.1
            replace V63 : Arv Z h63 b63 kc63 .int (2 : Int32) [(.int (0 : Int32)), (.int (0 : Int32))] (.int (0 : Int32)) := V63.pad (pad_rep [] (.int (0 : Int32)) 2)
            show Ok p e below _ _ T63 (mkF m 224 #[.val (.int pa), .val (.int pb), .val (.int pc0), .val (.int pk), .val (.int (pa &&& (2147483647 : Int32))), .val (.int (pb &&& (2147483647 : Int32))), .val (.int (pc0 &&& (2147483647 : Int32))), .val (.int (pk &&& (3 : Int32))), .val (.int tw), .val (.ref b50), .val (.ref b56), .val (.long ((pa &&& (2147483647 : Int32)).toInt64 + (pb &&& (2147483647 : Int32)).toInt64)), .second, .val (.int z62), .unset, .unset] [(.ref b63)])
            refine Ok.dup (pc' := 225) X63 hx (hb hby at_224) rfl rfl ?_
            refine Ok.iconst (z := (0 : Int32)) (pc' := 226) X63 hx (hb hby at_225) rfl rfl ?_
            refine Ok.iconst (z := (0 : Int32)) (pc' := 227) X63 hx (hb hby at_226) rfl rfl ?_
            refine Ok.stI (pc' := 228) (i := 0) X63 hx hZ e63 V63 ⟨by decide, by decide⟩ rfl (Nat.le_of_ble_eq_true rfl) (hb hby at_227) rfl ?_
            intro T65 h65 X65 e65 W65 V65
            replace V54 := V54.other W65 ne_b50_b63
            replace V60 := V60.other W65 ne_b56_b63
            replace V65 : Arv Z h65 b63 kc63 .int (2 : Int32) [(.int (0 : Int32)), (.int (0 : Int32))] (.int (0 : Int32)) := V65
            have N65 := Fr.snoc X65 N62 ge_b63
            have K65 : Keep h0 h65 [] := K63.wr W65 (Or.inr sz_b63)
            have Z66 : n0 ≤ h65.size := Nat.le_trans Z64 (Keep.of_wr W65).1
            refine Ok.dup (pc' := 229) X65 hx (hb hby at_228) rfl rfl ?_
            refine Ok.iconst (z := (1 : Int32)) (pc' := 230) X65 hx (hb hby at_229) rfl rfl ?_
            refine Ok.iload (pc' := 232) X65 hx (hb hby at_230) rfl rfl ?_
            refine Ok.stI (pc' := 233) (i := 1) X65 hx hZ e65 V65 ⟨by decide, by decide⟩ rfl (Nat.le_of_ble_eq_true rfl) (hb hby at_232) rfl ?_
            intro T67 h67 X67 e67 W67 V67
            replace V54 := V54.other W67 ne_b50_b63
            replace V60 := V60.other W67 ne_b56_b63
            replace V67 : Arv Z h67 b63 kc63 .int (2 : Int32) [(.int (0 : Int32)), (.int (pk &&& (3 : Int32)))] (.int (0 : Int32)) := V67
            have N67 := Fr.snoc X67 N65 ge_b63
            have K67 : Keep h0 h67 [] := K65.wr W67 (Or.inr sz_b63)
            have Z68 : n0 ≤ h67.size := Nat.le_trans Z66 (Keep.of_wr W67).1
            refine Ok.astore (l' := #[.val (.int pa), .val (.int pb), .val (.int pc0), .val (.int pk), .val (.int (pa &&& (2147483647 : Int32))), .val (.int (pb &&& (2147483647 : Int32))), .val (.int (pc0 &&& (2147483647 : Int32))), .val (.int (pk &&& (3 : Int32))), .val (.int tw), .val (.ref b50), .val (.ref b56), .val (.long ((pa &&& (2147483647 : Int32)).toInt64 + (pb &&& (2147483647 : Int32)).toInt64)), .second, .val (.int z62), .val (.ref b63), .unset]) (pc' := 235) X67 hx (hb hby at_233) rfl rfl rfl ?_
            refine Ok.new (pc' := 238) X67 hx hZ hown (hw _ (List.mem_of_getElem? (i := 6) rfl)) (hw _ (List.mem_of_getElem? (i := 7) rfl)) (hw _ (List.mem_of_getElem? (i := 8) rfl)) e67 (hb hby at_235) rfl (by decide) (by decide) ?_
            intro T69 h69 b69 g69 X69 e69 E69 A69 D69
            have ne_b50_b69 : Nq b50 b69 := Nat.ne_of_lt (Nat.lt_of_lt_of_eq V54.lt g69.symm)
            have ne_b56_b69 : Nq b56 b69 := Nat.ne_of_lt (Nat.lt_of_lt_of_eq V60.lt g69.symm)
            have ne_b63_b69 : Nq b63 b69 := Nat.ne_of_lt (Nat.lt_of_lt_of_eq V67.lt g69.symm)
            replace V54 := V54.ext E69
            replace V60 := V60.ext E69
            replace V67 := V67.ext E69
            have ge_b69 : n0 ≤ b69 := Nat.le_trans Z68 (Nat.le_of_eq g69.symm)
            have sz_b69 : h0.size ≤ b69 := Nat.le_trans K67.1 (Nat.le_of_eq g69.symm)
            have K69 : Keep h0 h69 [] := K67.ext E69
            have Z70 : n0 ≤ h69.size := Nat.le_trans Z68 E69.1
            have F69_scanStarts : Fld Z h69 b69 "com/example/raie/raie/tdf/Frame" "scanStarts" "[I" .null := D69 (Or.inr (hw _ (List.mem_of_getElem? (i := 16) rfl))) (ty := (.array .int)) (by decide)
            have F69_tofIndices : Fld Z h69 b69 "com/example/raie/raie/tdf/Frame" "tofIndices" "[I" .null := D69 (Or.inr (hw _ (List.mem_of_getElem? (i := 18) rfl))) (ty := (.array .int)) (by decide)
            have F69_intensities : Fld Z h69 b69 "com/example/raie/raie/tdf/Frame" "intensities" "[I" .null := D69 (Or.inr (hw _ (List.mem_of_getElem? (i := 20) rfl))) (ty := (.array .int)) (by decide)
            show Ok p e below _ _ T69 (mkF m 238 #[.val (.int pa), .val (.int pb), .val (.int pc0), .val (.int pk), .val (.int (pa &&& (2147483647 : Int32))), .val (.int (pb &&& (2147483647 : Int32))), .val (.int (pc0 &&& (2147483647 : Int32))), .val (.int (pk &&& (3 : Int32))), .val (.int tw), .val (.ref b50), .val (.ref b56), .val (.long ((pa &&& (2147483647 : Int32)).toInt64 + (pb &&& (2147483647 : Int32)).toInt64)), .second, .val (.int z62), .val (.ref b63), .unset] [(.ref b69)])
            refine Ok.dup (pc' := 239) X69 hx (hb hby at_238) rfl rfl ?_
            refine Ok.aload (pc' := 241) X69 hx (hb hby at_239) rfl rfl rfl ?_
            refine Ok.aload (pc' := 243) X69 hx (hb hby at_241) rfl rfl rfl ?_
            refine Ok.aload (pc' := 245) X69 hx (hb hby at_243) rfl rfl rfl ?_
            refine Ok.init (pc' := 248) (W := 1) (a := b69)  (argsL := [(.ref b63), (.ref b50), (.ref b56)]) (rest := [(.ref b69)]) X69 hx hZ hown (rm2 l Z a0 hw b69 b63 b50 b56 .null .null .null h69 n0 Z70 A69 ge_b69 F69_scanStarts F69_tofIndices F69_intensities) rfl (hw _ (List.mem_of_getElem? (i := 9) rfl)) (hw _ (List.mem_of_getElem? (i := 10) rfl)) (hw _ (List.mem_of_getElem? (i := 8) rfl)) (hw _ (List.mem_of_getElem? (i := 11) rfl)) (by decide) e69 (by decide) (by decide) (by decide) (by decide) (lenOf pd_1 rfl) rfl rfl (Nat.le_of_eq rfl) (by rw [hml]; rfl) (hb hby at_245) rfl ?_
            intro v71 T71 L71 X71 hQ71
            obtain ⟨rfl, Nq71, Kq71, Aq71, Fq71_scanStarts, Fq71_tofIndices, Fq71_intensities⟩ := hQ71
            have N71 := Fr.app N67 Nq71
            replace V54 := V54.keep Kq71 (ninS ne_b50_b69 nin0)
            replace V60 := V60.keep Kq71 (ninS ne_b56_b69 nin0)
            replace V67 := V67.keep Kq71 (ninS ne_b63_b69 nin0)
            replace A69 := A69.keep Kq71
            have K71' : Keep h0 T71.heap [] := K69.trans Kq71 (allS (Or.inr sz_b69) all0)
            have Z72 : n0 ≤ T71.heap.size := Nat.le_trans Z70 Kq71.1
            show Ok p e below _ _ T71 (mkF m 248 #[.val (.int pa), .val (.int pb), .val (.int pc0), .val (.int pk), .val (.int (pa &&& (2147483647 : Int32))), .val (.int (pb &&& (2147483647 : Int32))), .val (.int (pc0 &&& (2147483647 : Int32))), .val (.int (pk &&& (3 : Int32))), .val (.int tw), .val (.ref b50), .val (.ref b56), .val (.long ((pa &&& (2147483647 : Int32)).toInt64 + (pb &&& (2147483647 : Int32)).toInt64)), .second, .val (.int z62), .val (.ref b63), .unset] [(.ref b69)])
            refine Ok.astore (l' := #[.val (.int pa), .val (.int pb), .val (.int pc0), .val (.int pk), .val (.int (pa &&& (2147483647 : Int32))), .val (.int (pb &&& (2147483647 : Int32))), .val (.int (pc0 &&& (2147483647 : Int32))), .val (.int (pk &&& (3 : Int32))), .val (.int tw), .val (.ref b50), .val (.ref b56), .val (.long ((pa &&& (2147483647 : Int32)).toInt64 + (pb &&& (2147483647 : Int32)).toInt64)), .second, .val (.int z62), .val (.ref b63), .val (.ref b69)]) (pc' := 250) X71 hx (hb hby at_248) rfl rfl rfl ?_
            refine Ok.aload (pc' := 252) X71 hx (hb hby at_250) rfl rfl rfl ?_
            refine Ok.virt (pc' := 255) (W := 0) (a := b69)  (argsL := []) (rest := []) X71 hx hZ hown (rm4 l Z a0 hw b69 b56 kc56 [(pa &&& (2147483647 : Int32)), (pb &&& (2147483647 : Int32))] T71.heap n0 Z72 Fq71_intensities V60 (by show 2 < 2 ^ 31; decide)) (hw _ (List.mem_of_getElem? (i := 21) rfl)) (hw _ (List.mem_of_getElem? (i := 22) rfl)) (notFace_of_selects (args := #[]) (mvT hZ (hw _ (List.mem_of_getElem? (i := 24) rfl)))) (hw _ (List.mem_of_getElem? (i := 24) rfl)) (hw _ (List.mem_of_getElem? (i := 23) rfl)) (hw _ (List.mem_of_getElem? (i := 8) rfl)) (hw _ (List.mem_of_getElem? (i := 25) rfl)) (by decide) rfl A69 (by decide) (by decide) (by decide) (by decide) (lenOf pd_3 rfl) rfl rfl (Nat.le_of_eq rfl) (by rw [hml]; rfl) (hb hby at_252) rfl ?_
            intro v73 T73 L73 X73 hQ73
            obtain ⟨rfl, Nq73, eq73⟩ := hQ73
            have N73 := Fr.app N71 Nq73
            show Ok p e below _ _ T73 (mkF m 255 #[.val (.int pa), .val (.int pb), .val (.int pc0), .val (.int pk), .val (.int (pa &&& (2147483647 : Int32))), .val (.int (pb &&& (2147483647 : Int32))), .val (.int (pc0 &&& (2147483647 : Int32))), .val (.int (pk &&& (3 : Int32))), .val (.int tw), .val (.ref b50), .val (.ref b56), .val (.long ((pa &&& (2147483647 : Int32)).toInt64 + (pb &&& (2147483647 : Int32)).toInt64)), .second, .val (.int z62), .val (.ref b63), .val (.ref b69)] [(.long (suml [(pa &&& (2147483647 : Int32)), (pb &&& (2147483647 : Int32))] 0))])
            have hs73 : suml [(pa &&& (2147483647 : Int32)), (pb &&& (2147483647 : Int32))] 0 = ((pa &&& (2147483647 : Int32)).toInt64 + (pb &&& (2147483647 : Int32)).toInt64) := by simp [suml]
            refine Ok.lload (pc' := 257) X73 hx (hb hby at_255) rfl rfl ?_
            refine Ok.lcmp (pc' := 258) X73 hx (hb hby at_257) rfl ?_
            refine Ok.ifN (pc' := 261) X73 hx (hb hby at_258) (bf (lc_all (suml [(pa &&& (2147483647 : Int32)), (pb &&& (2147483647 : Int32))] 0) ((pa &&& (2147483647 : Int32)).toInt64 + (pb &&& (2147483647 : Int32)).toInt64)).2.1 (fun q => q (by rw [hs73]))) rfl ?_
            refine Ok.iconst (z := (1 : Int32)) (pc' := 262) X73 hx (hb hby at_261) rfl rfl ?_
            refine Ok.goto (pc' := 266) X73 hx (hb hby at_262) (by decide) (by decide) ?_
            refine Ok.retI X73 hx hret hlk (Or.inr (Or.inl rfl)) rfl (hb hby at_266) (by decide) (by decide) ?_
            show Q0 Z pa pb pc0 pk h0 n0 _ T73.heap _
            rw [eq73]
            exact ⟨rfl, N73⟩
          · refine Ok.ifN (pc' := 201) X62 hx (hb hby at_198) (bf (i0 .eq tw (ic_eq tw 0).1) hc198) rfl ?_
            refine Ok.iconst (z := (3 : Int32)) (pc' := 202) X62 hx (hb hby at_201) rfl rfl ?_
            refine Ok.newP (pc' := 204) (cap := 3) X62 hx hZ (hw _ (List.mem_of_getElem? (i := 1) rfl)) rfl eq62 (hb hby at_202) rfl (by decide) (by decide) (by decide) (by decide) (by decide) ?_
            intro T74 h74 b74 kc74 g74 X74 e74 E74 V74
            have ne_b50_b74 : Nq b50 b74 := Nat.ne_of_lt (Nat.lt_of_lt_of_eq V54.lt g74.symm)
            have ne_b56_b74 : Nq b56 b74 := Nat.ne_of_lt (Nat.lt_of_lt_of_eq V60.lt g74.symm)
            replace V54 := V54.ext E74
            replace V60 := V60.ext E74
            have ge_b74 : n0 ≤ b74 := Nat.le_trans Z61 (Nat.le_of_eq g74.symm)
            have sz_b74 : h0.size ≤ b74 := Nat.le_trans K60.1 (Nat.le_of_eq g74.symm)
            have K74 : Keep h0 h74 [] := K60.ext E74
            have Z75 : n0 ≤ h74.size := Nat.le_trans Z61 E74.1
            replace V74 : Arv Z h74 b74 kc74 .int (3 : Int32) [(.int (0 : Int32)), (.int (0 : Int32)), (.int (0 : Int32))] (.int (0 : Int32)) := V74.pad (pad_rep [] (.int (0 : Int32)) 3)
            show Ok p e below _ _ T74 (mkF m 204 #[.val (.int pa), .val (.int pb), .val (.int pc0), .val (.int pk), .val (.int (pa &&& (2147483647 : Int32))), .val (.int (pb &&& (2147483647 : Int32))), .val (.int (pc0 &&& (2147483647 : Int32))), .val (.int (pk &&& (3 : Int32))), .val (.int tw), .val (.ref b50), .val (.ref b56), .val (.long ((pa &&& (2147483647 : Int32)).toInt64 + (pb &&& (2147483647 : Int32)).toInt64)), .second, .val (.int z62), .unset, .unset] [(.ref b74)])
            refine Ok.dup (pc' := 205) X74 hx (hb hby at_204) rfl rfl ?_
            refine Ok.iconst (z := (0 : Int32)) (pc' := 206) X74 hx (hb hby at_205) rfl rfl ?_
            refine Ok.iconst (z := (0 : Int32)) (pc' := 207) X74 hx (hb hby at_206) rfl rfl ?_
            refine Ok.stI (pc' := 208) (i := 0) X74 hx hZ e74 V74 ⟨by decide, by decide⟩ rfl (Nat.le_of_ble_eq_true rfl) (hb hby at_207) rfl ?_
            intro T76 h76 X76 e76 W76 V76
            replace V54 := V54.other W76 ne_b50_b74
            replace V60 := V60.other W76 ne_b56_b74
            replace V76 : Arv Z h76 b74 kc74 .int (3 : Int32) [(.int (0 : Int32)), (.int (0 : Int32)), (.int (0 : Int32))] (.int (0 : Int32)) := V76
            have N76 := Fr.snoc X76 N62 ge_b74
            have K76 : Keep h0 h76 [] := K74.wr W76 (Or.inr sz_b74)
            have Z77 : n0 ≤ h76.size := Nat.le_trans Z75 (Keep.of_wr W76).1
            refine Ok.dup (pc' := 209) X76 hx (hb hby at_208) rfl rfl ?_
            refine Ok.iconst (z := (1 : Int32)) (pc' := 210) X76 hx (hb hby at_209) rfl rfl ?_
            refine Ok.iload (pc' := 212) X76 hx (hb hby at_210) rfl rfl ?_
            refine Ok.stI (pc' := 213) (i := 1) X76 hx hZ e76 V76 ⟨by decide, by decide⟩ rfl (Nat.le_of_ble_eq_true rfl) (hb hby at_212) rfl ?_
            intro T78 h78 X78 e78 W78 V78
            replace V54 := V54.other W78 ne_b50_b74
            replace V60 := V60.other W78 ne_b56_b74
            replace V78 : Arv Z h78 b74 kc74 .int (3 : Int32) [(.int (0 : Int32)), (.int z62), (.int (0 : Int32))] (.int (0 : Int32)) := V78
            have N78 := Fr.snoc X78 N76 ge_b74
            have K78 : Keep h0 h78 [] := K76.wr W78 (Or.inr sz_b74)
            have Z79 : n0 ≤ h78.size := Nat.le_trans Z77 (Keep.of_wr W78).1
            refine Ok.dup (pc' := 214) X78 hx (hb hby at_213) rfl rfl ?_
            refine Ok.iconst (z := (2 : Int32)) (pc' := 215) X78 hx (hb hby at_214) rfl rfl ?_
            refine Ok.iload (pc' := 217) X78 hx (hb hby at_215) rfl rfl ?_
            refine Ok.stI (pc' := 218) (i := 2) X78 hx hZ e78 V78 ⟨by decide, by decide⟩ rfl (Nat.le_of_ble_eq_true rfl) (hb hby at_217) rfl ?_
            intro T80 h80 X80 e80 W80 V80
            replace V54 := V54.other W80 ne_b50_b74
            replace V60 := V60.other W80 ne_b56_b74
            replace V80 : Arv Z h80 b74 kc74 .int (3 : Int32) [(.int (0 : Int32)), (.int z62), (.int (pk &&& (3 : Int32)))] (.int (0 : Int32)) := V80
            have N80 := Fr.snoc X80 N78 ge_b74
            have K80 : Keep h0 h80 [] := K78.wr W80 (Or.inr sz_b74)
            have Z81 : n0 ≤ h80.size := Nat.le_trans Z79 (Keep.of_wr W80).1
            refine Ok.goto (pc' := 233) X80 hx (hb hby at_218) (by decide) (by decide) ?_
            refine Ok.astore (l' := #[.val (.int pa), .val (.int pb), .val (.int pc0), .val (.int pk), .val (.int (pa &&& (2147483647 : Int32))), .val (.int (pb &&& (2147483647 : Int32))), .val (.int (pc0 &&& (2147483647 : Int32))), .val (.int (pk &&& (3 : Int32))), .val (.int tw), .val (.ref b50), .val (.ref b56), .val (.long ((pa &&& (2147483647 : Int32)).toInt64 + (pb &&& (2147483647 : Int32)).toInt64)), .second, .val (.int z62), .val (.ref b74), .unset]) (pc' := 235) X80 hx (hb hby at_233) rfl rfl rfl ?_
            refine Ok.new (pc' := 238) X80 hx hZ hown (hw _ (List.mem_of_getElem? (i := 6) rfl)) (hw _ (List.mem_of_getElem? (i := 7) rfl)) (hw _ (List.mem_of_getElem? (i := 8) rfl)) e80 (hb hby at_235) rfl (by decide) (by decide) ?_
            intro T82 h82 b82 g82 X82 e82 E82 A82 D82
            have ne_b50_b82 : Nq b50 b82 := Nat.ne_of_lt (Nat.lt_of_lt_of_eq V54.lt g82.symm)
            have ne_b56_b82 : Nq b56 b82 := Nat.ne_of_lt (Nat.lt_of_lt_of_eq V60.lt g82.symm)
            have ne_b74_b82 : Nq b74 b82 := Nat.ne_of_lt (Nat.lt_of_lt_of_eq V80.lt g82.symm)
            replace V54 := V54.ext E82
            replace V60 := V60.ext E82
            replace V80 := V80.ext E82
            have ge_b82 : n0 ≤ b82 := Nat.le_trans Z81 (Nat.le_of_eq g82.symm)
            have sz_b82 : h0.size ≤ b82 := Nat.le_trans K80.1 (Nat.le_of_eq g82.symm)
            have K82 : Keep h0 h82 [] := K80.ext E82
            have Z83 : n0 ≤ h82.size := Nat.le_trans Z81 E82.1
            have F82_scanStarts : Fld Z h82 b82 "com/example/raie/raie/tdf/Frame" "scanStarts" "[I" .null := D82 (Or.inr (hw _ (List.mem_of_getElem? (i := 16) rfl))) (ty := (.array .int)) (by decide)
            have F82_tofIndices : Fld Z h82 b82 "com/example/raie/raie/tdf/Frame" "tofIndices" "[I" .null := D82 (Or.inr (hw _ (List.mem_of_getElem? (i := 18) rfl))) (ty := (.array .int)) (by decide)
            have F82_intensities : Fld Z h82 b82 "com/example/raie/raie/tdf/Frame" "intensities" "[I" .null := D82 (Or.inr (hw _ (List.mem_of_getElem? (i := 20) rfl))) (ty := (.array .int)) (by decide)
            show Ok p e below _ _ T82 (mkF m 238 #[.val (.int pa), .val (.int pb), .val (.int pc0), .val (.int pk), .val (.int (pa &&& (2147483647 : Int32))), .val (.int (pb &&& (2147483647 : Int32))), .val (.int (pc0 &&& (2147483647 : Int32))), .val (.int (pk &&& (3 : Int32))), .val (.int tw), .val (.ref b50), .val (.ref b56), .val (.long ((pa &&& (2147483647 : Int32)).toInt64 + (pb &&& (2147483647 : Int32)).toInt64)), .second, .val (.int z62), .val (.ref b74), .unset] [(.ref b82)])
            refine Ok.dup (pc' := 239) X82 hx (hb hby at_238) rfl rfl ?_
            refine Ok.aload (pc' := 241) X82 hx (hb hby at_239) rfl rfl rfl ?_
            refine Ok.aload (pc' := 243) X82 hx (hb hby at_241) rfl rfl rfl ?_
            refine Ok.aload (pc' := 245) X82 hx (hb hby at_243) rfl rfl rfl ?_
            refine Ok.init (pc' := 248) (W := 1) (a := b82)  (argsL := [(.ref b74), (.ref b50), (.ref b56)]) (rest := [(.ref b82)]) X82 hx hZ hown (rm2 l Z a0 hw b82 b74 b50 b56 .null .null .null h82 n0 Z83 A82 ge_b82 F82_scanStarts F82_tofIndices F82_intensities) rfl (hw _ (List.mem_of_getElem? (i := 9) rfl)) (hw _ (List.mem_of_getElem? (i := 10) rfl)) (hw _ (List.mem_of_getElem? (i := 8) rfl)) (hw _ (List.mem_of_getElem? (i := 11) rfl)) (by decide) e82 (by decide) (by decide) (by decide) (by decide) (lenOf pd_1 rfl) rfl rfl (Nat.le_of_eq rfl) (by rw [hml]; rfl) (hb hby at_245) rfl ?_
            intro v84 T84 L84 X84 hQ84
            obtain ⟨rfl, Nq84, Kq84, Aq84, Fq84_scanStarts, Fq84_tofIndices, Fq84_intensities⟩ := hQ84
            have N84 := Fr.app N80 Nq84
            replace V54 := V54.keep Kq84 (ninS ne_b50_b82 nin0)
            replace V60 := V60.keep Kq84 (ninS ne_b56_b82 nin0)
            replace V80 := V80.keep Kq84 (ninS ne_b74_b82 nin0)
            replace A82 := A82.keep Kq84
            have K84' : Keep h0 T84.heap [] := K82.trans Kq84 (allS (Or.inr sz_b82) all0)
            have Z85 : n0 ≤ T84.heap.size := Nat.le_trans Z83 Kq84.1
            show Ok p e below _ _ T84 (mkF m 248 #[.val (.int pa), .val (.int pb), .val (.int pc0), .val (.int pk), .val (.int (pa &&& (2147483647 : Int32))), .val (.int (pb &&& (2147483647 : Int32))), .val (.int (pc0 &&& (2147483647 : Int32))), .val (.int (pk &&& (3 : Int32))), .val (.int tw), .val (.ref b50), .val (.ref b56), .val (.long ((pa &&& (2147483647 : Int32)).toInt64 + (pb &&& (2147483647 : Int32)).toInt64)), .second, .val (.int z62), .val (.ref b74), .unset] [(.ref b82)])
            refine Ok.astore (l' := #[.val (.int pa), .val (.int pb), .val (.int pc0), .val (.int pk), .val (.int (pa &&& (2147483647 : Int32))), .val (.int (pb &&& (2147483647 : Int32))), .val (.int (pc0 &&& (2147483647 : Int32))), .val (.int (pk &&& (3 : Int32))), .val (.int tw), .val (.ref b50), .val (.ref b56), .val (.long ((pa &&& (2147483647 : Int32)).toInt64 + (pb &&& (2147483647 : Int32)).toInt64)), .second, .val (.int z62), .val (.ref b74), .val (.ref b82)]) (pc' := 250) X84 hx (hb hby at_248) rfl rfl rfl ?_
            refine Ok.aload (pc' := 252) X84 hx (hb hby at_250) rfl rfl rfl ?_
            refine Ok.virt (pc' := 255) (W := 0) (a := b82)  (argsL := []) (rest := []) X84 hx hZ hown (rm4 l Z a0 hw b82 b56 kc56 [(pa &&& (2147483647 : Int32)), (pb &&& (2147483647 : Int32))] T84.heap n0 Z85 Fq84_intensities V60 (by show 2 < 2 ^ 31; decide)) (hw _ (List.mem_of_getElem? (i := 21) rfl)) (hw _ (List.mem_of_getElem? (i := 22) rfl)) (notFace_of_selects (args := #[]) (mvT hZ (hw _ (List.mem_of_getElem? (i := 24) rfl)))) (hw _ (List.mem_of_getElem? (i := 24) rfl)) (hw _ (List.mem_of_getElem? (i := 23) rfl)) (hw _ (List.mem_of_getElem? (i := 8) rfl)) (hw _ (List.mem_of_getElem? (i := 25) rfl)) (by decide) rfl A82 (by decide) (by decide) (by decide) (by decide) (lenOf pd_3 rfl) rfl rfl (Nat.le_of_eq rfl) (by rw [hml]; rfl) (hb hby at_252) rfl ?_
            intro v86 T86 L86 X86 hQ86
            obtain ⟨rfl, Nq86, eq86⟩ := hQ86
            have N86 := Fr.app N84 Nq86
            show Ok p e below _ _ T86 (mkF m 255 #[.val (.int pa), .val (.int pb), .val (.int pc0), .val (.int pk), .val (.int (pa &&& (2147483647 : Int32))), .val (.int (pb &&& (2147483647 : Int32))), .val (.int (pc0 &&& (2147483647 : Int32))), .val (.int (pk &&& (3 : Int32))), .val (.int tw), .val (.ref b50), .val (.ref b56), .val (.long ((pa &&& (2147483647 : Int32)).toInt64 + (pb &&& (2147483647 : Int32)).toInt64)), .second, .val (.int z62), .val (.ref b74), .val (.ref b82)] [(.long (suml [(pa &&& (2147483647 : Int32)), (pb &&& (2147483647 : Int32))] 0))])
            have hs86 : suml [(pa &&& (2147483647 : Int32)), (pb &&& (2147483647 : Int32))] 0 = ((pa &&& (2147483647 : Int32)).toInt64 + (pb &&& (2147483647 : Int32)).toInt64) := by simp [suml]
            refine Ok.lload (pc' := 257) X86 hx (hb hby at_255) rfl rfl ?_
            refine Ok.lcmp (pc' := 258) X86 hx (hb hby at_257) rfl ?_
            refine Ok.ifN (pc' := 261) X86 hx (hb hby at_258) (bf (lc_all (suml [(pa &&& (2147483647 : Int32)), (pb &&& (2147483647 : Int32))] 0) ((pa &&& (2147483647 : Int32)).toInt64 + (pb &&& (2147483647 : Int32)).toInt64)).2.1 (fun q => q (by rw [hs86]))) rfl ?_
            refine Ok.iconst (z := (1 : Int32)) (pc' := 262) X86 hx (hb hby at_261) rfl rfl ?_
            refine Ok.goto (pc' := 266) X86 hx (hb hby at_262) (by decide) (by decide) ?_
            refine Ok.retI X86 hx hret hlk (Or.inr (Or.inl rfl)) rfl (hb hby at_266) (by decide) (by decide) ?_
            show Q0 Z pa pb pc0 pk h0 n0 _ T86.heap _
            rw [eq86]
            exact ⟨rfl, N86⟩
      · refine Ok.icN (pc' := 65) X0 hx (hb hby at_62) (bf (ic_eq (pk &&& (3 : Int32)) (1 : Int32)).2.1 hc62) rfl ?_
        refine Ok.iconst (z := (1 : Int32)) (pc' := 66) X0 hx (hb hby at_65) rfl rfl ?_
        refine Ok.newP (pc' := 68) (cap := 1) X0 hx hZ (hw _ (List.mem_of_getElem? (i := 1) rfl)) rfl e0 (hb hby at_66) rfl (by decide) (by decide) (by decide) (by decide) (by decide) ?_
        intro T87 h87 b87 kc87 g87 X87 e87 E87 V87
        have ge_b87 : n0 ≤ b87 := Nat.le_trans Z0 (Nat.le_of_eq g87.symm)
        have sz_b87 : h0.size ≤ b87 := Nat.le_trans K0.1 (Nat.le_of_eq g87.symm)
        have K87 : Keep h0 h87 [] := K0.ext E87
        have Z88 : n0 ≤ h87.size := Nat.le_trans Z0 E87.1
        replace V87 : Arv Z h87 b87 kc87 .int (1 : Int32) [(.int (0 : Int32))] (.int (0 : Int32)) := V87.pad (pad_rep [] (.int (0 : Int32)) 1)
        show Ok p e below _ _ T87 (mkF m 68 #[.val (.int pa), .val (.int pb), .val (.int pc0), .val (.int pk), .val (.int (pa &&& (2147483647 : Int32))), .val (.int (pb &&& (2147483647 : Int32))), .val (.int (pc0 &&& (2147483647 : Int32))), .val (.int (pk &&& (3 : Int32))), .val (.int tw), .unset, .unset, .unset, .unset, .unset, .unset, .unset] [(.ref b87)])
        refine Ok.dup (pc' := 69) X87 hx (hb hby at_68) rfl rfl ?_
        refine Ok.iconst (z := (0 : Int32)) (pc' := 70) X87 hx (hb hby at_69) rfl rfl ?_
        refine Ok.iconst (z := (0 : Int32)) (pc' := 71) X87 hx (hb hby at_70) rfl rfl ?_
        refine Ok.stI (pc' := 72) (i := 0) X87 hx hZ e87 V87 ⟨by decide, by decide⟩ rfl (Nat.le_of_ble_eq_true rfl) (hb hby at_71) rfl ?_
        intro T89 h89 X89 e89 W89 V89
        replace V89 : Arv Z h89 b87 kc87 .int (1 : Int32) [(.int (0 : Int32))] (.int (0 : Int32)) := V89
        have N89 := Fr.snoc X89 N0 ge_b87
        have K89 : Keep h0 h89 [] := K87.wr W89 (Or.inr sz_b87)
        have Z90 : n0 ≤ h89.size := Nat.le_trans Z88 (Keep.of_wr W89).1
        refine Ok.astore (l' := #[.val (.int pa), .val (.int pb), .val (.int pc0), .val (.int pk), .val (.int (pa &&& (2147483647 : Int32))), .val (.int (pb &&& (2147483647 : Int32))), .val (.int (pc0 &&& (2147483647 : Int32))), .val (.int (pk &&& (3 : Int32))), .val (.int tw), .val (.ref b87), .unset, .unset, .unset, .unset, .unset, .unset]) (pc' := 74) X89 hx (hb hby at_72) rfl rfl rfl ?_
        refine Ok.iconst (z := (1 : Int32)) (pc' := 75) X89 hx (hb hby at_74) rfl rfl ?_
        refine Ok.newP (pc' := 77) (cap := 1) X89 hx hZ (hw _ (List.mem_of_getElem? (i := 1) rfl)) rfl e89 (hb hby at_75) rfl (by decide) (by decide) (by decide) (by decide) (by decide) ?_
        intro T91 h91 b91 kc91 g91 X91 e91 E91 V91
        have ne_b87_b91 : Nq b87 b91 := Nat.ne_of_lt (Nat.lt_of_lt_of_eq V89.lt g91.symm)
        replace V89 := V89.ext E91
        have ge_b91 : n0 ≤ b91 := Nat.le_trans Z90 (Nat.le_of_eq g91.symm)
        have sz_b91 : h0.size ≤ b91 := Nat.le_trans K89.1 (Nat.le_of_eq g91.symm)
        have K91 : Keep h0 h91 [] := K89.ext E91
        have Z92 : n0 ≤ h91.size := Nat.le_trans Z90 E91.1
        replace V91 : Arv Z h91 b91 kc91 .int (1 : Int32) [(.int (0 : Int32))] (.int (0 : Int32)) := V91.pad (pad_rep [] (.int (0 : Int32)) 1)
        show Ok p e below _ _ T91 (mkF m 77 #[.val (.int pa), .val (.int pb), .val (.int pc0), .val (.int pk), .val (.int (pa &&& (2147483647 : Int32))), .val (.int (pb &&& (2147483647 : Int32))), .val (.int (pc0 &&& (2147483647 : Int32))), .val (.int (pk &&& (3 : Int32))), .val (.int tw), .val (.ref b87), .unset, .unset, .unset, .unset, .unset, .unset] [(.ref b91)])
        refine Ok.dup (pc' := 78) X91 hx (hb hby at_77) rfl rfl ?_
        refine Ok.iconst (z := (0 : Int32)) (pc' := 79) X91 hx (hb hby at_78) rfl rfl ?_
        refine Ok.iload (pc' := 81) X91 hx (hb hby at_79) rfl rfl ?_
        refine Ok.stI (pc' := 82) (i := 0) X91 hx hZ e91 V91 ⟨by decide, by decide⟩ rfl (Nat.le_of_ble_eq_true rfl) (hb hby at_81) rfl ?_
        intro T93 h93 X93 e93 W93 V93
        replace V89 := V89.other W93 ne_b87_b91
        replace V93 : Arv Z h93 b91 kc91 .int (1 : Int32) [(.int (pa &&& (2147483647 : Int32)))] (.int (0 : Int32)) := V93
        have N93 := Fr.snoc X93 N89 ge_b91
        have K93 : Keep h0 h93 [] := K91.wr W93 (Or.inr sz_b91)
        have Z94 : n0 ≤ h93.size := Nat.le_trans Z92 (Keep.of_wr W93).1
        refine Ok.astore (l' := #[.val (.int pa), .val (.int pb), .val (.int pc0), .val (.int pk), .val (.int (pa &&& (2147483647 : Int32))), .val (.int (pb &&& (2147483647 : Int32))), .val (.int (pc0 &&& (2147483647 : Int32))), .val (.int (pk &&& (3 : Int32))), .val (.int tw), .val (.ref b87), .val (.ref b91), .unset, .unset, .unset, .unset, .unset]) (pc' := 84) X93 hx (hb hby at_82) rfl rfl rfl ?_
        refine Ok.iload (pc' := 86) X93 hx (hb hby at_84) rfl rfl ?_
        refine Ok.i2l (pc' := 87) X93 hx (hb hby at_86) rfl ?_
        refine Ok.lstore (l' := #[.val (.int pa), .val (.int pb), .val (.int pc0), .val (.int pk), .val (.int (pa &&& (2147483647 : Int32))), .val (.int (pb &&& (2147483647 : Int32))), .val (.int (pc0 &&& (2147483647 : Int32))), .val (.int (pk &&& (3 : Int32))), .val (.int tw), .val (.ref b87), .val (.ref b91), .val (.long (pa &&& (2147483647 : Int32)).toInt64), .second, .unset, .unset, .unset]) (pc' := 89) X93 hx (hb hby at_87) rfl rfl ?_
        refine Ok.goto (pc' := 188) X93 hx (hb hby at_89) (by decide) (by decide) ?_
        refine Ok.iconst (z := (1 : Int32)) (pc' := 189) X93 hx (hb hby at_188) rfl rfl ?_
        refine Ok.iload (pc' := 191) X93 hx (hb hby at_189) rfl rfl ?_
        refine Ok.callS (pc' := 194) (W := 0)  (argsL := [(.int (1 : Int32)), (.int (pk &&& (3 : Int32)))]) (rest := []) X93 hx hZ hown (rm1 l Z a0 hw (1 : Int32) (pk &&& (3 : Int32)) h93 n0 Z94 ) (hw _ (List.mem_of_getElem? (i := 2) rfl)) (hw _ (List.mem_of_getElem? (i := 3) rfl)) (hw _ (List.mem_of_getElem? (i := 4) rfl)) (hw _ (List.mem_of_getElem? (i := 5) rfl)) (by decide) e93 (by decide) (by decide) (by decide) (by decide) (lenOf pd_0 rfl) rfl rfl (Nat.le_of_eq rfl) (by rw [hml]; rfl) (hb hby at_191) rfl ?_
        intro v95 T95 L95 X95 hQ95
        obtain ⟨z95, rfl, hz95, Nq95, eq95⟩ := hQ95
        have N95 := Fr.app N93 Nq95
        show Ok p e below _ _ T95 (mkF m 194 #[.val (.int pa), .val (.int pb), .val (.int pc0), .val (.int pk), .val (.int (pa &&& (2147483647 : Int32))), .val (.int (pb &&& (2147483647 : Int32))), .val (.int (pc0 &&& (2147483647 : Int32))), .val (.int (pk &&& (3 : Int32))), .val (.int tw), .val (.ref b87), .val (.ref b91), .val (.long (pa &&& (2147483647 : Int32)).toInt64), .second, .unset, .unset, .unset] [(.int z95)])
        refine Ok.istore (l' := #[.val (.int pa), .val (.int pb), .val (.int pc0), .val (.int pk), .val (.int (pa &&& (2147483647 : Int32))), .val (.int (pb &&& (2147483647 : Int32))), .val (.int (pc0 &&& (2147483647 : Int32))), .val (.int (pk &&& (3 : Int32))), .val (.int tw), .val (.ref b87), .val (.ref b91), .val (.long (pa &&& (2147483647 : Int32)).toInt64), .second, .val (.int z95), .unset, .unset]) (pc' := 196) X95 hx (hb hby at_194) rfl rfl ?_
        refine Ok.iload (pc' := 198) X95 hx (hb hby at_196) rfl rfl ?_
        by_cases hc198 : tw.toInt = 0
        · refine Ok.ifY (pc' := 221) X95 hx (hb hby at_198) (bt (i0 .eq tw (ic_eq tw 0).1) hc198) (by decide) (by decide) ?_
          refine Ok.iconst (z := (2 : Int32)) (pc' := 222) X95 hx (hb hby at_221) rfl rfl ?_
          refine Ok.newP (pc' := 224) (cap := 2) X95 hx hZ (hw _ (List.mem_of_getElem? (i := 1) rfl)) rfl eq95 (hb hby at_222) rfl (by decide) (by decide) (by decide) (by decide) (by decide) ?_
          intro T96 h96 b96 kc96 g96 X96 e96 E96 V96
          have ne_b87_b96 : Nq b87 b96 := Nat.ne_of_lt (Nat.lt_of_lt_of_eq V89.lt g96.symm)
          have ne_b91_b96 : Nq b91 b96 := Nat.ne_of_lt (Nat.lt_of_lt_of_eq V93.lt g96.symm)
          replace V89 := V89.ext E96
          replace V93 := V93.ext E96
          have ge_b96 : n0 ≤ b96 := Nat.le_trans Z94 (Nat.le_of_eq g96.symm)
          have sz_b96 : h0.size ≤ b96 := Nat.le_trans K93.1 (Nat.le_of_eq g96.symm)
          have K96 : Keep h0 h96 [] := K93.ext E96
          have Z97 : n0 ≤ h96.size := Nat.le_trans Z94 E96.1
          replace V96 : Arv Z h96 b96 kc96 .int (2 : Int32) [(.int (0 : Int32)), (.int (0 : Int32))] (.int (0 : Int32)) := V96.pad (pad_rep [] (.int (0 : Int32)) 2)
          show Ok p e below _ _ T96 (mkF m 224 #[.val (.int pa), .val (.int pb), .val (.int pc0), .val (.int pk), .val (.int (pa &&& (2147483647 : Int32))), .val (.int (pb &&& (2147483647 : Int32))), .val (.int (pc0 &&& (2147483647 : Int32))), .val (.int (pk &&& (3 : Int32))), .val (.int tw), .val (.ref b87), .val (.ref b91), .val (.long (pa &&& (2147483647 : Int32)).toInt64), .second, .val (.int z95), .unset, .unset] [(.ref b96)])
          refine Ok.dup (pc' := 225) X96 hx (hb hby at_224) rfl rfl ?_
          refine Ok.iconst (z := (0 : Int32)) (pc' := 226) X96 hx (hb hby at_225) rfl rfl ?_
          refine Ok.iconst (z := (0 : Int32)) (pc' := 227) X96 hx (hb hby at_226) rfl rfl ?_
          refine Ok.stI (pc' := 228) (i := 0) X96 hx hZ e96 V96 ⟨by decide, by decide⟩ rfl (Nat.le_of_ble_eq_true rfl) (hb hby at_227) rfl ?_
          intro T98 h98 X98 e98 W98 V98
          replace V89 := V89.other W98 ne_b87_b96
          replace V93 := V93.other W98 ne_b91_b96
          replace V98 : Arv Z h98 b96 kc96 .int (2 : Int32) [(.int (0 : Int32)), (.int (0 : Int32))] (.int (0 : Int32)) := V98
          have N98 := Fr.snoc X98 N95 ge_b96
          have K98 : Keep h0 h98 [] := K96.wr W98 (Or.inr sz_b96)
          have Z99 : n0 ≤ h98.size := Nat.le_trans Z97 (Keep.of_wr W98).1
          refine Ok.dup (pc' := 229) X98 hx (hb hby at_228) rfl rfl ?_
          refine Ok.iconst (z := (1 : Int32)) (pc' := 230) X98 hx (hb hby at_229) rfl rfl ?_
          refine Ok.iload (pc' := 232) X98 hx (hb hby at_230) rfl rfl ?_
          refine Ok.stI (pc' := 233) (i := 1) X98 hx hZ e98 V98 ⟨by decide, by decide⟩ rfl (Nat.le_of_ble_eq_true rfl) (hb hby at_232) rfl ?_
          intro T100 h100 X100 e100 W100 V100
          replace V89 := V89.other W100 ne_b87_b96
          replace V93 := V93.other W100 ne_b91_b96
          replace V100 : Arv Z h100 b96 kc96 .int (2 : Int32) [(.int (0 : Int32)), (.int (pk &&& (3 : Int32)))] (.int (0 : Int32)) := V100
          have N100 := Fr.snoc X100 N98 ge_b96
          have K100 : Keep h0 h100 [] := K98.wr W100 (Or.inr sz_b96)
          have Z101 : n0 ≤ h100.size := Nat.le_trans Z99 (Keep.of_wr W100).1
          refine Ok.astore (l' := #[.val (.int pa), .val (.int pb), .val (.int pc0), .val (.int pk), .val (.int (pa &&& (2147483647 : Int32))), .val (.int (pb &&& (2147483647 : Int32))), .val (.int (pc0 &&& (2147483647 : Int32))), .val (.int (pk &&& (3 : Int32))), .val (.int tw), .val (.ref b87), .val (.ref b91), .val (.long (pa &&& (2147483647 : Int32)).toInt64), .second, .val (.int z95), .val (.ref b96), .unset]) (pc' := 235) X100 hx (hb hby at_233) rfl rfl rfl ?_
          refine Ok.new (pc' := 238) X100 hx hZ hown (hw _ (List.mem_of_getElem? (i := 6) rfl)) (hw _ (List.mem_of_getElem? (i := 7) rfl)) (hw _ (List.mem_of_getElem? (i := 8) rfl)) e100 (hb hby at_235) rfl (by decide) (by decide) ?_
          intro T102 h102 b102 g102 X102 e102 E102 A102 D102
          have ne_b87_b102 : Nq b87 b102 := Nat.ne_of_lt (Nat.lt_of_lt_of_eq V89.lt g102.symm)
          have ne_b91_b102 : Nq b91 b102 := Nat.ne_of_lt (Nat.lt_of_lt_of_eq V93.lt g102.symm)
          have ne_b96_b102 : Nq b96 b102 := Nat.ne_of_lt (Nat.lt_of_lt_of_eq V100.lt g102.symm)
          replace V89 := V89.ext E102
          replace V93 := V93.ext E102
          replace V100 := V100.ext E102
          have ge_b102 : n0 ≤ b102 := Nat.le_trans Z101 (Nat.le_of_eq g102.symm)
          have sz_b102 : h0.size ≤ b102 := Nat.le_trans K100.1 (Nat.le_of_eq g102.symm)
          have K102 : Keep h0 h102 [] := K100.ext E102
          have Z103 : n0 ≤ h102.size := Nat.le_trans Z101 E102.1
          have F102_scanStarts : Fld Z h102 b102 "com/example/raie/raie/tdf/Frame" "scanStarts" "[I" .null := D102 (Or.inr (hw _ (List.mem_of_getElem? (i := 16) rfl))) (ty := (.array .int)) (by decide)
          have F102_tofIndices : Fld Z h102 b102 "com/example/raie/raie/tdf/Frame" "tofIndices" "[I" .null := D102 (Or.inr (hw _ (List.mem_of_getElem? (i := 18) rfl))) (ty := (.array .int)) (by decide)
          have F102_intensities : Fld Z h102 b102 "com/example/raie/raie/tdf/Frame" "intensities" "[I" .null := D102 (Or.inr (hw _ (List.mem_of_getElem? (i := 20) rfl))) (ty := (.array .int)) (by decide)
          show Ok p e below _ _ T102 (mkF m 238 #[.val (.int pa), .val (.int pb), .val (.int pc0), .val (.int pk), .val (.int (pa &&& (2147483647 : Int32))), .val (.int (pb &&& (2147483647 : Int32))), .val (.int (pc0 &&& (2147483647 : Int32))), .val (.int (pk &&& (3 : Int32))), .val (.int tw), .val (.ref b87), .val (.ref b91), .val (.long (pa &&& (2147483647 : Int32)).toInt64), .second, .val (.int z95), .val (.ref b96), .unset] [(.ref b102)])
          refine Ok.dup (pc' := 239) X102 hx (hb hby at_238) rfl rfl ?_
          refine Ok.aload (pc' := 241) X102 hx (hb hby at_239) rfl rfl rfl ?_
          refine Ok.aload (pc' := 243) X102 hx (hb hby at_241) rfl rfl rfl ?_
          refine Ok.aload (pc' := 245) X102 hx (hb hby at_243) rfl rfl rfl ?_
          refine Ok.init (pc' := 248) (W := 1) (a := b102)  (argsL := [(.ref b96), (.ref b87), (.ref b91)]) (rest := [(.ref b102)]) X102 hx hZ hown (rm2 l Z a0 hw b102 b96 b87 b91 .null .null .null h102 n0 Z103 A102 ge_b102 F102_scanStarts F102_tofIndices F102_intensities) rfl (hw _ (List.mem_of_getElem? (i := 9) rfl)) (hw _ (List.mem_of_getElem? (i := 10) rfl)) (hw _ (List.mem_of_getElem? (i := 8) rfl)) (hw _ (List.mem_of_getElem? (i := 11) rfl)) (by decide) e102 (by decide) (by decide) (by decide) (by decide) (lenOf pd_1 rfl) rfl rfl (Nat.le_of_eq rfl) (by rw [hml]; rfl) (hb hby at_245) rfl ?_
          intro v104 T104 L104 X104 hQ104
          obtain ⟨rfl, Nq104, Kq104, Aq104, Fq104_scanStarts, Fq104_tofIndices, Fq104_intensities⟩ := hQ104
          have N104 := Fr.app N100 Nq104
          replace V89 := V89.keep Kq104 (ninS ne_b87_b102 nin0)
          replace V93 := V93.keep Kq104 (ninS ne_b91_b102 nin0)
          replace V100 := V100.keep Kq104 (ninS ne_b96_b102 nin0)
          replace A102 := A102.keep Kq104
          have K104' : Keep h0 T104.heap [] := K102.trans Kq104 (allS (Or.inr sz_b102) all0)
          have Z105 : n0 ≤ T104.heap.size := Nat.le_trans Z103 Kq104.1
          show Ok p e below _ _ T104 (mkF m 248 #[.val (.int pa), .val (.int pb), .val (.int pc0), .val (.int pk), .val (.int (pa &&& (2147483647 : Int32))), .val (.int (pb &&& (2147483647 : Int32))), .val (.int (pc0 &&& (2147483647 : Int32))), .val (.int (pk &&& (3 : Int32))), .val (.int tw), .val (.ref b87), .val (.ref b91), .val (.long (pa &&& (2147483647 : Int32)).toInt64), .second, .val (.int z95), .val (.ref b96), .unset] [(.ref b102)])
          refine Ok.astore (l' := #[.val (.int pa), .val (.int pb), .val (.int pc0), .val (.int pk), .val (.int (pa &&& (2147483647 : Int32))), .val (.int (pb &&& (2147483647 : Int32))), .val (.int (pc0 &&& (2147483647 : Int32))), .val (.int (pk &&& (3 : Int32))), .val (.int tw), .val (.ref b87), .val (.ref b91), .val (.long (pa &&& (2147483647 : Int32)).toInt64), .second, .val (.int z95), .val (.ref b96), .val (.ref b102)]) (pc' := 250) X104 hx (hb hby at_248) rfl rfl rfl ?_
          refine Ok.aload (pc' := 252) X104 hx (hb hby at_250) rfl rfl rfl ?_
          refine Ok.virt (pc' := 255) (W := 0) (a := b102)  (argsL := []) (rest := []) X104 hx hZ hown (rm4 l Z a0 hw b102 b91 kc91 [(pa &&& (2147483647 : Int32))] T104.heap n0 Z105 Fq104_intensities V93 (by show 1 < 2 ^ 31; decide)) (hw _ (List.mem_of_getElem? (i := 21) rfl)) (hw _ (List.mem_of_getElem? (i := 22) rfl)) (notFace_of_selects (args := #[]) (mvT hZ (hw _ (List.mem_of_getElem? (i := 24) rfl)))) (hw _ (List.mem_of_getElem? (i := 24) rfl)) (hw _ (List.mem_of_getElem? (i := 23) rfl)) (hw _ (List.mem_of_getElem? (i := 8) rfl)) (hw _ (List.mem_of_getElem? (i := 25) rfl)) (by decide) rfl A102 (by decide) (by decide) (by decide) (by decide) (lenOf pd_3 rfl) rfl rfl (Nat.le_of_eq rfl) (by rw [hml]; rfl) (hb hby at_252) rfl ?_
          intro v106 T106 L106 X106 hQ106
          obtain ⟨rfl, Nq106, eq106⟩ := hQ106
          have N106 := Fr.app N104 Nq106
          show Ok p e below _ _ T106 (mkF m 255 #[.val (.int pa), .val (.int pb), .val (.int pc0), .val (.int pk), .val (.int (pa &&& (2147483647 : Int32))), .val (.int (pb &&& (2147483647 : Int32))), .val (.int (pc0 &&& (2147483647 : Int32))), .val (.int (pk &&& (3 : Int32))), .val (.int tw), .val (.ref b87), .val (.ref b91), .val (.long (pa &&& (2147483647 : Int32)).toInt64), .second, .val (.int z95), .val (.ref b96), .val (.ref b102)] [(.long (suml [(pa &&& (2147483647 : Int32))] 0))])
          have hs106 : suml [(pa &&& (2147483647 : Int32))] 0 = (pa &&& (2147483647 : Int32)).toInt64 := by simp [suml]
          refine Ok.lload (pc' := 257) X106 hx (hb hby at_255) rfl rfl ?_
          refine Ok.lcmp (pc' := 258) X106 hx (hb hby at_257) rfl ?_
          refine Ok.ifN (pc' := 261) X106 hx (hb hby at_258) (bf (lc_all (suml [(pa &&& (2147483647 : Int32))] 0) (pa &&& (2147483647 : Int32)).toInt64).2.1 (fun q => q (by rw [hs106]))) rfl ?_
          refine Ok.iconst (z := (1 : Int32)) (pc' := 262) X106 hx (hb hby at_261) rfl rfl ?_
          refine Ok.goto (pc' := 266) X106 hx (hb hby at_262) (by decide) (by decide) ?_
          refine Ok.retI X106 hx hret hlk (Or.inr (Or.inl rfl)) rfl (hb hby at_266) (by decide) (by decide) ?_
          show Q0 Z pa pb pc0 pk h0 n0 _ T106.heap _
          rw [eq106]
          exact ⟨rfl, N106⟩
        · refine Ok.ifN (pc' := 201) X95 hx (hb hby at_198) (bf (i0 .eq tw (ic_eq tw 0).1) hc198) rfl ?_
          refine Ok.iconst (z := (3 : Int32)) (pc' := 202) X95 hx (hb hby at_201) rfl rfl ?_
          refine Ok.newP (pc' := 204) (cap := 3) X95 hx hZ (hw _ (List.mem_of_getElem? (i := 1) rfl)) rfl eq95 (hb hby at_202) rfl (by decide) (by decide) (by decide) (by decide) (by decide) ?_
          intro T107 h107 b107 kc107 g107 X107 e107 E107 V107
          have ne_b87_b107 : Nq b87 b107 := Nat.ne_of_lt (Nat.lt_of_lt_of_eq V89.lt g107.symm)
          have ne_b91_b107 : Nq b91 b107 := Nat.ne_of_lt (Nat.lt_of_lt_of_eq V93.lt g107.symm)
          replace V89 := V89.ext E107
          replace V93 := V93.ext E107
          have ge_b107 : n0 ≤ b107 := Nat.le_trans Z94 (Nat.le_of_eq g107.symm)
          have sz_b107 : h0.size ≤ b107 := Nat.le_trans K93.1 (Nat.le_of_eq g107.symm)
          have K107 : Keep h0 h107 [] := K93.ext E107
          have Z108 : n0 ≤ h107.size := Nat.le_trans Z94 E107.1
          replace V107 : Arv Z h107 b107 kc107 .int (3 : Int32) [(.int (0 : Int32)), (.int (0 : Int32)), (.int (0 : Int32))] (.int (0 : Int32)) := V107.pad (pad_rep [] (.int (0 : Int32)) 3)
          show Ok p e below _ _ T107 (mkF m 204 #[.val (.int pa), .val (.int pb), .val (.int pc0), .val (.int pk), .val (.int (pa &&& (2147483647 : Int32))), .val (.int (pb &&& (2147483647 : Int32))), .val (.int (pc0 &&& (2147483647 : Int32))), .val (.int (pk &&& (3 : Int32))), .val (.int tw), .val (.ref b87), .val (.ref b91), .val (.long (pa &&& (2147483647 : Int32)).toInt64), .second, .val (.int z95), .unset, .unset] [(.ref b107)])
          refine Ok.dup (pc' := 205) X107 hx (hb hby at_204) rfl rfl ?_
          refine Ok.iconst (z := (0 : Int32)) (pc' := 206) X107 hx (hb hby at_205) rfl rfl ?_
          refine Ok.iconst (z := (0 : Int32)) (pc' := 207) X107 hx (hb hby at_206) rfl rfl ?_
          refine Ok.stI (pc' := 208) (i := 0) X107 hx hZ e107 V107 ⟨by decide, by decide⟩ rfl (Nat.le_of_ble_eq_true rfl) (hb hby at_207) rfl ?_
          intro T109 h109 X109 e109 W109 V109
          replace V89 := V89.other W109 ne_b87_b107
          replace V93 := V93.other W109 ne_b91_b107
          replace V109 : Arv Z h109 b107 kc107 .int (3 : Int32) [(.int (0 : Int32)), (.int (0 : Int32)), (.int (0 : Int32))] (.int (0 : Int32)) := V109
          have N109 := Fr.snoc X109 N95 ge_b107
          have K109 : Keep h0 h109 [] := K107.wr W109 (Or.inr sz_b107)
          have Z110 : n0 ≤ h109.size := Nat.le_trans Z108 (Keep.of_wr W109).1
          refine Ok.dup (pc' := 209) X109 hx (hb hby at_208) rfl rfl ?_
          refine Ok.iconst (z := (1 : Int32)) (pc' := 210) X109 hx (hb hby at_209) rfl rfl ?_
          refine Ok.iload (pc' := 212) X109 hx (hb hby at_210) rfl rfl ?_
          refine Ok.stI (pc' := 213) (i := 1) X109 hx hZ e109 V109 ⟨by decide, by decide⟩ rfl (Nat.le_of_ble_eq_true rfl) (hb hby at_212) rfl ?_
          intro T111 h111 X111 e111 W111 V111
          replace V89 := V89.other W111 ne_b87_b107
          replace V93 := V93.other W111 ne_b91_b107
          replace V111 : Arv Z h111 b107 kc107 .int (3 : Int32) [(.int (0 : Int32)), (.int z95), (.int (0 : Int32))] (.int (0 : Int32)) := V111
          have N111 := Fr.snoc X111 N109 ge_b107
          have K111 : Keep h0 h111 [] := K109.wr W111 (Or.inr sz_b107)
          have Z112 : n0 ≤ h111.size := Nat.le_trans Z110 (Keep.of_wr W111).1
          refine Ok.dup (pc' := 214) X111 hx (hb hby at_213) rfl rfl ?_
          refine Ok.iconst (z := (2 : Int32)) (pc' := 215) X111 hx (hb hby at_214) rfl rfl ?_
          refine Ok.iload (pc' := 217) X111 hx (hb hby at_215) rfl rfl ?_
          refine Ok.stI (pc' := 218) (i := 2) X111 hx hZ e111 V111 ⟨by decide, by decide⟩ rfl (Nat.le_of_ble_eq_true rfl) (hb hby at_217) rfl ?_
          intro T113 h113 X113 e113 W113 V113
          replace V89 := V89.other W113 ne_b87_b107
          replace V93 := V93.other W113 ne_b91_b107
          replace V113 : Arv Z h113 b107 kc107 .int (3 : Int32) [(.int (0 : Int32)), (.int z95), (.int (pk &&& (3 : Int32)))] (.int (0 : Int32)) := V113
          have N113 := Fr.snoc X113 N111 ge_b107
          have K113 : Keep h0 h113 [] := K111.wr W113 (Or.inr sz_b107)
          have Z114 : n0 ≤ h113.size := Nat.le_trans Z112 (Keep.of_wr W113).1
          refine Ok.goto (pc' := 233) X113 hx (hb hby at_218) (by decide) (by decide) ?_
          refine Ok.astore (l' := #[.val (.int pa), .val (.int pb), .val (.int pc0), .val (.int pk), .val (.int (pa &&& (2147483647 : Int32))), .val (.int (pb &&& (2147483647 : Int32))), .val (.int (pc0 &&& (2147483647 : Int32))), .val (.int (pk &&& (3 : Int32))), .val (.int tw), .val (.ref b87), .val (.ref b91), .val (.long (pa &&& (2147483647 : Int32)).toInt64), .second, .val (.int z95), .val (.ref b107), .unset]) (pc' := 235) X113 hx (hb hby at_233) rfl rfl rfl ?_
          refine Ok.new (pc' := 238) X113 hx hZ hown (hw _ (List.mem_of_getElem? (i := 6) rfl)) (hw _ (List.mem_of_getElem? (i := 7) rfl)) (hw _ (List.mem_of_getElem? (i := 8) rfl)) e113 (hb hby at_235) rfl (by decide) (by decide) ?_
          intro T115 h115 b115 g115 X115 e115 E115 A115 D115
          have ne_b87_b115 : Nq b87 b115 := Nat.ne_of_lt (Nat.lt_of_lt_of_eq V89.lt g115.symm)
          have ne_b91_b115 : Nq b91 b115 := Nat.ne_of_lt (Nat.lt_of_lt_of_eq V93.lt g115.symm)
          have ne_b107_b115 : Nq b107 b115 := Nat.ne_of_lt (Nat.lt_of_lt_of_eq V113.lt g115.symm)
          replace V89 := V89.ext E115
          replace V93 := V93.ext E115
          replace V113 := V113.ext E115
          have ge_b115 : n0 ≤ b115 := Nat.le_trans Z114 (Nat.le_of_eq g115.symm)
          have sz_b115 : h0.size ≤ b115 := Nat.le_trans K113.1 (Nat.le_of_eq g115.symm)
          have K115 : Keep h0 h115 [] := K113.ext E115
          have Z116 : n0 ≤ h115.size := Nat.le_trans Z114 E115.1
          have F115_scanStarts : Fld Z h115 b115 "com/example/raie/raie/tdf/Frame" "scanStarts" "[I" .null := D115 (Or.inr (hw _ (List.mem_of_getElem? (i := 16) rfl))) (ty := (.array .int)) (by decide)
          have F115_tofIndices : Fld Z h115 b115 "com/example/raie/raie/tdf/Frame" "tofIndices" "[I" .null := D115 (Or.inr (hw _ (List.mem_of_getElem? (i := 18) rfl))) (ty := (.array .int)) (by decide)
          have F115_intensities : Fld Z h115 b115 "com/example/raie/raie/tdf/Frame" "intensities" "[I" .null := D115 (Or.inr (hw _ (List.mem_of_getElem? (i := 20) rfl))) (ty := (.array .int)) (by decide)
          show Ok p e below _ _ T115 (mkF m 238 #[.val (.int pa), .val (.int pb), .val (.int pc0), .val (.int pk), .val (.int (pa &&& (2147483647 : Int32))), .val (.int (pb &&& (2147483647 : Int32))), .val (.int (pc0 &&& (2147483647 : Int32))), .val (.int (pk &&& (3 : Int32))), .val (.int tw), .val (.ref b87), .val (.ref b91), .val (.long (pa &&& (2147483647 : Int32)).toInt64), .second, .val (.int z95), .val (.ref b107), .unset] [(.ref b115)])
          refine Ok.dup (pc' := 239) X115 hx (hb hby at_238) rfl rfl ?_
          refine Ok.aload (pc' := 241) X115 hx (hb hby at_239) rfl rfl rfl ?_
          refine Ok.aload (pc' := 243) X115 hx (hb hby at_241) rfl rfl rfl ?_
          refine Ok.aload (pc' := 245) X115 hx (hb hby at_243) rfl rfl rfl ?_
          refine Ok.init (pc' := 248) (W := 1) (a := b115)  (argsL := [(.ref b107), (.ref b87), (.ref b91)]) (rest := [(.ref b115)]) X115 hx hZ hown (rm2 l Z a0 hw b115 b107 b87 b91 .null .null .null h115 n0 Z116 A115 ge_b115 F115_scanStarts F115_tofIndices F115_intensities) rfl (hw _ (List.mem_of_getElem? (i := 9) rfl)) (hw _ (List.mem_of_getElem? (i := 10) rfl)) (hw _ (List.mem_of_getElem? (i := 8) rfl)) (hw _ (List.mem_of_getElem? (i := 11) rfl)) (by decide) e115 (by decide) (by decide) (by decide) (by decide) (lenOf pd_1 rfl) rfl rfl (Nat.le_of_eq rfl) (by rw [hml]; rfl) (hb hby at_245) rfl ?_
          intro v117 T117 L117 X117 hQ117
          obtain ⟨rfl, Nq117, Kq117, Aq117, Fq117_scanStarts, Fq117_tofIndices, Fq117_intensities⟩ := hQ117
          have N117 := Fr.app N113 Nq117
          replace V89 := V89.keep Kq117 (ninS ne_b87_b115 nin0)
          replace V93 := V93.keep Kq117 (ninS ne_b91_b115 nin0)
          replace V113 := V113.keep Kq117 (ninS ne_b107_b115 nin0)
          replace A115 := A115.keep Kq117
          have K117' : Keep h0 T117.heap [] := K115.trans Kq117 (allS (Or.inr sz_b115) all0)
          have Z118 : n0 ≤ T117.heap.size := Nat.le_trans Z116 Kq117.1
          show Ok p e below _ _ T117 (mkF m 248 #[.val (.int pa), .val (.int pb), .val (.int pc0), .val (.int pk), .val (.int (pa &&& (2147483647 : Int32))), .val (.int (pb &&& (2147483647 : Int32))), .val (.int (pc0 &&& (2147483647 : Int32))), .val (.int (pk &&& (3 : Int32))), .val (.int tw), .val (.ref b87), .val (.ref b91), .val (.long (pa &&& (2147483647 : Int32)).toInt64), .second, .val (.int z95), .val (.ref b107), .unset] [(.ref b115)])
          refine Ok.astore (l' := #[.val (.int pa), .val (.int pb), .val (.int pc0), .val (.int pk), .val (.int (pa &&& (2147483647 : Int32))), .val (.int (pb &&& (2147483647 : Int32))), .val (.int (pc0 &&& (2147483647 : Int32))), .val (.int (pk &&& (3 : Int32))), .val (.int tw), .val (.ref b87), .val (.ref b91), .val (.long (pa &&& (2147483647 : Int32)).toInt64), .second, .val (.int z95), .val (.ref b107), .val (.ref b115)]) (pc' := 250) X117 hx (hb hby at_248) rfl rfl rfl ?_
          refine Ok.aload (pc' := 252) X117 hx (hb hby at_250) rfl rfl rfl ?_
          refine Ok.virt (pc' := 255) (W := 0) (a := b115)  (argsL := []) (rest := []) X117 hx hZ hown (rm4 l Z a0 hw b115 b91 kc91 [(pa &&& (2147483647 : Int32))] T117.heap n0 Z118 Fq117_intensities V93 (by show 1 < 2 ^ 31; decide)) (hw _ (List.mem_of_getElem? (i := 21) rfl)) (hw _ (List.mem_of_getElem? (i := 22) rfl)) (notFace_of_selects (args := #[]) (mvT hZ (hw _ (List.mem_of_getElem? (i := 24) rfl)))) (hw _ (List.mem_of_getElem? (i := 24) rfl)) (hw _ (List.mem_of_getElem? (i := 23) rfl)) (hw _ (List.mem_of_getElem? (i := 8) rfl)) (hw _ (List.mem_of_getElem? (i := 25) rfl)) (by decide) rfl A115 (by decide) (by decide) (by decide) (by decide) (lenOf pd_3 rfl) rfl rfl (Nat.le_of_eq rfl) (by rw [hml]; rfl) (hb hby at_252) rfl ?_
          intro v119 T119 L119 X119 hQ119
          obtain ⟨rfl, Nq119, eq119⟩ := hQ119
          have N119 := Fr.app N117 Nq119
          show Ok p e below _ _ T119 (mkF m 255 #[.val (.int pa), .val (.int pb), .val (.int pc0), .val (.int pk), .val (.int (pa &&& (2147483647 : Int32))), .val (.int (pb &&& (2147483647 : Int32))), .val (.int (pc0 &&& (2147483647 : Int32))), .val (.int (pk &&& (3 : Int32))), .val (.int tw), .val (.ref b87), .val (.ref b91), .val (.long (pa &&& (2147483647 : Int32)).toInt64), .second, .val (.int z95), .val (.ref b107), .val (.ref b115)] [(.long (suml [(pa &&& (2147483647 : Int32))] 0))])
          have hs119 : suml [(pa &&& (2147483647 : Int32))] 0 = (pa &&& (2147483647 : Int32)).toInt64 := by simp [suml]
          refine Ok.lload (pc' := 257) X119 hx (hb hby at_255) rfl rfl ?_
          refine Ok.lcmp (pc' := 258) X119 hx (hb hby at_257) rfl ?_
          refine Ok.ifN (pc' := 261) X119 hx (hb hby at_258) (bf (lc_all (suml [(pa &&& (2147483647 : Int32))] 0) (pa &&& (2147483647 : Int32)).toInt64).2.1 (fun q => q (by rw [hs119]))) rfl ?_
          refine Ok.iconst (z := (1 : Int32)) (pc' := 262) X119 hx (hb hby at_261) rfl rfl ?_
          refine Ok.goto (pc' := 266) X119 hx (hb hby at_262) (by decide) (by decide) ?_
          refine Ok.retI X119 hx hret hlk (Or.inr (Or.inl rfl)) rfl (hb hby at_266) (by decide) (by decide) ?_
          show Q0 Z pa pb pc0 pk h0 n0 _ T119.heap _
          rw [eq119]
          exact ⟨rfl, N119⟩
    · refine Ok.ifN (pc' := 43) X0 hx (hb hby at_40) (bf (i0 .ne (pk &&& (3 : Int32)) (ic_eq (pk &&& (3 : Int32)) 0).2.1) hc40) rfl ?_
      refine Ok.iconst (z := (0 : Int32)) (pc' := 44) X0 hx (hb hby at_43) rfl rfl ?_
      refine Ok.newP (pc' := 46) (cap := 0) X0 hx hZ (hw _ (List.mem_of_getElem? (i := 1) rfl)) rfl e0 (hb hby at_44) rfl (by decide) (by decide) (by decide) (by decide) (by decide) ?_
      intro T120 h120 b120 kc120 g120 X120 e120 E120 V120
      have ge_b120 : n0 ≤ b120 := Nat.le_trans Z0 (Nat.le_of_eq g120.symm)
      have sz_b120 : h0.size ≤ b120 := Nat.le_trans K0.1 (Nat.le_of_eq g120.symm)
      have K120 : Keep h0 h120 [] := K0.ext E120
      have Z121 : n0 ≤ h120.size := Nat.le_trans Z0 E120.1
      replace V120 : Arv Z h120 b120 kc120 .int (0 : Int32) [] (.int (0 : Int32)) := V120.pad (pad_rep [] (.int (0 : Int32)) 0)
      show Ok p e below _ _ T120 (mkF m 46 #[.val (.int pa), .val (.int pb), .val (.int pc0), .val (.int pk), .val (.int (pa &&& (2147483647 : Int32))), .val (.int (pb &&& (2147483647 : Int32))), .val (.int (pc0 &&& (2147483647 : Int32))), .val (.int (pk &&& (3 : Int32))), .val (.int tw), .unset, .unset, .unset, .unset, .unset, .unset, .unset] [(.ref b120)])
      refine Ok.astore (l' := #[.val (.int pa), .val (.int pb), .val (.int pc0), .val (.int pk), .val (.int (pa &&& (2147483647 : Int32))), .val (.int (pb &&& (2147483647 : Int32))), .val (.int (pc0 &&& (2147483647 : Int32))), .val (.int (pk &&& (3 : Int32))), .val (.int tw), .val (.ref b120), .unset, .unset, .unset, .unset, .unset, .unset]) (pc' := 48) X120 hx (hb hby at_46) rfl rfl rfl ?_
      refine Ok.iconst (z := (0 : Int32)) (pc' := 49) X120 hx (hb hby at_48) rfl rfl ?_
      refine Ok.newP (pc' := 51) (cap := 0) X120 hx hZ (hw _ (List.mem_of_getElem? (i := 1) rfl)) rfl e120 (hb hby at_49) rfl (by decide) (by decide) (by decide) (by decide) (by decide) ?_
      intro T122 h122 b122 kc122 g122 X122 e122 E122 V122
      have ne_b120_b122 : Nq b120 b122 := Nat.ne_of_lt (Nat.lt_of_lt_of_eq V120.lt g122.symm)
      replace V120 := V120.ext E122
      have ge_b122 : n0 ≤ b122 := Nat.le_trans Z121 (Nat.le_of_eq g122.symm)
      have sz_b122 : h0.size ≤ b122 := Nat.le_trans K120.1 (Nat.le_of_eq g122.symm)
      have K122 : Keep h0 h122 [] := K120.ext E122
      have Z123 : n0 ≤ h122.size := Nat.le_trans Z121 E122.1
      replace V122 : Arv Z h122 b122 kc122 .int (0 : Int32) [] (.int (0 : Int32)) := V122.pad (pad_rep [] (.int (0 : Int32)) 0)
      show Ok p e below _ _ T122 (mkF m 51 #[.val (.int pa), .val (.int pb), .val (.int pc0), .val (.int pk), .val (.int (pa &&& (2147483647 : Int32))), .val (.int (pb &&& (2147483647 : Int32))), .val (.int (pc0 &&& (2147483647 : Int32))), .val (.int (pk &&& (3 : Int32))), .val (.int tw), .val (.ref b120), .unset, .unset, .unset, .unset, .unset, .unset] [(.ref b122)])
      refine Ok.astore (l' := #[.val (.int pa), .val (.int pb), .val (.int pc0), .val (.int pk), .val (.int (pa &&& (2147483647 : Int32))), .val (.int (pb &&& (2147483647 : Int32))), .val (.int (pc0 &&& (2147483647 : Int32))), .val (.int (pk &&& (3 : Int32))), .val (.int tw), .val (.ref b120), .val (.ref b122), .unset, .unset, .unset, .unset, .unset]) (pc' := 53) X122 hx (hb hby at_51) rfl rfl rfl ?_
      refine Ok.lconst (z := (0 : Int64)) (pc' := 54) X122 hx (hb hby at_53) rfl rfl ?_
      refine Ok.lstore (l' := #[.val (.int pa), .val (.int pb), .val (.int pc0), .val (.int pk), .val (.int (pa &&& (2147483647 : Int32))), .val (.int (pb &&& (2147483647 : Int32))), .val (.int (pc0 &&& (2147483647 : Int32))), .val (.int (pk &&& (3 : Int32))), .val (.int tw), .val (.ref b120), .val (.ref b122), .val (.long (0 : Int64)), .second, .unset, .unset, .unset]) (pc' := 56) X122 hx (hb hby at_54) rfl rfl ?_
      refine Ok.goto (pc' := 188) X122 hx (hb hby at_56) (by decide) (by decide) ?_
      refine Ok.iconst (z := (1 : Int32)) (pc' := 189) X122 hx (hb hby at_188) rfl rfl ?_
      refine Ok.iload (pc' := 191) X122 hx (hb hby at_189) rfl rfl ?_
      refine Ok.callS (pc' := 194) (W := 0)  (argsL := [(.int (1 : Int32)), (.int (pk &&& (3 : Int32)))]) (rest := []) X122 hx hZ hown (rm1 l Z a0 hw (1 : Int32) (pk &&& (3 : Int32)) h122 n0 Z123 ) (hw _ (List.mem_of_getElem? (i := 2) rfl)) (hw _ (List.mem_of_getElem? (i := 3) rfl)) (hw _ (List.mem_of_getElem? (i := 4) rfl)) (hw _ (List.mem_of_getElem? (i := 5) rfl)) (by decide) e122 (by decide) (by decide) (by decide) (by decide) (lenOf pd_0 rfl) rfl rfl (Nat.le_of_eq rfl) (by rw [hml]; rfl) (hb hby at_191) rfl ?_
      intro v124 T124 L124 X124 hQ124
      obtain ⟨z124, rfl, hz124, Nq124, eq124⟩ := hQ124
      have N124 := Fr.app N0 Nq124
      show Ok p e below _ _ T124 (mkF m 194 #[.val (.int pa), .val (.int pb), .val (.int pc0), .val (.int pk), .val (.int (pa &&& (2147483647 : Int32))), .val (.int (pb &&& (2147483647 : Int32))), .val (.int (pc0 &&& (2147483647 : Int32))), .val (.int (pk &&& (3 : Int32))), .val (.int tw), .val (.ref b120), .val (.ref b122), .val (.long (0 : Int64)), .second, .unset, .unset, .unset] [(.int z124)])
      refine Ok.istore (l' := #[.val (.int pa), .val (.int pb), .val (.int pc0), .val (.int pk), .val (.int (pa &&& (2147483647 : Int32))), .val (.int (pb &&& (2147483647 : Int32))), .val (.int (pc0 &&& (2147483647 : Int32))), .val (.int (pk &&& (3 : Int32))), .val (.int tw), .val (.ref b120), .val (.ref b122), .val (.long (0 : Int64)), .second, .val (.int z124), .unset, .unset]) (pc' := 196) X124 hx (hb hby at_194) rfl rfl ?_
      refine Ok.iload (pc' := 198) X124 hx (hb hby at_196) rfl rfl ?_
      by_cases hc198 : tw.toInt = 0
      · refine Ok.ifY (pc' := 221) X124 hx (hb hby at_198) (bt (i0 .eq tw (ic_eq tw 0).1) hc198) (by decide) (by decide) ?_
        refine Ok.iconst (z := (2 : Int32)) (pc' := 222) X124 hx (hb hby at_221) rfl rfl ?_
        refine Ok.newP (pc' := 224) (cap := 2) X124 hx hZ (hw _ (List.mem_of_getElem? (i := 1) rfl)) rfl eq124 (hb hby at_222) rfl (by decide) (by decide) (by decide) (by decide) (by decide) ?_
        intro T125 h125 b125 kc125 g125 X125 e125 E125 V125
        have ne_b120_b125 : Nq b120 b125 := Nat.ne_of_lt (Nat.lt_of_lt_of_eq V120.lt g125.symm)
        have ne_b122_b125 : Nq b122 b125 := Nat.ne_of_lt (Nat.lt_of_lt_of_eq V122.lt g125.symm)
        replace V120 := V120.ext E125
        replace V122 := V122.ext E125
        have ge_b125 : n0 ≤ b125 := Nat.le_trans Z123 (Nat.le_of_eq g125.symm)
        have sz_b125 : h0.size ≤ b125 := Nat.le_trans K122.1 (Nat.le_of_eq g125.symm)
        have K125 : Keep h0 h125 [] := K122.ext E125
        have Z126 : n0 ≤ h125.size := Nat.le_trans Z123 E125.1
        replace V125 : Arv Z h125 b125 kc125 .int (2 : Int32) [(.int (0 : Int32)), (.int (0 : Int32))] (.int (0 : Int32)) := V125.pad (pad_rep [] (.int (0 : Int32)) 2)
        show Ok p e below _ _ T125 (mkF m 224 #[.val (.int pa), .val (.int pb), .val (.int pc0), .val (.int pk), .val (.int (pa &&& (2147483647 : Int32))), .val (.int (pb &&& (2147483647 : Int32))), .val (.int (pc0 &&& (2147483647 : Int32))), .val (.int (pk &&& (3 : Int32))), .val (.int tw), .val (.ref b120), .val (.ref b122), .val (.long (0 : Int64)), .second, .val (.int z124), .unset, .unset] [(.ref b125)])
        refine Ok.dup (pc' := 225) X125 hx (hb hby at_224) rfl rfl ?_
        refine Ok.iconst (z := (0 : Int32)) (pc' := 226) X125 hx (hb hby at_225) rfl rfl ?_
        refine Ok.iconst (z := (0 : Int32)) (pc' := 227) X125 hx (hb hby at_226) rfl rfl ?_
        refine Ok.stI (pc' := 228) (i := 0) X125 hx hZ e125 V125 ⟨by decide, by decide⟩ rfl (Nat.le_of_ble_eq_true rfl) (hb hby at_227) rfl ?_
        intro T127 h127 X127 e127 W127 V127
        replace V120 := V120.other W127 ne_b120_b125
        replace V122 := V122.other W127 ne_b122_b125
        replace V127 : Arv Z h127 b125 kc125 .int (2 : Int32) [(.int (0 : Int32)), (.int (0 : Int32))] (.int (0 : Int32)) := V127
        have N127 := Fr.snoc X127 N124 ge_b125
        have K127 : Keep h0 h127 [] := K125.wr W127 (Or.inr sz_b125)
        have Z128 : n0 ≤ h127.size := Nat.le_trans Z126 (Keep.of_wr W127).1
        refine Ok.dup (pc' := 229) X127 hx (hb hby at_228) rfl rfl ?_
        refine Ok.iconst (z := (1 : Int32)) (pc' := 230) X127 hx (hb hby at_229) rfl rfl ?_
        refine Ok.iload (pc' := 232) X127 hx (hb hby at_230) rfl rfl ?_
        refine Ok.stI (pc' := 233) (i := 1) X127 hx hZ e127 V127 ⟨by decide, by decide⟩ rfl (Nat.le_of_ble_eq_true rfl) (hb hby at_232) rfl ?_
        intro T129 h129 X129 e129 W129 V129
        replace V120 := V120.other W129 ne_b120_b125
        replace V122 := V122.other W129 ne_b122_b125
        replace V129 : Arv Z h129 b125 kc125 .int (2 : Int32) [(.int (0 : Int32)), (.int (pk &&& (3 : Int32)))] (.int (0 : Int32)) := V129
        have N129 := Fr.snoc X129 N127 ge_b125
        have K129 : Keep h0 h129 [] := K127.wr W129 (Or.inr sz_b125)
        have Z130 : n0 ≤ h129.size := Nat.le_trans Z128 (Keep.of_wr W129).1
        refine Ok.astore (l' := #[.val (.int pa), .val (.int pb), .val (.int pc0), .val (.int pk), .val (.int (pa &&& (2147483647 : Int32))), .val (.int (pb &&& (2147483647 : Int32))), .val (.int (pc0 &&& (2147483647 : Int32))), .val (.int (pk &&& (3 : Int32))), .val (.int tw), .val (.ref b120), .val (.ref b122), .val (.long (0 : Int64)), .second, .val (.int z124), .val (.ref b125), .unset]) (pc' := 235) X129 hx (hb hby at_233) rfl rfl rfl ?_
        refine Ok.new (pc' := 238) X129 hx hZ hown (hw _ (List.mem_of_getElem? (i := 6) rfl)) (hw _ (List.mem_of_getElem? (i := 7) rfl)) (hw _ (List.mem_of_getElem? (i := 8) rfl)) e129 (hb hby at_235) rfl (by decide) (by decide) ?_
        intro T131 h131 b131 g131 X131 e131 E131 A131 D131
        have ne_b120_b131 : Nq b120 b131 := Nat.ne_of_lt (Nat.lt_of_lt_of_eq V120.lt g131.symm)
        have ne_b122_b131 : Nq b122 b131 := Nat.ne_of_lt (Nat.lt_of_lt_of_eq V122.lt g131.symm)
        have ne_b125_b131 : Nq b125 b131 := Nat.ne_of_lt (Nat.lt_of_lt_of_eq V129.lt g131.symm)
        replace V120 := V120.ext E131
        replace V122 := V122.ext E131
        replace V129 := V129.ext E131
        have ge_b131 : n0 ≤ b131 := Nat.le_trans Z130 (Nat.le_of_eq g131.symm)
        have sz_b131 : h0.size ≤ b131 := Nat.le_trans K129.1 (Nat.le_of_eq g131.symm)
        have K131 : Keep h0 h131 [] := K129.ext E131
        have Z132 : n0 ≤ h131.size := Nat.le_trans Z130 E131.1
        have F131_scanStarts : Fld Z h131 b131 "com/example/raie/raie/tdf/Frame" "scanStarts" "[I" .null := D131 (Or.inr (hw _ (List.mem_of_getElem? (i := 16) rfl))) (ty := (.array .int)) (by decide)
        have F131_tofIndices : Fld Z h131 b131 "com/example/raie/raie/tdf/Frame" "tofIndices" "[I" .null := D131 (Or.inr (hw _ (List.mem_of_getElem? (i := 18) rfl))) (ty := (.array .int)) (by decide)
        have F131_intensities : Fld Z h131 b131 "com/example/raie/raie/tdf/Frame" "intensities" "[I" .null := D131 (Or.inr (hw _ (List.mem_of_getElem? (i := 20) rfl))) (ty := (.array .int)) (by decide)
        show Ok p e below _ _ T131 (mkF m 238 #[.val (.int pa), .val (.int pb), .val (.int pc0), .val (.int pk), .val (.int (pa &&& (2147483647 : Int32))), .val (.int (pb &&& (2147483647 : Int32))), .val (.int (pc0 &&& (2147483647 : Int32))), .val (.int (pk &&& (3 : Int32))), .val (.int tw), .val (.ref b120), .val (.ref b122), .val (.long (0 : Int64)), .second, .val (.int z124), .val (.ref b125), .unset] [(.ref b131)])
        refine Ok.dup (pc' := 239) X131 hx (hb hby at_238) rfl rfl ?_
        refine Ok.aload (pc' := 241) X131 hx (hb hby at_239) rfl rfl rfl ?_
        refine Ok.aload (pc' := 243) X131 hx (hb hby at_241) rfl rfl rfl ?_
        refine Ok.aload (pc' := 245) X131 hx (hb hby at_243) rfl rfl rfl ?_
        refine Ok.init (pc' := 248) (W := 1) (a := b131)  (argsL := [(.ref b125), (.ref b120), (.ref b122)]) (rest := [(.ref b131)]) X131 hx hZ hown (rm2 l Z a0 hw b131 b125 b120 b122 .null .null .null h131 n0 Z132 A131 ge_b131 F131_scanStarts F131_tofIndices F131_intensities) rfl (hw _ (List.mem_of_getElem? (i := 9) rfl)) (hw _ (List.mem_of_getElem? (i := 10) rfl)) (hw _ (List.mem_of_getElem? (i := 8) rfl)) (hw _ (List.mem_of_getElem? (i := 11) rfl)) (by decide) e131 (by decide) (by decide) (by decide) (by decide) (lenOf pd_1 rfl) rfl rfl (Nat.le_of_eq rfl) (by rw [hml]; rfl) (hb hby at_245) rfl ?_
        intro v133 T133 L133 X133 hQ133
        obtain ⟨rfl, Nq133, Kq133, Aq133, Fq133_scanStarts, Fq133_tofIndices, Fq133_intensities⟩ := hQ133
        have N133 := Fr.app N129 Nq133
        replace V120 := V120.keep Kq133 (ninS ne_b120_b131 nin0)
        replace V122 := V122.keep Kq133 (ninS ne_b122_b131 nin0)
        replace V129 := V129.keep Kq133 (ninS ne_b125_b131 nin0)
        replace A131 := A131.keep Kq133
        have K133' : Keep h0 T133.heap [] := K131.trans Kq133 (allS (Or.inr sz_b131) all0)
        have Z134 : n0 ≤ T133.heap.size := Nat.le_trans Z132 Kq133.1
        show Ok p e below _ _ T133 (mkF m 248 #[.val (.int pa), .val (.int pb), .val (.int pc0), .val (.int pk), .val (.int (pa &&& (2147483647 : Int32))), .val (.int (pb &&& (2147483647 : Int32))), .val (.int (pc0 &&& (2147483647 : Int32))), .val (.int (pk &&& (3 : Int32))), .val (.int tw), .val (.ref b120), .val (.ref b122), .val (.long (0 : Int64)), .second, .val (.int z124), .val (.ref b125), .unset] [(.ref b131)])
        refine Ok.astore (l' := #[.val (.int pa), .val (.int pb), .val (.int pc0), .val (.int pk), .val (.int (pa &&& (2147483647 : Int32))), .val (.int (pb &&& (2147483647 : Int32))), .val (.int (pc0 &&& (2147483647 : Int32))), .val (.int (pk &&& (3 : Int32))), .val (.int tw), .val (.ref b120), .val (.ref b122), .val (.long (0 : Int64)), .second, .val (.int z124), .val (.ref b125), .val (.ref b131)]) (pc' := 250) X133 hx (hb hby at_248) rfl rfl rfl ?_
        refine Ok.aload (pc' := 252) X133 hx (hb hby at_250) rfl rfl rfl ?_
        refine Ok.virt (pc' := 255) (W := 0) (a := b131)  (argsL := []) (rest := []) X133 hx hZ hown (rm4 l Z a0 hw b131 b122 kc122 [] T133.heap n0 Z134 Fq133_intensities V122 (by show 0 < 2 ^ 31; decide)) (hw _ (List.mem_of_getElem? (i := 21) rfl)) (hw _ (List.mem_of_getElem? (i := 22) rfl)) (notFace_of_selects (args := #[]) (mvT hZ (hw _ (List.mem_of_getElem? (i := 24) rfl)))) (hw _ (List.mem_of_getElem? (i := 24) rfl)) (hw _ (List.mem_of_getElem? (i := 23) rfl)) (hw _ (List.mem_of_getElem? (i := 8) rfl)) (hw _ (List.mem_of_getElem? (i := 25) rfl)) (by decide) rfl A131 (by decide) (by decide) (by decide) (by decide) (lenOf pd_3 rfl) rfl rfl (Nat.le_of_eq rfl) (by rw [hml]; rfl) (hb hby at_252) rfl ?_
        intro v135 T135 L135 X135 hQ135
        obtain ⟨rfl, Nq135, eq135⟩ := hQ135
        have N135 := Fr.app N133 Nq135
        show Ok p e below _ _ T135 (mkF m 255 #[.val (.int pa), .val (.int pb), .val (.int pc0), .val (.int pk), .val (.int (pa &&& (2147483647 : Int32))), .val (.int (pb &&& (2147483647 : Int32))), .val (.int (pc0 &&& (2147483647 : Int32))), .val (.int (pk &&& (3 : Int32))), .val (.int tw), .val (.ref b120), .val (.ref b122), .val (.long (0 : Int64)), .second, .val (.int z124), .val (.ref b125), .val (.ref b131)] [(.long (suml [] 0))])
        have hs135 : suml [] 0 = (0 : Int64) := by simp [suml]
        refine Ok.lload (pc' := 257) X135 hx (hb hby at_255) rfl rfl ?_
        refine Ok.lcmp (pc' := 258) X135 hx (hb hby at_257) rfl ?_
        refine Ok.ifN (pc' := 261) X135 hx (hb hby at_258) (bf (lc_all (suml [] 0) (0 : Int64)).2.1 (fun q => q (by rw [hs135]))) rfl ?_
        refine Ok.iconst (z := (1 : Int32)) (pc' := 262) X135 hx (hb hby at_261) rfl rfl ?_
        refine Ok.goto (pc' := 266) X135 hx (hb hby at_262) (by decide) (by decide) ?_
        refine Ok.retI X135 hx hret hlk (Or.inr (Or.inl rfl)) rfl (hb hby at_266) (by decide) (by decide) ?_
        show Q0 Z pa pb pc0 pk h0 n0 _ T135.heap _
        rw [eq135]
        exact ⟨rfl, N135⟩
      · refine Ok.ifN (pc' := 201) X124 hx (hb hby at_198) (bf (i0 .eq tw (ic_eq tw 0).1) hc198) rfl ?_
        refine Ok.iconst (z := (3 : Int32)) (pc' := 202) X124 hx (hb hby at_201) rfl rfl ?_
        refine Ok.newP (pc' := 204) (cap := 3) X124 hx hZ (hw _ (List.mem_of_getElem? (i := 1) rfl)) rfl eq124 (hb hby at_202) rfl (by decide) (by decide) (by decide) (by decide) (by decide) ?_
        intro T136 h136 b136 kc136 g136 X136 e136 E136 V136
        have ne_b120_b136 : Nq b120 b136 := Nat.ne_of_lt (Nat.lt_of_lt_of_eq V120.lt g136.symm)
        have ne_b122_b136 : Nq b122 b136 := Nat.ne_of_lt (Nat.lt_of_lt_of_eq V122.lt g136.symm)
        replace V120 := V120.ext E136
        replace V122 := V122.ext E136
        have ge_b136 : n0 ≤ b136 := Nat.le_trans Z123 (Nat.le_of_eq g136.symm)
        have sz_b136 : h0.size ≤ b136 := Nat.le_trans K122.1 (Nat.le_of_eq g136.symm)
        have K136 : Keep h0 h136 [] := K122.ext E136
        have Z137 : n0 ≤ h136.size := Nat.le_trans Z123 E136.1
        replace V136 : Arv Z h136 b136 kc136 .int (3 : Int32) [(.int (0 : Int32)), (.int (0 : Int32)), (.int (0 : Int32))] (.int (0 : Int32)) := V136.pad (pad_rep [] (.int (0 : Int32)) 3)
        show Ok p e below _ _ T136 (mkF m 204 #[.val (.int pa), .val (.int pb), .val (.int pc0), .val (.int pk), .val (.int (pa &&& (2147483647 : Int32))), .val (.int (pb &&& (2147483647 : Int32))), .val (.int (pc0 &&& (2147483647 : Int32))), .val (.int (pk &&& (3 : Int32))), .val (.int tw), .val (.ref b120), .val (.ref b122), .val (.long (0 : Int64)), .second, .val (.int z124), .unset, .unset] [(.ref b136)])
        refine Ok.dup (pc' := 205) X136 hx (hb hby at_204) rfl rfl ?_
        refine Ok.iconst (z := (0 : Int32)) (pc' := 206) X136 hx (hb hby at_205) rfl rfl ?_
        refine Ok.iconst (z := (0 : Int32)) (pc' := 207) X136 hx (hb hby at_206) rfl rfl ?_
        refine Ok.stI (pc' := 208) (i := 0) X136 hx hZ e136 V136 ⟨by decide, by decide⟩ rfl (Nat.le_of_ble_eq_true rfl) (hb hby at_207) rfl ?_
        intro T138 h138 X138 e138 W138 V138
        replace V120 := V120.other W138 ne_b120_b136
        replace V122 := V122.other W138 ne_b122_b136
        replace V138 : Arv Z h138 b136 kc136 .int (3 : Int32) [(.int (0 : Int32)), (.int (0 : Int32)), (.int (0 : Int32))] (.int (0 : Int32)) := V138
        have N138 := Fr.snoc X138 N124 ge_b136
        have K138 : Keep h0 h138 [] := K136.wr W138 (Or.inr sz_b136)
        have Z139 : n0 ≤ h138.size := Nat.le_trans Z137 (Keep.of_wr W138).1
        refine Ok.dup (pc' := 209) X138 hx (hb hby at_208) rfl rfl ?_
        refine Ok.iconst (z := (1 : Int32)) (pc' := 210) X138 hx (hb hby at_209) rfl rfl ?_
        refine Ok.iload (pc' := 212) X138 hx (hb hby at_210) rfl rfl ?_
        refine Ok.stI (pc' := 213) (i := 1) X138 hx hZ e138 V138 ⟨by decide, by decide⟩ rfl (Nat.le_of_ble_eq_true rfl) (hb hby at_212) rfl ?_
        intro T140 h140 X140 e140 W140 V140
        replace V120 := V120.other W140 ne_b120_b136
        replace V122 := V122.other W140 ne_b122_b136
        replace V140 : Arv Z h140 b136 kc136 .int (3 : Int32) [(.int (0 : Int32)), (.int z124), (.int (0 : Int32))] (.int (0 : Int32)) := V140
        have N140 := Fr.snoc X140 N138 ge_b136
        have K140 : Keep h0 h140 [] := K138.wr W140 (Or.inr sz_b136)
        have Z141 : n0 ≤ h140.size := Nat.le_trans Z139 (Keep.of_wr W140).1
        refine Ok.dup (pc' := 214) X140 hx (hb hby at_213) rfl rfl ?_
        refine Ok.iconst (z := (2 : Int32)) (pc' := 215) X140 hx (hb hby at_214) rfl rfl ?_
        refine Ok.iload (pc' := 217) X140 hx (hb hby at_215) rfl rfl ?_
        refine Ok.stI (pc' := 218) (i := 2) X140 hx hZ e140 V140 ⟨by decide, by decide⟩ rfl (Nat.le_of_ble_eq_true rfl) (hb hby at_217) rfl ?_
        intro T142 h142 X142 e142 W142 V142
        replace V120 := V120.other W142 ne_b120_b136
        replace V122 := V122.other W142 ne_b122_b136
        replace V142 : Arv Z h142 b136 kc136 .int (3 : Int32) [(.int (0 : Int32)), (.int z124), (.int (pk &&& (3 : Int32)))] (.int (0 : Int32)) := V142
        have N142 := Fr.snoc X142 N140 ge_b136
        have K142 : Keep h0 h142 [] := K140.wr W142 (Or.inr sz_b136)
        have Z143 : n0 ≤ h142.size := Nat.le_trans Z141 (Keep.of_wr W142).1
        refine Ok.goto (pc' := 233) X142 hx (hb hby at_218) (by decide) (by decide) ?_
        refine Ok.astore (l' := #[.val (.int pa), .val (.int pb), .val (.int pc0), .val (.int pk), .val (.int (pa &&& (2147483647 : Int32))), .val (.int (pb &&& (2147483647 : Int32))), .val (.int (pc0 &&& (2147483647 : Int32))), .val (.int (pk &&& (3 : Int32))), .val (.int tw), .val (.ref b120), .val (.ref b122), .val (.long (0 : Int64)), .second, .val (.int z124), .val (.ref b136), .unset]) (pc' := 235) X142 hx (hb hby at_233) rfl rfl rfl ?_
        refine Ok.new (pc' := 238) X142 hx hZ hown (hw _ (List.mem_of_getElem? (i := 6) rfl)) (hw _ (List.mem_of_getElem? (i := 7) rfl)) (hw _ (List.mem_of_getElem? (i := 8) rfl)) e142 (hb hby at_235) rfl (by decide) (by decide) ?_
        intro T144 h144 b144 g144 X144 e144 E144 A144 D144
        have ne_b120_b144 : Nq b120 b144 := Nat.ne_of_lt (Nat.lt_of_lt_of_eq V120.lt g144.symm)
        have ne_b122_b144 : Nq b122 b144 := Nat.ne_of_lt (Nat.lt_of_lt_of_eq V122.lt g144.symm)
        have ne_b136_b144 : Nq b136 b144 := Nat.ne_of_lt (Nat.lt_of_lt_of_eq V142.lt g144.symm)
        replace V120 := V120.ext E144
        replace V122 := V122.ext E144
        replace V142 := V142.ext E144
        have ge_b144 : n0 ≤ b144 := Nat.le_trans Z143 (Nat.le_of_eq g144.symm)
        have sz_b144 : h0.size ≤ b144 := Nat.le_trans K142.1 (Nat.le_of_eq g144.symm)
        have K144 : Keep h0 h144 [] := K142.ext E144
        have Z145 : n0 ≤ h144.size := Nat.le_trans Z143 E144.1
        have F144_scanStarts : Fld Z h144 b144 "com/example/raie/raie/tdf/Frame" "scanStarts" "[I" .null := D144 (Or.inr (hw _ (List.mem_of_getElem? (i := 16) rfl))) (ty := (.array .int)) (by decide)
        have F144_tofIndices : Fld Z h144 b144 "com/example/raie/raie/tdf/Frame" "tofIndices" "[I" .null := D144 (Or.inr (hw _ (List.mem_of_getElem? (i := 18) rfl))) (ty := (.array .int)) (by decide)
        have F144_intensities : Fld Z h144 b144 "com/example/raie/raie/tdf/Frame" "intensities" "[I" .null := D144 (Or.inr (hw _ (List.mem_of_getElem? (i := 20) rfl))) (ty := (.array .int)) (by decide)
        show Ok p e below _ _ T144 (mkF m 238 #[.val (.int pa), .val (.int pb), .val (.int pc0), .val (.int pk), .val (.int (pa &&& (2147483647 : Int32))), .val (.int (pb &&& (2147483647 : Int32))), .val (.int (pc0 &&& (2147483647 : Int32))), .val (.int (pk &&& (3 : Int32))), .val (.int tw), .val (.ref b120), .val (.ref b122), .val (.long (0 : Int64)), .second, .val (.int z124), .val (.ref b136), .unset] [(.ref b144)])
        refine Ok.dup (pc' := 239) X144 hx (hb hby at_238) rfl rfl ?_
        refine Ok.aload (pc' := 241) X144 hx (hb hby at_239) rfl rfl rfl ?_
        refine Ok.aload (pc' := 243) X144 hx (hb hby at_241) rfl rfl rfl ?_
        refine Ok.aload (pc' := 245) X144 hx (hb hby at_243) rfl rfl rfl ?_
        refine Ok.init (pc' := 248) (W := 1) (a := b144)  (argsL := [(.ref b136), (.ref b120), (.ref b122)]) (rest := [(.ref b144)]) X144 hx hZ hown (rm2 l Z a0 hw b144 b136 b120 b122 .null .null .null h144 n0 Z145 A144 ge_b144 F144_scanStarts F144_tofIndices F144_intensities) rfl (hw _ (List.mem_of_getElem? (i := 9) rfl)) (hw _ (List.mem_of_getElem? (i := 10) rfl)) (hw _ (List.mem_of_getElem? (i := 8) rfl)) (hw _ (List.mem_of_getElem? (i := 11) rfl)) (by decide) e144 (by decide) (by decide) (by decide) (by decide) (lenOf pd_1 rfl) rfl rfl (Nat.le_of_eq rfl) (by rw [hml]; rfl) (hb hby at_245) rfl ?_
        intro v146 T146 L146 X146 hQ146
        obtain ⟨rfl, Nq146, Kq146, Aq146, Fq146_scanStarts, Fq146_tofIndices, Fq146_intensities⟩ := hQ146
        have N146 := Fr.app N142 Nq146
        replace V120 := V120.keep Kq146 (ninS ne_b120_b144 nin0)
        replace V122 := V122.keep Kq146 (ninS ne_b122_b144 nin0)
        replace V142 := V142.keep Kq146 (ninS ne_b136_b144 nin0)
        replace A144 := A144.keep Kq146
        have K146' : Keep h0 T146.heap [] := K144.trans Kq146 (allS (Or.inr sz_b144) all0)
        have Z147 : n0 ≤ T146.heap.size := Nat.le_trans Z145 Kq146.1
        show Ok p e below _ _ T146 (mkF m 248 #[.val (.int pa), .val (.int pb), .val (.int pc0), .val (.int pk), .val (.int (pa &&& (2147483647 : Int32))), .val (.int (pb &&& (2147483647 : Int32))), .val (.int (pc0 &&& (2147483647 : Int32))), .val (.int (pk &&& (3 : Int32))), .val (.int tw), .val (.ref b120), .val (.ref b122), .val (.long (0 : Int64)), .second, .val (.int z124), .val (.ref b136), .unset] [(.ref b144)])
        refine Ok.astore (l' := #[.val (.int pa), .val (.int pb), .val (.int pc0), .val (.int pk), .val (.int (pa &&& (2147483647 : Int32))), .val (.int (pb &&& (2147483647 : Int32))), .val (.int (pc0 &&& (2147483647 : Int32))), .val (.int (pk &&& (3 : Int32))), .val (.int tw), .val (.ref b120), .val (.ref b122), .val (.long (0 : Int64)), .second, .val (.int z124), .val (.ref b136), .val (.ref b144)]) (pc' := 250) X146 hx (hb hby at_248) rfl rfl rfl ?_
        refine Ok.aload (pc' := 252) X146 hx (hb hby at_250) rfl rfl rfl ?_
        refine Ok.virt (pc' := 255) (W := 0) (a := b144)  (argsL := []) (rest := []) X146 hx hZ hown (rm4 l Z a0 hw b144 b122 kc122 [] T146.heap n0 Z147 Fq146_intensities V122 (by show 0 < 2 ^ 31; decide)) (hw _ (List.mem_of_getElem? (i := 21) rfl)) (hw _ (List.mem_of_getElem? (i := 22) rfl)) (notFace_of_selects (args := #[]) (mvT hZ (hw _ (List.mem_of_getElem? (i := 24) rfl)))) (hw _ (List.mem_of_getElem? (i := 24) rfl)) (hw _ (List.mem_of_getElem? (i := 23) rfl)) (hw _ (List.mem_of_getElem? (i := 8) rfl)) (hw _ (List.mem_of_getElem? (i := 25) rfl)) (by decide) rfl A144 (by decide) (by decide) (by decide) (by decide) (lenOf pd_3 rfl) rfl rfl (Nat.le_of_eq rfl) (by rw [hml]; rfl) (hb hby at_252) rfl ?_
        intro v148 T148 L148 X148 hQ148
        obtain ⟨rfl, Nq148, eq148⟩ := hQ148
        have N148 := Fr.app N146 Nq148
        show Ok p e below _ _ T148 (mkF m 255 #[.val (.int pa), .val (.int pb), .val (.int pc0), .val (.int pk), .val (.int (pa &&& (2147483647 : Int32))), .val (.int (pb &&& (2147483647 : Int32))), .val (.int (pc0 &&& (2147483647 : Int32))), .val (.int (pk &&& (3 : Int32))), .val (.int tw), .val (.ref b120), .val (.ref b122), .val (.long (0 : Int64)), .second, .val (.int z124), .val (.ref b136), .val (.ref b144)] [(.long (suml [] 0))])
        have hs148 : suml [] 0 = (0 : Int64) := by simp [suml]
        refine Ok.lload (pc' := 257) X148 hx (hb hby at_255) rfl rfl ?_
        refine Ok.lcmp (pc' := 258) X148 hx (hb hby at_257) rfl ?_
        refine Ok.ifN (pc' := 261) X148 hx (hb hby at_258) (bf (lc_all (suml [] 0) (0 : Int64)).2.1 (fun q => q (by rw [hs148]))) rfl ?_
        refine Ok.iconst (z := (1 : Int32)) (pc' := 262) X148 hx (hb hby at_261) rfl rfl ?_
        refine Ok.goto (pc' := 266) X148 hx (hb hby at_262) (by decide) (by decide) ?_
        refine Ok.retI X148 hx hret hlk (Or.inr (Or.inl rfl)) rfl (hb hby at_266) (by decide) (by decide) ?_
        show Q0 Z pa pb pc0 pk h0 n0 _ T148.heap _
        rw [eq148]
        exact ⟨rfl, N148⟩
  refine Ok.iloadN (pc' := 24) X0 hx (hb hby at_23) rfl rfl ?_
  refine Ok.iconst (z := (2 : Int32)) (pc' := 25) X0 hx (hb hby at_24) rfl rfl ?_
  refine Ok.ishr (pc' := 26) X0 hx (hb hby at_25) rfl ?_
  refine Ok.iconst (z := (1 : Int32)) (pc' := 27) X0 hx (hb hby at_26) rfl rfl ?_
  refine Ok.iand (pc' := 28) X0 hx (hb hby at_27) rfl ?_
  by_cases hc28 : ((pk >>> ((2 : Int32) &&& 31)) &&& (1 : Int32)).toInt = 0
  · refine Ok.ifY (pc' := 35) X0 hx (hb hby at_28) (bt (i0 .eq ((pk >>> ((2 : Int32) &&& 31)) &&& (1 : Int32)) (ic_eq ((pk >>> ((2 : Int32) &&& 31)) &&& (1 : Int32)) 0).1) hc28) (by decide) (by decide) ?_
    refine Ok.iconst (z := (0 : Int32)) (pc' := 36) X0 hx (hb hby at_35) rfl rfl ?_
    exact k36 (0 : Int32)
  · refine Ok.ifN (pc' := 31) X0 hx (hb hby at_28) (bf (i0 .eq ((pk >>> ((2 : Int32) &&& 31)) &&& (1 : Int32)) (ic_eq ((pk >>> ((2 : Int32) &&& 31)) &&& (1 : Int32)) 0).1) hc28) rfl ?_
    refine Ok.iconst (z := (1 : Int32)) (pc' := 32) X0 hx (hb hby at_31) rfl rfl ?_
    refine Ok.goto (pc' := 36) X0 hx (hb hby at_32) (by decide) (by decide) ?_
    exact k36 (1 : Int32)
set_option maxRecDepth 65536 in
set_option maxHeartbeats 40000000 in
theorem comes_1 {Post : Tables → Env → Array Value → State → Outcome → State → Prop} (hpost : ∀ tb e args s v u, (limb_1_1.after args s (.returned v) u = true ∧ limb_1_2.after args s (.returned v) u = true ∧ True) → FrameEnd s (.returned v) u (Jvm.fieldLocs frame_1_writes args s ++ Jvm.arrayLocs frame_1_arrays args s ++ Jvm.staticLocs frame_1_statics s) 16 128 → Post tb e args s (.returned v) u) :
    ArmFor flags0 classFile x code maxLocals ret World_1 tables_1 room_1 Calls_1 rest_1 Pre_1 Post := by
  intro l hfl _ _ p e ha hc hk s m args below hf hA hF happ hP
  obtain ⟨hcalls, hrest, hpre⟩ := hP
  obtain ⟨-, -, -, hnamed, -, -, -, hat⟩ := (Spec.applies_iff hf).mp happ
  obtain ⟨hg, hn⟩ := and_e (Cond.before_iff.mp (show (Jvm.Cond.and given_1 narrow_1).before args s = true from hpre))
  obtain ⟨hcount, hg0⟩ := and_e hg
  obtain ⟨hk0, hg1⟩ := and_e hg0
  obtain ⟨hk1, hg2⟩ := and_e hg1
  obtain ⟨hk2, hg3⟩ := and_e hg2
  have hk3 := hg3
  obtain ⟨w0, w1, w2, w3, rfl⟩ : ∃ w0 w1 w2 w3 : Value, args = #[w0, w1, w2, w3] := by
    have hs : args.size = 4 := by simpa [Cond.value, given_1] using hcount
    obtain ⟨L⟩ := args
    match L, hs with
    | [w0, w1, w2, w3], _ => exact ⟨w0, w1, w2, w3, rfl⟩
  have hw := fun d (hd : d ∈ tables_1) => atoms_spec (ws := Jvm.Cond.code x code maxLocals ret :: tables_1) hat d (List.mem_cons_of_mem _ hd)
  obtain ⟨i0, ei0⟩ := is_v hk0
  obtain rfl : w0 = (.int i0) := Option.some.inj ei0
  obtain ⟨i1, ei1⟩ := is_v hk1
  obtain rfl : w1 = (.int i1) := Option.some.inj ei1
  obtain ⟨i2, ei2⟩ := is_v hk2
  obtain rfl : w2 = (.int i2) := Option.some.inj ei2
  obtain ⟨i3, ei3⟩ := is_v hk3
  obtain rfl : w3 = (.int i3) := Option.some.inj ei3
  obtain ⟨n, o, h1, h2, h3, _, L, rfl, ⟨rfl, N⟩, hq⟩ := rm0 l s _ hw tables_1 i0 i1 i2 i3 s.heap s.heap.size (Nat.le_refl _)  p e ha hc hk s m _ below hf ((Spec.applies_iff_loose hf).mp happ).1 ⟨rfl, State.Warmed39.refl s, rfl⟩ trivial
  refine ⟨n, _, h1, h2, h3, hpost _ _ _ _ _ _ ⟨Cond.after_iff.mpr rfl, Cond.after_iff.mpr (eq_i res_at (Term.int_eval (1)) rfl), trivial⟩ ⟨hq.1, hq.2.1, (hq.2.2.sift fun y hy => Or.inr (N y hy)).mono (by decide) (by decide)⟩⟩
theorem main_1_1 : Claimed_1_1 := comes_1 fun _ _ _ _ _ _ h hF => ⟨h.1, hF⟩
theorem main_1_2 : Claimed_1_2 := comes_1 fun _ _ _ _ _ _ h hF => ⟨h.2.1, hF⟩
end Jvm.Pilot.@@N@@
namespace Jvm.Pilot.@@N@@
open Jvm Jvm.ClassFile Sem Op Lib Jvm.Free Jvm.Stand Jvm.Pilot.@@N@@.Jvm.D
/-! MADE BY PROGRAM (witnessworld.py) out of the Statement's table words and the real class files: 10 classes; the members and pool entries that the words name. The judged class is class 1, her method 1. -/
namespace start1
open Jvm.ClassFile
def u (s : String) : CpInfo := .utf8 (stringToUtf16 s)
/-- a pool by its gaps: so many unusable entries, then the entry; so many at the end -/
def gap : Nat → List CpInfo → List CpInfo
  | 0, r => r
  | n + 1, r => .unusable :: gap n r
def poolList (es : List (Nat × CpInfo)) (last : Nat) : List CpInfo := es.foldr (fun e r => gap e.1 (e.2 :: r)) (gap last [])
def pool (es : List (Nat × CpInfo)) (last : Nat) : Array CpInfo := ⟨poolList es last⟩
def fileOf (pool : Array CpInfo) (this : Nat) (attrs : Array Attribute := #[]) (ms : Array MethodInfo := #[]) (fl : Nat := 33) (sup : Nat := 0) (ifs : Array Nat := #[]) (fds : Array FieldInfo := #[]) : ClassFile where
  minorVersion := 0
  majorVersion := 65
  constantPool := pool
  accessFlags := fl
  thisClass := this
  superClass := sup
  interfaces := ifs
  fields := fds
  methods := ms
  attributes := attrs
def plain (name : String) (sup : Option ClassId) : Class where
  name := name
  kind := .ordinary
  loader := none
  accessFlags := 33
  super := sup
  interfaces := #[]
  cf := none
  fields := #[]
  methods := #[]
  instanceTypes := #[]
  staticTypes := #[]
  resolved := #[]
  callSites := []
  init := .initialized
  statics := none
  mirror := none

def pool0 : Array CpInfo := pool [(5, u "<init>"), (0, u "()V"), (1, .class_ 10), (1, u "java/lang/Object")] 113

def k0c0 : Code := { maxStack := 0, maxLocals := 1, code := object_method_1_code, exceptionTable := #[], attributes := #[] }
def k0m0 : Method := { name := "<init>", desc := "()V", sig := { parameters := [], returnType := none }, accessFlags := 1, code := some k0c0 }
/-- java/lang/Object -/
def k0 : Class := { plain "java/lang/Object" none with
  accessFlags := 33
  interfaces := #[]
  cf := some (fileOf pool0 8 #[] #[{ accessFlags := 1, nameIndex := 5, descriptorIndex := 6, attributes := #[] }] 33 0 #[] #[])
  fields := #[]
  methods := #[k0m0]
  instanceTypes := #[]
  staticTypes := #[]
  resolved := Array.replicate 124 none
  statics := none }

def pool1 : Array CpInfo := pool [(2, .class_ 4), (1, u "java/lang/Object"), (0, u "<init>"), (0, u "()V"), (0, .integer 2147483647), (0, .methodref 9 10), (0, .class_ 11), (0, .nameAndType 12 13), (0, u "java/lang/Math"), (0, u "min"), (0, u "(II)I"), (0, .class_ 15), (0, u "com/example/raie/raie/tdf/Frame"), (0, .methodref 14 17), (0, .nameAndType 5 18), (0, u "([I[I[I)V"), (0, .methodref 14 20), (0, .nameAndType 21 22), (0, u "summedIntensity"), (0, u "()J"), (0, .class_ 24), (0, u "com/example/raie/raie/tdf/FrameSummedIntensityPinLaw"), (2, u "law"), (0, u "(IIII)Z")] 5

def k1m0 : Method := { name := "<init>", desc := "()V", sig := { parameters := [], returnType := none }, accessFlags := 1, code := none }
def k1c1 : Code := { maxStack := 5, maxLocals := 16, code := code, exceptionTable := #[], attributes := #[] }
def k1m1 : Method := { name := "law", desc := "(IIII)Z", sig := { parameters := [.int, .int, .int, .int], returnType := some .boolean }, accessFlags := 9, code := some k1c1 }
/-- com/example/raie/raie/tdf/FrameSummedIntensityPinLaw -/
def k1 : Class := { plain "com/example/raie/raie/tdf/FrameSummedIntensityPinLaw" (some 0) with
  accessFlags := 49
  interfaces := #[]
  cf := some (fileOf pool1 23 #[] #[{ accessFlags := 1, nameIndex := 5, descriptorIndex := 6, attributes := #[] }, { accessFlags := 9, nameIndex := 27, descriptorIndex := 28, attributes := #[] }] 49 2 #[] #[])
  fields := #[]
  methods := #[k1m0, k1m1]
  instanceTypes := #[]
  staticTypes := #[]
  resolved := Array.replicate 34 none
  statics := none }

def pool2 : Array CpInfo := pool [(1, .class_ 2), (0, u "java/lang/Math"), (1, .class_ 6), (1, u "java/lang/Object"), (0, u "<init>"), (0, u "()V"), (89, .class_ 100), (1, u "java/lang/Math$RandomNumberGeneratorHolder"), (71, u "negativeZeroFloatBits"), (0, u "J"), (2, u "negativeZeroDoubleBits"), (24, u "min"), (43, u "$assertionsDisabled"), (0, u "Z"), (88, u "(II)I"), (2, u "twoToTheDoubleScaleDown"), (0, u "D"), (4, u "twoToTheDoubleScaleUp"), (9, u "E"), (3, u "PI"), (2, u "TAU"), (2, u "DEGREES_TO_RADIANS"), (0, u "RADIANS_TO_DEGREES")] 94

def k2m0 : Method := { name := "<init>", desc := "()V", sig := { parameters := [], returnType := none }, accessFlags := 2, code := none }
def k2c1 : Code := { maxStack := 2, maxLocals := 2, code := jdk_29_method_69_code, exceptionTable := #[], attributes := #[] }
def k2m1 : Method := { name := "min", desc := "(II)I", sig := { parameters := [.int, .int], returnType := some .int }, accessFlags := 9, code := some k2c1 }
/-- java/lang/Math -/
def k2 : Class := { plain "java/lang/Math" (some 0) with
  accessFlags := 49
  interfaces := #[]
  cf := some (fileOf pool2 1 #[.nestMembers #[98]] #[{ accessFlags := 2, nameIndex := 7, descriptorIndex := 8, attributes := #[] }, { accessFlags := 9, nameIndex := 201, descriptorIndex := 335, attributes := #[] }] 49 4 #[] #[{ accessFlags := 25, nameIndex := 354, descriptorIndex := 339, attributes := #[] }, { accessFlags := 25, nameIndex := 358, descriptorIndex := 339, attributes := #[] }, { accessFlags := 25, nameIndex := 361, descriptorIndex := 339, attributes := #[] }, { accessFlags := 26, nameIndex := 364, descriptorIndex := 339, attributes := #[] }, { accessFlags := 26, nameIndex := 365, descriptorIndex := 339, attributes := #[] }, { accessFlags := 26, nameIndex := 172, descriptorIndex := 173, attributes := #[] }, { accessFlags := 26, nameIndex := 176, descriptorIndex := 173, attributes := #[] }, { accessFlags := 8, nameIndex := 344, descriptorIndex := 339, attributes := #[] }, { accessFlags := 8, nameIndex := 338, descriptorIndex := 339, attributes := #[] }, { accessFlags := 4120, nameIndex := 245, descriptorIndex := 246, attributes := #[] }])
  fields := #[{ name := "E", type := .double, accessFlags := 25, slot := 0, constantValue := 0 }, { name := "PI", type := .double, accessFlags := 25, slot := 1, constantValue := 0 }, { name := "TAU", type := .double, accessFlags := 25, slot := 2, constantValue := 0 }, { name := "DEGREES_TO_RADIANS", type := .double, accessFlags := 26, slot := 3, constantValue := 0 }, { name := "RADIANS_TO_DEGREES", type := .double, accessFlags := 26, slot := 4, constantValue := 0 }, { name := "negativeZeroFloatBits", type := .long, accessFlags := 26, slot := 5, constantValue := 0 }, { name := "negativeZeroDoubleBits", type := .long, accessFlags := 26, slot := 6, constantValue := 0 }, { name := "twoToTheDoubleScaleUp", type := .double, accessFlags := 8, slot := 7, constantValue := 0 }, { name := "twoToTheDoubleScaleDown", type := .double, accessFlags := 8, slot := 8, constantValue := 0 }, { name := "$assertionsDisabled", type := .boolean, accessFlags := 4120, slot := 9, constantValue := 0 }]
  methods := #[k2m0, k2m1]
  instanceTypes := #[]
  staticTypes := #[.double, .double, .double, .double, .double, .long, .long, .double, .double, .boolean]
  resolved := Array.replicate 460 none
  statics := none }

def pool3 : Array CpInfo := pool [(1, .methodref 2 3), (0, .class_ 4), (0, .nameAndType 5 6), (0, u "java/lang/Object"), (0, u "<init>"), (0, u "()V"), (0, .fieldref 8 9), (0, .class_ 10), (0, .nameAndType 11 12), (0, u "com/example/raie/raie/tdf/Frame"), (0, u "scanStarts"), (0, u "[I"), (0, .fieldref 8 14), (0, .nameAndType 15 12), (0, u "tofIndices"), (0, .fieldref 8 17), (0, .nameAndType 18 12), (0, u "intensities"), (27, u "([I[I[I)V"), (13, u "summedIntensity"), (0, u "()J")] 18

def k3c0 : Code := { maxStack := 2, maxLocals := 4, code := prog_58_method_1_code, exceptionTable := #[], attributes := #[] }
def k3m0 : Method := { name := "<init>", desc := "([I[I[I)V", sig := { parameters := [(.array .int), (.array .int), (.array .int)], returnType := none }, accessFlags := 0, code := some k3c0 }
def k3c1 : Code := { maxStack := 4, maxLocals := 7, code := prog_58_method_9_code, exceptionTable := #[], attributes := #[] }
def k3m1 : Method := { name := "summedIntensity", desc := "()J", sig := { parameters := [], returnType := some .long }, accessFlags := 1, code := some k3c1 }
/-- com/example/raie/raie/tdf/Frame -/
def k3 : Class := { plain "com/example/raie/raie/tdf/Frame" (some 0) with
  accessFlags := 49
  interfaces := #[]
  cf := some (fileOf pool3 8 #[] #[{ accessFlags := 0, nameIndex := 5, descriptorIndex := 46, attributes := #[] }, { accessFlags := 1, nameIndex := 60, descriptorIndex := 61, attributes := #[] }] 49 2 #[] #[{ accessFlags := 18, nameIndex := 11, descriptorIndex := 12, attributes := #[] }, { accessFlags := 18, nameIndex := 15, descriptorIndex := 12, attributes := #[] }, { accessFlags := 18, nameIndex := 18, descriptorIndex := 12, attributes := #[] }])
  fields := #[{ name := "scanStarts", type := (.array .int), accessFlags := 18, slot := 0, constantValue := 0 }, { name := "tofIndices", type := (.array .int), accessFlags := 18, slot := 1, constantValue := 0 }, { name := "intensities", type := (.array .int), accessFlags := 18, slot := 2, constantValue := 0 }]
  methods := #[k3m0, k3m1]
  instanceTypes := #[(.array .int), (.array .int), (.array .int)]
  staticTypes := #[]
  resolved := Array.replicate 80 none
  statics := none }

def pool4 : Array CpInfo := pool [(1, u "java/lang/Cloneable"), (0, .class_ 1), (0, u "java/lang/Object"), (0, .class_ 3)] 3

/-- java/lang/Cloneable -/
def k4 : Class := { plain "java/lang/Cloneable" (some 0) with
  accessFlags := 1537
  interfaces := #[]
  cf := some (fileOf pool4 2 #[] #[] 1537 4 #[] #[])
  fields := #[]
  methods := #[]
  instanceTypes := #[]
  staticTypes := #[]
  resolved := Array.replicate 8 none
  statics := none }

def pool5 : Array CpInfo := pool [(1, u "java/io/Serializable"), (0, .class_ 1), (0, u "java/lang/Object"), (0, .class_ 3)] 3

/-- java/io/Serializable -/
def k5 : Class := { plain "java/io/Serializable" (some 0) with
  accessFlags := 1537
  interfaces := #[]
  cf := some (fileOf pool5 2 #[] #[] 1537 4 #[] #[])
  fields := #[]
  methods := #[]
  instanceTypes := #[]
  staticTypes := #[]
  resolved := Array.replicate 8 none
  statics := none }

/-- the primitive byte -/
def k6 : Class := { plain "byte" none with kind := .primitive 'B', accessFlags := 0x411 }
/-- [B -/
def k7 : Class := { plain "[B" (some 0) with kind := .array 6 .byte, interfaces := #[4, 5], accessFlags := 1041 }

/-- the primitive int -/
def k8 : Class := { plain "int" none with kind := .primitive 'I', accessFlags := 0x411 }
/-- [I -/
def k9 : Class := { plain "[I" (some 0) with kind := .array 8 .int, interfaces := #[4, 5], accessFlags := 1041 }

def heap : Heap := #[]
def classes : Array Class := #[k0, k1, k2, k3, k4, k5, k6, k7, k8, k9]
def interned : List (Array UInt16 × Addr) := []
def slotsUsed : Nat := 0
def theMethod : MethodId := ⟨1, 1⟩
def args0 : Array Value := #[.int 1, .int 2, .int 3, .int 4]
def aboutOver (below : List Frame) : State where
  vm := { classes := classes, interned := interned.toArray }
  heap := heap
  slotsUsed := slotsUsed
  threads := #[{ frames := .invoking theMethod args0 :: below }]
def below0 : List Frame := [.native { method := ⟨0, 0⟩, args := #[] }]
def about1 : State := aboutOver below0
def p0 : Program := .bare "" "" ""
def e0 : Env := launch0.env 0 0 0
theorem w_frames : about1.frames = Frame.invoking theMethod args0 :: below0 := rfl
set_option maxRecDepth 65536 in
theorem w_args : argsFit about1.vm theMethod args0 = true := by decide +kernel
set_option maxRecDepth 65536 in
theorem w_heap : heapFits about1 = true := by decide +kernel
set_option maxRecDepth 65536 in
theorem w_runnable : about1.curStatus? = some .runnable := by decide +kernel
set_option maxRecDepth 65536 in
theorem w_alone : about1.alone = true := by decide +kernel
set_option maxRecDepth 65536 in
theorem w_named : about1.methodNamed? x = some theMethod := by decide +kernel
set_option maxRecDepth 65536 in
theorem w_hears : about1.hears theMethod below0 = true := by decide +kernel
set_option maxRecDepth 65536 in
theorem w_ripe : about1.ripe theMethod args0 below0 = true := by decide +kernel
theorem w_running : about1.status = .running := rfl
set_option maxRecDepth 65536 in
theorem w_room : about1.hasRoom e0.platform room_1 = true :=
  launch0.hasRoom_least _ room_1 (by decide +kernel) (by decide +kernel) (by decide +kernel) (by decide +kernel) (by decide +kernel) (by decide +kernel)
theorem allAtoms_all (ts : List Jvm.Cond) (a : Array Jvm.Value) (st : Jvm.State) : (allAtoms ts).before a st = ts.all (fun c => c.before a st) := by
  induction ts with
  | nil => rfl
  | cons c t ih =>
    show (Jvm.Cond.and c (allAtoms t)).before a st = _
    rw [Jvm.Cond.before_and, ih, List.all_cons]
def words1 : List Jvm.Cond := Jvm.Cond.code x code maxLocals ret :: tables_1
/-- a 'code' word, met by the world's own term for the bytes: nothing is compared byte by byte -/
theorem code_word {y : MethodName} {bytes : ByteArray} {mx : Nat} {rt : Option FieldType} {a : Array Value} {s : State} {m : MethodId} {meth : Method} {c : Code} (h1 : s.methodNamed? y = some m) (h2 : s.vm.method? m = some meth) (h3 : meth.code = some c) (h4 : c.code = bytes)
    (h5 : (c.maxLocals == mx && c.exceptionTable.isEmpty && decide (c.maxStack ≤ mostOperands) && decide (meth.sig.returnType = rt) && !meth.locks && decide (parseMethodDescriptor y.desc = some meth.sig)) = true) : (Jvm.Cond.code y bytes mx rt).before a s = true := by
  simp only [Bool.and_eq_true, beq_iff_eq, Bool.not_eq_true', decide_eq_true_eq] at h5
  obtain ⟨⟨⟨⟨⟨g1, g2⟩, g3⟩, g4⟩, g5⟩, g6⟩ := h5
  simp [Cond.before, Cond.holds, Cond.value, h1, h2, h3, h4, g1, g2, g3, g4, g5, g6]
def isCode : Jvm.Cond → Bool
  | .code _ _ _ _ => true
  | _ => false
theorem all_split {L : List Jvm.Cond} {P : Jvm.Cond → Bool} (h1 : L.all (fun c => isCode c || P c) = true) (h2 : ∀ c ∈ L.filter isCode, P c = true) : L.all P = true := by
  refine List.all_eq_true.mpr fun c hc => ?_
  have h := List.all_eq_true.mp h1 c hc
  rcases Bool.eq_false_or_eq_true (isCode c) with hi | hi
  · exact h2 c (List.mem_filter.mpr ⟨hc, hi⟩)
  · simpa [hi] using h
set_option maxRecDepth 65536 in
theorem w_c0 : (Jvm.Cond.code x code maxLocals ret).before args0 about1 = true := code_word (m := ⟨1, 1⟩) (meth := k1m1) (c := k1c1) (by decide +kernel) rfl rfl rfl (by decide +kernel)
set_option maxRecDepth 65536 in
theorem w_c1 : (Jvm.Cond.code ({ cls := "java/lang/Math", name := "min", desc := "(II)I" } : Jvm.MethodName) jdk_29_method_69_code (2 : Nat) (Option.some Jvm.ClassFile.FieldType.int)).before args0 about1 = true := code_word (m := ⟨2, 1⟩) (meth := k2m1) (c := k2c1) (by decide +kernel) rfl rfl rfl (by decide +kernel)
set_option maxRecDepth 65536 in
theorem w_c2 : (Jvm.Cond.code ({ cls := "com/example/raie/raie/tdf/Frame", name := "<init>", desc := "([I[I[I)V" } : Jvm.MethodName) prog_58_method_1_code (4 : Nat) (Option.none : Option Jvm.ClassFile.FieldType)).before args0 about1 = true := code_word (m := ⟨3, 0⟩) (meth := k3m0) (c := k3c0) (by decide +kernel) rfl rfl rfl (by decide +kernel)
set_option maxRecDepth 65536 in
theorem w_c3 : (Jvm.Cond.code ({ cls := "java/lang/Object", name := "<init>", desc := "()V" } : Jvm.MethodName) object_method_1_code (1 : Nat) (Option.none : Option Jvm.ClassFile.FieldType)).before args0 about1 = true := code_word (m := ⟨0, 0⟩) (meth := k0m0) (c := k0c0) (by decide +kernel) rfl rfl rfl (by decide +kernel)
set_option maxRecDepth 65536 in
theorem w_c4 : (Jvm.Cond.code ({ cls := "com/example/raie/raie/tdf/Frame", name := "summedIntensity", desc := "()J" } : Jvm.MethodName) prog_58_method_9_code (7 : Nat) (Option.some Jvm.ClassFile.FieldType.long)).before args0 about1 = true := code_word (m := ⟨3, 1⟩) (meth := k3m1) (c := k3c1) (by decide +kernel) rfl rfl rfl (by decide +kernel)
def codes1 : List Jvm.Cond := [Jvm.Cond.code x code maxLocals ret, Jvm.Cond.code ({ cls := "java/lang/Math", name := "min", desc := "(II)I" } : Jvm.MethodName) jdk_29_method_69_code (2 : Nat) (Option.some Jvm.ClassFile.FieldType.int), Jvm.Cond.code ({ cls := "com/example/raie/raie/tdf/Frame", name := "<init>", desc := "([I[I[I)V" } : Jvm.MethodName) prog_58_method_1_code (4 : Nat) (Option.none : Option Jvm.ClassFile.FieldType), Jvm.Cond.code ({ cls := "java/lang/Object", name := "<init>", desc := "()V" } : Jvm.MethodName) object_method_1_code (1 : Nat) (Option.none : Option Jvm.ClassFile.FieldType), Jvm.Cond.code ({ cls := "com/example/raie/raie/tdf/Frame", name := "summedIntensity", desc := "()J" } : Jvm.MethodName) prog_58_method_9_code (7 : Nat) (Option.some Jvm.ClassFile.FieldType.long)]
set_option maxRecDepth 65536 in
theorem codes_eq : words1.filter isCode = codes1 := rfl
theorem w_codes : ∀ c ∈ words1.filter isCode, c.before args0 about1 = true := by
  rw [codes_eq]
  intro c hc
  simp only [codes1, List.mem_cons, List.not_mem_nil, or_false] at hc
  rcases hc with rfl | rfl | rfl | rfl | rfl
  · exact w_c0
  · exact w_c1
  · exact w_c2
  · exact w_c3
  · exact w_c4
set_option maxRecDepth 65536 in
theorem w_t1 : (words1.take 24).all (fun c => isCode c || c.before args0 about1) = true := by decide +kernel
set_option maxRecDepth 65536 in
theorem w_t2 : (words1.drop 24).all (fun c => isCode c || c.before args0 about1) = true := by decide +kernel
theorem w_tables : (allAtoms (Jvm.Cond.code x code maxLocals ret :: tables_1)).before args0 about1 = true := by
  rw [allAtoms_all]
  show words1.all (fun c => c.before args0 about1) = true
  refine all_split ?_ w_codes
  rw [← List.take_append_drop 24 words1, List.all_append, w_t1, w_t2]
  rfl
set_option maxRecDepth 65536 in
theorem w_case : (Jvm.Cond.and given_1 narrow_1).before args0 about1 = true := by decide +kernel
theorem w_applies : (headSpec (Jvm.Cond.code x code maxLocals ret :: tables_1) room_1).applies x e0.platform about1 = true :=
  (Spec.applies_iff w_frames).mpr ⟨w_running, w_runnable, w_alone, w_named, w_hears, w_ripe, w_room, w_tables⟩
theorem atStart : AtStart classFile x code maxLocals ret World_1 tables_1 room_1 Calls_1 rest_1 Pre_1 launch0 p0 e0 about1 theMethod args0 below0 :=
  ⟨lists_1, trivial, launch0.admits_env _ _ _, launch0.least_env, fairChoices_fair.cas, fairChoices_fair.clock, w_frames, w_args, w_heap, w_applies, trivial, trivial, w_case⟩
end start1
theorem witness_1 : WitnessClaimed_1 := ⟨start1.p0, start1.e0, start1.about1, start1.theMethod, start1.args0, start1.below0, start1.atStart⟩
end Jvm.Pilot.@@N@@
