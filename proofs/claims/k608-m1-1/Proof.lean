import JvmDerived
import JvmDerived.Pilot.@@N@@Statement
import JvmDerived.Pilot.@@N@@Code
set_option linter.unusedVariables false
set_option linter.unusedSimpArgs false
@@BLOCK:NumsL.lean.txt@@
namespace Jvm.Pilot.@@N@@
open Jvm Jvm.ClassFile Sem Op Lib Jvm.Free Jvm.Stand Jvm.LawKit Jvm.RoadKit Bundle Jvm.Pilot.@@N@@.Jvm.D
def Nq (a b : Addr) : Prop := a ≠ b
section Layer
variable {p : Program} {l : Launch} {e : Env} {R : Room} {s : State} {m : MethodId} {args : Array Value} {below : List Frame} {meth : Method} {c : Code} {T T' : State} {locs : List Loc} {cells slots : Nat} {Fe : Outcome → State → List Loc → Prop} {Q : Option Value → Heap → List Loc → Prop} {pc pc' : Nat} {Ls l' : Array Slot} {g g' : JFrame} {Z : State} {a0 : Array Value}
/-- from the frame g over T the run comes to a return of which Q and the frame's condition Fe hold -/
def Ok (p : Program) (e : Env) (below : List Frame) (Fe : Outcome → State → List Loc → Prop) (Q : Option Value → Heap → List Loc → Prop) (T : State) (g : JFrame) : Prop :=
  ∃ s₂ o, Steps p.tables e below (T.setTop g) s₂ ∧ s₂.status = .running ∧ Ended s₂ below o ∧ ∃ v L, o = .returned v ∧ Q v s₂.heap L ∧ Fe o s₂ L
def NE (s : State) (nc ns : Nat) (o : Outcome) (t : State) (L : List Loc) : Prop := FrameEnd s o t L nc ns
def WE (s : State) (nc ns : Nat) (o : Outcome) (t : State) (L : List Loc) : Prop := ReturnedEndW s o t L nc ns
theorem Ok.st (h : ∀ t, Steps p.tables e below (T'.setTop g') t → Steps p.tables e below (T.setTop g) t) (k : Ok p e below Fe Q T' g') : Ok p e below Fe Q T g := by
  obtain ⟨t, o, st, r⟩ := k
  exact ⟨t, o, h t st, r⟩
theorem Ok.tr (h : Steps p.tables e below (T.setTop g) (T'.setTop g')) (k : Ok p e below Fe Q T' g') : Ok p e below Fe Q T g := Ok.st (fun _ k' => h.trans k') k
theorem Ok.fr (h : g = g') (k : Ok p e below Fe Q T g') : Ok p e below Fe Q T g := h ▸ k
theorem Ok.iadd {x y : Int32} {rest : List Value} (X : Stand p l e R s m args below meth c T locs cells slots) (hx : p.tables.exec = Jvm.exec) (hd : decode c.code pc = .ok (.iadd, 1)) (hp : pc + 1 = pc')  (k : Ok p e below Fe Q T (mkF m pc' Ls (.int (x + y) :: rest))) : Ok p e below Fe Q T (mkF m pc Ls (.int y :: .int x :: rest)) := by
  subst hp
  exact Ok.st (fun t k => XS.iadd X.here hx rfl hd rfl k) k
theorem Ok.ladd {x y : Int64} {rest : List Value} (X : Stand p l e R s m args below meth c T locs cells slots) (hx : p.tables.exec = Jvm.exec) (hd : decode c.code pc = .ok (.ladd, 1)) (hp : pc + 1 = pc')  (k : Ok p e below Fe Q T (mkF m pc' Ls (.long (x + y) :: rest))) : Ok p e below Fe Q T (mkF m pc Ls (.long y :: .long x :: rest)) := by
  subst hp
  exact Ok.st (fun t k => XS.ladd X.here hx rfl hd rfl k) k
theorem Ok.isub {x y : Int32} {rest : List Value} (X : Stand p l e R s m args below meth c T locs cells slots) (hx : p.tables.exec = Jvm.exec) (hd : decode c.code pc = .ok (.isub, 1)) (hp : pc + 1 = pc')  (k : Ok p e below Fe Q T (mkF m pc' Ls (.int (x - y) :: rest))) : Ok p e below Fe Q T (mkF m pc Ls (.int y :: .int x :: rest)) := by
  subst hp
  exact Ok.st (fun t k => XS.isub X.here hx rfl hd rfl k) k
theorem Ok.lsub {x y : Int64} {rest : List Value} (X : Stand p l e R s m args below meth c T locs cells slots) (hx : p.tables.exec = Jvm.exec) (hd : decode c.code pc = .ok (.lsub, 1)) (hp : pc + 1 = pc')  (k : Ok p e below Fe Q T (mkF m pc' Ls (.long (x - y) :: rest))) : Ok p e below Fe Q T (mkF m pc Ls (.long y :: .long x :: rest)) := by
  subst hp
  exact Ok.st (fun t k => XS.lsub X.here hx rfl hd rfl k) k
theorem Ok.imul {x y : Int32} {rest : List Value} (X : Stand p l e R s m args below meth c T locs cells slots) (hx : p.tables.exec = Jvm.exec) (hd : decode c.code pc = .ok (.imul, 1)) (hp : pc + 1 = pc')  (k : Ok p e below Fe Q T (mkF m pc' Ls (.int (x * y) :: rest))) : Ok p e below Fe Q T (mkF m pc Ls (.int y :: .int x :: rest)) := by
  subst hp
  exact Ok.st (fun t k => XS.imul X.here hx rfl hd rfl k) k
theorem Ok.lmul {x y : Int64} {rest : List Value} (X : Stand p l e R s m args below meth c T locs cells slots) (hx : p.tables.exec = Jvm.exec) (hd : decode c.code pc = .ok (.lmul, 1)) (hp : pc + 1 = pc')  (k : Ok p e below Fe Q T (mkF m pc' Ls (.long (x * y) :: rest))) : Ok p e below Fe Q T (mkF m pc Ls (.long y :: .long x :: rest)) := by
  subst hp
  exact Ok.st (fun t k => XS.lmul X.here hx rfl hd rfl k) k
theorem Ok.iand {x y : Int32} {rest : List Value} (X : Stand p l e R s m args below meth c T locs cells slots) (hx : p.tables.exec = Jvm.exec) (hd : decode c.code pc = .ok (.iand, 1)) (hp : pc + 1 = pc')  (k : Ok p e below Fe Q T (mkF m pc' Ls (.int (x &&& y) :: rest))) : Ok p e below Fe Q T (mkF m pc Ls (.int y :: .int x :: rest)) := by
  subst hp
  exact Ok.st (fun t k => XS.iand X.here hx rfl hd rfl k) k
theorem Ok.land {x y : Int64} {rest : List Value} (X : Stand p l e R s m args below meth c T locs cells slots) (hx : p.tables.exec = Jvm.exec) (hd : decode c.code pc = .ok (.land, 1)) (hp : pc + 1 = pc')  (k : Ok p e below Fe Q T (mkF m pc' Ls (.long (x &&& y) :: rest))) : Ok p e below Fe Q T (mkF m pc Ls (.long y :: .long x :: rest)) := by
  subst hp
  exact Ok.st (fun t k => XS.land X.here hx rfl hd rfl k) k
theorem Ok.ior {x y : Int32} {rest : List Value} (X : Stand p l e R s m args below meth c T locs cells slots) (hx : p.tables.exec = Jvm.exec) (hd : decode c.code pc = .ok (.ior, 1)) (hp : pc + 1 = pc')  (k : Ok p e below Fe Q T (mkF m pc' Ls (.int (x ||| y) :: rest))) : Ok p e below Fe Q T (mkF m pc Ls (.int y :: .int x :: rest)) := by
  subst hp
  exact Ok.st (fun t k => XS.ior X.here hx rfl hd rfl k) k
theorem Ok.lor {x y : Int64} {rest : List Value} (X : Stand p l e R s m args below meth c T locs cells slots) (hx : p.tables.exec = Jvm.exec) (hd : decode c.code pc = .ok (.lor, 1)) (hp : pc + 1 = pc')  (k : Ok p e below Fe Q T (mkF m pc' Ls (.long (x ||| y) :: rest))) : Ok p e below Fe Q T (mkF m pc Ls (.long y :: .long x :: rest)) := by
  subst hp
  exact Ok.st (fun t k => XS.lor X.here hx rfl hd rfl k) k
theorem Ok.ixor {x y : Int32} {rest : List Value} (X : Stand p l e R s m args below meth c T locs cells slots) (hx : p.tables.exec = Jvm.exec) (hd : decode c.code pc = .ok (.ixor, 1)) (hp : pc + 1 = pc')  (k : Ok p e below Fe Q T (mkF m pc' Ls (.int (x ^^^ y) :: rest))) : Ok p e below Fe Q T (mkF m pc Ls (.int y :: .int x :: rest)) := by
  subst hp
  exact Ok.st (fun t k => XS.ixor X.here hx rfl hd rfl k) k
theorem Ok.lxor {x y : Int64} {rest : List Value} (X : Stand p l e R s m args below meth c T locs cells slots) (hx : p.tables.exec = Jvm.exec) (hd : decode c.code pc = .ok (.lxor, 1)) (hp : pc + 1 = pc')  (k : Ok p e below Fe Q T (mkF m pc' Ls (.long (x ^^^ y) :: rest))) : Ok p e below Fe Q T (mkF m pc Ls (.long y :: .long x :: rest)) := by
  subst hp
  exact Ok.st (fun t k => XS.lxor X.here hx rfl hd rfl k) k
theorem Ok.idiv {x y : Int32} {rest : List Value} (X : Stand p l e R s m args below meth c T locs cells slots) (hx : p.tables.exec = Jvm.exec) (hd : decode c.code pc = .ok (.idiv, 1)) (hp : pc + 1 = pc') (hy : y ≠ 0) (k : Ok p e below Fe Q T (mkF m pc' Ls (.int (x / y) :: rest))) : Ok p e below Fe Q T (mkF m pc Ls (.int y :: .int x :: rest)) := by
  subst hp
  exact Ok.st (fun t k => XS.idiv X.here hx rfl hd rfl hy k) k
theorem Ok.ldiv {x y : Int64} {rest : List Value} (X : Stand p l e R s m args below meth c T locs cells slots) (hx : p.tables.exec = Jvm.exec) (hd : decode c.code pc = .ok (.ldiv, 1)) (hp : pc + 1 = pc') (hy : y ≠ 0) (k : Ok p e below Fe Q T (mkF m pc' Ls (.long (x / y) :: rest))) : Ok p e below Fe Q T (mkF m pc Ls (.long y :: .long x :: rest)) := by
  subst hp
  exact Ok.st (fun t k => XS.ldiv X.here hx rfl hd rfl hy k) k
theorem Ok.irem {x y : Int32} {rest : List Value} (X : Stand p l e R s m args below meth c T locs cells slots) (hx : p.tables.exec = Jvm.exec) (hd : decode c.code pc = .ok (.irem, 1)) (hp : pc + 1 = pc') (hy : y ≠ 0) (k : Ok p e below Fe Q T (mkF m pc' Ls (.int (x % y) :: rest))) : Ok p e below Fe Q T (mkF m pc Ls (.int y :: .int x :: rest)) := by
  subst hp
  exact Ok.st (fun t k => iremM X hx rfl hd rfl hy k) k
theorem Ok.lrem {x y : Int64} {rest : List Value} (X : Stand p l e R s m args below meth c T locs cells slots) (hx : p.tables.exec = Jvm.exec) (hd : decode c.code pc = .ok (.lrem, 1)) (hp : pc + 1 = pc') (hy : y ≠ 0) (k : Ok p e below Fe Q T (mkF m pc' Ls (.long (x - (x / y) * y) :: rest))) : Ok p e below Fe Q T (mkF m pc Ls (.long y :: .long x :: rest)) := by
  subst hp
  exact Ok.st (fun t k => XS.lrem X.here hx rfl hd rfl hy k) k
theorem Ok.ishl {x y : Int32} {rest : List Value} (X : Stand p l e R s m args below meth c T locs cells slots) (hx : p.tables.exec = Jvm.exec) (hd : decode c.code pc = .ok (.ishl, 1)) (hp : pc + 1 = pc')  (k : Ok p e below Fe Q T (mkF m pc' Ls (.int (x <<< (y &&& 31)) :: rest))) : Ok p e below Fe Q T (mkF m pc Ls (.int y :: .int x :: rest)) := by
  subst hp
  exact Ok.st (fun t k => XS.ishl X.here hx rfl hd rfl k) k
theorem Ok.ishr {x y : Int32} {rest : List Value} (X : Stand p l e R s m args below meth c T locs cells slots) (hx : p.tables.exec = Jvm.exec) (hd : decode c.code pc = .ok (.ishr, 1)) (hp : pc + 1 = pc')  (k : Ok p e below Fe Q T (mkF m pc' Ls (.int (x >>> (y &&& 31)) :: rest))) : Ok p e below Fe Q T (mkF m pc Ls (.int y :: .int x :: rest)) := by
  subst hp
  exact Ok.st (fun t k => XS.ishr X.here hx rfl hd rfl k) k
theorem Ok.iushr {x y : Int32} {rest : List Value} (X : Stand p l e R s m args below meth c T locs cells slots) (hx : p.tables.exec = Jvm.exec) (hd : decode c.code pc = .ok (.iushr, 1)) (hp : pc + 1 = pc')  (k : Ok p e below Fe Q T (mkF m pc' Ls (.int ((x.toUInt32 >>> (y &&& 31).toUInt32).toInt32) :: rest))) : Ok p e below Fe Q T (mkF m pc Ls (.int y :: .int x :: rest)) := by
  subst hp
  exact Ok.st (fun t k => XS.iushr X.here hx rfl hd rfl k) k
theorem Ok.lshl {x : Int64} {y : Int32} {rest : List Value} (X : Stand p l e R s m args below meth c T locs cells slots) (hx : p.tables.exec = Jvm.exec) (hd : decode c.code pc = .ok (.lshl, 1)) (hp : pc + 1 = pc')  (k : Ok p e below Fe Q T (mkF m pc' Ls (.long (x <<< (y &&& 0x3f).toInt64) :: rest))) : Ok p e below Fe Q T (mkF m pc Ls (.int y :: .long x :: rest)) := by
  subst hp
  exact Ok.st (fun t k => XS.lshl X.here hx rfl hd rfl k) k
theorem Ok.lshr {x : Int64} {y : Int32} {rest : List Value} (X : Stand p l e R s m args below meth c T locs cells slots) (hx : p.tables.exec = Jvm.exec) (hd : decode c.code pc = .ok (.lshr, 1)) (hp : pc + 1 = pc')  (k : Ok p e below Fe Q T (mkF m pc' Ls (.long (x >>> (y &&& 0x3f).toInt64) :: rest))) : Ok p e below Fe Q T (mkF m pc Ls (.int y :: .long x :: rest)) := by
  subst hp
  exact Ok.st (fun t k => XS.lshr X.here hx rfl hd rfl k) k
theorem Ok.lushr {x : Int64} {y : Int32} {rest : List Value} (X : Stand p l e R s m args below meth c T locs cells slots) (hx : p.tables.exec = Jvm.exec) (hd : decode c.code pc = .ok (.lushr, 1)) (hp : pc + 1 = pc')  (k : Ok p e below Fe Q T (mkF m pc' Ls (.long ((x.toUInt64 >>> (y &&& 0x3f).toInt64.toUInt64).toInt64) :: rest))) : Ok p e below Fe Q T (mkF m pc Ls (.int y :: .long x :: rest)) := by
  subst hp
  exact Ok.st (fun t k => XS.lushr X.here hx rfl hd rfl k) k
theorem Ok.ineg {x : Int32} {rest : List Value} (X : Stand p l e R s m args below meth c T locs cells slots) (hx : p.tables.exec = Jvm.exec) (hd : decode c.code pc = .ok (.ineg, 1)) (hp : pc + 1 = pc')  (k : Ok p e below Fe Q T (mkF m pc' Ls (.int (-x) :: rest))) : Ok p e below Fe Q T (mkF m pc Ls (.int x :: rest)) := by
  subst hp
  exact Ok.st (fun t k => XS.ineg X.here hx rfl hd rfl k) k
theorem Ok.lneg {x : Int64} {rest : List Value} (X : Stand p l e R s m args below meth c T locs cells slots) (hx : p.tables.exec = Jvm.exec) (hd : decode c.code pc = .ok (.lneg, 1)) (hp : pc + 1 = pc')  (k : Ok p e below Fe Q T (mkF m pc' Ls (.long (-x) :: rest))) : Ok p e below Fe Q T (mkF m pc Ls (.long x :: rest)) := by
  subst hp
  exact Ok.st (fun t k => XS.lneg X.here hx rfl hd rfl k) k
theorem Ok.i2l {x : Int32} {rest : List Value} (X : Stand p l e R s m args below meth c T locs cells slots) (hx : p.tables.exec = Jvm.exec) (hd : decode c.code pc = .ok (.i2l, 1)) (hp : pc + 1 = pc')  (k : Ok p e below Fe Q T (mkF m pc' Ls (.long x.toInt64 :: rest))) : Ok p e below Fe Q T (mkF m pc Ls (.int x :: rest)) := by
  subst hp
  exact Ok.st (fun t k => XS.i2l X.here hx rfl hd rfl k) k
theorem Ok.l2i {x : Int64} {rest : List Value} (X : Stand p l e R s m args below meth c T locs cells slots) (hx : p.tables.exec = Jvm.exec) (hd : decode c.code pc = .ok (.l2i, 1)) (hp : pc + 1 = pc')  (k : Ok p e below Fe Q T (mkF m pc' Ls (.int x.toInt32 :: rest))) : Ok p e below Fe Q T (mkF m pc Ls (.long x :: rest)) := by
  subst hp
  exact Ok.st (fun t k => XS.l2i X.here hx rfl hd rfl k) k
theorem Ok.i2b {x : Int32} {rest : List Value} (X : Stand p l e R s m args below meth c T locs cells slots) (hx : p.tables.exec = Jvm.exec) (hd : decode c.code pc = .ok (.i2b, 1)) (hp : pc + 1 = pc')  (k : Ok p e below Fe Q T (mkF m pc' Ls (.int x.toInt8.toInt32 :: rest))) : Ok p e below Fe Q T (mkF m pc Ls (.int x :: rest)) := by
  subst hp
  exact Ok.st (fun t k => XS.i2b X.here hx rfl hd rfl k) k
theorem Ok.i2c {x : Int32} {rest : List Value} (X : Stand p l e R s m args below meth c T locs cells slots) (hx : p.tables.exec = Jvm.exec) (hd : decode c.code pc = .ok (.i2c, 1)) (hp : pc + 1 = pc')  (k : Ok p e below Fe Q T (mkF m pc' Ls (.int x.toUInt32.toUInt16.toUInt32.toInt32 :: rest))) : Ok p e below Fe Q T (mkF m pc Ls (.int x :: rest)) := by
  subst hp
  exact Ok.st (fun t k => XS.i2c X.here hx rfl hd rfl k) k
theorem Ok.i2s {x : Int32} {rest : List Value} (X : Stand p l e R s m args below meth c T locs cells slots) (hx : p.tables.exec = Jvm.exec) (hd : decode c.code pc = .ok (.i2s, 1)) (hp : pc + 1 = pc')  (k : Ok p e below Fe Q T (mkF m pc' Ls (.int x.toInt16.toInt32 :: rest))) : Ok p e below Fe Q T (mkF m pc Ls (.int x :: rest)) := by
  subst hp
  exact Ok.st (fun t k => XS.i2s X.here hx rfl hd rfl k) k
theorem Ok.lcmp {x y : Int64} {rest : List Value} (X : Stand p l e R s m args below meth c T locs cells slots) (hx : p.tables.exec = Jvm.exec) (hd : decode c.code pc = .ok (.lcmp, 1)) (hp : pc + 1 = pc')  (k : Ok p e below Fe Q T (mkF m pc' Ls (.int (lcmpW x y) :: rest))) : Ok p e below Fe Q T (mkF m pc Ls (.long y :: .long x :: rest)) := by
  subst hp
  exact Ok.st (fun t k => XS.lcmp X.here hx rfl hd rfl k) k
theorem Ok.iconst {i : Int} {z : Int32} {rest : List Value} (X : Stand p l e R s m args below meth c T locs cells slots) (hx : p.tables.exec = Jvm.exec) (hd : decode c.code pc = .ok (.iconst i, 1)) (hp : pc + 1 = pc') (hz : z = Int32.ofInt i) (k : Ok p e below Fe Q T (mkF m pc' Ls (.int z :: rest))) : Ok p e below Fe Q T (mkF m pc Ls rest) := by
  subst hp
  exact Ok.st (fun t k => XS.iconst X.here hx rfl hd (hz ▸ k)) k
theorem Ok.bipush {i : Int} {z : Int32} {rest : List Value} (X : Stand p l e R s m args below meth c T locs cells slots) (hx : p.tables.exec = Jvm.exec) (hd : decode c.code pc = .ok (.bipush i, 2)) (hp : pc + 2 = pc') (hz : z = (Int8.ofInt i).toInt32) (k : Ok p e below Fe Q T (mkF m pc' Ls (.int z :: rest))) : Ok p e below Fe Q T (mkF m pc Ls rest) := by
  subst hp
  exact Ok.st (fun t k => XS.bipush X.here hx rfl hd (hz ▸ k)) k
theorem Ok.sipush {i : Int} {z : Int32} {rest : List Value} (X : Stand p l e R s m args below meth c T locs cells slots) (hx : p.tables.exec = Jvm.exec) (hd : decode c.code pc = .ok (.sipush i, 3)) (hp : pc + 3 = pc') (hz : z = (Int16.ofInt i).toInt32) (k : Ok p e below Fe Q T (mkF m pc' Ls (.int z :: rest))) : Ok p e below Fe Q T (mkF m pc Ls rest) := by
  subst hp
  exact Ok.st (fun t k => XS.sipush X.here hx rfl hd (hz ▸ k)) k
theorem Ok.lconst {i : Fin 2} {z : Int64} {rest : List Value} (X : Stand p l e R s m args below meth c T locs cells slots) (hx : p.tables.exec = Jvm.exec) (hd : decode c.code pc = .ok (.lconst i, 1)) (hp : pc + 1 = pc') (hz : z = Int64.ofNat i) (k : Ok p e below Fe Q T (mkF m pc' Ls (.long z :: rest))) : Ok p e below Fe Q T (mkF m pc Ls rest) := by
  subst hp
  exact Ok.st (fun t k => XS.lconst X.here hx rfl hd (hz ▸ k)) k
theorem Ok.aconstNull {rest : List Value} (X : Stand p l e R s m args below meth c T locs cells slots) (hx : p.tables.exec = Jvm.exec) (hd : decode c.code pc = .ok (.aconst_null, 1)) (hp : pc + 1 = pc')  (k : Ok p e below Fe Q T (mkF m pc' Ls (.null :: rest))) : Ok p e below Fe Q T (mkF m pc Ls rest) := by
  subst hp
  exact Ok.st (fun t k => XS.aconstNull X.here hx rfl hd k) k
theorem Ok.dup {x : Value} {rest : List Value} (X : Stand p l e R s m args below meth c T locs cells slots) (hx : p.tables.exec = Jvm.exec) (hd : decode c.code pc = .ok (.dup, 1)) (hp : pc + 1 = pc') (hc : x.category = 1) (k : Ok p e below Fe Q T (mkF m pc' Ls (x :: x :: rest))) : Ok p e below Fe Q T (mkF m pc Ls (x :: rest)) := by
  subst hp
  exact Ok.st (fun t k => XS.dup X.here hx rfl hd rfl hc k) k
theorem Ok.pop {x : Value} {rest : List Value} (X : Stand p l e R s m args below meth c T locs cells slots) (hx : p.tables.exec = Jvm.exec) (hd : decode c.code pc = .ok (.pop, 1)) (hp : pc + 1 = pc') (hc : x.category = 1) (k : Ok p e below Fe Q T (mkF m pc' Ls rest)) : Ok p e below Fe Q T (mkF m pc Ls (x :: rest)) := by
  subst hp
  exact Ok.st (fun t k => XS.pop X.here hx rfl hd rfl hc k) k
theorem Ok.iload {i : Nat} {v : Int32} {rest : List Value} (X : Stand p l e R s m args below meth c T locs cells slots) (hx : p.tables.exec = Jvm.exec) (hd : decode c.code pc = .ok (.iload i, 2)) (hp : pc + 2 = pc') (hl : Ls[i]? = some (.val (.int v))) (k : Ok p e below Fe Q T (mkF m pc' Ls (.int v :: rest))) : Ok p e below Fe Q T (mkF m pc Ls rest) := by
  subst hp
  exact Ok.st (fun t k => XS.iload X.here hx rfl hd hl k) k
theorem Ok.iloadN {i : Fin 4} {v : Int32} {rest : List Value} (X : Stand p l e R s m args below meth c T locs cells slots) (hx : p.tables.exec = Jvm.exec) (hd : decode c.code pc = .ok (.iload_n i, 1)) (hp : pc + 1 = pc') (hl : Ls[i.val]? = some (.val (.int v))) (k : Ok p e below Fe Q T (mkF m pc' Ls (.int v :: rest))) : Ok p e below Fe Q T (mkF m pc Ls rest) := by
  subst hp
  exact Ok.st (fun t k => XS.iloadN X.here hx rfl hd hl k) k
theorem Ok.lload {i : Nat} {v : Int64} {rest : List Value} (X : Stand p l e R s m args below meth c T locs cells slots) (hx : p.tables.exec = Jvm.exec) (hd : decode c.code pc = .ok (.lload i, 2)) (hp : pc + 2 = pc') (hl : Ls[i]? = some (.val (.long v))) (k : Ok p e below Fe Q T (mkF m pc' Ls (.long v :: rest))) : Ok p e below Fe Q T (mkF m pc Ls rest) := by
  subst hp
  exact Ok.st (fun t k => XS.lload X.here hx rfl hd hl k) k
theorem Ok.lloadN {i : Fin 4} {v : Int64} {rest : List Value} (X : Stand p l e R s m args below meth c T locs cells slots) (hx : p.tables.exec = Jvm.exec) (hd : decode c.code pc = .ok (.lload_n i, 1)) (hp : pc + 1 = pc') (hl : Ls[i.val]? = some (.val (.long v))) (k : Ok p e below Fe Q T (mkF m pc' Ls (.long v :: rest))) : Ok p e below Fe Q T (mkF m pc Ls rest) := by
  subst hp
  exact Ok.st (fun t k => XS.lloadN X.here hx rfl hd hl k) k
theorem Ok.aload {i : Nat} {v : Value} {rest : List Value} (X : Stand p l e R s m args below meth c T locs cells slots) (hx : p.tables.exec = Jvm.exec) (hd : decode c.code pc = .ok (.aload i, 2)) (hp : pc + 2 = pc') (hl : Ls[i]? = some (.val v)) (hv : v.isRef = true) (k : Ok p e below Fe Q T (mkF m pc' Ls (v :: rest))) : Ok p e below Fe Q T (mkF m pc Ls rest) := by
  subst hp
  exact Ok.st (fun t k => XS.aload X.here hx rfl hd hl hv k) k
theorem Ok.aloadN {i : Fin 4} {v : Value} {rest : List Value} (X : Stand p l e R s m args below meth c T locs cells slots) (hx : p.tables.exec = Jvm.exec) (hd : decode c.code pc = .ok (.aload_n i, 1)) (hp : pc + 1 = pc') (hl : Ls[i.val]? = some (.val v)) (hv : v.isRef = true) (k : Ok p e below Fe Q T (mkF m pc' Ls (v :: rest))) : Ok p e below Fe Q T (mkF m pc Ls rest) := by
  subst hp
  exact Ok.st (fun t k => XS.aloadN X.here hx rfl hd hl hv k) k
theorem Ok.istore {i : Nat} {x : Int32} {rest : List Value} (X : Stand p l e R s m args below meth c T locs cells slots) (hx : p.tables.exec = Jvm.exec) (hd : decode c.code pc = .ok (.istore i, 2)) (hp : pc + 2 = pc') (hl : storeLocals Ls i (.int x) = some l') (k : Ok p e below Fe Q T (mkF m pc' l' rest)) : Ok p e below Fe Q T (mkF m pc Ls ((.int x) :: rest)) := by
  subst hp
  exact Ok.st (fun t k => XS.istore X.here hx rfl hd rfl hl k) k
theorem Ok.istoreN {i : Fin 4} {x : Int32} {rest : List Value} (X : Stand p l e R s m args below meth c T locs cells slots) (hx : p.tables.exec = Jvm.exec) (hd : decode c.code pc = .ok (.istore_n i, 1)) (hp : pc + 1 = pc') (hl : storeLocals Ls i.val (.int x) = some l') (k : Ok p e below Fe Q T (mkF m pc' l' rest)) : Ok p e below Fe Q T (mkF m pc Ls ((.int x) :: rest)) := by
  subst hp
  exact Ok.st (fun t k => XS.istoreN X.here hx rfl hd rfl hl k) k
theorem Ok.lstore {i : Nat} {x : Int64} {rest : List Value} (X : Stand p l e R s m args below meth c T locs cells slots) (hx : p.tables.exec = Jvm.exec) (hd : decode c.code pc = .ok (.lstore i, 2)) (hp : pc + 2 = pc') (hl : storeLocals Ls i (.long x) = some l') (k : Ok p e below Fe Q T (mkF m pc' l' rest)) : Ok p e below Fe Q T (mkF m pc Ls ((.long x) :: rest)) := by
  subst hp
  exact Ok.st (fun t k => XS.lstore X.here hx rfl hd rfl hl k) k
theorem Ok.lstoreN {i : Fin 4} {x : Int64} {rest : List Value} (X : Stand p l e R s m args below meth c T locs cells slots) (hx : p.tables.exec = Jvm.exec) (hd : decode c.code pc = .ok (.lstore_n i, 1)) (hp : pc + 1 = pc') (hl : storeLocals Ls i.val (.long x) = some l') (k : Ok p e below Fe Q T (mkF m pc' l' rest)) : Ok p e below Fe Q T (mkF m pc Ls ((.long x) :: rest)) := by
  subst hp
  exact Ok.st (fun t k => XS.lstoreN X.here hx rfl hd rfl hl k) k
theorem Ok.astore {i : Nat} {x : Value} {rest : List Value} (X : Stand p l e R s m args below meth c T locs cells slots) (hx : p.tables.exec = Jvm.exec) (hd : decode c.code pc = .ok (.astore i, 2)) (hp : pc + 2 = pc') (hv : x.isRef = true) (hl : storeLocals Ls i x = some l') (k : Ok p e below Fe Q T (mkF m pc' l' rest)) : Ok p e below Fe Q T (mkF m pc Ls (x :: rest)) := by
  subst hp
  exact Ok.st (fun t k => XS.astore X.here hx rfl hd rfl hv hl k) k
theorem Ok.astoreN {i : Fin 4} {x : Value} {rest : List Value} (X : Stand p l e R s m args below meth c T locs cells slots) (hx : p.tables.exec = Jvm.exec) (hd : decode c.code pc = .ok (.astore_n i, 1)) (hp : pc + 1 = pc') (hv : x.isRef = true) (hl : storeLocals Ls i.val x = some l') (k : Ok p e below Fe Q T (mkF m pc' l' rest)) : Ok p e below Fe Q T (mkF m pc Ls (x :: rest)) := by
  subst hp
  exact Ok.st (fun t k => XS.astoreN X.here hx rfl hd rfl hv hl k) k
theorem Ok.iinc {i : Nat} {cst : Int} {x z : Int32} {st : List Value} (X : Stand p l e R s m args below meth c T locs cells slots) (hx : p.tables.exec = Jvm.exec) (hd : decode c.code pc = .ok (.iinc i cst, 3)) (hp : pc + 3 = pc') (hl : Ls[i]? = some (.val (.int x))) (hz : z = x + Int32.ofInt cst) (hl' : storeLocals Ls i (.int z) = some l') (k : Ok p e below Fe Q T (mkF m pc' l' st)) : Ok p e below Fe Q T (mkF m pc Ls st) := by
  subst hp hz
  exact Ok.st (fun t k => XS.iinc X.here hx rfl hd hl hl' k) k
theorem Ok.goto {o : Int} {st : List Value} (X : Stand p l e R s m args below meth c T locs cells slots) (hx : p.tables.exec = Jvm.exec) (hd : decode c.code pc = .ok (.goto o, 3)) (ho : 0 ≤ (pc : Int) + o) (hp : ((pc : Int) + o).toNat = pc') (k : Ok p e below Fe Q T (mkF m pc' Ls st)) : Ok p e below Fe Q T (mkF m pc Ls st) :=
  Ok.st (fun t k => XS.goto X.here hx rfl (pc0 := pc) rfl hd ho hp k) k
theorem Ok.ifY {cd : ClassFile.Cond} {x : Int32} {rest : List Value} {o : Int} (X : Stand p l e R s m args below meth c T locs cells slots) (hx : p.tables.exec = Jvm.exec) (hd : decode c.code pc = .ok (.ifCond cd o, 3)) (hc : ifCond.holds cd x = true) (ho : 0 ≤ (pc : Int) + o) (hp : ((pc : Int) + o).toNat = pc') (k : Ok p e below Fe Q T (mkF m pc' Ls rest)) : Ok p e below Fe Q T (mkF m pc Ls (.int x :: rest)) :=
  Ok.st (fun t k => XS.ifYes X.here hx rfl (pc0 := pc) rfl hd rfl hc ho hp k) k
theorem Ok.ifN {cd : ClassFile.Cond} {x : Int32} {rest : List Value} {o : Int} (X : Stand p l e R s m args below meth c T locs cells slots) (hx : p.tables.exec = Jvm.exec) (hd : decode c.code pc = .ok (.ifCond cd o, 3)) (hc : ifCond.holds cd x = false) (hp : pc + 3 = pc') (k : Ok p e below Fe Q T (mkF m pc' Ls rest)) : Ok p e below Fe Q T (mkF m pc Ls (.int x :: rest)) := by
  subst hp
  exact Ok.st (fun t k => XS.ifNo X.here hx rfl hd rfl hc k) k
theorem Ok.icY {cd : ClassFile.Cond} {x y : Int32} {rest : List Value} {o : Int} (X : Stand p l e R s m args below meth c T locs cells slots) (hx : p.tables.exec = Jvm.exec) (hd : decode c.code pc = .ok (.if_icmp cd o, 3)) (hc : if_icmp.holds cd x y = true) (ho : 0 ≤ (pc : Int) + o) (hp : ((pc : Int) + o).toNat = pc') (k : Ok p e below Fe Q T (mkF m pc' Ls rest)) : Ok p e below Fe Q T (mkF m pc Ls (.int y :: .int x :: rest)) :=
  Ok.st (fun t k => XS.icmpYes X.here hx rfl (pc0 := pc) rfl hd rfl hc ho hp k) k
theorem Ok.icN {cd : ClassFile.Cond} {x y : Int32} {rest : List Value} {o : Int} (X : Stand p l e R s m args below meth c T locs cells slots) (hx : p.tables.exec = Jvm.exec) (hd : decode c.code pc = .ok (.if_icmp cd o, 3)) (hc : if_icmp.holds cd x y = false) (hp : pc + 3 = pc') (k : Ok p e below Fe Q T (mkF m pc' Ls rest)) : Ok p e below Fe Q T (mkF m pc Ls (.int y :: .int x :: rest)) := by
  subst hp
  exact Ok.st (fun t k => XS.icmpNo X.here hx rfl hd rfl hc k) k
theorem Ok.nullY {rest : List Value} {o : Int} (X : Stand p l e R s m args below meth c T locs cells slots) (hx : p.tables.exec = Jvm.exec) (hd : decode c.code pc = .ok (.ifnull o, 3)) (ho : 0 ≤ (pc : Int) + o) (hp : ((pc : Int) + o).toNat = pc') (k : Ok p e below Fe Q T (mkF m pc' Ls rest)) : Ok p e below Fe Q T (mkF m pc Ls (.null :: rest)) :=
  Ok.st (fun t k => XS.ifnullYes X.here hx rfl (pc0 := pc) rfl hd rfl ho hp k) k
theorem Ok.nullN {b : Addr} {rest : List Value} {o : Int} (X : Stand p l e R s m args below meth c T locs cells slots) (hx : p.tables.exec = Jvm.exec) (hd : decode c.code pc = .ok (.ifnull o, 3)) (hp : pc + 3 = pc') (k : Ok p e below Fe Q T (mkF m pc' Ls rest)) : Ok p e below Fe Q T (mkF m pc Ls (.ref b :: rest)) := by
  subst hp
  exact Ok.st (fun t k => XS.ifnullNo X.here hx rfl hd rfl k) k
theorem Ok.nonnullY {b : Addr} {rest : List Value} {o : Int} (X : Stand p l e R s m args below meth c T locs cells slots) (hx : p.tables.exec = Jvm.exec) (hd : decode c.code pc = .ok (.ifnonnull o, 3)) (ho : 0 ≤ (pc : Int) + o) (hp : ((pc : Int) + o).toNat = pc') (k : Ok p e below Fe Q T (mkF m pc' Ls rest)) : Ok p e below Fe Q T (mkF m pc Ls (.ref b :: rest)) :=
  Ok.st (fun t k => XS.ifnonnullYes X.here hx rfl (pc0 := pc) rfl hd rfl ho hp k) k
theorem Ok.nonnullN {rest : List Value} {o : Int} (X : Stand p l e R s m args below meth c T locs cells slots) (hx : p.tables.exec = Jvm.exec) (hd : decode c.code pc = .ok (.ifnonnull o, 3)) (hp : pc + 3 = pc') (k : Ok p e below Fe Q T (mkF m pc' Ls rest)) : Ok p e below Fe Q T (mkF m pc Ls (.null :: rest)) := by
  subst hp
  exact Ok.st (fun t k => XS.ifnonnullNo X.here hx rfl hd rfl k) k
theorem Ok.ldcI {own : String} {index : Nat} {v : Int32} {st : List Value} (X : Stand p l e R s m args below meth c T locs cells slots) (hx : p.tables.exec = Jvm.exec) (hZ : Z.Warmed39 s.vm) (hown : s.vm.findClass own = some m.cls) (w : (Jvm.Cond.constant own index v).before a0 Z = true) (hd : decode c.code pc = .ok (.ldc index, 2)) (hp : pc + 2 = pc') (k : Ok p e below Fe Q T (mkF m pc' Ls (.int v :: st))) : Ok p e below Fe Q T (mkF m pc Ls st) := by
  subst hp
  exact Ok.st (X.ldcInt hx hown (mvT hZ w) (g := mkF m pc Ls st) rfl hd) k
theorem Ok.ldcJ {own : String} {index : Nat} {v : Int64} {st : List Value} (X : Stand p l e R s m args below meth c T locs cells slots) (hx : p.tables.exec = Jvm.exec) (hZ : Z.Warmed39 s.vm) (hown : s.vm.findClass own = some m.cls) (w : (Jvm.Cond.constantLong own index v).before a0 Z = true) (hd : decode c.code pc = .ok (.ldc2_w index, 3)) (hp : pc + 3 = pc') (k : Ok p e below Fe Q T (mkF m pc' Ls (.long v :: st))) : Ok p e below Fe Q T (mkF m pc Ls st) := by
  subst hp
  exact Ok.st (X.ldc2Long hx hown (mvT hZ w) (g := mkF m pc Ls st) rfl hd) k
/-! the ends -/
theorem Ok.retV (X : Stand p l e R s m args below meth c T locs cells slots) (hx : p.tables.exec = Jvm.exec) (hret : meth.sig.returnType = none) (hlk : meth.locks = false) (hd : decode c.code pc = .ok (.return_, 1)) {nc ns : Nat} (hc : cells ≤ nc) (hs : slots ≤ ns) (q : Q none T.heap locs) : Ok p e below (NE s nc ns) Q T (mkF m pc Ls []) := by
  obtain ⟨fs, hr, hrun, hended, hW, hsame⟩ := X.leave (v := none) (fun _ => rfl) hlk
  exact ⟨_, _, X.returnOut hx hret hd hr, hrun, hended, _, _, rfl, q, ⟨_, rfl⟩, hW, hsame.mono hc hs⟩
theorem Ok.retI {z : Int32} {rest : List Value} {t : FieldType} (X : Stand p l e R s m args below meth c T locs cells slots) (hx : p.tables.exec = Jvm.exec) (hret : meth.sig.returnType = some t) (hlk : meth.locks = false) (ht : t = .int ∨ t = .boolean ∨ t = .byte ∨ t = .char ∨ t = .short) (hn : narrow t (.int z) = .int z) (hd : decode c.code pc = .ok (.ireturn, 1)) {nc ns : Nat} (hc : cells ≤ nc) (hs : slots ≤ ns) (q : Q (some (.int z)) T.heap locs) : Ok p e below (NE s nc ns) Q T (mkF m pc Ls (.int z :: rest)) := by
  obtain ⟨fs, hr, hrun, hended, hW, hsame⟩ := X.leave (v := some (.int z)) (fun h => by rw [hret] at h; cases h) hlk
  exact ⟨_, _, retOut X hx hret hn (Or.inl ⟨rfl, ht, _, rfl⟩) hd hr, hrun, hended, _, _, rfl, q, ⟨_, rfl⟩, hW, hsame.mono hc hs⟩
theorem Ok.retJ {z : Int64} {rest : List Value} (X : Stand p l e R s m args below meth c T locs cells slots) (hx : p.tables.exec = Jvm.exec) (hret : meth.sig.returnType = some .long) (hlk : meth.locks = false) (hd : decode c.code pc = .ok (.lreturn, 1)) {nc ns : Nat} (hc : cells ≤ nc) (hs : slots ≤ ns) (q : Q (some (.long z)) T.heap locs) : Ok p e below (NE s nc ns) Q T (mkF m pc Ls (.long z :: rest)) := by
  obtain ⟨fs, hr, hrun, hended, hW, hsame⟩ := X.leave (v := some (.long z)) (fun h => by rw [hret] at h; cases h) hlk
  exact ⟨_, _, retOut X hx hret rfl (Or.inr (Or.inl ⟨rfl, rfl, _, rfl⟩)) hd hr, hrun, hended, _, _, rfl, q, ⟨_, rfl⟩, hW, hsame.mono hc hs⟩
theorem Ok.retA {w : Value} {rest : List Value} {t : FieldType} (X : Stand p l e R s m args below meth c T locs cells slots) (hx : p.tables.exec = Jvm.exec) (hret : meth.sig.returnType = some t) (hlk : meth.locks = false) (ht : t.isReference = true) (hn : narrow t w = w) (hw : w.isRef = true) (hd : decode c.code pc = .ok (.areturn, 1)) {nc ns : Nat} (hc : cells ≤ nc) (hs : slots ≤ ns) (q : Q (some w) T.heap locs) : Ok p e below (NE s nc ns) Q T (mkF m pc Ls (w :: rest)) := by
  obtain ⟨fs, hr, hrun, hended, hW, hsame⟩ := X.leave (v := some w) (fun h => by rw [hret] at h; cases h) hlk
  exact ⟨_, _, retOut X hx hret hn (Or.inr (Or.inr (Or.inr (Or.inr ⟨rfl, ht, hw⟩)))) hd hr, hrun, hended, _, _, rfl, q, ⟨_, rfl⟩, hW, hsame.mono hc hs⟩
theorem Ok.retVW {V : Vm} {n : Nat} (X : Stand p l e R (s.setVm V) m args below meth c T locs cells slots) (hx : p.tables.exec = Jvm.exec) (hS : s.Since V n) (hSn : n ≤ T.heap.size) (hret : meth.sig.returnType = none) (hlk : meth.locks = false) (hd : decode c.code pc = .ok (.return_, 1)) {nc ns : Nat} (hc : cells ≤ nc) (hs : slots ≤ ns) (q : Q none T.heap locs) : Ok p e below (WE s nc ns) Q T (mkF m pc Ls []) := by
  obtain ⟨fs, hr, hrun, hended, h1, h2, h3, h4⟩ := X.leaveW hS hSn (v := none) (fun _ => rfl) hlk
  exact ⟨_, _, X.returnOut hx hret hd hr, hrun, hended, _, _, rfl, q, h1, h2, h3, h4.mono hc hs⟩
theorem Ok.retIW {V : Vm} {n : Nat} {z : Int32} {rest : List Value} {t : FieldType} (X : Stand p l e R (s.setVm V) m args below meth c T locs cells slots) (hx : p.tables.exec = Jvm.exec) (hS : s.Since V n) (hSn : n ≤ T.heap.size) (hret : meth.sig.returnType = some t) (hlk : meth.locks = false) (ht : t = .int ∨ t = .boolean ∨ t = .byte ∨ t = .char ∨ t = .short) (hn : narrow t (.int z) = .int z) (hd : decode c.code pc = .ok (.ireturn, 1)) {nc ns : Nat} (hc : cells ≤ nc) (hs : slots ≤ ns) (q : Q (some (.int z)) T.heap locs) : Ok p e below (WE s nc ns) Q T (mkF m pc Ls (.int z :: rest)) := by
  obtain ⟨fs, hr, hrun, hended, h1, h2, h3, h4⟩ := X.leaveW hS hSn (v := some (.int z)) (fun h => by rw [hret] at h; cases h) hlk
  exact ⟨_, _, retOut X hx hret hn (Or.inl ⟨rfl, ht, _, rfl⟩) hd hr, hrun, hended, _, _, rfl, q, h1, h2, h3, h4.mono hc hs⟩
theorem Ok.retJW {V : Vm} {n : Nat} {z : Int64} {rest : List Value} (X : Stand p l e R (s.setVm V) m args below meth c T locs cells slots) (hx : p.tables.exec = Jvm.exec) (hS : s.Since V n) (hSn : n ≤ T.heap.size) (hret : meth.sig.returnType = some .long) (hlk : meth.locks = false) (hd : decode c.code pc = .ok (.lreturn, 1)) {nc ns : Nat} (hc : cells ≤ nc) (hs : slots ≤ ns) (q : Q (some (.long z)) T.heap locs) : Ok p e below (WE s nc ns) Q T (mkF m pc Ls (.long z :: rest)) := by
  obtain ⟨fs, hr, hrun, hended, h1, h2, h3, h4⟩ := X.leaveW hS hSn (v := some (.long z)) (fun h => by rw [hret] at h; cases h) hlk
  exact ⟨_, _, retOut X hx hret rfl (Or.inr (Or.inl ⟨rfl, rfl, _, rfl⟩)) hd hr, hrun, hended, _, _, rfl, q, h1, h2, h3, h4.mono hc hs⟩
theorem Ok.retAW {V : Vm} {n : Nat} {w : Value} {rest : List Value} {t : FieldType} (X : Stand p l e R (s.setVm V) m args below meth c T locs cells slots) (hx : p.tables.exec = Jvm.exec) (hS : s.Since V n) (hSn : n ≤ T.heap.size) (hret : meth.sig.returnType = some t) (hlk : meth.locks = false) (ht : t.isReference = true) (hn : narrow t w = w) (hw : w.isRef = true) (hd : decode c.code pc = .ok (.areturn, 1)) {nc ns : Nat} (hc : cells ≤ nc) (hs : slots ≤ ns) (q : Q (some w) T.heap locs) : Ok p e below (WE s nc ns) Q T (mkF m pc Ls (w :: rest)) := by
  obtain ⟨fs, hr, hrun, hended, h1, h2, h3, h4⟩ := X.leaveW hS hSn (v := some w) (fun h => by rw [hret] at h; cases h) hlk
  exact ⟨_, _, retOut X hx hret hn (Or.inr (Or.inr (Or.inr (Or.inr ⟨rfl, ht, hw⟩)))) hd hr, hrun, hended, _, _, rfl, q, h1, h2, h3, h4.mono hc hs⟩
/-! a body's contract -/
abbrev MetN (l : Launch) (Z : State) (y : MethodName) (bytes : ByteArray) (maxL : Nat) (ret : Option FieldType) (ws : List Jvm.Cond) (rm : Room) (as' : Array Value) (h0 : Heap) (Q : Option Value → Heap → List Loc → Prop) : Prop :=
  MetFree l y (head1 (Jvm.Cond.code y bytes maxL ret :: ws) rm) (fun a U => a = as' ∧ Z.Warmed39 U.vm ∧ U.heap = h0) (fun _ _ _ _ _ => True) (fun _ U o U' => ∃ v L, o = .returned v ∧ Q v U'.heap L ∧ FrameEnd U o U' L rm.cells rm.slots)
abbrev MetW (l : Launch) (Z : State) (y : MethodName) (bytes : ByteArray) (maxL : Nat) (ret : Option FieldType) (ws : List Jvm.Cond) (rm : Room) (as' : Array Value) (h0 : Heap) (Q : Option Value → Heap → List Loc → Prop) : Prop :=
  MetFree l y (head1 (Jvm.Cond.code y bytes maxL ret :: ws) rm) (fun a U => a = as' ∧ Z.Warmed39 U.vm ∧ U.heap = h0) (fun _ _ _ _ _ => True) (fun _ U o U' => ∃ v L, o = .returned v ∧ Q v U'.heap L ∧ ReturnedEndW U o U' L rm.cells rm.slots)
theorem met_n {y : MethodName} {bytes : ByteArray} {maxL : Nat} {ret : Option FieldType} {rm : Room} {ws : List Jvm.Cond} {as' : Array Value} {h0 : Heap} {F0 : MethodId → JFrame} (hp : plainFor y = true) (hf : ∀ m, entryFrame m as' maxL = F0 m)
    (body : ∀ (p : Program) (e : Env) (s : State) (m : MethodId) (below : List Frame) (meth : Method) (c : Code) (s₁ : State), Stand p l e rm s m as' below meth c s₁ [] 0 0 → p.tables.exec = Jvm.exec → c.code = bytes → c.maxLocals = maxL → Z.Warmed39 s.vm → s.vm.findClass y.cls = some m.cls → meth.name = y.name → meth.sig.returnType = ret → meth.locks = false → s₁.heap = h0 → Ok p e below (NE s rm.cells rm.slots) Q s₁ (F0 m)) :
    MetN l Z y bytes maxL ret ws rm as' h0 Q := by
  refine MetFree.of_bodySF hp hisR ?_
  intro p e s m args below meth c s₁ Bd hml0 hP hK
  obtain ⟨rfl, hZ, hh⟩ := hP
  have e0 : s₁.heap = h0 := by rw [← hh, Bd.state]; rfl
  exact Ok.fr (hf m) (body p e s m below meth c s₁ (Stand.of_body Bd) Bd.exec Bd.bytes hml0 hZ (findClass_of_methodNamed Bd.named) (name_of_methodNamed Bd.named Bd.method).1 Bd.returns (BodyLoose.notSynchronized Bd) e0)
theorem met_w {y : MethodName} {bytes : ByteArray} {maxL : Nat} {ret : Option FieldType} {rm : Room} {ws : List Jvm.Cond} {as' : Array Value} {h0 : Heap} {F0 : MethodId → JFrame} (hp : plainFor y = true) (hf : ∀ m, entryFrame m as' maxL = F0 m)
    (body : ∀ (p : Program) (e : Env) (s : State) (m : MethodId) (below : List Frame) (meth : Method) (c : Code) (s₁ : State) (V : Vm) (n : Nat), Stand p l e rm (s.setVm V) m as' below meth c s₁ [] 0 0 → p.tables.exec = Jvm.exec → c.code = bytes → c.maxLocals = maxL → Z.Warmed39 V → V.findClass y.cls = some m.cls → meth.name = y.name → meth.sig.returnType = ret → meth.locks = false → s₁.heap = h0 → s.Since V n → n ≤ h0.size → Ok p e below (WE s rm.cells rm.slots) Q s₁ (F0 m)) :
    MetW l Z y bytes maxL ret ws rm as' h0 Q := by
  refine MetFree.of_bodySF hp hisR ?_
  intro p e s m args below meth c s₁ Bd hml0 hP hK
  obtain ⟨rfl, hZ, hh⟩ := hP
  have e0 : s₁.heap = h0 := by rw [← hh, Bd.state]; rfl
  exact Ok.fr (hf m) (body p e s m below meth c s₁ s.vm 0 (Stand.of_body Bd) Bd.exec Bd.bytes hml0 hZ (findClass_of_methodNamed Bd.named) (name_of_methodNamed Bd.named Bd.method).1 Bd.returns (BodyLoose.notSynchronized Bd) e0 ((State.WarmedH.refl s).since 0) (Nat.zero_le _))
/-! calls, by a contract -/
theorem Ok.callS {y : MethodName} {bytes : ByteArray} {maxL : Nat} {ret : Option FieldType} {rm : Room} {as' : Array Value} {h : Heap} {Qc : Option Value → Heap → List Loc → Prop} {own : String} {index : Nat} {argsL rest st : List Value} {W : Nat} (X : Stand p l e R s m args below meth c T locs cells slots) (hx : p.tables.exec = Jvm.exec) (hZ : Z.Warmed39 s.vm) (hown : s.vm.findClass own = some m.cls)
    (hM : MetN l Z y bytes maxL ret [] rm as' h Qc) (wl : (Jvm.Cond.methodLink own index y).before a0 Z = true) (ws : (Jvm.Cond.static y).before a0 Z = true) (wz : (Jvm.Cond.initialized y.cls).before a0 Z = true) (wc : (Jvm.Cond.code y bytes maxL ret).before a0 Z = true) (hy : y.cls ≠ "java/lang/invoke/MethodHandle" ∧ y.cls ≠ "java/lang/invoke/VarHandle")
    (eT : T.heap = h) (hf : rm.frames + 1 ≤ R.frames) (hl : W + (maxL + 11) + rm.locals ≤ R.locals) (hc : cells + rm.cells ≤ R.cells) (hs : slots + rm.slots ≤ R.slots) (hlen : ∀ sig, parseMethodDescriptor y.desc = some sig → argsL.length = sig.parameters.length) (has : argsL.toArray = as') (hst : st = argsL.reverse ++ rest) (hW : (rest.map fun v => v.category).sum ≤ W) (hsize : Ls.size = c.maxLocals)
    (hd : decode c.code pc = .ok (.invokestatic index, 3)) (hp : pc + 3 = pc')
    (k : ∀ (v : Option Value) (T' : State) (L : List Loc), Stand p l e R s m args below meth c T' (locs ++ L) (cells + rm.cells) (slots + rm.slots) → Qc v T'.heap L → Ok p e below Fe Q T' (mkF m pc' Ls (v.toList ++ rest))) : Ok p e below Fe Q T (mkF m pc Ls st) := by
  subst hp
  obtain ⟨v, _, ⟨T1, L1, k1, n1⟩, -, X1, ⟨Lc, hQ, l1, y1, z1⟩, st1⟩ := Jvm.LawKit.callS X hx (y := y) hown (mvT hZ wl) (mvT hZ ws) (mvT hZ wz) (mvT hZ wc) hy (backOf (W := W) hM hZ wc wz hf hl) (g := mkF m pc Ls st) rfl hsize (argsL := argsL) (rest := rest) hlen hst (by show 2 * 0 + _ ≤ _; omega) hd (fun _ _ => ⟨has, eT, hc, hs⟩)
  dsimp only [Pt.U, Pt.locs, Pt.cells, Pt.slots] at X1 l1 y1 z1 st1 hQ
  subst l1 y1 z1
  exact Ok.st st1 (k v T1 Lc X1 hQ)
theorem Ok.init {y : MethodName} {bytes : ByteArray} {maxL : Nat} {rm : Room} {as' : Array Value} {h : Heap} {Qc : Option Value → Heap → List Loc → Prop} {own : String} {index : Nat} {a : Addr} {argsL rest st : List Value} {W : Nat} (X : Stand p l e R s m args below meth c T locs cells slots) (hx : p.tables.exec = Jvm.exec) (hZ : Z.Warmed39 s.vm) (hown : s.vm.findClass own = some m.cls)
    (hM : MetN l Z y bytes maxL none [] rm as' h Qc) (hyn : y.name = "<init>") (wl : (Jvm.Cond.methodLink own index y).before a0 Z = true) (wi : (Jvm.Cond.instanceMethod y).before a0 Z = true) (wz : (Jvm.Cond.initialized y.cls).before a0 Z = true) (wc : (Jvm.Cond.code y bytes maxL none).before a0 Z = true) (hy : y.cls ≠ "java/lang/invoke/MethodHandle" ∧ y.cls ≠ "java/lang/invoke/VarHandle")
    (eT : T.heap = h) (hf : rm.frames + 1 ≤ R.frames) (hl : W + (maxL + 11) + rm.locals ≤ R.locals) (hc : cells + rm.cells ≤ R.cells) (hs : slots + rm.slots ≤ R.slots) (hlen : ∀ sig, parseMethodDescriptor y.desc = some sig → argsL.length = sig.parameters.length) (has : (.ref a :: argsL).toArray = as') (hst : st = argsL.reverse ++ .ref a :: rest) (hW : (rest.map fun v => v.category).sum ≤ W) (hsize : Ls.size = c.maxLocals)
    (hd : decode c.code pc = .ok (.invokespecial index, 3)) (hp : pc + 3 = pc')
    (k : ∀ (v : Option Value) (T' : State) (L : List Loc), Stand p l e R s m args below meth c T' (locs ++ L) (cells + rm.cells) (slots + rm.slots) → Qc v T'.heap L → Ok p e below Fe Q T' (mkF m pc' Ls (v.toList ++ rest))) : Ok p e below Fe Q T (mkF m pc Ls st) := by
  subst hp
  obtain ⟨v, _, ⟨T1, L1, k1, n1⟩, -, X1, ⟨Lc, hQ, l1, y1, z1⟩, st1⟩ := X.specialBack hx (y := y) hyn hown (mvT hZ wl) (mvT hZ wi) (mvT hZ wc) hy (backOf (W := W) hM hZ wc wz hf hl) (g := mkF m pc Ls st) rfl hsize (Steps.refl _) (a := a) (argsL := argsL) (rest := rest) hlen hst (by show 2 * 0 + _ ≤ _; omega) hd (fun _ _ => ⟨has, eT, hc, hs⟩)
  dsimp only [Pt.U, Pt.locs, Pt.cells, Pt.slots] at X1 l1 y1 z1 st1 hQ
  subst l1 y1 z1
  exact Ok.tr st1 (k v T1 Lc X1 hQ)
theorem Ok.virt {y z : MethodName} {bytes : ByteArray} {maxL : Nat} {ret : Option FieldType} {rm : Room} {as' : Array Value} {h : Heap} {Qc : Option Value → Heap → List Loc → Prop} {own C : String} {index : Nat} {a : Addr} {argsL rest st : List Value} {W : Nat} (X : Stand p l e R s m args below meth c T locs cells slots) (hx : p.tables.exec = Jvm.exec) (hZ : Z.Warmed39 s.vm) (hown : s.vm.findClass own = some m.cls)
    (hM : MetN l Z z bytes maxL ret [] rm as' h Qc) (wl : (Jvm.Cond.methodLink own index y).before a0 Z = true) (wd : (Jvm.Cond.declares y).before a0 Z = true) (hnf : NotFace s y) (wse : (Jvm.Cond.selects C y z).before a0 Z = true) (wi : (Jvm.Cond.instanceMethod z).before a0 Z = true) (wz : (Jvm.Cond.initialized z.cls).before a0 Z = true) (wc : (Jvm.Cond.code z bytes maxL ret).before a0 Z = true) (hy : y.cls ≠ "java/lang/invoke/MethodHandle" ∧ y.cls ≠ "java/lang/invoke/VarHandle")
    (eT : T.heap = h) (E : Exa Z h a C) (hf : rm.frames + 1 ≤ R.frames) (hl : W + (maxL + 11) + rm.locals ≤ R.locals) (hc : cells + rm.cells ≤ R.cells) (hs : slots + rm.slots ≤ R.slots) (hlen : ∀ sig, parseMethodDescriptor y.desc = some sig → argsL.length = sig.parameters.length) (has : (.ref a :: argsL).toArray = as') (hst : st = argsL.reverse ++ .ref a :: rest) (hW : (rest.map fun v => v.category).sum ≤ W) (hsize : Ls.size = c.maxLocals)
    (hd : decode c.code pc = .ok (.invokevirtual index, 3)) (hp : pc + 3 = pc')
    (k : ∀ (v : Option Value) (T' : State) (L : List Loc), Stand p l e R s m args below meth c T' (locs ++ L) (cells + rm.cells) (slots + rm.slots) → Qc v T'.heap L → Ok p e below Fe Q T' (mkF m pc' Ls (v.toList ++ rest))) : Ok p e below Fe Q T (mkF m pc Ls st) := by
  subst hp
  obtain ⟨cq, kq, qa, qb, qc⟩ := isOf hZ eT E
  obtain ⟨v, _, ⟨T1, L1, k1, n1⟩, -, X1, ⟨Lc, hQ, l1, y1, z1⟩, st1⟩ := X.virtualBack hx (y := y) (z := z) hown (mvT hZ wl) (mvT hZ wd) hnf (mvT hZ wse) (mvT hZ wi) hy (backOf (W := W) hM hZ wc wz hf hl) qa qc (g := mkF m pc Ls st) rfl hsize (Steps.refl _) (argsL := argsL) (rest := rest) hlen hst (by show 2 * 0 + _ ≤ _; omega) hd (fun _ _ => ⟨has, eT, hc, hs⟩)
  dsimp only [Pt.U, Pt.locs, Pt.cells, Pt.slots] at X1 l1 y1 z1 st1 hQ
  subst l1 y1 z1
  exact Ok.tr st1 (k v T1 Lc X1 hQ)
/-! calls of bodies that may intern a string, by their wide contract, from a walk that may have interned -/
theorem Ok.callSW {y : MethodName} {bytes : ByteArray} {maxL : Nat} {ret : Option FieldType} {rm : Room} {as' : Array Value} {h : Heap} {Qc : Option Value → Heap → List Loc → Prop} {own : String} {index : Nat} {argsL rest st : List Value} {W n : Nat} {V : Vm} (X : Stand p l e R (s.setVm V) m args below meth c T locs cells slots) (hx : p.tables.exec = Jvm.exec) (hZ : Z.Warmed39 V) (hown : V.findClass own = some m.cls) (hS : s.Since V n) (hSn : n ≤ h.size)
    (hM : MetW l Z y bytes maxL ret [] rm as' h Qc) (wl : (Jvm.Cond.methodLink own index y).before a0 Z = true) (ws : (Jvm.Cond.static y).before a0 Z = true) (wz : (Jvm.Cond.initialized y.cls).before a0 Z = true) (wc : (Jvm.Cond.code y bytes maxL ret).before a0 Z = true) (hy : y.cls ≠ "java/lang/invoke/MethodHandle" ∧ y.cls ≠ "java/lang/invoke/VarHandle")
    (eT : T.heap = h) (hf : rm.frames + 1 ≤ R.frames) (hl : W + (maxL + 11) + rm.locals ≤ R.locals) (hc : cells + rm.cells ≤ R.cells) (hs : slots + rm.slots ≤ R.slots) (hlen : ∀ sig, parseMethodDescriptor y.desc = some sig → argsL.length = sig.parameters.length) (has : argsL.toArray = as') (hst : st = argsL.reverse ++ rest) (hW : (rest.map fun v => v.category).sum ≤ W) (hsize : Ls.size = c.maxLocals)
    (hd : decode c.code pc = .ok (.invokestatic index, 3)) (hp : pc + 3 = pc')
    (k : ∀ (v : Option Value) (T' : State) (L : List Loc), Stand p l e R (s.setVm T'.vm) m args below meth c T' (locs ++ L) (cells + rm.cells) (slots + rm.slots) → Z.Warmed39 T'.vm → T'.vm.findClass own = some m.cls → s.Since T'.vm T'.heap.size → Qc v T'.heap L → Ok p e below Fe Q T' (mkF m pc' Ls (v.toList ++ rest))) : Ok p e below Fe Q T (mkF m pc Ls st) := by
  subst hp
  have hZ' : Z.Warmed39 (s.setVm V).vm := hZ
  obtain ⟨v, _, ⟨T1, L1, k1, n1⟩, -, X1, hS1, hgr, ⟨Lc, hQ, l1, y1, z1⟩, st1⟩ := callSS X hx (y := y) hown (mvT hZ' wl) (mvT hZ' ws) (mvT hZ' wz) (mvT hZ' wc) hy (backOfS (W := W) hM hZ' wc wz hf hl) (g := mkF m pc Ls st) rfl hsize (argsL := argsL) (rest := rest) hlen hst (by show 2 * 0 + _ ≤ _; omega) hd (fun _ _ => ⟨has, eT, hc, hs⟩)
  dsimp only [Pt.U, Pt.locs, Pt.cells, Pt.slots] at X1 l1 y1 z1 st1 hQ hS1 hgr
  subst l1 y1 z1
  refine Ok.tr st1 (k v T1 Lc X1 (State.Warmed39.trans (t := s.setVm V) hZ hS1.1) (by rw [hS1.1.alike.findClass]; exact hown) (hS.trans hS1 ?_) hQ)
  rw [eT] at hgr
  exact Nat.le_trans hSn hgr
theorem Ok.initW {y : MethodName} {bytes : ByteArray} {maxL : Nat} {rm : Room} {as' : Array Value} {h : Heap} {Qc : Option Value → Heap → List Loc → Prop} {own : String} {index : Nat} {a : Addr} {argsL rest st : List Value} {W n : Nat} {V : Vm} (X : Stand p l e R (s.setVm V) m args below meth c T locs cells slots) (hx : p.tables.exec = Jvm.exec) (hZ : Z.Warmed39 V) (hown : V.findClass own = some m.cls) (hS : s.Since V n) (hSn : n ≤ h.size)
    (hM : MetW l Z y bytes maxL none [] rm as' h Qc) (hyn : y.name = "<init>") (wl : (Jvm.Cond.methodLink own index y).before a0 Z = true) (wi : (Jvm.Cond.instanceMethod y).before a0 Z = true) (wz : (Jvm.Cond.initialized y.cls).before a0 Z = true) (wc : (Jvm.Cond.code y bytes maxL none).before a0 Z = true) (hy : y.cls ≠ "java/lang/invoke/MethodHandle" ∧ y.cls ≠ "java/lang/invoke/VarHandle")
    (eT : T.heap = h) (hf : rm.frames + 1 ≤ R.frames) (hl : W + (maxL + 11) + rm.locals ≤ R.locals) (hc : cells + rm.cells ≤ R.cells) (hs : slots + rm.slots ≤ R.slots) (hlen : ∀ sig, parseMethodDescriptor y.desc = some sig → argsL.length = sig.parameters.length) (has : (.ref a :: argsL).toArray = as') (hst : st = argsL.reverse ++ .ref a :: rest) (hW : (rest.map fun v => v.category).sum ≤ W) (hsize : Ls.size = c.maxLocals)
    (hd : decode c.code pc = .ok (.invokespecial index, 3)) (hp : pc + 3 = pc')
    (k : ∀ (v : Option Value) (T' : State) (L : List Loc), Stand p l e R (s.setVm T'.vm) m args below meth c T' (locs ++ L) (cells + rm.cells) (slots + rm.slots) → Z.Warmed39 T'.vm → T'.vm.findClass own = some m.cls → s.Since T'.vm T'.heap.size → Qc v T'.heap L → Ok p e below Fe Q T' (mkF m pc' Ls (v.toList ++ rest))) : Ok p e below Fe Q T (mkF m pc Ls st) := by
  subst hp
  have hZ' : Z.Warmed39 (s.setVm V).vm := hZ
  obtain ⟨v, _, ⟨T1, L1, k1, n1⟩, -, X1, hS1, hgr, ⟨Lc, hQ, l1, y1, z1⟩, st1⟩ := X.specialBackS hx (y := y) hyn hown (mvT hZ' wl) (mvT hZ' wi) (mvT hZ' wc) hy (backOfS (W := W) hM hZ' wc wz hf hl) (g := mkF m pc Ls st) rfl hsize (Steps.refl _) (a := a) (argsL := argsL) (rest := rest) hlen hst (by show 2 * 0 + _ ≤ _; omega) hd (fun _ _ => ⟨has, eT, hc, hs⟩)
  dsimp only [Pt.U, Pt.locs, Pt.cells, Pt.slots] at X1 l1 y1 z1 st1 hQ hS1 hgr
  subst l1 y1 z1
  refine Ok.tr st1 (k v T1 Lc X1 (State.Warmed39.trans (t := s.setVm V) hZ hS1.1) (by rw [hS1.1.alike.findClass]; exact hown) (hS.trans hS1 ?_) hQ)
  rw [eT] at hgr
  exact Nat.le_trans hSn hgr
theorem Ok.virtW {y z : MethodName} {bytes : ByteArray} {maxL : Nat} {ret : Option FieldType} {rm : Room} {as' : Array Value} {h : Heap} {Qc : Option Value → Heap → List Loc → Prop} {own C : String} {index : Nat} {a : Addr} {argsL rest st : List Value} {W n : Nat} {V : Vm} (X : Stand p l e R (s.setVm V) m args below meth c T locs cells slots) (hx : p.tables.exec = Jvm.exec) (hZ : Z.Warmed39 V) (hown : V.findClass own = some m.cls) (hS : s.Since V n) (hSn : n ≤ h.size)
    (hM : MetW l Z z bytes maxL ret [] rm as' h Qc) (wl : (Jvm.Cond.methodLink own index y).before a0 Z = true) (wd : (Jvm.Cond.declares y).before a0 Z = true) (wse : (Jvm.Cond.selects C y z).before a0 Z = true) (hnf : NotFace (s.setVm V) y) (wi : (Jvm.Cond.instanceMethod z).before a0 Z = true) (wz : (Jvm.Cond.initialized z.cls).before a0 Z = true) (wc : (Jvm.Cond.code z bytes maxL ret).before a0 Z = true) (hy : y.cls ≠ "java/lang/invoke/MethodHandle" ∧ y.cls ≠ "java/lang/invoke/VarHandle")
    (eT : T.heap = h) (E : Exa Z h a C) (hf : rm.frames + 1 ≤ R.frames) (hl : W + (maxL + 11) + rm.locals ≤ R.locals) (hc : cells + rm.cells ≤ R.cells) (hs : slots + rm.slots ≤ R.slots) (hlen : ∀ sig, parseMethodDescriptor y.desc = some sig → argsL.length = sig.parameters.length) (has : (.ref a :: argsL).toArray = as') (hst : st = argsL.reverse ++ .ref a :: rest) (hW : (rest.map fun v => v.category).sum ≤ W) (hsize : Ls.size = c.maxLocals)
    (hd : decode c.code pc = .ok (.invokevirtual index, 3)) (hp : pc + 3 = pc')
    (k : ∀ (v : Option Value) (T' : State) (L : List Loc), Stand p l e R (s.setVm T'.vm) m args below meth c T' (locs ++ L) (cells + rm.cells) (slots + rm.slots) → Z.Warmed39 T'.vm → T'.vm.findClass own = some m.cls → s.Since T'.vm T'.heap.size → Qc v T'.heap L → Ok p e below Fe Q T' (mkF m pc' Ls (v.toList ++ rest))) : Ok p e below Fe Q T (mkF m pc Ls st) := by
  subst hp
  have hZ' : Z.Warmed39 (s.setVm V).vm := hZ
  obtain ⟨cq, kq, qa, qb, qc⟩ := isOf hZ' eT E
  obtain ⟨v, _, ⟨T1, L1, k1, n1⟩, -, X1, hS1, hgr, ⟨Lc, hQ, l1, y1, z1⟩, st1⟩ := X.virtualBackS hx (y := y) (z := z) hown (mvT hZ' wl) (mvT hZ' wd) hnf (mvT hZ' wse) (mvT hZ' wi) hy (backOfS (W := W) hM hZ' wc wz hf hl) qa qc (g := mkF m pc Ls st) rfl hsize (Steps.refl _) (argsL := argsL) (rest := rest) hlen hst (by show 2 * 0 + _ ≤ _; omega) hd (fun _ _ => ⟨has, eT, hc, hs⟩)
  dsimp only [Pt.U, Pt.locs, Pt.cells, Pt.slots] at X1 l1 y1 z1 st1 hQ hS1 hgr
  subst l1 y1 z1
  refine Ok.tr st1 (k v T1 Lc X1 (State.Warmed39.trans (t := s.setVm V) hZ hS1.1) (by rw [hS1.1.alike.findClass]; exact hown) (hS.trans hS1 ?_) hQ)
  rw [eT] at hgr
  exact Nat.le_trans hSn hgr
theorem Ok.faceW {y z : MethodName} {bytes : ByteArray} {maxL : Nat} {ret : Option FieldType} {rm : Room} {as' : Array Value} {h : Heap} {Qc : Option Value → Heap → List Loc → Prop} {own C : String} {index count : Nat} {a : Addr} {argsL rest st : List Value} {W n : Nat} {V : Vm} (X : Stand p l e R (s.setVm V) m args below meth c T locs cells slots) (hx : p.tables.exec = Jvm.exec) (hZ : Z.Warmed39 V) (hown : V.findClass own = some m.cls) (hS : s.Since V n) (hSn : n ≤ h.size)
    (hM : MetW l Z z bytes maxL ret [] rm as' h Qc) (wl : (Jvm.Cond.methodLink own index y).before a0 Z = true) (wd : (Jvm.Cond.declares y).before a0 Z = true) (wf : (Jvm.Cond.interfaceMethod y.cls y.cls y.name y.desc).before a0 Z = true) (hfa : ((Jvm.Cond.interfaceMethod y.cls y.cls y.name y.desc).onTables && (Jvm.Cond.interfaceMethod y.cls y.cls y.name y.desc).keepsFace) = true) (wse : (Jvm.Cond.selects C y z).before a0 Z = true) (wi : (Jvm.Cond.instanceMethod z).before a0 Z = true) (wp : (Jvm.Cond.publicMethod z).before a0 Z = true) (wu : (Jvm.Cond.unhidden C y.name y.desc).before a0 Z = true) (wk : (Jvm.Cond.castable C y.cls).before a0 Z = true) (wz : (Jvm.Cond.initialized z.cls).before a0 Z = true) (wc : (Jvm.Cond.code z bytes maxL ret).before a0 Z = true) (hy : y.cls ≠ "java/lang/invoke/MethodHandle" ∧ y.cls ≠ "java/lang/invoke/VarHandle")
    (eT : T.heap = h) (E : Exa Z h a C) (hf : rm.frames + 1 ≤ R.frames) (hl : W + (maxL + 11) + rm.locals ≤ R.locals) (hc : cells + rm.cells ≤ R.cells) (hs : slots + rm.slots ≤ R.slots) (hlen : ∀ sig, parseMethodDescriptor y.desc = some sig → argsL.length = sig.parameters.length) (has : (.ref a :: argsL).toArray = as') (hst : st = argsL.reverse ++ .ref a :: rest) (hW : (rest.map fun v => v.category).sum ≤ W) (hsize : Ls.size = c.maxLocals)
    (hd : decode c.code pc = .ok (.invokeinterface index count, 5)) (hp : pc + 5 = pc')
    (k : ∀ (v : Option Value) (T' : State) (L : List Loc), Stand p l e R (s.setVm T'.vm) m args below meth c T' (locs ++ L) (cells + rm.cells) (slots + rm.slots) → Z.Warmed39 T'.vm → T'.vm.findClass own = some m.cls → s.Since T'.vm T'.heap.size → Qc v T'.heap L → Ok p e below Fe Q T' (mkF m pc' Ls (v.toList ++ rest))) : Ok p e below Fe Q T (mkF m pc Ls st) := by
  subst hp
  have hZ' : Z.Warmed39 (s.setVm V).vm := hZ
  obtain ⟨cq, kq, qa, qb, qc⟩ := isOf hZ' eT E
  obtain ⟨v, _, ⟨T1, L1, k1, n1⟩, -, X1, hS1, hgr, ⟨Lc, hQ, l1, y1, z1⟩, st1⟩ := X.interfaceBackS hx (xi := y) (y := z) hown (mvT hZ' wl) (mvT hZ' wd) (mvT hZ' wf hfa) (mvT hZ' wse) (mvT hZ' wi) (mvT hZ' wp) (mvT hZ' wu) (mvT hZ' wk) hy (backOfS (W := W) hM hZ' wc wz hf hl) qa qb qc (g := mkF m pc Ls st) rfl hsize (Steps.refl _) (argsL := argsL) (rest := rest) hlen hst (by show 2 * 0 + _ ≤ _; omega) hd (fun _ _ => ⟨has, eT, hc, hs⟩)
  dsimp only [Pt.U, Pt.locs, Pt.cells, Pt.slots] at X1 l1 y1 z1 st1 hQ hS1 hgr
  subst l1 y1 z1
  refine Ok.tr st1 (k v T1 Lc X1 (State.Warmed39.trans (t := s.setVm V) hZ hS1.1) (by rw [hS1.1.alike.findClass]; exact hown) (hS.trans hS1 ?_) hQ)
  rw [eT] at hgr
  exact Nat.le_trans hSn hgr
theorem Ok.ldcS {own text : String} {index n N : Nat} {h : Heap} {st : List Value} {V : Vm} (X : Stand p l e R (s.setVm V) m args below meth c T locs cells slots) (hx : p.tables.exec = Jvm.exec) (hZ : Z.Warmed39 V) (hown : V.findClass own = some m.cls) (hS : s.Since V n) (hSn : n ≤ h.size) (w : (Jvm.Cond.stringLink own index text).before a0 Z = true) (wS : ∀ a ∈ Bundle.stringAtoms, a.before a0 Z = true)
    (eT : T.heap = h) (hN : 4 * text.toList.length ≤ N) (hbig : N ≤ 536870912) (hc : cells + 2 ≤ R.cells) (hl : slots + (N + 4) ≤ R.slots) (hd : decode c.code pc = .ok (.ldc index, 2)) (hp : pc + 2 = pc')
    (k : ∀ (a : Addr) (T' : State) (h' : Heap) (n' : Nat), Stand p l e R (s.setVm T'.vm) m args below meth c T' locs (cells + 2) (slots + (N + 4)) → Z.Warmed39 T'.vm → T'.vm.findClass own = some m.cls → s.Since T'.vm n' → n' ≤ h'.size → T'.heap = h' → Ext h h' → Ok p e below Fe Q T' (mkF m pc' Ls (.ref a :: st))) : Ok p e below Fe Q T (mkF m pc Ls st) := by
  subst hp
  obtain ⟨a, T1, h1, n1, X1, e1, E1, hS1, hSn1, hZ1, hown1, st1⟩ := Jvm.RoadKit.ldcS X hx hZ hown w wS eT hS hSn (g := mkF m pc Ls st) rfl hd hN hbig hc hl
  exact Ok.st st1 (k a T1 h1 n1 X1 hZ1 hown1 hS1 hSn1 e1 E1)
theorem ic_eq (x y : Int32) : (if_icmp.holds .eq x y = true ↔ x.toInt = y.toInt) ∧ (if_icmp.holds .ne x y = true ↔ ¬ x.toInt = y.toInt) ∧ (if_icmp.holds .lt x y = true ↔ x.toInt < y.toInt) ∧ (if_icmp.holds .ge x y = true ↔ y.toInt ≤ x.toInt) ∧ (if_icmp.holds .gt x y = true ↔ y.toInt < x.toInt) ∧ (if_icmp.holds .le x y = true ↔ x.toInt ≤ y.toInt) := by
  simp [if_icmp.holds, Int32.lt_iff_toInt_lt, Int32.le_iff_toInt_le, Int32.toInt_inj]
theorem bt {b : Bool} {P : Prop} (h : b = true ↔ P) (hp : P) : b = true := h.mpr hp
theorem bf {b : Bool} {P : Prop} (h : b = true ↔ P) (hp : ¬ P) : b = false := by
  cases b
  · rfl
  · exact absurd (h.mp rfl) hp
theorem i0 (cd : ClassFile.Cond) (x : Int32) {P : Prop} (h : if_icmp.holds cd x 0 = true ↔ P) : ifCond.holds cd x = true ↔ P := by rw [if0]; exact h
theorem lc_all (x y : Int64) : (ifCond.holds .eq (lcmpW x y) = true ↔ x.toInt = y.toInt) ∧ (ifCond.holds .ne (lcmpW x y) = true ↔ ¬ x.toInt = y.toInt) ∧ (ifCond.holds .lt (lcmpW x y) = true ↔ x.toInt < y.toInt) ∧ (ifCond.holds .ge (lcmpW x y) = true ↔ y.toInt ≤ x.toInt) ∧ (ifCond.holds .gt (lcmpW x y) = true ↔ y.toInt < x.toInt) ∧ (ifCond.holds .le (lcmpW x y) = true ↔ x.toInt ≤ y.toInt) := by
  have h1 := lc_lt x y
  have h2 := lc_gt x y
  have h3 := lc_eq x y
  have h4 := lc_le x y
  have h5 := lc_ge x y
  rw [← lcW] at h1 h2 h3 h4 h5
  simp only [if0, if_icmp.holds, decide_eq_true_eq, beq_iff_eq, bne_iff_ne, ne_eq, h3, GT.gt, GE.ge]
  simp only [h1, h2, h4, h5, Int64.lt_iff_toInt_lt, Int64.le_iff_toInt_le, Int64.toInt_inj]
  simp
end Layer
section Layer2
variable {p : Program} {l : Launch} {e : Env} {R : Room} {s : State} {m : MethodId} {args : Array Value} {below : List Frame} {meth : Method} {c : Code} {T T' : State} {locs : List Loc} {cells slots : Nat} {Fe : Outcome → State → List Loc → Prop} {Q : Option Value → Heap → List Loc → Prop} {pc pc' : Nat} {Ls l' : Array Slot} {g g' : JFrame} {Z : State} {a0 : Array Value} {h : Heap} {own : String} {rest st : List Value}
theorem Ok.new {C : String} {index n : Nat} (X : Stand p l e R s m args below meth c T locs cells slots) (hx : p.tables.exec = Jvm.exec) (hZ : Z.Warmed39 s.vm) (hown : s.vm.findClass own = some m.cls) (w : (Jvm.Cond.classLink own index C).before a0 Z = true) (wi : (Jvm.Cond.instantiable C n).before a0 Z = true) (wz : (Jvm.Cond.initialized C).before a0 Z = true) (eT : T.heap = h) (hd : decode c.code pc = .ok (.new index, 3)) (hp : pc + 3 = pc') (hc : cells + 1 ≤ R.cells) (hl : slots + n ≤ R.slots)
    (k : ∀ (T' : State) (h' : Heap) (a : Addr), a = h.size → Stand p l e R s m args below meth c T' locs (cells + 1) (slots + n) → T'.heap = h' → Ext h h' → Exa Z h' a C → (∀ {O nm d : String} {ty : FieldType}, Laid Z a0 C O nm d → parseFieldDescriptor d = some ty → Fld Z h' a O nm d (defaultValue ty)) → Ok p e below Fe Q T' (mkF m pc' Ls (.ref a :: st))) : Ok p e below Fe Q T (mkF m pc Ls st) := by
  subst hp
  obtain ⟨T1, h1, X1, e1, E1, A1, D1, -, st1⟩ := newO X hx hZ hown w wi wz eT (g := mkF m pc Ls st) rfl hd hc hl
  exact Ok.st st1 (k T1 h1 _ rfl X1 e1 E1 A1 D1)
theorem Ok.initO {index : Nat} {a : Addr} {W : Nat} (X : Stand p l e R s m args below meth c T locs cells slots) (hx : p.tables.exec = Jvm.exec) (hZ : Z.Warmed39 s.vm) (hown : s.vm.findClass own = some m.cls) (w1 : (Jvm.Cond.methodLink own index Lib.objectInit).before a0 Z = true) (w2 : (Jvm.Cond.instanceMethod Lib.objectInit).before a0 Z = true) (w3 : (Jvm.Cond.code Lib.objectInit ⟨#[0xb1]⟩ 1 none).before a0 Z = true) (eT : T.heap = h) (hsize : Ls.size = c.maxLocals) (hd : decode c.code pc = .ok (.invokespecial index, 3)) (hp : pc + 3 = pc') (hf : 1 ≤ R.frames) (hW : (rest.map fun v => v.category).sum ≤ W) (hl : W + 12 ≤ R.locals)
    (k : ∀ (T' : State), Stand p l e R s m args below meth c T' locs cells slots → T'.heap = h → Ok p e below Fe Q T' (mkF m pc' Ls rest)) : Ok p e below Fe Q T (mkF m pc Ls (.ref a :: rest)) := by
  subst hp
  obtain ⟨T1, X1, e1, st1⟩ := Jvm.RoadKit.initO X hx hZ hown w1 w2 w3 eT (g := mkF m pc Ls (.ref a :: rest)) rfl hsize rfl hd hf (W := W) (by show 2 * 0 + _ ≤ _; omega) hl
  exact Ok.st st1 (k T1 X1 e1)
theorem Ok.getF {R0 O n d host : String} {index : Nat} {a : Addr} {v : Value} (X : Stand p l e R s m args below meth c T locs cells slots) (hx : p.tables.exec = Jvm.exec) (hZ : Z.Warmed39 s.vm) (hown : s.vm.findClass own = some m.cls) (w : (Jvm.Cond.fieldLink own index R0 n d).before a0 Z = true ∨ (Jvm.Cond.fieldLinkNest own index R0 n d host).before a0 Z = true) (via : Via Z R0 O n d) (eT : T.heap = h) (F : Fld Z h a O n d v) (hd : decode c.code pc = .ok (.getfield index, 3)) (hp : pc + 3 = pc')
    (k : ∀ (T' : State), Stand p l e R s m args below meth c T' locs cells slots → T'.heap = h → Ok p e below Fe Q T' (mkF m pc' Ls (v :: rest))) : Ok p e below Fe Q T (mkF m pc Ls (.ref a :: rest)) := by
  subst hp
  obtain ⟨T1, X1, e1, st1⟩ := Jvm.RoadKit.getF X hx hZ hown w via eT F (g := mkF m pc Ls (.ref a :: rest)) rfl rfl hd
  exact Ok.st st1 (k T1 X1 e1)
theorem Ok.getS {R0 O n d host : String} {index : Nat} {v : Value} (X : Stand p l e R s m args below meth c T locs cells slots) (hx : p.tables.exec = Jvm.exec) (hZ : Z.Warmed39 s.vm) (hown : s.vm.findClass own = some m.cls) (w : (Jvm.Cond.fieldLink own index R0 n d).before a0 Z = true ∨ (Jvm.Cond.fieldLinkNest own index R0 n d host).before a0 Z = true) (via : Via Z R0 O n d) (eT : T.heap = h) (F : Sta Z h O n d v) (hd : decode c.code pc = .ok (.getstatic index, 3)) (hp : pc + 3 = pc')
    (k : ∀ (T' : State), Stand p l e R s m args below meth c T' locs cells slots → T'.heap = h → Ok p e below Fe Q T' (mkF m pc' Ls (v :: st))) : Ok p e below Fe Q T (mkF m pc Ls st) := by
  subst hp
  obtain ⟨T1, X1, e1, st1⟩ := Jvm.RoadKit.getS2 X hx hZ hown w via eT F (g := mkF m pc Ls st) rfl hd
  exact Ok.st st1 (k T1 X1 e1)
theorem Ok.putF {R0 O n d host C : String} {index kk : Nat} {ty : FieldType} {a : Addr} {v old : Value} (X : Stand p l e R s m args below meth c T locs cells slots) (hx : p.tables.exec = Jvm.exec) (hZ : Z.Warmed39 s.vm) (hown : s.vm.findClass own = some m.cls) (w : (Jvm.Cond.fieldLink own index R0 n d).before a0 Z = true ∨ (Jvm.Cond.fieldLinkNest own index R0 n d host).before a0 Z = true) (via : Via Z R0 O n d) (eT : T.heap = h) (F : Fld Z h a O n d old) (E : Exa Z h a C) (L : (Jvm.Cond.lays C O n d).before a0 Z = true ∨ ((Jvm.Cond.laysFinal C O n d).before a0 Z = true ∧ own = O ∧ meth.name = "<init>")) (wi : (Jvm.Cond.instantiable C kk).before a0 Z = true)
    (hty : parseFieldDescriptor d = some ty) (hn : narrow ty v = v) (hf : fits ty v = true) (hd : decode c.code pc = .ok (.putfield index, 3)) (hp : pc + 3 = pc')
    (k : ∀ (T' : State) (h' : Heap), Stand p l e R s m args below meth c T' (locs ++ [⟨a, Jvm.RoadKit.slotOf Z O n d⟩]) cells slots → T'.heap = h' → Wr h h' a (Jvm.RoadKit.slotOf Z O n d) v → Ok p e below Fe Q T' (mkF m pc' Ls rest)) : Ok p e below Fe Q T (mkF m pc Ls (v :: .ref a :: rest)) := by
  subst hp
  obtain ⟨T1, h1, X1, e1, W1, st1⟩ := Jvm.RoadKit.putF X hx hZ hown w via eT F E L wi hty hn hf (g := mkF m pc Ls (v :: .ref a :: rest)) rfl rfl hd
  exact Ok.st st1 (k T1 h1 X1 e1 W1)
theorem Ok.castY {K : String} {index : Nat} {a : Addr} (X : Stand p l e R s m args below meth c T locs cells slots) (hx : p.tables.exec = Jvm.exec) (hZ : Z.Warmed39 s.vm) (hown : s.vm.findClass own = some m.cls) (w : (Jvm.Cond.classLink own index K).before a0 Z = true) (eT : T.heap = h) (F : Ins Z h a K true) (hd : decode c.code pc = .ok (.checkcast index, 3)) (hp : pc + 3 = pc')
    (k : ∀ (T' : State), Stand p l e R s m args below meth c T' locs cells slots → T'.heap = h → Ok p e below Fe Q T' (mkF m pc' Ls (.ref a :: rest))) : Ok p e below Fe Q T (mkF m pc Ls (.ref a :: rest)) := by
  subst hp
  obtain ⟨T1, X1, e1, st1⟩ := Jvm.RoadKit.castY X hx hZ hown w eT F (g := mkF m pc Ls (.ref a :: rest)) rfl rfl hd
  exact Ok.st st1 (k T1 X1 e1)
theorem Ok.instY {K : String} {index : Nat} {a : Addr} (X : Stand p l e R s m args below meth c T locs cells slots) (hx : p.tables.exec = Jvm.exec) (hZ : Z.Warmed39 s.vm) (hown : s.vm.findClass own = some m.cls) (w : (Jvm.Cond.classLink own index K).before a0 Z = true) (eT : T.heap = h) (F : Ins Z h a K true) (hd : decode c.code pc = .ok (.instanceof index, 3)) (hp : pc + 3 = pc')
    (k : ∀ (T' : State), Stand p l e R s m args below meth c T' locs cells slots → T'.heap = h → Ok p e below Fe Q T' (mkF m pc' Ls (.int (1 : Int32) :: rest))) : Ok p e below Fe Q T (mkF m pc Ls (.ref a :: rest)) := by
  subst hp
  obtain ⟨T1, X1, e1, st1⟩ := Jvm.RoadKit.instY X hx hZ hown w eT F (g := mkF m pc Ls (.ref a :: rest)) rfl rfl hd
  exact Ok.st st1 (k T1 X1 e1)
theorem Ok.instNo {K C : String} {index : Nat} {a : Addr} (X : Stand p l e R s m args below meth c T locs cells slots) (hx : p.tables.exec = Jvm.exec) (hZ : Z.Warmed39 s.vm) (hown : s.vm.findClass own = some m.cls) (w : (Jvm.Cond.classLink own index K).before a0 Z = true) (eT : T.heap = h) (E : Exa Z h a C) (F : ∃ c t, Z.vm.findClass C = some c ∧ Z.vm.findClass K = some t ∧ Z.vm.assignable c t = false) (hd : decode c.code pc = .ok (.instanceof index, 3)) (hp : pc + 3 = pc')
    (k : ∀ (T' : State), Stand p l e R s m args below meth c T' locs cells slots → T'.heap = h → Ok p e below Fe Q T' (mkF m pc' Ls (.int (0 : Int32) :: rest))) : Ok p e below Fe Q T (mkF m pc Ls (.ref a :: rest)) := by
  subst hp
  obtain ⟨T1, X1, e1, st1⟩ := Jvm.RoadKit.instNo X hx hZ hown w eT E F (g := mkF m pc Ls (.ref a :: rest)) rfl rfl hd
  exact Ok.st st1 (k T1 X1 e1)
theorem Ok.instNull {index : Nat} (X : Stand p l e R s m args below meth c T locs cells slots) (hx : p.tables.exec = Jvm.exec) (hd : decode c.code pc = .ok (.instanceof index, 3)) (hp : pc + 3 = pc') (k : Ok p e below Fe Q T (mkF m pc' Ls (.int (0 : Int32) :: rest))) : Ok p e below Fe Q T (mkF m pc Ls (.null :: rest)) := by
  subst hp
  exact Ok.st (X.instanceofNull hx (g := mkF m pc Ls (.null :: rest)) rfl rfl hd) k
theorem Ok.newP {aty : ArrayType} {ty : FieldType} {n : Int32} {cap : Nat} (X : Stand p l e R s m args below meth c T locs cells slots) (hx : p.tables.exec = Jvm.exec) (hZ : Z.Warmed39 s.vm) (w : (Jvm.Cond.arrayClass ty).before a0 Z = true) (hty : newarray.typeOf aty = ty) (eT : T.heap = h) (hd : decode c.code pc = .ok (.newarray aty, 2)) (hp : pc + 2 = pc') (hn : ¬ n < 0) (hcap : n.toNatClampNeg ≤ cap) (hb : cap * 8 ≤ 536870912) (hc : cells + 1 ≤ R.cells) (hl : slots + cap ≤ R.slots)
    (k : ∀ (T' : State) (h' : Heap) (a : Addr) (cA : ClassId), a = h.size → Stand p l e R s m args below meth c T' locs (cells + 1) (slots + cap) → T'.heap = h' → Ext h h' → Arv Z h' a cA ty n [] (defaultValue ty) → Ok p e below Fe Q T' (mkF m pc' Ls (.ref a :: rest))) : Ok p e below Fe Q T (mkF m pc Ls (.int n :: rest)) := by
  subst hp hty
  obtain ⟨T1, h1, cA, X1, e1, E1, A1, st1⟩ := Jvm.RoadKit.newP X hx hZ w eT (g := mkF m pc Ls (.int n :: rest)) rfl hd rfl hn hcap hb hc hl
  exact Ok.st st1 (k T1 h1 _ cA rfl X1 e1 E1 (Arv.new A1 hn))
theorem Ok.stI {a : Addr} {kc : ClassId} {z j x : Int32} {vs : List Value} {dv : Value} (X : Stand p l e R s m args below meth c T locs cells slots) (hx : p.tables.exec = Jvm.exec) (hZ : Z.Warmed39 s.vm) (eT : T.heap = h) (V : Arv Z h a kc .int z vs dv) (hj : ¬ j < 0 ∧ j < z) {i : Nat} (hji : j.toNatClampNeg = i) (hi : i < vs.length) (hd : decode c.code pc = .ok (.iastore, 1)) (hp : pc + 1 = pc')
    (k : ∀ (T' : State) (h' : Heap), Stand p l e R s m args below meth c T' (locs ++ [⟨a, j.toNatClampNeg⟩]) cells slots → T'.heap = h' → Wr h h' a j.toNatClampNeg (.int x) → Arv Z h' a kc .int z (vs.set i (.int x)) dv → Ok p e below Fe Q T' (mkF m pc' Ls rest)) : Ok p e below Fe Q T (mkF m pc Ls (.int x :: .int j :: .ref a :: rest)) := by
  subst hp
  obtain ⟨cl, Ar, q, S1, N1, H1, G1⟩ := V
  obtain ⟨T1, h1, X1, e1, W1, st1⟩ := Jvm.RoadKit.stI X hx hZ eT Ar (j := j) (inb_of S1 hj) (g := mkF m pc Ls (.int x :: .int j :: .ref a :: rest)) rfl rfl hd
  exact Ok.st st1 (k T1 h1 X1 e1 W1 (Arv.set Ar q S1 N1 H1 G1 rfl W1 i hji hi))
theorem Ok.stC {a : Addr} {kc : ClassId} {z j x : Int32} {vs : List Value} {dv : Value} (X : Stand p l e R s m args below meth c T locs cells slots) (hx : p.tables.exec = Jvm.exec) (hZ : Z.Warmed39 s.vm) (eT : T.heap = h) (V : Arv Z h a kc .char z vs dv) (hj : ¬ j < 0 ∧ j < z) {i : Nat} (hji : j.toNatClampNeg = i) (hi : i < vs.length) (hd : decode c.code pc = .ok (.castore, 1)) (hp : pc + 1 = pc')
    (k : ∀ (T' : State) (h' : Heap), Stand p l e R s m args below meth c T' (locs ++ [⟨a, j.toNatClampNeg⟩]) cells slots → T'.heap = h' → Wr h h' a j.toNatClampNeg (.int (nar .char x)) → Arv Z h' a kc .char z (vs.set i (.int (nar .char x))) dv → Ok p e below Fe Q T' (mkF m pc' Ls rest)) : Ok p e below Fe Q T (mkF m pc Ls (.int x :: .int j :: .ref a :: rest)) := by
  subst hp
  obtain ⟨cl, Ar, q, S1, N1, H1, G1⟩ := V
  obtain ⟨T1, h1, X1, e1, W1, st1⟩ := Jvm.RoadKit.stC X hx hZ eT Ar (j := j) (inb_of S1 hj) (g := mkF m pc Ls (.int x :: .int j :: .ref a :: rest)) rfl rfl hd
  exact Ok.st st1 (k T1 h1 X1 e1 W1 (Arv.set Ar q S1 N1 H1 G1 (fits_nar_char _) W1 i hji hi))
theorem Ok.stB {a : Addr} {kc : ClassId} {z j x : Int32} {vs : List Value} {dv : Value} (X : Stand p l e R s m args below meth c T locs cells slots) (hx : p.tables.exec = Jvm.exec) (hZ : Z.Warmed39 s.vm) (eT : T.heap = h) (V : Arv Z h a kc .byte z vs dv) (hj : ¬ j < 0 ∧ j < z) {i : Nat} (hji : j.toNatClampNeg = i) (hi : i < vs.length) (hd : decode c.code pc = .ok (.bastore, 1)) (hp : pc + 1 = pc')
    (k : ∀ (T' : State) (h' : Heap), Stand p l e R s m args below meth c T' (locs ++ [⟨a, j.toNatClampNeg⟩]) cells slots → T'.heap = h' → Wr h h' a j.toNatClampNeg (.int x.toInt8.toInt32) → Arv Z h' a kc .byte z (vs.set i (.int x.toInt8.toInt32)) dv → Ok p e below Fe Q T' (mkF m pc' Ls rest)) : Ok p e below Fe Q T (mkF m pc Ls (.int x :: .int j :: .ref a :: rest)) := by
  subst hp
  obtain ⟨cl, Ar, q, S1, N1, H1, G1⟩ := V
  obtain ⟨T1, h1, X1, e1, W1, st1⟩ := Jvm.RoadKit.stB X hx hZ eT Ar (j := j) (inb_of S1 hj) (g := mkF m pc Ls (.int x :: .int j :: .ref a :: rest)) rfl rfl hd
  exact Ok.st st1 (k T1 h1 X1 e1 W1 (Arv.set Ar q S1 N1 H1 G1 (fits_nar_byte _) W1 i hji hi))
theorem Ok.len {a : Addr} {kc : ClassId} {ty : FieldType} {z : Int32} {vs : List Value} {dv : Value} (X : Stand p l e R s m args below meth c T locs cells slots) (hx : p.tables.exec = Jvm.exec) (hZ : Z.Warmed39 s.vm) (eT : T.heap = h) (V : Arv Z h a kc ty z vs dv) (hd : decode c.code pc = .ok (.arraylength, 1)) (hp : pc + 1 = pc') (k : Ok p e below Fe Q T (mkF m pc' Ls (.int z :: rest))) : Ok p e below Fe Q T (mkF m pc Ls (.ref a :: rest)) := by
  subst hp
  obtain ⟨cl, Ar, q, S1, N1, H1, G1⟩ := V
  refine Ok.st (X.arraylength hx (by rw [eT]; exact Ar.1) (State.isArrayOf_alike hZ.alike Ar.2.1) (g := mkF m pc Ls (.ref a :: rest)) rfl rfl hd) ?_
  rw [len_of S1 N1]
  exact k
theorem Ok.ldI {a : Addr} {kc : ClassId} {z j : Int32} {v : Value} {vs : List Value} {dv : Value} (X : Stand p l e R s m args below meth c T locs cells slots) (hx : p.tables.exec = Jvm.exec) (hZ : Z.Warmed39 s.vm) (eT : T.heap = h) (V : Arv Z h a kc .int z vs dv) (hj : ¬ j < 0 ∧ j < z) (hv : vs.getD j.toNatClampNeg dv = v) (hd : decode c.code pc = .ok (.iaload, 1)) (hp : pc + 1 = pc') (k : Ok p e below Fe Q T (mkF m pc' Ls (v :: rest))) : Ok p e below Fe Q T (mkF m pc Ls (.int j :: .ref a :: rest)) := by
  subst hp
  obtain ⟨cl, Ar, q, S1, N1, H1, G1⟩ := V
  exact Ok.st (X.iaload hx (j := j) (v := v) (by rw [eT]; exact Ar.1) (State.isArrayOf_alike hZ.alike Ar.2.1) Ar.2.2 (inb_of S1 hj) (H1.at (inb_of S1 hj) hv) (g := mkF m pc Ls (.int j :: .ref a :: rest)) rfl rfl hd) k
theorem Ok.ldB {a : Addr} {kc : ClassId} {z j : Int32} {v : Value} {vs : List Value} {dv : Value} (X : Stand p l e R s m args below meth c T locs cells slots) (hx : p.tables.exec = Jvm.exec) (hZ : Z.Warmed39 s.vm) (eT : T.heap = h) (V : Arv Z h a kc .byte z vs dv) (hj : ¬ j < 0 ∧ j < z) (hv : vs.getD j.toNatClampNeg dv = v) (hd : decode c.code pc = .ok (.baload, 1)) (hp : pc + 1 = pc') (k : Ok p e below Fe Q T (mkF m pc' Ls (v :: rest))) : Ok p e below Fe Q T (mkF m pc Ls (.int j :: .ref a :: rest)) := by
  subst hp
  obtain ⟨cl, Ar, q, S1, N1, H1, G1⟩ := V
  exact Ok.st (X.baloadBytes hx (j := j) (v := v) (by rw [eT]; exact Ar.1) (State.isArrayOf_alike hZ.alike Ar.2.1) Ar.2.2 (inb_of S1 hj) (H1.at (inb_of S1 hj) hv) (g := mkF m pc Ls (.int j :: .ref a :: rest)) rfl rfl hd) k
theorem Ok.ldC {a : Addr} {kc : ClassId} {z j : Int32} {v : Value} {vs : List Value} {dv : Value} (X : Stand p l e R s m args below meth c T locs cells slots) (hx : p.tables.exec = Jvm.exec) (hZ : Z.Warmed39 s.vm) (eT : T.heap = h) (V : Arv Z h a kc .char z vs dv) (hj : ¬ j < 0 ∧ j < z) (hv : vs.getD j.toNatClampNeg dv = v) (hd : decode c.code pc = .ok (.caload, 1)) (hp : pc + 1 = pc') (k : Ok p e below Fe Q T (mkF m pc' Ls (v :: rest))) : Ok p e below Fe Q T (mkF m pc Ls (.int j :: .ref a :: rest)) := by
  subst hp
  obtain ⟨cl, Ar, q, S1, N1, H1, G1⟩ := V
  exact Ok.st (X.caload hx (j := j) (v := v) (by rw [eT]; exact Ar.1) (State.isArrayOf_alike hZ.alike Ar.2.1) Ar.2.2 (inb_of S1 hj) (H1.at (inb_of S1 hj) hv) (g := mkF m pc Ls (.int j :: .ref a :: rest)) rfl rfl hd) k
theorem Ok.aald {a : Addr} {cl : Cell} {ty : FieldType} {j : Int32} {v : Value} (X : Stand p l e R s m args below meth c T locs cells slots) (hx : p.tables.exec = Jvm.exec) (hZ : Z.Warmed39 s.vm) (eT : T.heap = h) (A : Arr Z h a cl ty) (hty : ty.isReference = true) (hin : ¬ (j < 0 ∨ cl.slots.size ≤ j.toNatClampNeg)) (hv : cl.slots[j.toNatClampNeg]? = some v) (hd : decode c.code pc = .ok (.aaload, 1)) (hp : pc + 1 = pc') (k : Ok p e below Fe Q T (mkF m pc' Ls (v :: rest))) : Ok p e below Fe Q T (mkF m pc Ls (.int j :: .ref a :: rest)) := by
  subst hp
  exact Ok.st (X.aaload hx (j := j) (v := v) (by rw [eT]; exact A.1) (State.isArrayOf_alike hZ.alike A.2.1) hty A.2.2 hin hv (g := mkF m pc Ls (.int j :: .ref a :: rest)) rfl rfl hd) k
theorem Ok.ldcF {index : Nat} {v : UInt32} (X : Stand p l e R s m args below meth c T locs cells slots) (hx : p.tables.exec = Jvm.exec) (hZ : Z.Warmed39 s.vm) (hown : s.vm.findClass own = some m.cls) (w : (Jvm.Cond.constantFloat own index v).before a0 Z = true) (hd : decode c.code pc = .ok (.ldc index, 2)) (hp : pc + 2 = pc') (k : Ok p e below Fe Q T (mkF m pc' Ls (.float v :: st))) : Ok p e below Fe Q T (mkF m pc Ls st) := by
  subst hp
  exact Ok.st (X.ldcFloatC hx hown (mvT hZ w) (g := mkF m pc Ls st) rfl hd) k
theorem own_root {O K : String} {n : Nat} (w : (Jvm.Cond.noSuperclass O).before a0 Z = true) (wk : (Jvm.Cond.instantiable K n).before a0 Z = true) (hn : O ≠ K) : NS Z O K := by
  obtain ⟨c, k, h1, h2, h3, -, -⟩ := Cond.noSuperclass_spec w
  obtain ⟨t, k', g1, -⟩ := Cond.instantiable_spec wk
  have ne := ids_ne h1 g1 hn
  refine ⟨c, t, h1, g1, fun fuel => ?_⟩
  cases fuel with
  | zero => rfl
  | succ f => simp [Vm.isSubclassAux, ne, h2, h3]
theorem own_no {C S K : String} {n : Nat} (w : (Jvm.Cond.superclass C S).before a0 Z = true) (wk : (Jvm.Cond.instantiable K n).before a0 Z = true) (ns : NS Z C K) (hn : C ≠ K) : ∃ c t, Z.vm.findClass C = some c ∧ Z.vm.findClass K = some t ∧ Z.vm.assignable c t = false := by
  obtain ⟨c, t, h0, g0, n3⟩ := ns
  obtain ⟨p, k, kp, h1, h2, h3, h4, h5, -, h7⟩ := Cond.superclass_spec h0 w
  obtain ⟨t', k', g1, g2, g5, g7, -⟩ := Cond.instantiable_spec wk
  cases g0.symm.trans g1
  have g8 : k'.isInterface = false := by
    cases hq : k'.isInterface
    · rfl
    · rw [hq] at g7
      cases g7
  have ne := ids_ne h0 g0 hn
  refine ⟨c, t, h0, g0, ?_⟩
  show Z.vm.assignableAux (255 + 1) c t = false
  simp [Vm.assignableAux, ne, h2, g2, h5, g5, g8, Vm.isSubclass, n3]
end Layer2
def nx (k : Int64) : Int64 := k * (2862933555777941757 : Int64) + (1 : Int64)
def yv (k : Int64) : Int64 := (k.toUInt64 >>> ((33 : Int32) &&& 0x3f).toInt64.toUInt64).toInt64 + (1 : Int64)
def jn (j k : Int64) : Int64 := ((j + (1 : Int64)) <<< ((31 : Int32) &&& 0x3f).toInt64) / yv k
theorem shr33 (k : Int64) : 0 ≤ ((k.toUInt64 >>> ((33 : Int32) &&& 0x3f).toInt64.toUInt64).toInt64).toInt ∧ ((k.toUInt64 >>> ((33 : Int32) &&& 0x3f).toInt64.toUInt64).toInt64).toInt < 2147483648 := by
  have hn : (((33 : Int32) &&& 0x3f).toInt64.toUInt64) = 33 := by decide
  rw [hn]
  have e2 : ((k.toUInt64 >>> 33).toInt64).toBitVec.toNat = k.toBitVec.toNat / 2 ^ 33 := by
    simp only [UInt64.toBitVec_toInt64, UInt64.toBitVec_shiftRight, Int64.toBitVec_toUInt64]
    simp [BitVec.toNat_ushiftRight, Nat.shiftRight_eq_div_pow]
  have hb := k.toBitVec.isLt
  have hlt : k.toBitVec.toNat / 2 ^ 33 < 2147483648 := by omega
  have e3 : ((k.toUInt64 >>> 33).toInt64).toInt = ((k.toBitVec.toNat / 2 ^ 33 : Nat) : Int) := by
    have : ((k.toUInt64 >>> 33).toInt64).toInt = ((k.toUInt64 >>> 33).toInt64).toBitVec.toInt := rfl
    rw [this, BitVec.toInt_eq_toNat_cond, e2, if_pos (by omega)]
  rw [e3]
  omega
theorem yv_bounds (k : Int64) : 1 ≤ (yv k).toInt ∧ (yv k).toInt ≤ 2147483648 := by
  have h := shr33 k
  have h1 : ((1 : Int64)).toInt = 1 := rfl
  have e := Jvm.Kit.i64_add (x := (k.toUInt64 >>> ((33 : Int32) &&& 0x3f).toInt64.toUInt64).toInt64) (y := 1) (by rw [h1]; omega) (by rw [h1]; omega)
  rw [h1] at e
  unfold yv
  rw [e]
  omega
theorem yv_ne (k : Int64) : yv k ≠ 0 := fun q => by
  have h := yv_bounds k
  rw [q] at h
  simp at h
theorem jn_toInt {j : Int64} (k : Int64) (h0 : 0 ≤ j.toInt) (h1 : j.toInt ≤ 2147483648) : (jn j k).toInt = (j.toInt + 1) * 2147483648 / (yv k).toInt := by
  have h := yv_bounds k
  have e1 : ((1 : Int64)).toInt = 1 := rfl
  have ea := Jvm.Kit.i64_add (x := j) (y := 1) (by rw [e1]; omega) (by rw [e1]; omega)
  rw [e1] at ea
  have es := Jvm.Kit.i64_shl (j + 1) (((31 : Int32) &&& 0x3f).toInt64) (k := 31) (by decide) (by rw [ea]; omega) (by rw [ea]; omega)
  unfold jn
  rw [Jvm.Kit.i64_div (by omega), es, ea, Int.tdiv_eq_ediv_of_nonneg (by omega)]
  rfl
theorem jump_ge {j y : Int} (h0 : 0 ≤ j) (hy1 : 1 ≤ y) (hy2 : y ≤ 2147483648) : j + 1 ≤ (j + 1) * 2147483648 / y :=
  Int.le_ediv_of_mul_le (by omega) (Int.mul_le_mul_of_nonneg_left hy2 (by omega))
def Sm (a b : Int) : Prop := a = b
/-- the loop, in whole numbers: turns left, the state, the bucket, the next one, the number of buckets -/
def lp : Nat → Int64 → Int → Int → Int → Int
  | 0, _, b, _, _ => b
  | f + 1, k, b, j, n => if j < n then (if (yv (nx k)).toInt = 2147483648 then j else lp f (nx k) j ((j + 1) * 2147483648 / (yv (nx k)).toInt) n) else b
theorem lp_range : ∀ (f : Nat) (k : Int64) (b j n : Int), 0 ≤ j → lp f k b j n = b ∨ (j ≤ lp f k b j n ∧ lp f k b j n < n)
  | 0, _, _, _, _, _ => Or.inl rfl
  | f + 1, k, b, j, n, h0 => by
    have hy := yv_bounds (nx k)
    have hj := jump_ge h0 hy.1 hy.2
    unfold lp
    by_cases h1 : j < n
    · rw [if_pos h1]
      by_cases h2 : (yv (nx k)).toInt = 2147483648
      · rw [if_pos h2]
        right
        omega
      · rw [if_neg h2]
        rcases lp_range f (nx k) j _ n (by omega : 0 ≤ (j + 1) * 2147483648 / (yv (nx k)).toInt) with e | e
        · right
          rw [e]
          omega
        · right
          omega
    · rw [if_neg h1]
      exact Or.inl rfl
theorem lp_next : ∀ (f : Nat) (k : Int64) (b j n : Int), 0 ≤ j → lp f k b j (n + 1) = lp f k b j n ∨ lp f k b j (n + 1) = n
  | 0, _, _, _, _, _ => Or.inl rfl
  | f + 1, k, b, j, n, h0 => by
    have hy := yv_bounds (nx k)
    have hj := jump_ge h0 hy.1 hy.2
    unfold lp
    by_cases h2 : (yv (nx k)).toInt = 2147483648
    · rw [if_pos h2, if_pos h2]
      by_cases h1 : j < n
      · rw [if_pos h1, if_pos (by omega)]
        exact Or.inl rfl
      · rw [if_neg h1]
        by_cases h3 : j < n + 1
        · rw [if_pos h3]
          right
          omega
        · rw [if_neg h3]
          exact Or.inl rfl
    · rw [if_neg h2, if_neg h2]
      by_cases h1 : j < n
      · rw [if_pos h1, if_pos (by omega)]
        exact lp_next f (nx k) j _ n (by omega)
      · rw [if_neg h1]
        by_cases h3 : j < n + 1
        · rw [if_pos h3]
          right
          rcases lp_range f (nx k) j _ (n + 1) (by omega : 0 ≤ (j + 1) * 2147483648 / (yv (nx k)).toInt) with e | e
          · omega
          · omega
        · rw [if_neg h3]
          exact Or.inl rfl
theorem lp_in {f : Nat} {k : Int64} {n : Int} (h : 1 ≤ n) : 0 ≤ lp f k 0 0 n ∧ lp f k 0 0 n < n := by
  rcases lp_range f k 0 0 n (by omega) with e | e
  · rw [e]
    omega
  · exact e
/-- the first two turns, told apart -/
theorem lp_agrees {f : Nat} {q : Int64} {n : Int} (h : 1 ≤ n) : (((yv (nx q)).toInt = 2147483648 ∨ n ≤ 2147483648 / (yv (nx q)).toInt) → lp (f + 3) q 0 0 n = 0) ∧
    (¬ ((yv (nx q)).toInt = 2147483648 ∨ n ≤ 2147483648 / (yv (nx q)).toInt) →
      (((yv (nx (nx q))).toInt = 2147483648 ∨ n ≤ (2147483648 / (yv (nx q)).toInt + 1) * 2147483648 / (yv (nx (nx q))).toInt) → lp (f + 3) q 0 0 n = 2147483648 / (yv (nx q)).toInt) ∧
      (¬ ((yv (nx (nx q))).toInt = 2147483648 ∨ n ≤ (2147483648 / (yv (nx q)).toInt + 1) * 2147483648 / (yv (nx (nx q))).toInt) → (2147483648 / (yv (nx q)).toInt + 1) * 2147483648 / (yv (nx (nx q))).toInt ≤ lp (f + 3) q 0 0 n)) := by
  have hy := yv_bounds (nx q)
  have hy2 := yv_bounds (nx (nx q))
  have hj := jump_ge (j := 0) (by omega) hy.1 hy.2
  have e0 : ((0 : Int) + 1) * 2147483648 = 2147483648 := rfl
  rw [e0] at hj
  have hj2 := jump_ge (j := 2147483648 / (yv (nx q)).toInt) (by omega) hy2.1 hy2.2
  have E : lp (f + 3) q 0 0 n = if (yv (nx q)).toInt = 2147483648 then 0 else lp (f + 2) (nx q) 0 (2147483648 / (yv (nx q)).toInt) n := by
    rw [show f + 3 = (f + 2) + 1 from rfl, lp, if_pos (by omega), e0]
  have E2 : lp (f + 2) (nx q) 0 (2147483648 / (yv (nx q)).toInt) n = if 2147483648 / (yv (nx q)).toInt < n then (if (yv (nx (nx q))).toInt = 2147483648 then 2147483648 / (yv (nx q)).toInt else lp (f + 1) (nx (nx q)) (2147483648 / (yv (nx q)).toInt) ((2147483648 / (yv (nx q)).toInt + 1) * 2147483648 / (yv (nx (nx q))).toInt) n) else 0 := by
    rw [show f + 2 = (f + 1) + 1 from rfl, lp]
  have E3 : ∀ b, lp (f + 1) (nx (nx q)) b ((2147483648 / (yv (nx q)).toInt + 1) * 2147483648 / (yv (nx (nx q))).toInt) n = if (2147483648 / (yv (nx q)).toInt + 1) * 2147483648 / (yv (nx (nx q))).toInt < n then (if (yv (nx (nx (nx q)))).toInt = 2147483648 then (2147483648 / (yv (nx q)).toInt + 1) * 2147483648 / (yv (nx (nx q))).toInt else lp f (nx (nx (nx q))) ((2147483648 / (yv (nx q)).toInt + 1) * 2147483648 / (yv (nx (nx q))).toInt) (((2147483648 / (yv (nx q)).toInt + 1) * 2147483648 / (yv (nx (nx q))).toInt + 1) * 2147483648 / (yv (nx (nx (nx q)))).toInt) n) else b := fun b => by rw [lp]
  generalize hY1 : (yv (nx q)).toInt = Y1 at *
  generalize hJ1 : 2147483648 / Y1 = J1 at *
  generalize hY2 : (yv (nx (nx q))).toInt = Y2 at *
  generalize hJ2 : (J1 + 1) * 2147483648 / Y2 = J2 at *
  refine ⟨fun a => ?_, fun a => ⟨fun b => ?_, fun b => ?_⟩⟩
  · rw [E]
    by_cases c : Y1 = 2147483648
    · rw [if_pos c]
    · rw [if_neg c, E2, if_neg (by omega)]
  · rw [E, if_neg (by omega), E2, if_pos (by omega)]
    by_cases c : Y2 = 2147483648
    · rw [if_pos c]
    · rw [if_neg c, E3, if_neg (by omega)]
  · rw [E, if_neg (by omega), E2, if_pos (by omega), if_neg (by omega), E3, if_pos (by omega)]
    by_cases c : (yv (nx (nx (nx q)))).toInt = 2147483648
    · rw [if_pos c]
      exact Int.le_refl _
    · rw [if_neg c]
      have hy3 := yv_bounds (nx (nx (nx q)))
      have hj3 := jump_ge (j := J2) (by omega) hy3.1 hy3.2
      rcases lp_range f (nx (nx (nx q))) J2 ((J2 + 1) * 2147483648 / (yv (nx (nx (nx q)))).toInt) n (by omega) with e | e
      · rw [e]
        exact Int.le_refl _
      · omega
theorem n_in (p : Int32) : 1 ≤ ((1 : Int32) + ((p &&& (2147483647 : Int32)) % (2147483646 : Int32))).toInt ∧ ((1 : Int32) + ((p &&& (2147483647 : Int32)) % (2147483646 : Int32))).toInt ≤ 2147483646 := by
  have h1 := Jvm.Kit.i32_mask p 2147483647 (k := 31) (by decide) (by decide)
  have h2 := Jvm.Kit.i32_rem_nonneg (x := p &&& 2147483647) (y := 2147483646) (by rw [h1]; omega)
  have h3 : ((2147483646 : Int32)).toInt = 2147483646 := rfl
  have h4 : ((1 : Int32)).toInt = 1 := rfl
  rw [h3] at h2
  rw [Jvm.Kit.i32_add (by rw [h4]; omega) (by rw [h4]; omega), h4]
  omega
theorem one_shift (y : Int64) (h0 : 1 ≤ y.toInt) : ((2147483648 : Int64) / y).toInt = 2147483648 / y.toInt := by
  have h3 : ((2147483648 : Int64)).toInt = 2147483648 := rfl
  rw [Jvm.Kit.i64_div (by omega), h3, Int.tdiv_eq_ediv_of_nonneg (by omega)]
theorem y_ne {y : Int64} (h0 : 1 ≤ y.toInt) : y ≠ 0 := fun q => by
  rw [q] at h0
  simp at h0
theorem ediv_bounds {y : Int} (h0 : 1 ≤ y) : 0 ≤ 2147483648 / y ∧ 2147483648 / y ≤ 2147483648 := ⟨Int.ediv_nonneg (by omega) (by omega), Int.ediv_le_self _ (by omega)⟩
theorem pd_0 : parseMethodDescriptor "(JI)I" = some ⟨[.long, .int], some .int⟩ := by decide +kernel
theorem pd_1 : parseMethodDescriptor "(IJZJZJ)Z" = some ⟨[.int, .long, .boolean, .long, .boolean, .long], some .boolean⟩ := by decide +kernel
theorem Sta_keep {Z : State} {h h' : Heap} {C n d : String} {w : Value} {ws : List Addr} (F : Sta Z h C n d w) (K : Keep h h' ws) (q : ∀ x ∈ ws, ∃ k, Exa Z h x k) : Sta Z h' C n d w := by
  obtain ⟨cf, i, k, f, st, cell, h1, h2, h3, h4, h5, h6, h7⟩ := F
  refine ⟨cf, i, k, f, st, cell, h1, h2, h3, h4, K.2.1 st cell h5 fun hm => ?_, h6, h7⟩
  obtain ⟨k', c', k'', g1, -, -, g4, -⟩ := q st hm
  cases h5.symm.trans g1
  rw [h6] at g4
  cases g4
theorem d1_0 : decode prog_4_method_8_code 0 = .ok (.lload_n 0, 1) := by decide +kernel
theorem d1_1 : decode prog_4_method_8_code 1 = .ok (.lstore_n 3, 1) := by decide +kernel
theorem d1_2 : decode prog_4_method_8_code 2 = .ok (.lconst 0, 1) := by decide +kernel
theorem d1_3 : decode prog_4_method_8_code 3 = .ok (.lstore 5, 2) := by decide +kernel
theorem d1_5 : decode prog_4_method_8_code 5 = .ok (.lconst 0, 1) := by decide +kernel
theorem d1_6 : decode prog_4_method_8_code 6 = .ok (.lstore 7, 2) := by decide +kernel
theorem d1_8 : decode prog_4_method_8_code 8 = .ok (.lload 7, 2) := by decide +kernel
theorem d1_10 : decode prog_4_method_8_code 10 = .ok (.iload_n 2, 1) := by decide +kernel
theorem d1_11 : decode prog_4_method_8_code 11 = .ok (.i2l, 1) := by decide +kernel
theorem d1_12 : decode prog_4_method_8_code 12 = .ok (.lcmp, 1) := by decide +kernel
theorem d1_13 : decode prog_4_method_8_code 13 = .ok (.ifCond .ge 50, 3) := by decide +kernel
theorem d1_16 : decode prog_4_method_8_code 16 = .ok (.lload 7, 2) := by decide +kernel
theorem d1_18 : decode prog_4_method_8_code 18 = .ok (.lstore 5, 2) := by decide +kernel
theorem d1_20 : decode prog_4_method_8_code 20 = .ok (.lload_n 3, 1) := by decide +kernel
theorem d1_21 : decode prog_4_method_8_code 21 = .ok (.ldc2_w 65, 3) := by decide +kernel
theorem d1_24 : decode prog_4_method_8_code 24 = .ok (.lmul, 1) := by decide +kernel
theorem d1_25 : decode prog_4_method_8_code 25 = .ok (.lconst 1, 1) := by decide +kernel
theorem d1_26 : decode prog_4_method_8_code 26 = .ok (.ladd, 1) := by decide +kernel
theorem d1_27 : decode prog_4_method_8_code 27 = .ok (.lstore_n 3, 1) := by decide +kernel
theorem d1_28 : decode prog_4_method_8_code 28 = .ok (.lload_n 3, 1) := by decide +kernel
theorem d1_29 : decode prog_4_method_8_code 29 = .ok (.bipush 33, 2) := by decide +kernel
theorem d1_31 : decode prog_4_method_8_code 31 = .ok (.lushr, 1) := by decide +kernel
theorem d1_32 : decode prog_4_method_8_code 32 = .ok (.lconst 1, 1) := by decide +kernel
theorem d1_33 : decode prog_4_method_8_code 33 = .ok (.ladd, 1) := by decide +kernel
theorem d1_34 : decode prog_4_method_8_code 34 = .ok (.lstore 9, 2) := by decide +kernel
theorem d1_36 : decode prog_4_method_8_code 36 = .ok (.lload 9, 2) := by decide +kernel
theorem d1_38 : decode prog_4_method_8_code 38 = .ok (.ldc2_w 67, 3) := by decide +kernel
theorem d1_41 : decode prog_4_method_8_code 41 = .ok (.lcmp, 1) := by decide +kernel
theorem d1_42 : decode prog_4_method_8_code 42 = .ok (.ifCond .ne 6, 3) := by decide +kernel
theorem d1_45 : decode prog_4_method_8_code 45 = .ok (.goto 18, 3) := by decide +kernel
theorem d1_48 : decode prog_4_method_8_code 48 = .ok (.lload 5, 2) := by decide +kernel
theorem d1_50 : decode prog_4_method_8_code 50 = .ok (.lconst 1, 1) := by decide +kernel
theorem d1_51 : decode prog_4_method_8_code 51 = .ok (.ladd, 1) := by decide +kernel
theorem d1_52 : decode prog_4_method_8_code 52 = .ok (.bipush 31, 2) := by decide +kernel
theorem d1_54 : decode prog_4_method_8_code 54 = .ok (.lshl, 1) := by decide +kernel
theorem d1_55 : decode prog_4_method_8_code 55 = .ok (.lload 9, 2) := by decide +kernel
theorem d1_57 : decode prog_4_method_8_code 57 = .ok (.ldiv, 1) := by decide +kernel
theorem d1_58 : decode prog_4_method_8_code 58 = .ok (.lstore 7, 2) := by decide +kernel
theorem d1_60 : decode prog_4_method_8_code 60 = .ok (.goto (-52), 3) := by decide +kernel
theorem d1_63 : decode prog_4_method_8_code 63 = .ok (.lload 5, 2) := by decide +kernel
theorem d1_65 : decode prog_4_method_8_code 65 = .ok (.l2i, 1) := by decide +kernel
theorem d1_66 : decode prog_4_method_8_code 66 = .ok (.ireturn, 1) := by decide +kernel
theorem pn_0 : plainName "com/example/ringward/ringward/JumpPlacement" = true := by first | (simp [plainName, overriddenIn]; done) | decide +kernel
theorem ef_1 (m : MethodId) (x0 : Int64) (x1 : Int32) : entryFrame m #[(.long x0), (.int x1)] 11 = mkF m 0 #[.val (.long x0), .second, .val (.int x1), .unset, .unset, .unset, .unset, .unset, .unset, .unset, .unset] [] := by first | (simp [entryFrame, mkF, argsToLocals, Value.category]; done) | rfl
def Q1 (Z : State) (q1 : Int64) (p2 : Int32) (fu : Nat) (h0 : Heap) (n0 : Nat) (v : Option Value) (h : Heap) (L : List Loc) : Prop := ∃ r : Int32, v = some (.int r) ∧ r.toInt = lp fu q1 0 0 p2.toInt ∧ Fr n0 L ∧ h = h0
set_option maxRecDepth 65536 in
set_option maxHeartbeats 40000000 in
theorem rm1 (l : Launch) (Z : State) (a0 : Array Value) (hw : ∀ d ∈ tables_1, d.before a0 Z = true) (q1 : Int64) (p2 : Int32) (fu : Nat) (h0 : Heap) (n0 : Nat) (Z0 : n0 ≤ h0.size) (hp1 : 1 ≤ p2.toInt) (hfu : p2.toInt ≤ (fu : Int)) :
    MetN l Z (⟨"com/example/ringward/ringward/JumpPlacement", "bucket", "(JI)I"⟩ : MethodName) prog_4_method_8_code 11 (some .int) [] ({ frames := 0, cells := 0, slots := 0, locals := 0 } : Room) #[(.long q1), (.int p2)] h0 (Q1 Z q1 p2 fu h0 n0) := by
  refine met_n (plainFor_of_name pn_0) (fun m => ef_1 m q1 p2) ?_
  intro p e s m below meth c s₁ X0 hx hby hml hZ hown hnm hret hlk e0
  replace hown : s.vm.findClass "com/example/ringward/ringward/JumpPlacement" = some m.cls := hown
  replace hnm : meth.name = "bucket" := hnm
  replace hret : meth.sig.returnType = (some .int) := hret
  have N0 := Fr.nil n0
  have K0 : Keep h0 h0 [] := Keep.refl _ _
  show Ok p e below _ _ s₁ (mkF m 0 #[.val (.long q1), .second, .val (.int p2), .unset, .unset, .unset, .unset, .unset, .unset, .unset, .unset] [])
  refine Ok.lloadN (pc' := 1) X0 hx (hb hby d1_0) rfl rfl ?_
  refine Ok.lstoreN (l' := #[.val (.long q1), .second, .val (.int p2), .val (.long q1), .second, .unset, .unset, .unset, .unset, .unset, .unset]) (pc' := 2) X0 hx (hb hby d1_1) rfl rfl ?_
  refine Ok.lconst (z := (0 : Int64)) (pc' := 3) X0 hx (hb hby d1_2) rfl rfl ?_
  refine Ok.lstore (l' := #[.val (.long q1), .second, .val (.int p2), .val (.long q1), .second, .val (.long (0 : Int64)), .second, .unset, .unset, .unset, .unset]) (pc' := 5) X0 hx (hb hby d1_3) rfl rfl ?_
  refine Ok.lconst (z := (0 : Int64)) (pc' := 6) X0 hx (hb hby d1_5) rfl rfl ?_
  refine Ok.lstore (l' := #[.val (.long q1), .second, .val (.int p2), .val (.long q1), .second, .val (.long (0 : Int64)), .second, .val (.long (0 : Int64)), .second, .unset, .unset]) (pc' := 8) X0 hx (hb hby d1_6) rfl rfl ?_
  have hn64 : p2.toInt64.toInt = p2.toInt := Int32.toInt_toInt64 p2
  have hpl := p2.toInt_lt
  have loop : ∀ (f : Nat) (k bv jv : Int64) (sl9 sl10 : Slot), (sl9 = .unset ∧ sl10 = .unset ∨ ∃ z : Int64, sl9 = .val (.long z) ∧ sl10 = .second) → 0 ≤ bv.toInt → bv.toInt < p2.toInt → 0 ≤ jv.toInt → p2.toInt - jv.toInt ≤ (f : Int) → Sm (lp f k bv.toInt jv.toInt p2.toInt) (lp fu q1 0 0 p2.toInt) → Ok p e below (NE s ({ frames := 0, cells := 0, slots := 0, locals := 0 } : Room).cells ({ frames := 0, cells := 0, slots := 0, locals := 0 } : Room).slots) (Q1 Z q1 p2 fu h0 n0) s₁ (mkF m 8 #[.val (.long q1), .second, .val (.int p2), .val (.long k), .second, .val (.long bv), .second, .val (.long jv), .second, sl9, sl10] []) := by
    intro f
    induction f with
    | zero =>
      intro k bv jv sl9 sl10 h_sl9 hb0 hbn hj0 hf hR
      refine Ok.lload (pc' := 10) X0 hx (hb hby d1_8) rfl rfl ?_
      refine Ok.iloadN (pc' := 11) X0 hx (hb hby d1_10) rfl rfl ?_
      refine Ok.i2l (pc' := 12) X0 hx (hb hby d1_11) rfl ?_
      refine Ok.lcmp (pc' := 13) X0 hx (hb hby d1_12) rfl ?_
      refine Ok.ifY (pc' := 63) X0 hx (hb hby d1_13) (bt (lc_all jv p2.toInt64).2.2.2.1 (show p2.toInt64.toInt ≤ jv.toInt from (by omega))) (by decide) (by decide) ?_
      refine Ok.lload (pc' := 65) X0 hx (hb hby d1_63) rfl rfl ?_
      refine Ok.l2i (pc' := 66) X0 hx (hb hby d1_65) rfl ?_
      refine Ok.retI X0 hx hret hlk (Or.inl rfl) rfl (hb hby d1_66) (by decide) (by decide) ?_
      show Q1 Z q1 p2 fu h0 n0 _ s₁.heap _
      rw [e0]
      exact ⟨bv.toInt32, rfl, by rw [Jvm.Kit.i32_of_i64 (by omega) (by omega)]; exact Eq.trans rfl (show lp 0 k bv.toInt jv.toInt p2.toInt = lp fu q1 0 0 p2.toInt from hR), N0, rfl⟩
    | succ f ih =>
      intro k bv jv sl9 sl10 h_sl9 hb0 hbn hj0 hf hR
      obtain ⟨kk, hkk⟩ : ∃ z : Int64, nx k = z := ⟨_, rfl⟩
      obtain ⟨y, hye⟩ : ∃ z : Int64, yv kk = z := ⟨_, rfl⟩
      have hyb := yv_bounds kk
      have hyn := yv_ne kk
      rw [hye] at hyb hyn
      refine Ok.lload (pc' := 10) X0 hx (hb hby d1_8) rfl rfl ?_
      refine Ok.iloadN (pc' := 11) X0 hx (hb hby d1_10) rfl rfl ?_
      refine Ok.i2l (pc' := 12) X0 hx (hb hby d1_11) rfl ?_
      refine Ok.lcmp (pc' := 13) X0 hx (hb hby d1_12) rfl ?_
      by_cases hc13 : p2.toInt64.toInt ≤ jv.toInt
      · refine Ok.ifY (pc' := 63) X0 hx (hb hby d1_13) (bt (lc_all jv p2.toInt64).2.2.2.1 hc13) (by decide) (by decide) ?_
        refine Ok.lload (pc' := 65) X0 hx (hb hby d1_63) rfl rfl ?_
        refine Ok.l2i (pc' := 66) X0 hx (hb hby d1_65) rfl ?_
        refine Ok.retI X0 hx hret hlk (Or.inl rfl) rfl (hb hby d1_66) (by decide) (by decide) ?_
        show Q1 Z q1 p2 fu h0 n0 _ s₁.heap _
        rw [e0]
        exact ⟨bv.toInt32, rfl, by rw [Jvm.Kit.i32_of_i64 (by omega) (by omega)]; rw [← (show lp (f + 1) k bv.toInt jv.toInt p2.toInt = lp fu q1 0 0 p2.toInt from hR), lp, if_neg (by omega)], N0, rfl⟩
      · refine Ok.ifN (pc' := 16) X0 hx (hb hby d1_13) (bf (lc_all jv p2.toInt64).2.2.2.1 hc13) rfl ?_
        refine Ok.lload (pc' := 18) X0 hx (hb hby d1_16) rfl rfl ?_
        refine Ok.lstore (l' := #[.val (.long q1), .second, .val (.int p2), .val (.long k), .second, .val (.long jv), .second, .val (.long jv), .second, sl9, sl10]) (pc' := 20) X0 hx (hb hby d1_18) rfl rfl ?_
        refine Ok.lloadN (pc' := 21) X0 hx (hb hby d1_20) rfl rfl ?_
        refine Ok.ldcJ (pc' := 24) (v := (2862933555777941757 : Int64)) X0 hx hZ hown (hw _ (List.mem_of_getElem? (i := 6) rfl)) (hb hby d1_21) rfl ?_
        refine Ok.lmul (pc' := 25) X0 hx (hb hby d1_24) rfl ?_
        refine Ok.lconst (z := (1 : Int64)) (pc' := 26) X0 hx (hb hby d1_25) rfl rfl ?_
        refine Ok.ladd (pc' := 27) X0 hx (hb hby d1_26) rfl ?_
        show Ok p e below _ _ s₁ (mkF m 27 #[.val (.long q1), .second, .val (.int p2), .val (.long k), .second, .val (.long jv), .second, .val (.long jv), .second, sl9, sl10] [(.long (nx k))])
        rw [hkk]
        show Ok p e below _ _ s₁ (mkF m 27 #[.val (.long q1), .second, .val (.int p2), .val (.long k), .second, .val (.long jv), .second, .val (.long jv), .second, sl9, sl10] [(.long kk)])
        refine Ok.lstoreN (l' := #[.val (.long q1), .second, .val (.int p2), .val (.long kk), .second, .val (.long jv), .second, .val (.long jv), .second, sl9, sl10]) (pc' := 28) X0 hx (hb hby d1_27) rfl rfl ?_
        refine Ok.lloadN (pc' := 29) X0 hx (hb hby d1_28) rfl rfl ?_
        refine Ok.bipush (z := (33 : Int32)) (pc' := 31) X0 hx (hb hby d1_29) rfl rfl ?_
        refine Ok.lushr (pc' := 32) X0 hx (hb hby d1_31) rfl ?_
        refine Ok.lconst (z := (1 : Int64)) (pc' := 33) X0 hx (hb hby d1_32) rfl rfl ?_
        refine Ok.ladd (pc' := 34) X0 hx (hb hby d1_33) rfl ?_
        show Ok p e below _ _ s₁ (mkF m 34 #[.val (.long q1), .second, .val (.int p2), .val (.long kk), .second, .val (.long jv), .second, .val (.long jv), .second, sl9, sl10] [(.long (yv kk))])
        rw [hye]
        show Ok p e below _ _ s₁ (mkF m 34 #[.val (.long q1), .second, .val (.int p2), .val (.long kk), .second, .val (.long jv), .second, .val (.long jv), .second, sl9, sl10] [(.long y)])
        refine Ok.lstore (l' := #[.val (.long q1), .second, .val (.int p2), .val (.long kk), .second, .val (.long jv), .second, .val (.long jv), .second, .val (.long y), .second]) (pc' := 36) X0 hx (hb hby d1_34) rfl (by rcases h_sl9 with ⟨rfl, rfl⟩ | ⟨_, rfl, rfl⟩ <;> rfl) ?_
        refine Ok.lload (pc' := 38) X0 hx (hb hby d1_36) rfl rfl ?_
        refine Ok.ldcJ (pc' := 41) (v := (2147483648 : Int64)) X0 hx hZ hown (hw _ (List.mem_of_getElem? (i := 7) rfl)) (hb hby d1_38) rfl ?_
        refine Ok.lcmp (pc' := 42) X0 hx (hb hby d1_41) rfl ?_
        by_cases hc42 : ¬ y.toInt = 2147483648
        · refine Ok.ifY (pc' := 48) X0 hx (hb hby d1_42) (bt (lc_all y (2147483648 : Int64)).2.1 hc42) (by decide) (by decide) ?_
          refine Ok.lload (pc' := 50) X0 hx (hb hby d1_48) rfl rfl ?_
          refine Ok.lconst (z := (1 : Int64)) (pc' := 51) X0 hx (hb hby d1_50) rfl rfl ?_
          refine Ok.ladd (pc' := 52) X0 hx (hb hby d1_51) rfl ?_
          refine Ok.bipush (z := (31 : Int32)) (pc' := 54) X0 hx (hb hby d1_52) rfl rfl ?_
          refine Ok.lshl (pc' := 55) X0 hx (hb hby d1_54) rfl ?_
          refine Ok.lload (pc' := 57) X0 hx (hb hby d1_55) rfl rfl ?_
          refine Ok.ldiv (pc' := 58) X0 hx (hb hby d1_57) rfl hyn ?_
          obtain ⟨j2, hj2e⟩ : ∃ z : Int64, (((jv + (1 : Int64)) <<< ((31 : Int32) &&& 0x3f).toInt64) / y) = z := ⟨_, rfl⟩
          rw [hj2e]
          have ej : Sm j2.toInt ((jv.toInt + 1) * 2147483648 / y.toInt) := by
            have q : (((jv + (1 : Int64)) <<< ((31 : Int32) &&& 0x3f).toInt64) / (yv kk)).toInt = (jv.toInt + 1) * 2147483648 / (yv kk).toInt := jn_toInt kk hj0 (by omega)
            rw [hye, hj2e] at q
            exact q
          show Ok p e below _ _ s₁ (mkF m 58 #[.val (.long q1), .second, .val (.int p2), .val (.long kk), .second, .val (.long jv), .second, .val (.long jv), .second, .val (.long y), .second] [(.long j2)])
          refine Ok.lstore (l' := #[.val (.long q1), .second, .val (.int p2), .val (.long kk), .second, .val (.long jv), .second, .val (.long j2), .second, .val (.long y), .second]) (pc' := 60) X0 hx (hb hby d1_58) rfl rfl ?_
          refine Ok.goto (pc' := 8) X0 hx (hb hby d1_60) (by decide) (by decide) ?_
          have gj := jump_ge hj0 hyb.1 hyb.2
          rw [← (show j2.toInt = (jv.toInt + 1) * 2147483648 / y.toInt from ej)] at gj
          refine ih kk jv j2 _ _ (Or.inr ⟨_, rfl, rfl⟩) hj0 (by omega) (by omega) (by omega) ?_
          show lp f kk jv.toInt j2.toInt p2.toInt = lp fu q1 0 0 p2.toInt
          rw [← (show lp (f + 1) k bv.toInt jv.toInt p2.toInt = lp fu q1 0 0 p2.toInt from hR), lp, if_pos (by omega), hkk, hye, if_neg (by omega), ← (show j2.toInt = (jv.toInt + 1) * 2147483648 / y.toInt from ej)]
        · refine Ok.ifN (pc' := 45) X0 hx (hb hby d1_42) (bf (lc_all y (2147483648 : Int64)).2.1 hc42) rfl ?_
          have hy : y.toInt = 2147483648 := by omega
          refine Ok.goto (pc' := 63) X0 hx (hb hby d1_45) (by decide) (by decide) ?_
          refine Ok.lload (pc' := 65) X0 hx (hb hby d1_63) rfl rfl ?_
          refine Ok.l2i (pc' := 66) X0 hx (hb hby d1_65) rfl ?_
          refine Ok.retI X0 hx hret hlk (Or.inl rfl) rfl (hb hby d1_66) (by decide) (by decide) ?_
          show Q1 Z q1 p2 fu h0 n0 _ s₁.heap _
          rw [e0]
          exact ⟨jv.toInt32, rfl, by rw [Jvm.Kit.i32_of_i64 (by omega) (by omega)]; rw [← (show lp (f + 1) k bv.toInt jv.toInt p2.toInt = lp fu q1 0 0 p2.toInt from hR), lp, if_pos (by omega), hkk, hye, if_pos hy], N0, rfl⟩
  exact loop fu q1 0 0 .unset .unset (Or.inl ⟨rfl, rfl⟩) (by decide) (by rw [show ((0 : Int64)).toInt = 0 from rfl]; omega) (by decide) (by rw [show ((0 : Int64)).toInt = 0 from rfl]; omega) rfl
theorem d2_0 : decode method_3_code 0 = .ok (.iload_n 0, 1) := by decide +kernel
theorem d2_1 : decode method_3_code 1 = .ok (.ifCond .lt 10, 3) := by decide +kernel
theorem d2_4 : decode method_3_code 4 = .ok (.iload_n 0, 1) := by decide +kernel
theorem d2_5 : decode method_3_code 5 = .ok (.i2l, 1) := by decide +kernel
theorem d2_6 : decode method_3_code 6 = .ok (.lload_n 1, 1) := by decide +kernel
theorem d2_7 : decode method_3_code 7 = .ok (.lcmp, 1) := by decide +kernel
theorem d2_8 : decode method_3_code 8 = .ok (.ifCond .lt 5, 3) := by decide +kernel
theorem d2_11 : decode method_3_code 11 = .ok (.iconst 0, 1) := by decide +kernel
theorem d2_12 : decode method_3_code 12 = .ok (.ireturn, 1) := by decide +kernel
theorem d2_13 : decode method_3_code 13 = .ok (.iload_n 3, 1) := by decide +kernel
theorem d2_14 : decode method_3_code 14 = .ok (.ifCond .ne 10, 3) := by decide +kernel
theorem d2_17 : decode method_3_code 17 = .ok (.lload_n 1, 1) := by decide +kernel
theorem d2_18 : decode method_3_code 18 = .ok (.lload 4, 2) := by decide +kernel
theorem d2_20 : decode method_3_code 20 = .ok (.lcmp, 1) := by decide +kernel
theorem d2_21 : decode method_3_code 21 = .ok (.ifCond .gt 13, 3) := by decide +kernel
theorem d2_24 : decode method_3_code 24 = .ok (.iload_n 0, 1) := by decide +kernel
theorem d2_25 : decode method_3_code 25 = .ok (.ifCond .ne 7, 3) := by decide +kernel
theorem d2_28 : decode method_3_code 28 = .ok (.iconst 1, 1) := by decide +kernel
theorem d2_29 : decode method_3_code 29 = .ok (.goto 4, 3) := by decide +kernel
theorem d2_32 : decode method_3_code 32 = .ok (.iconst 0, 1) := by decide +kernel
theorem d2_33 : decode method_3_code 33 = .ok (.ireturn, 1) := by decide +kernel
theorem d2_34 : decode method_3_code 34 = .ok (.iload 6, 2) := by decide +kernel
theorem d2_36 : decode method_3_code 36 = .ok (.ifCond .ne 10, 3) := by decide +kernel
theorem d2_39 : decode method_3_code 39 = .ok (.lload_n 1, 1) := by decide +kernel
theorem d2_40 : decode method_3_code 40 = .ok (.lload 7, 2) := by decide +kernel
theorem d2_42 : decode method_3_code 42 = .ok (.lcmp, 1) := by decide +kernel
theorem d2_43 : decode method_3_code 43 = .ok (.ifCond .gt 17, 3) := by decide +kernel
theorem d2_46 : decode method_3_code 46 = .ok (.iload_n 0, 1) := by decide +kernel
theorem d2_47 : decode method_3_code 47 = .ok (.i2l, 1) := by decide +kernel
theorem d2_48 : decode method_3_code 48 = .ok (.lload 4, 2) := by decide +kernel
theorem d2_50 : decode method_3_code 50 = .ok (.lcmp, 1) := by decide +kernel
theorem d2_51 : decode method_3_code 51 = .ok (.ifCond .ne 7, 3) := by decide +kernel
theorem d2_54 : decode method_3_code 54 = .ok (.iconst 1, 1) := by decide +kernel
theorem d2_55 : decode method_3_code 55 = .ok (.goto 4, 3) := by decide +kernel
theorem d2_58 : decode method_3_code 58 = .ok (.iconst 0, 1) := by decide +kernel
theorem d2_59 : decode method_3_code 59 = .ok (.ireturn, 1) := by decide +kernel
theorem d2_60 : decode method_3_code 60 = .ok (.iload_n 0, 1) := by decide +kernel
theorem d2_61 : decode method_3_code 61 = .ok (.i2l, 1) := by decide +kernel
theorem d2_62 : decode method_3_code 62 = .ok (.lload 7, 2) := by decide +kernel
theorem d2_64 : decode method_3_code 64 = .ok (.lcmp, 1) := by decide +kernel
theorem d2_65 : decode method_3_code 65 = .ok (.ifCond .lt 7, 3) := by decide +kernel
theorem d2_68 : decode method_3_code 68 = .ok (.iconst 1, 1) := by decide +kernel
theorem d2_69 : decode method_3_code 69 = .ok (.goto 4, 3) := by decide +kernel
theorem d2_72 : decode method_3_code 72 = .ok (.iconst 0, 1) := by decide +kernel
theorem d2_73 : decode method_3_code 73 = .ok (.ireturn, 1) := by decide +kernel
theorem pn_1 : plainName "com/example/ringward/ringward/JumpPlacementBucketPinLaw" = true := by first | (simp [plainName, overriddenIn]; done) | decide +kernel
theorem ef_2 (m : MethodId) (x0 : Int32) (x1 : Int64) (x2 : Int32) (x3 : Int64) (x4 : Int32) (x5 : Int64) : entryFrame m #[(.int x0), (.long x1), (.int x2), (.long x3), (.int x4), (.long x5)] 9 = mkF m 0 #[.val (.int x0), .val (.long x1), .second, .val (.int x2), .val (.long x3), .second, .val (.int x4), .val (.long x5), .second] [] := by first | (simp [entryFrame, mkF, argsToLocals, Value.category]; done) | rfl
def Q2 (Z : State) (p1 : Int32) (q2 : Int64) (p3 : Int32) (q4 : Int64) (p5 : Int32) (q6 : Int64) (h0 : Heap) (n0 : Nat) (v : Option Value) (h : Heap) (L : List Loc) : Prop := ∃ b : Int32, v = some (.int b) ∧ (b.toInt = 1 ∧ ((0 ≤ p1.toInt ∧ p1.toInt < q2.toInt ∧ ((¬ p3.toInt = 0 ∨ q2.toInt ≤ q4.toInt) ∧ p1.toInt = 0 ∨ ¬ (¬ p3.toInt = 0 ∨ q2.toInt ≤ q4.toInt) ∧ ((¬ p5.toInt = 0 ∨ q2.toInt ≤ q6.toInt) ∧ p1.toInt = q4.toInt ∨ ¬ (¬ p5.toInt = 0 ∨ q2.toInt ≤ q6.toInt) ∧ q6.toInt ≤ p1.toInt)))) ∨ b.toInt = 0 ∧ ¬ ((0 ≤ p1.toInt ∧ p1.toInt < q2.toInt ∧ ((¬ p3.toInt = 0 ∨ q2.toInt ≤ q4.toInt) ∧ p1.toInt = 0 ∨ ¬ (¬ p3.toInt = 0 ∨ q2.toInt ≤ q4.toInt) ∧ ((¬ p5.toInt = 0 ∨ q2.toInt ≤ q6.toInt) ∧ p1.toInt = q4.toInt ∨ ¬ (¬ p5.toInt = 0 ∨ q2.toInt ≤ q6.toInt) ∧ q6.toInt ≤ p1.toInt))))) ∧ Fr n0 L ∧ h = h0
set_option maxRecDepth 65536 in
set_option maxHeartbeats 40000000 in
theorem rm2 (l : Launch) (Z : State) (a0 : Array Value) (hw : ∀ d ∈ tables_1, d.before a0 Z = true) (p1 : Int32) (q2 : Int64) (p3 : Int32) (q4 : Int64) (p5 : Int32) (q6 : Int64) (h0 : Heap) (n0 : Nat) (Z0 : n0 ≤ h0.size)  :
    MetN l Z (⟨"com/example/ringward/ringward/JumpPlacementBucketPinLaw", "agrees", "(IJZJZJ)Z"⟩ : MethodName) method_3_code 9 (some .boolean) [] ({ frames := 0, cells := 0, slots := 0, locals := 0 } : Room) #[(.int p1), (.long q2), (.int p3), (.long q4), (.int p5), (.long q6)] h0 (Q2 Z p1 q2 p3 q4 p5 q6 h0 n0) := by
  refine met_n (plainFor_of_name pn_1) (fun m => ef_2 m p1 q2 p3 q4 p5 q6) ?_
  intro p e s m below meth c s₁ X0 hx hby hml hZ hown hnm hret hlk e0
  replace hown : s.vm.findClass "com/example/ringward/ringward/JumpPlacementBucketPinLaw" = some m.cls := hown
  replace hnm : meth.name = "agrees" := hnm
  replace hret : meth.sig.returnType = (some .boolean) := hret
  have N0 := Fr.nil n0
  have K0 : Keep h0 h0 [] := Keep.refl _ _
  show Ok p e below _ _ s₁ (mkF m 0 #[.val (.int p1), .val (.long q2), .second, .val (.int p3), .val (.long q4), .second, .val (.int p5), .val (.long q6), .second] [])
  have h64 : p1.toInt64.toInt = p1.toInt := Int32.toInt_toInt64 p1
  have k60 : ∀ (j0 : 0 ≤ p1.toInt ∧ p1.toInt < q2.toInt) (j1 : ¬ (¬ p3.toInt = 0 ∨ q2.toInt ≤ q4.toInt)) (j2 : ¬ (¬ p5.toInt = 0 ∨ q2.toInt ≤ q6.toInt)), Ok p e below (NE s ({ frames := 0, cells := 0, slots := 0, locals := 0 } : Room).cells ({ frames := 0, cells := 0, slots := 0, locals := 0 } : Room).slots) (Q2 Z p1 q2 p3 q4 p5 q6 h0 n0) s₁ (mkF m 60 #[.val (.int p1), .val (.long q2), .second, .val (.int p3), .val (.long q4), .second, .val (.int p5), .val (.long q6), .second] []) := by
    intro j0 j1 j2
    refine Ok.iloadN (pc' := 61) X0 hx (hb hby d2_60) rfl rfl ?_
    refine Ok.i2l (pc' := 62) X0 hx (hb hby d2_61) rfl ?_
    refine Ok.lload (pc' := 64) X0 hx (hb hby d2_62) rfl rfl ?_
    refine Ok.lcmp (pc' := 65) X0 hx (hb hby d2_64) rfl ?_
    by_cases hc65 : p1.toInt64.toInt < q6.toInt
    · refine Ok.ifY (pc' := 72) X0 hx (hb hby d2_65) (bt (lc_all p1.toInt64 q6).2.2.1 hc65) (by decide) (by decide) ?_
      refine Ok.iconst (z := (0 : Int32)) (pc' := 73) X0 hx (hb hby d2_72) rfl rfl ?_
      refine Ok.retI X0 hx hret hlk (Or.inr (Or.inl rfl)) rfl (hb hby d2_73) (by decide) (by decide) ?_
      show Q2 Z p1 q2 p3 q4 p5 q6 h0 n0 _ s₁.heap _
      rw [e0]
      exact ⟨(0 : Int32), rfl, by rw [show ((0 : Int32)).toInt = 0 from rfl]; omega, N0, rfl⟩
    · refine Ok.ifN (pc' := 68) X0 hx (hb hby d2_65) (bf (lc_all p1.toInt64 q6).2.2.1 hc65) rfl ?_
      refine Ok.iconst (z := (1 : Int32)) (pc' := 69) X0 hx (hb hby d2_68) rfl rfl ?_
      refine Ok.goto (pc' := 73) X0 hx (hb hby d2_69) (by decide) (by decide) ?_
      refine Ok.retI X0 hx hret hlk (Or.inr (Or.inl rfl)) rfl (hb hby d2_73) (by decide) (by decide) ?_
      show Q2 Z p1 q2 p3 q4 p5 q6 h0 n0 _ s₁.heap _
      rw [e0]
      exact ⟨(1 : Int32), rfl, by rw [show ((1 : Int32)).toInt = 1 from rfl]; omega, N0, rfl⟩
  have k46 : ∀ (j0 : 0 ≤ p1.toInt ∧ p1.toInt < q2.toInt) (j1 : ¬ (¬ p3.toInt = 0 ∨ q2.toInt ≤ q4.toInt)) (j2 : (¬ p5.toInt = 0 ∨ q2.toInt ≤ q6.toInt)), Ok p e below (NE s ({ frames := 0, cells := 0, slots := 0, locals := 0 } : Room).cells ({ frames := 0, cells := 0, slots := 0, locals := 0 } : Room).slots) (Q2 Z p1 q2 p3 q4 p5 q6 h0 n0) s₁ (mkF m 46 #[.val (.int p1), .val (.long q2), .second, .val (.int p3), .val (.long q4), .second, .val (.int p5), .val (.long q6), .second] []) := by
    intro j0 j1 j2
    refine Ok.iloadN (pc' := 47) X0 hx (hb hby d2_46) rfl rfl ?_
    refine Ok.i2l (pc' := 48) X0 hx (hb hby d2_47) rfl ?_
    refine Ok.lload (pc' := 50) X0 hx (hb hby d2_48) rfl rfl ?_
    refine Ok.lcmp (pc' := 51) X0 hx (hb hby d2_50) rfl ?_
    by_cases hc51 : ¬ p1.toInt64.toInt = q4.toInt
    · refine Ok.ifY (pc' := 58) X0 hx (hb hby d2_51) (bt (lc_all p1.toInt64 q4).2.1 hc51) (by decide) (by decide) ?_
      refine Ok.iconst (z := (0 : Int32)) (pc' := 59) X0 hx (hb hby d2_58) rfl rfl ?_
      refine Ok.retI X0 hx hret hlk (Or.inr (Or.inl rfl)) rfl (hb hby d2_59) (by decide) (by decide) ?_
      show Q2 Z p1 q2 p3 q4 p5 q6 h0 n0 _ s₁.heap _
      rw [e0]
      exact ⟨(0 : Int32), rfl, by rw [show ((0 : Int32)).toInt = 0 from rfl]; omega, N0, rfl⟩
    · refine Ok.ifN (pc' := 54) X0 hx (hb hby d2_51) (bf (lc_all p1.toInt64 q4).2.1 hc51) rfl ?_
      refine Ok.iconst (z := (1 : Int32)) (pc' := 55) X0 hx (hb hby d2_54) rfl rfl ?_
      refine Ok.goto (pc' := 59) X0 hx (hb hby d2_55) (by decide) (by decide) ?_
      refine Ok.retI X0 hx hret hlk (Or.inr (Or.inl rfl)) rfl (hb hby d2_59) (by decide) (by decide) ?_
      show Q2 Z p1 q2 p3 q4 p5 q6 h0 n0 _ s₁.heap _
      rw [e0]
      exact ⟨(1 : Int32), rfl, by rw [show ((1 : Int32)).toInt = 1 from rfl]; omega, N0, rfl⟩
  have k24 : ∀ (j0 : 0 ≤ p1.toInt ∧ p1.toInt < q2.toInt) (j1 : (¬ p3.toInt = 0 ∨ q2.toInt ≤ q4.toInt)), Ok p e below (NE s ({ frames := 0, cells := 0, slots := 0, locals := 0 } : Room).cells ({ frames := 0, cells := 0, slots := 0, locals := 0 } : Room).slots) (Q2 Z p1 q2 p3 q4 p5 q6 h0 n0) s₁ (mkF m 24 #[.val (.int p1), .val (.long q2), .second, .val (.int p3), .val (.long q4), .second, .val (.int p5), .val (.long q6), .second] []) := by
    intro j0 j1
    refine Ok.iloadN (pc' := 25) X0 hx (hb hby d2_24) rfl rfl ?_
    by_cases hc25 : ¬ p1.toInt = 0
    · refine Ok.ifY (pc' := 32) X0 hx (hb hby d2_25) (bt (i0 .ne p1 (ic_eq p1 0).2.1) hc25) (by decide) (by decide) ?_
      refine Ok.iconst (z := (0 : Int32)) (pc' := 33) X0 hx (hb hby d2_32) rfl rfl ?_
      refine Ok.retI X0 hx hret hlk (Or.inr (Or.inl rfl)) rfl (hb hby d2_33) (by decide) (by decide) ?_
      show Q2 Z p1 q2 p3 q4 p5 q6 h0 n0 _ s₁.heap _
      rw [e0]
      exact ⟨(0 : Int32), rfl, by rw [show ((0 : Int32)).toInt = 0 from rfl]; omega, N0, rfl⟩
    · refine Ok.ifN (pc' := 28) X0 hx (hb hby d2_25) (bf (i0 .ne p1 (ic_eq p1 0).2.1) hc25) rfl ?_
      refine Ok.iconst (z := (1 : Int32)) (pc' := 29) X0 hx (hb hby d2_28) rfl rfl ?_
      refine Ok.goto (pc' := 33) X0 hx (hb hby d2_29) (by decide) (by decide) ?_
      refine Ok.retI X0 hx hret hlk (Or.inr (Or.inl rfl)) rfl (hb hby d2_33) (by decide) (by decide) ?_
      show Q2 Z p1 q2 p3 q4 p5 q6 h0 n0 _ s₁.heap _
      rw [e0]
      exact ⟨(1 : Int32), rfl, by rw [show ((1 : Int32)).toInt = 1 from rfl]; omega, N0, rfl⟩
  have k11 : ∀ (j0 : ¬ (0 ≤ p1.toInt ∧ p1.toInt < q2.toInt)), Ok p e below (NE s ({ frames := 0, cells := 0, slots := 0, locals := 0 } : Room).cells ({ frames := 0, cells := 0, slots := 0, locals := 0 } : Room).slots) (Q2 Z p1 q2 p3 q4 p5 q6 h0 n0) s₁ (mkF m 11 #[.val (.int p1), .val (.long q2), .second, .val (.int p3), .val (.long q4), .second, .val (.int p5), .val (.long q6), .second] []) := by
    intro j0
    refine Ok.iconst (z := (0 : Int32)) (pc' := 12) X0 hx (hb hby d2_11) rfl rfl ?_
    refine Ok.retI X0 hx hret hlk (Or.inr (Or.inl rfl)) rfl (hb hby d2_12) (by decide) (by decide) ?_
    show Q2 Z p1 q2 p3 q4 p5 q6 h0 n0 _ s₁.heap _
    rw [e0]
    exact ⟨(0 : Int32), rfl, by rw [show ((0 : Int32)).toInt = 0 from rfl]; omega, N0, rfl⟩
  refine Ok.iloadN (pc' := 1) X0 hx (hb hby d2_0) rfl rfl ?_
  by_cases hc1 : p1.toInt < 0
  · refine Ok.ifY (pc' := 11) X0 hx (hb hby d2_1) (bt (i0 .lt p1 (ic_eq p1 0).2.2.1) hc1) (by decide) (by decide) ?_
    exact k11 (by omega)
  · refine Ok.ifN (pc' := 4) X0 hx (hb hby d2_1) (bf (i0 .lt p1 (ic_eq p1 0).2.2.1) hc1) rfl ?_
    refine Ok.iloadN (pc' := 5) X0 hx (hb hby d2_4) rfl rfl ?_
    refine Ok.i2l (pc' := 6) X0 hx (hb hby d2_5) rfl ?_
    refine Ok.lloadN (pc' := 7) X0 hx (hb hby d2_6) rfl rfl ?_
    refine Ok.lcmp (pc' := 8) X0 hx (hb hby d2_7) rfl ?_
    by_cases hc8 : p1.toInt64.toInt < q2.toInt
    · refine Ok.ifY (pc' := 13) X0 hx (hb hby d2_8) (bt (lc_all p1.toInt64 q2).2.2.1 hc8) (by decide) (by decide) ?_
      refine Ok.iloadN (pc' := 14) X0 hx (hb hby d2_13) rfl rfl ?_
      by_cases hc14 : ¬ p3.toInt = 0
      · refine Ok.ifY (pc' := 24) X0 hx (hb hby d2_14) (bt (i0 .ne p3 (ic_eq p3 0).2.1) hc14) (by decide) (by decide) ?_
        exact k24 (by omega) (by omega)
      · refine Ok.ifN (pc' := 17) X0 hx (hb hby d2_14) (bf (i0 .ne p3 (ic_eq p3 0).2.1) hc14) rfl ?_
        refine Ok.lloadN (pc' := 18) X0 hx (hb hby d2_17) rfl rfl ?_
        refine Ok.lload (pc' := 20) X0 hx (hb hby d2_18) rfl rfl ?_
        refine Ok.lcmp (pc' := 21) X0 hx (hb hby d2_20) rfl ?_
        by_cases hc21 : q4.toInt < q2.toInt
        · refine Ok.ifY (pc' := 34) X0 hx (hb hby d2_21) (bt (lc_all q2 q4).2.2.2.2.1 hc21) (by decide) (by decide) ?_
          refine Ok.iload (pc' := 36) X0 hx (hb hby d2_34) rfl rfl ?_
          by_cases hc36 : ¬ p5.toInt = 0
          · refine Ok.ifY (pc' := 46) X0 hx (hb hby d2_36) (bt (i0 .ne p5 (ic_eq p5 0).2.1) hc36) (by decide) (by decide) ?_
            exact k46 (by omega) (by omega) (by omega)
          · refine Ok.ifN (pc' := 39) X0 hx (hb hby d2_36) (bf (i0 .ne p5 (ic_eq p5 0).2.1) hc36) rfl ?_
            refine Ok.lloadN (pc' := 40) X0 hx (hb hby d2_39) rfl rfl ?_
            refine Ok.lload (pc' := 42) X0 hx (hb hby d2_40) rfl rfl ?_
            refine Ok.lcmp (pc' := 43) X0 hx (hb hby d2_42) rfl ?_
            by_cases hc43 : q6.toInt < q2.toInt
            · refine Ok.ifY (pc' := 60) X0 hx (hb hby d2_43) (bt (lc_all q2 q6).2.2.2.2.1 hc43) (by decide) (by decide) ?_
              exact k60 (by omega) (by omega) (by omega)
            · refine Ok.ifN (pc' := 46) X0 hx (hb hby d2_43) (bf (lc_all q2 q6).2.2.2.2.1 hc43) rfl ?_
              exact k46 (by omega) (by omega) (by omega)
        · refine Ok.ifN (pc' := 24) X0 hx (hb hby d2_21) (bf (lc_all q2 q4).2.2.2.2.1 hc21) rfl ?_
          exact k24 (by omega) (by omega)
    · refine Ok.ifN (pc' := 11) X0 hx (hb hby d2_8) (bf (lc_all p1.toInt64 q2).2.2.1 hc8) rfl ?_
      exact k11 (by omega)
theorem ef_0 (m : MethodId) (x0 : Int64) (x1 : Int32) : entryFrame m #[(.long x0), (.int x1)] maxLocals = mkF m 0 #[.val (.long x0), .second, .val (.int x1), .unset, .unset, .unset, .unset, .unset, .unset, .unset, .unset, .unset, .unset, .unset, .unset, .unset, .unset, .unset, .unset, .unset, .unset] [] := by first | (simp [entryFrame, mkF, argsToLocals, Value.category, maxLocals]; done) | rfl
def Q0 (Z : State) (q1 : Int64) (p2 : Int32) (h0 : Heap) (n0 : Nat) (v : Option Value) (h : Heap) (L : List Loc) : Prop := v = some (.int (1 : Int32)) ∧ Fr n0 L
set_option maxRecDepth 65536 in
set_option maxHeartbeats 40000000 in
theorem rm0 (l : Launch) (Z : State) (a0 : Array Value) (hw : ∀ d ∈ tables_1, d.before a0 Z = true) (ws : List Jvm.Cond) (q1 : Int64) (p2 : Int32) (h0 : Heap) (n0 : Nat) (Z0 : n0 ≤ h0.size)  :
    MetN l Z x code maxLocals ret ws room_1 #[(.long q1), (.int p2)] h0 (Q0 Z q1 p2 h0 n0) := by
  refine met_n (plainFor_of_name pn_1) (fun m => ef_0 m q1 p2) ?_
  intro p e s m below meth c s₁ X0 hx hby hml hZ hown hnm hret hlk e0
  replace hown : s.vm.findClass "com/example/ringward/ringward/JumpPlacementBucketPinLaw" = some m.cls := hown
  replace hnm : meth.name = "law" := hnm
  replace hret : meth.sig.returnType = (some .boolean) := hret
  have N0 := Fr.nil n0
  have K0 : Keep h0 h0 [] := Keep.refl _ _
  show Ok p e below _ _ s₁ (mkF m 0 #[.val (.long q1), .second, .val (.int p2), .unset, .unset, .unset, .unset, .unset, .unset, .unset, .unset, .unset, .unset, .unset, .unset, .unset, .unset, .unset, .unset, .unset, .unset] [])
  obtain ⟨nn, enn, hn1, hn2⟩ : ∃ nn : Int32, ((1 : Int32) + ((p2 &&& (2147483647 : Int32)) % (2147483646 : Int32))) = nn ∧ 1 ≤ nn.toInt ∧ nn.toInt ≤ 2147483646 := ⟨_, rfl, (n_in p2).1, (n_in p2).2⟩
  obtain ⟨fz, hfz⟩ : ∃ fz : Nat, 2147483647 ≤ (fz : Int) := ⟨2147483647, by decide⟩
  have e1 : ((1 : Int32)).toInt = 1 := rfl
  have hna := Jvm.Kit.i32_add (p := nn) (q := 1) (by rw [e1]; omega) (by rw [e1]; omega)
  rw [e1] at hna
  obtain ⟨y1, hy1e⟩ : ∃ y : Int64, yv (nx q1) = y := ⟨_, rfl⟩
  obtain ⟨y2, hy2e⟩ : ∃ y : Int64, yv (nx (nx q1)) = y := ⟨_, rfl⟩
  have hy1 := yv_bounds (nx q1)
  have hy2 := yv_bounds (nx (nx q1))
  have hyn1 := yv_ne (nx q1)
  have hyn2 := yv_ne (nx (nx q1))
  rw [hy1e] at hy1 hyn1
  rw [hy2e] at hy2 hyn2
  have hn64 : nn.toInt64.toInt = nn.toInt := Int32.toInt_toInt64 nn
  have e1l : ((1 : Int64)).toInt = 1 := rfl
  have hna64 := Jvm.Kit.i64_add (x := nn.toInt64) (y := 1) (by rw [e1l]; omega) (by rw [e1l]; omega)
  rw [e1l] at hna64
  have hd1 := ediv_bounds hy1.1
  show Ok p e below _ _ s₁ (mkF m 0 #[.val (.long q1), .second, .val (.int p2), .unset, .unset, .unset, .unset, .unset, .unset, .unset, .unset, .unset, .unset, .unset, .unset, .unset, .unset, .unset, .unset, .unset, .unset] [])
  refine Ok.iconst (z := (1 : Int32)) (pc' := 1) X0 hx (hb hby at_0) rfl rfl ?_
  refine Ok.iloadN (pc' := 2) X0 hx (hb hby at_1) rfl rfl ?_
  refine Ok.ldcI (pc' := 4) (v := (2147483647 : Int32)) X0 hx hZ hown (hw _ (List.mem_of_getElem? (i := 0) rfl)) (hb hby at_2) rfl ?_
  refine Ok.iand (pc' := 5) X0 hx (hb hby at_4) rfl ?_
  refine Ok.ldcI (pc' := 7) (v := (2147483646 : Int32)) X0 hx hZ hown (hw _ (List.mem_of_getElem? (i := 1) rfl)) (hb hby at_5) rfl ?_
  refine Ok.irem (pc' := 8) X0 hx (hb hby at_7) rfl (by decide) ?_
  refine Ok.iadd (pc' := 9) X0 hx (hb hby at_8) rfl ?_
  rw [enn]
  refine Ok.istoreN (l' := #[.val (.long q1), .second, .val (.int p2), .val (.int nn), .unset, .unset, .unset, .unset, .unset, .unset, .unset, .unset, .unset, .unset, .unset, .unset, .unset, .unset, .unset, .unset, .unset]) (pc' := 10) X0 hx (hb hby at_9) rfl rfl ?_
  refine Ok.lloadN (pc' := 11) X0 hx (hb hby at_10) rfl rfl ?_
  refine Ok.iloadN (pc' := 12) X0 hx (hb hby at_11) rfl rfl ?_
  refine Ok.callS (pc' := 15) (W := 0)  (argsL := [(.long q1), (.int nn)]) (rest := []) X0 hx hZ hown (rm1 l Z a0 hw q1 nn (fz + 3) h0 n0 Z0 hn1 (by omega)) (hw _ (List.mem_of_getElem? (i := 2) rfl)) (hw _ (List.mem_of_getElem? (i := 3) rfl)) (hw _ (List.mem_of_getElem? (i := 4) rfl)) (hw _ (List.mem_of_getElem? (i := 5) rfl)) (by decide) e0 (by decide) (by decide) (by decide) (by decide) (lenOf pd_0 rfl) rfl rfl (Nat.le_of_eq rfl) (by rw [hml]; rfl) (hb hby at_12) rfl ?_
  intro v1 T1 L1 X1 hQ1
  obtain ⟨r1, rfl, hr1, Nq1, eq1⟩ := hQ1
  have N1 := Fr.app N0 Nq1
  show Ok p e below _ _ T1 (mkF m 15 #[.val (.long q1), .second, .val (.int p2), .val (.int nn), .unset, .unset, .unset, .unset, .unset, .unset, .unset, .unset, .unset, .unset, .unset, .unset, .unset, .unset, .unset, .unset, .unset] [(.int r1)])
  refine Ok.istore (l' := #[.val (.long q1), .second, .val (.int p2), .val (.int nn), .val (.int r1), .unset, .unset, .unset, .unset, .unset, .unset, .unset, .unset, .unset, .unset, .unset, .unset, .unset, .unset, .unset, .unset]) (pc' := 17) X1 hx (hb hby at_15) rfl rfl ?_
  refine Ok.lloadN (pc' := 18) X1 hx (hb hby at_17) rfl rfl ?_
  refine Ok.iloadN (pc' := 19) X1 hx (hb hby at_18) rfl rfl ?_
  refine Ok.iconst (z := (1 : Int32)) (pc' := 20) X1 hx (hb hby at_19) rfl rfl ?_
  refine Ok.iadd (pc' := 21) X1 hx (hb hby at_20) rfl ?_
  refine Ok.callS (pc' := 24) (W := 0)  (argsL := [(.long q1), (.int (nn + (1 : Int32)))]) (rest := []) X1 hx hZ hown (rm1 l Z a0 hw q1 (nn + (1 : Int32)) (fz + 3) h0 n0 Z0 (by omega) (by omega)) (hw _ (List.mem_of_getElem? (i := 2) rfl)) (hw _ (List.mem_of_getElem? (i := 3) rfl)) (hw _ (List.mem_of_getElem? (i := 4) rfl)) (hw _ (List.mem_of_getElem? (i := 5) rfl)) (by decide) eq1 (by decide) (by decide) (by decide) (by decide) (lenOf pd_0 rfl) rfl rfl (Nat.le_of_eq rfl) (by rw [hml]; rfl) (hb hby at_21) rfl ?_
  intro v2 T2 L2 X2 hQ2
  obtain ⟨r2, rfl, hr2, Nq2, eq2⟩ := hQ2
  have N2 := Fr.app N1 Nq2
  show Ok p e below _ _ T2 (mkF m 24 #[.val (.long q1), .second, .val (.int p2), .val (.int nn), .val (.int r1), .unset, .unset, .unset, .unset, .unset, .unset, .unset, .unset, .unset, .unset, .unset, .unset, .unset, .unset, .unset, .unset] [(.int r2)])
  refine Ok.istore (l' := #[.val (.long q1), .second, .val (.int p2), .val (.int nn), .val (.int r1), .val (.int r2), .unset, .unset, .unset, .unset, .unset, .unset, .unset, .unset, .unset, .unset, .unset, .unset, .unset, .unset, .unset]) (pc' := 26) X2 hx (hb hby at_24) rfl rfl ?_
  rw [hna] at hr2
  have hcons := lp_next (fz + 3) q1 0 0 nn.toInt (by omega)
  have hin1 := lp_in (f := fz + 3) (k := q1) hn1
  have hin2 := lp_in (f := fz + 3) (k := q1) (n := nn.toInt + 1) (by omega)
  have hag1 := lp_agrees (f := fz) (q := q1) hn1
  have hag2 := lp_agrees (f := fz) (q := q1) (n := nn.toInt + 1) (by omega)
  rw [← hr1, ← hr2] at hcons
  rw [← hr1] at hin1 hag1
  rw [← hr2] at hin2 hag2
  clear hr1 hr2
  rw [hy1e, hy2e] at hag1 hag2
  refine Ok.lloadN (pc' := 27) X2 hx (hb hby at_26) rfl rfl ?_
  refine Ok.ldcJ (pc' := 30) (v := (2862933555777941757 : Int64)) X2 hx hZ hown (hw _ (List.mem_of_getElem? (i := 8) rfl)) (hb hby at_27) rfl ?_
  refine Ok.lmul (pc' := 31) X2 hx (hb hby at_30) rfl ?_
  refine Ok.lconst (z := (1 : Int64)) (pc' := 32) X2 hx (hb hby at_31) rfl rfl ?_
  refine Ok.ladd (pc' := 33) X2 hx (hb hby at_32) rfl ?_
  show Ok p e below _ _ T2 (mkF m 33 #[.val (.long q1), .second, .val (.int p2), .val (.int nn), .val (.int r1), .val (.int r2), .unset, .unset, .unset, .unset, .unset, .unset, .unset, .unset, .unset, .unset, .unset, .unset, .unset, .unset, .unset] [(.long (nx q1))])
  refine Ok.lstore (l' := #[.val (.long q1), .second, .val (.int p2), .val (.int nn), .val (.int r1), .val (.int r2), .val (.long (nx q1)), .second, .unset, .unset, .unset, .unset, .unset, .unset, .unset, .unset, .unset, .unset, .unset, .unset, .unset]) (pc' := 35) X2 hx (hb hby at_33) rfl rfl ?_
  refine Ok.lload (pc' := 37) X2 hx (hb hby at_35) rfl rfl ?_
  refine Ok.bipush (z := (33 : Int32)) (pc' := 39) X2 hx (hb hby at_37) rfl rfl ?_
  refine Ok.lushr (pc' := 40) X2 hx (hb hby at_39) rfl ?_
  refine Ok.lconst (z := (1 : Int64)) (pc' := 41) X2 hx (hb hby at_40) rfl rfl ?_
  refine Ok.ladd (pc' := 42) X2 hx (hb hby at_41) rfl ?_
  show Ok p e below _ _ T2 (mkF m 42 #[.val (.long q1), .second, .val (.int p2), .val (.int nn), .val (.int r1), .val (.int r2), .val (.long (nx q1)), .second, .unset, .unset, .unset, .unset, .unset, .unset, .unset, .unset, .unset, .unset, .unset, .unset, .unset] [(.long (yv (nx q1)))])
  rw [hy1e]
  refine Ok.lstore (l' := #[.val (.long q1), .second, .val (.int p2), .val (.int nn), .val (.int r1), .val (.int r2), .val (.long (nx q1)), .second, .val (.long y1), .second, .unset, .unset, .unset, .unset, .unset, .unset, .unset, .unset, .unset, .unset, .unset]) (pc' := 44) X2 hx (hb hby at_42) rfl rfl ?_
  refine Ok.lload (pc' := 46) X2 hx (hb hby at_44) rfl rfl ?_
  refine Ok.ldcJ (pc' := 49) (v := (2862933555777941757 : Int64)) X2 hx hZ hown (hw _ (List.mem_of_getElem? (i := 8) rfl)) (hb hby at_46) rfl ?_
  refine Ok.lmul (pc' := 50) X2 hx (hb hby at_49) rfl ?_
  refine Ok.lconst (z := (1 : Int64)) (pc' := 51) X2 hx (hb hby at_50) rfl rfl ?_
  refine Ok.ladd (pc' := 52) X2 hx (hb hby at_51) rfl ?_
  show Ok p e below _ _ T2 (mkF m 52 #[.val (.long q1), .second, .val (.int p2), .val (.int nn), .val (.int r1), .val (.int r2), .val (.long (nx q1)), .second, .val (.long y1), .second, .unset, .unset, .unset, .unset, .unset, .unset, .unset, .unset, .unset, .unset, .unset] [(.long (nx (nx q1)))])
  refine Ok.lstore (l' := #[.val (.long q1), .second, .val (.int p2), .val (.int nn), .val (.int r1), .val (.int r2), .val (.long (nx q1)), .second, .val (.long y1), .second, .val (.long (nx (nx q1))), .second, .unset, .unset, .unset, .unset, .unset, .unset, .unset, .unset, .unset]) (pc' := 54) X2 hx (hb hby at_52) rfl rfl ?_
  refine Ok.lload (pc' := 56) X2 hx (hb hby at_54) rfl rfl ?_
  refine Ok.bipush (z := (33 : Int32)) (pc' := 58) X2 hx (hb hby at_56) rfl rfl ?_
  refine Ok.lushr (pc' := 59) X2 hx (hb hby at_58) rfl ?_
  refine Ok.lconst (z := (1 : Int64)) (pc' := 60) X2 hx (hb hby at_59) rfl rfl ?_
  refine Ok.ladd (pc' := 61) X2 hx (hb hby at_60) rfl ?_
  show Ok p e below _ _ T2 (mkF m 61 #[.val (.long q1), .second, .val (.int p2), .val (.int nn), .val (.int r1), .val (.int r2), .val (.long (nx q1)), .second, .val (.long y1), .second, .val (.long (nx (nx q1))), .second, .unset, .unset, .unset, .unset, .unset, .unset, .unset, .unset, .unset] [(.long (yv (nx (nx q1))))])
  rw [hy2e]
  refine Ok.lstore (l' := #[.val (.long q1), .second, .val (.int p2), .val (.int nn), .val (.int r1), .val (.int r2), .val (.long (nx q1)), .second, .val (.long y1), .second, .val (.long (nx (nx q1))), .second, .val (.long y2), .second, .unset, .unset, .unset, .unset, .unset, .unset, .unset]) (pc' := 63) X2 hx (hb hby at_61) rfl rfl ?_
  obtain ⟨B1, hB1⟩ : ∃ z : Int, 2147483648 / y1.toInt = z := ⟨_, rfl⟩
  rw [hB1] at hag1 hag2 hd1
  obtain ⟨B2, hB2⟩ : ∃ z : Int, (B1 + 1) * 2147483648 / y2.toInt = z := ⟨_, rfl⟩
  rw [hB2] at hag1 hag2
  have k77 : ∀ (st1 : Int32) (hst1 : st1.toInt = 1 ∧ y1.toInt = 2147483648 ∨ st1.toInt = 0 ∧ ¬ y1.toInt = 2147483648), Ok p e below (NE s room_1.cells room_1.slots) (Q0 Z q1 p2 h0 n0) T2 (mkF m 77 #[.val (.long q1), .second, .val (.int p2), .val (.int nn), .val (.int r1), .val (.int r2), .val (.long (nx q1)), .second, .val (.long y1), .second, .val (.long (nx (nx q1))), .second, .val (.long y2), .second, .unset, .unset, .unset, .unset, .unset, .unset, .unset] [(.int st1)]) := by
    intro st1 hst1
    refine Ok.istore (l' := #[.val (.long q1), .second, .val (.int p2), .val (.int nn), .val (.int r1), .val (.int r2), .val (.long (nx q1)), .second, .val (.long y1), .second, .val (.long (nx (nx q1))), .second, .val (.long y2), .second, .val (.int st1), .unset, .unset, .unset, .unset, .unset, .unset]) (pc' := 79) X2 hx (hb hby at_77) rfl rfl ?_
    have k93 : ∀ (st2 : Int32) (hst2 : st2.toInt = 1 ∧ y2.toInt = 2147483648 ∨ st2.toInt = 0 ∧ ¬ y2.toInt = 2147483648), Ok p e below (NE s room_1.cells room_1.slots) (Q0 Z q1 p2 h0 n0) T2 (mkF m 93 #[.val (.long q1), .second, .val (.int p2), .val (.int nn), .val (.int r1), .val (.int r2), .val (.long (nx q1)), .second, .val (.long y1), .second, .val (.long (nx (nx q1))), .second, .val (.long y2), .second, .val (.int st1), .unset, .unset, .unset, .unset, .unset, .unset] [(.int st2)]) := by
      intro st2 hst2
      refine Ok.istore (l' := #[.val (.long q1), .second, .val (.int p2), .val (.int nn), .val (.int r1), .val (.int r2), .val (.long (nx q1)), .second, .val (.long y1), .second, .val (.long (nx (nx q1))), .second, .val (.long y2), .second, .val (.int st1), .val (.int st2), .unset, .unset, .unset, .unset, .unset]) (pc' := 95) X2 hx (hb hby at_93) rfl rfl ?_
      have k110 : ∀ (b1 : Int64) (hb1 : st1.toInt = 1 ∧ b1.toInt = 0 ∨ st1.toInt = 0 ∧ b1.toInt = B1), Ok p e below (NE s room_1.cells room_1.slots) (Q0 Z q1 p2 h0 n0) T2 (mkF m 110 #[.val (.long q1), .second, .val (.int p2), .val (.int nn), .val (.int r1), .val (.int r2), .val (.long (nx q1)), .second, .val (.long y1), .second, .val (.long (nx (nx q1))), .second, .val (.long y2), .second, .val (.int st1), .val (.int st2), .unset, .unset, .unset, .unset, .unset] [(.long b1)]) := by
        intro b1 hb1
        refine Ok.lstore (l' := #[.val (.long q1), .second, .val (.int p2), .val (.int nn), .val (.int r1), .val (.int r2), .val (.long (nx q1)), .second, .val (.long y1), .second, .val (.long (nx (nx q1))), .second, .val (.long y2), .second, .val (.int st1), .val (.int st2), .val (.long b1), .second, .unset, .unset, .unset]) (pc' := 112) X2 hx (hb hby at_110) rfl rfl ?_
        have k136 : ∀ (b2 : Int64) (hb2 : (st1.toInt = 1 ∨ st2.toInt = 1) ∧ b2.toInt = 0 ∨ ¬ (st1.toInt = 1 ∨ st2.toInt = 1) ∧ b2.toInt = B2), Ok p e below (NE s room_1.cells room_1.slots) (Q0 Z q1 p2 h0 n0) T2 (mkF m 136 #[.val (.long q1), .second, .val (.int p2), .val (.int nn), .val (.int r1), .val (.int r2), .val (.long (nx q1)), .second, .val (.long y1), .second, .val (.long (nx (nx q1))), .second, .val (.long y2), .second, .val (.int st1), .val (.int st2), .val (.long b1), .second, .unset, .unset, .unset] [(.long b2)]) := by
          intro b2 hb2
          refine Ok.lstore (l' := #[.val (.long q1), .second, .val (.int p2), .val (.int nn), .val (.int r1), .val (.int r2), .val (.long (nx q1)), .second, .val (.long y1), .second, .val (.long (nx (nx q1))), .second, .val (.long y2), .second, .val (.int st1), .val (.int st2), .val (.long b1), .second, .val (.long b2), .second, .unset]) (pc' := 138) X2 hx (hb hby at_136) rfl rfl ?_
          have k151 : Ok p e below (NE s room_1.cells room_1.slots) (Q0 Z q1 p2 h0 n0) T2 (mkF m 151 #[.val (.long q1), .second, .val (.int p2), .val (.int nn), .val (.int r1), .val (.int r2), .val (.long (nx q1)), .second, .val (.long y1), .second, .val (.long (nx (nx q1))), .second, .val (.long y2), .second, .val (.int st1), .val (.int st2), .val (.long b1), .second, .val (.long b2), .second, .unset] []) := by
            refine Ok.iconst (z := (1 : Int32)) (pc' := 152) X2 hx (hb hby at_151) rfl rfl ?_
            refine Ok.goto (pc' := 156) X2 hx (hb hby at_152) (by decide) (by decide) ?_
            refine Ok.istore (l' := #[.val (.long q1), .second, .val (.int p2), .val (.int nn), .val (.int r1), .val (.int r2), .val (.long (nx q1)), .second, .val (.long y1), .second, .val (.long (nx (nx q1))), .second, .val (.long y2), .second, .val (.int st1), .val (.int st2), .val (.long b1), .second, .val (.long b2), .second, .val (.int (1 : Int32))]) (pc' := 158) X2 hx (hb hby at_156) rfl rfl ?_
            refine Ok.iload (pc' := 160) X2 hx (hb hby at_158) rfl rfl ?_
            refine Ok.ifN (pc' := 163) X2 hx (hb hby at_160) (bf (i0 .eq (1 : Int32) (ic_eq (1 : Int32) 0).1) (by decide)) rfl ?_
            refine Ok.iload (pc' := 165) X2 hx (hb hby at_163) rfl rfl ?_
            refine Ok.iloadN (pc' := 166) X2 hx (hb hby at_165) rfl rfl ?_
            refine Ok.i2l (pc' := 167) X2 hx (hb hby at_166) rfl ?_
            refine Ok.iload (pc' := 169) X2 hx (hb hby at_167) rfl rfl ?_
            refine Ok.lload (pc' := 171) X2 hx (hb hby at_169) rfl rfl ?_
            refine Ok.iload (pc' := 173) X2 hx (hb hby at_171) rfl rfl ?_
            refine Ok.lload (pc' := 175) X2 hx (hb hby at_173) rfl rfl ?_
            refine Ok.callS (pc' := 178) (W := 0)  (argsL := [(.int r1), (.long nn.toInt64), (.int st1), (.long b1), (.int st2), (.long b2)]) (rest := []) X2 hx hZ hown (rm2 l Z a0 hw r1 nn.toInt64 st1 b1 st2 b2 h0 n0 Z0 ) (hw _ (List.mem_of_getElem? (i := 10) rfl)) (hw _ (List.mem_of_getElem? (i := 11) rfl)) (hw _ (List.mem_of_getElem? (i := 12) rfl)) (hw _ (List.mem_of_getElem? (i := 13) rfl)) (by decide) eq2 (by decide) (by decide) (by decide) (by decide) (lenOf pd_1 rfl) rfl rfl (Nat.le_of_eq rfl) (by rw [hml]; rfl) (hb hby at_175) rfl ?_
            intro v3 T3 L3 X3 hQ3
            obtain ⟨b3, rfl, hb3, Nq3, eq3⟩ := hQ3
            have N3 := Fr.app N2 Nq3
            show Ok p e below _ _ T3 (mkF m 178 #[.val (.long q1), .second, .val (.int p2), .val (.int nn), .val (.int r1), .val (.int r2), .val (.long (nx q1)), .second, .val (.long y1), .second, .val (.long (nx (nx q1))), .second, .val (.long y2), .second, .val (.int st1), .val (.int st2), .val (.long b1), .second, .val (.long b2), .second, .val (.int (1 : Int32))] [(.int b3)])
            by_cases hc178 : b3.toInt = 0
            · refine Ok.ifY (pc' := 205) X3 hx (hb hby at_178) (bt (i0 .eq b3 (ic_eq b3 0).1) hc178) (by decide) (by decide) ?_
              exfalso; omega
            · refine Ok.ifN (pc' := 181) X3 hx (hb hby at_178) (bf (i0 .eq b3 (ic_eq b3 0).1) hc178) rfl ?_
              refine Ok.iload (pc' := 183) X3 hx (hb hby at_181) rfl rfl ?_
              refine Ok.iloadN (pc' := 184) X3 hx (hb hby at_183) rfl rfl ?_
              refine Ok.i2l (pc' := 185) X3 hx (hb hby at_184) rfl ?_
              refine Ok.lconst (z := (1 : Int64)) (pc' := 186) X3 hx (hb hby at_185) rfl rfl ?_
              refine Ok.ladd (pc' := 187) X3 hx (hb hby at_186) rfl ?_
              refine Ok.iload (pc' := 189) X3 hx (hb hby at_187) rfl rfl ?_
              refine Ok.lload (pc' := 191) X3 hx (hb hby at_189) rfl rfl ?_
              refine Ok.iload (pc' := 193) X3 hx (hb hby at_191) rfl rfl ?_
              refine Ok.lload (pc' := 195) X3 hx (hb hby at_193) rfl rfl ?_
              refine Ok.callS (pc' := 198) (W := 0)  (argsL := [(.int r2), (.long (nn.toInt64 + (1 : Int64))), (.int st1), (.long b1), (.int st2), (.long b2)]) (rest := []) X3 hx hZ hown (rm2 l Z a0 hw r2 (nn.toInt64 + (1 : Int64)) st1 b1 st2 b2 h0 n0 Z0 ) (hw _ (List.mem_of_getElem? (i := 10) rfl)) (hw _ (List.mem_of_getElem? (i := 11) rfl)) (hw _ (List.mem_of_getElem? (i := 12) rfl)) (hw _ (List.mem_of_getElem? (i := 13) rfl)) (by decide) eq3 (by decide) (by decide) (by decide) (by decide) (lenOf pd_1 rfl) rfl rfl (Nat.le_of_eq rfl) (by rw [hml]; rfl) (hb hby at_195) rfl ?_
              intro v4 T4 L4 X4 hQ4
              obtain ⟨b4, rfl, hb4, Nq4, eq4⟩ := hQ4
              have N4 := Fr.app N3 Nq4
              show Ok p e below _ _ T4 (mkF m 198 #[.val (.long q1), .second, .val (.int p2), .val (.int nn), .val (.int r1), .val (.int r2), .val (.long (nx q1)), .second, .val (.long y1), .second, .val (.long (nx (nx q1))), .second, .val (.long y2), .second, .val (.int st1), .val (.int st2), .val (.long b1), .second, .val (.long b2), .second, .val (.int (1 : Int32))] [(.int b4)])
              by_cases hc198 : b4.toInt = 0
              · refine Ok.ifY (pc' := 205) X4 hx (hb hby at_198) (bt (i0 .eq b4 (ic_eq b4 0).1) hc198) (by decide) (by decide) ?_
                exfalso; omega
              · refine Ok.ifN (pc' := 201) X4 hx (hb hby at_198) (bf (i0 .eq b4 (ic_eq b4 0).1) hc198) rfl ?_
                refine Ok.iconst (z := (1 : Int32)) (pc' := 202) X4 hx (hb hby at_201) rfl rfl ?_
                refine Ok.goto (pc' := 206) X4 hx (hb hby at_202) (by decide) (by decide) ?_
                refine Ok.retI X4 hx hret hlk (Or.inr (Or.inl rfl)) rfl (hb hby at_206) (by decide) (by decide) ?_
                show Q0 Z q1 p2 h0 n0 _ T4.heap _
                rw [eq4]
                exact ⟨rfl, N4⟩
          refine Ok.iload (pc' := 140) X2 hx (hb hby at_138) rfl rfl ?_
          refine Ok.iload (pc' := 142) X2 hx (hb hby at_140) rfl rfl ?_
          by_cases hc142 : r2.toInt = r1.toInt
          · refine Ok.icY (pc' := 151) X2 hx (hb hby at_142) (bt (ic_eq r2 r1).1 hc142) (by decide) (by decide) ?_
            exact k151 
          · refine Ok.icN (pc' := 145) X2 hx (hb hby at_142) (bf (ic_eq r2 r1).1 hc142) rfl ?_
            refine Ok.iload (pc' := 147) X2 hx (hb hby at_145) rfl rfl ?_
            refine Ok.iloadN (pc' := 148) X2 hx (hb hby at_147) rfl rfl ?_
            by_cases hc148 : ¬ r2.toInt = nn.toInt
            · refine Ok.icY (pc' := 155) X2 hx (hb hby at_148) (bt (ic_eq r2 nn).2.1 hc148) (by decide) (by decide) ?_
              exfalso; omega
            · refine Ok.icN (pc' := 151) X2 hx (hb hby at_148) (bf (ic_eq r2 nn).2.1 hc148) rfl ?_
              exact k151 
        refine Ok.iload (pc' := 114) X2 hx (hb hby at_112) rfl rfl ?_
        by_cases hc114 : ¬ st1.toInt = 0
        · refine Ok.ifY (pc' := 122) X2 hx (hb hby at_114) (bt (i0 .ne st1 (ic_eq st1 0).2.1) hc114) (by decide) (by decide) ?_
          refine Ok.lconst (z := (0 : Int64)) (pc' := 123) X2 hx (hb hby at_122) rfl rfl ?_
          refine Ok.goto (pc' := 136) X2 hx (hb hby at_123) (by decide) (by decide) ?_
          exact k136 (0 : Int64) (by rw [show ((0 : Int64)).toInt = 0 from rfl]; omega)
        · refine Ok.ifN (pc' := 117) X2 hx (hb hby at_114) (bf (i0 .ne st1 (ic_eq st1 0).2.1) hc114) rfl ?_
          refine Ok.iload (pc' := 119) X2 hx (hb hby at_117) rfl rfl ?_
          by_cases hc119 : st2.toInt = 0
          · refine Ok.ifY (pc' := 126) X2 hx (hb hby at_119) (bt (i0 .eq st2 (ic_eq st2 0).1) hc119) (by decide) (by decide) ?_
            refine Ok.lload (pc' := 128) X2 hx (hb hby at_126) rfl rfl ?_
            refine Ok.lconst (z := (1 : Int64)) (pc' := 129) X2 hx (hb hby at_128) rfl rfl ?_
            refine Ok.ladd (pc' := 130) X2 hx (hb hby at_129) rfl ?_
            refine Ok.bipush (z := (31 : Int32)) (pc' := 132) X2 hx (hb hby at_130) rfl rfl ?_
            refine Ok.lshl (pc' := 133) X2 hx (hb hby at_132) rfl ?_
            refine Ok.lload (pc' := 135) X2 hx (hb hby at_133) rfl rfl ?_
            refine Ok.ldiv (pc' := 136) X2 hx (hb hby at_135) rfl hyn2 ?_
            exact k136 _ (by have hjn := jn_toInt (j := b1) (nx (nx q1)) (by omega) (by omega); have hjn' : (((b1 + (1 : Int64)) <<< ((31 : Int32) &&& 0x3f).toInt64) / (yv (nx (nx q1)))).toInt = (b1.toInt + 1) * 2147483648 / (yv (nx (nx q1))).toInt := hjn; clear hjn; rw [hy2e, show b1.toInt = B1 from by omega, hB2] at hjn'; omega)
          · refine Ok.ifN (pc' := 122) X2 hx (hb hby at_119) (bf (i0 .eq st2 (ic_eq st2 0).1) hc119) rfl ?_
            refine Ok.lconst (z := (0 : Int64)) (pc' := 123) X2 hx (hb hby at_122) rfl rfl ?_
            refine Ok.goto (pc' := 136) X2 hx (hb hby at_123) (by decide) (by decide) ?_
            exact k136 (0 : Int64) (by rw [show ((0 : Int64)).toInt = 0 from rfl]; omega)
      refine Ok.iload (pc' := 97) X2 hx (hb hby at_95) rfl rfl ?_
      by_cases hc97 : st1.toInt = 0
      · refine Ok.ifY (pc' := 104) X2 hx (hb hby at_97) (bt (i0 .eq st1 (ic_eq st1 0).1) hc97) (by decide) (by decide) ?_
        refine Ok.ldcJ (pc' := 107) (v := (2147483648 : Int64)) X2 hx hZ hown (hw _ (List.mem_of_getElem? (i := 9) rfl)) (hb hby at_104) rfl ?_
        refine Ok.lload (pc' := 109) X2 hx (hb hby at_107) rfl rfl ?_
        refine Ok.ldiv (pc' := 110) X2 hx (hb hby at_109) rfl hyn1 ?_
        exact k110 _ (by rw [one_shift _ hy1.1, hB1]; omega)
      · refine Ok.ifN (pc' := 100) X2 hx (hb hby at_97) (bf (i0 .eq st1 (ic_eq st1 0).1) hc97) rfl ?_
        refine Ok.lconst (z := (0 : Int64)) (pc' := 101) X2 hx (hb hby at_100) rfl rfl ?_
        refine Ok.goto (pc' := 110) X2 hx (hb hby at_101) (by decide) (by decide) ?_
        exact k110 (0 : Int64) (by rw [show ((0 : Int64)).toInt = 0 from rfl]; omega)
    refine Ok.lload (pc' := 81) X2 hx (hb hby at_79) rfl rfl ?_
    refine Ok.ldcJ (pc' := 84) (v := (2147483648 : Int64)) X2 hx hZ hown (hw _ (List.mem_of_getElem? (i := 9) rfl)) (hb hby at_81) rfl ?_
    refine Ok.lcmp (pc' := 85) X2 hx (hb hby at_84) rfl ?_
    by_cases hc85 : ¬ y2.toInt = 2147483648
    · refine Ok.ifY (pc' := 92) X2 hx (hb hby at_85) (bt (lc_all y2 (2147483648 : Int64)).2.1 hc85) (by decide) (by decide) ?_
      refine Ok.iconst (z := (0 : Int32)) (pc' := 93) X2 hx (hb hby at_92) rfl rfl ?_
      exact k93 _ (by rw [show ((0 : Int32)).toInt = 0 from rfl]; omega)
    · refine Ok.ifN (pc' := 88) X2 hx (hb hby at_85) (bf (lc_all y2 (2147483648 : Int64)).2.1 hc85) rfl ?_
      refine Ok.iconst (z := (1 : Int32)) (pc' := 89) X2 hx (hb hby at_88) rfl rfl ?_
      refine Ok.goto (pc' := 93) X2 hx (hb hby at_89) (by decide) (by decide) ?_
      exact k93 _ (by rw [show ((1 : Int32)).toInt = 1 from rfl]; omega)
  refine Ok.lload (pc' := 65) X2 hx (hb hby at_63) rfl rfl ?_
  refine Ok.ldcJ (pc' := 68) (v := (2147483648 : Int64)) X2 hx hZ hown (hw _ (List.mem_of_getElem? (i := 9) rfl)) (hb hby at_65) rfl ?_
  refine Ok.lcmp (pc' := 69) X2 hx (hb hby at_68) rfl ?_
  by_cases hc69 : ¬ y1.toInt = 2147483648
  · refine Ok.ifY (pc' := 76) X2 hx (hb hby at_69) (bt (lc_all y1 (2147483648 : Int64)).2.1 hc69) (by decide) (by decide) ?_
    refine Ok.iconst (z := (0 : Int32)) (pc' := 77) X2 hx (hb hby at_76) rfl rfl ?_
    exact k77 _ (by rw [show ((0 : Int32)).toInt = 0 from rfl]; omega)
  · refine Ok.ifN (pc' := 72) X2 hx (hb hby at_69) (bf (lc_all y1 (2147483648 : Int64)).2.1 hc69) rfl ?_
    refine Ok.iconst (z := (1 : Int32)) (pc' := 73) X2 hx (hb hby at_72) rfl rfl ?_
    refine Ok.goto (pc' := 77) X2 hx (hb hby at_73) (by decide) (by decide) ?_
    exact k77 _ (by rw [show ((1 : Int32)).toInt = 1 from rfl]; omega)
set_option maxRecDepth 65536 in
set_option maxHeartbeats 40000000 in
theorem comes_1 {Post : Tables → Env → Array Value → State → Outcome → State → Prop} (hpost : ∀ tb e args s v u, (limb_1_1.after args s (.returned v) u = true ∧ limb_1_2.after args s (.returned v) u = true ∧ True) → FrameEnd s (.returned v) u (Jvm.fieldLocs frame_1_writes args s ++ Jvm.arrayLocs frame_1_arrays args s ++ Jvm.staticLocs frame_1_statics s) 0 0 → Post tb e args s (.returned v) u) :
    ArmFor flags0 classFile x code maxLocals ret World_1 tables_1 room_1 Calls_1 rest_1 Pre_1 Post := by
  intro l hfl _ _ p e ha hc hk s m args below hf hA hF happ hP
  obtain ⟨hcalls, hrest, hpre⟩ := hP
  obtain ⟨-, -, -, hnamed, -, -, -, hat⟩ := (Spec.applies_iff hf).mp happ
  obtain ⟨hg, hn⟩ := and_e (Cond.before_iff.mp (show (Jvm.Cond.and given_1 narrow_1).before args s = true from hpre))
  obtain ⟨hcount, hg0⟩ := and_e hg
  obtain ⟨hk0, hg1⟩ := and_e hg0
  have hk1 := hg1
  obtain ⟨w0, w1, rfl⟩ : ∃ w0 w1 : Value, args = #[w0, w1] := by
    have hs : args.size = 2 := by simpa [Cond.value, given_1] using hcount
    obtain ⟨L⟩ := args
    match L, hs with
    | [w0, w1], _ => exact ⟨w0, w1, rfl⟩
  have hw := fun d (hd : d ∈ tables_1) => atoms_spec (ws := Jvm.Cond.code x code maxLocals ret :: tables_1) hat d (List.mem_cons_of_mem _ hd)
  obtain ⟨i0, ei0⟩ := isL_v hk0
  obtain rfl : w0 = (.long i0) := Option.some.inj ei0
  obtain ⟨i1, ei1⟩ := is_v hk1
  obtain rfl : w1 = (.int i1) := Option.some.inj ei1
  obtain ⟨n, o, h1, h2, h3, _, L, rfl, ⟨rfl, N⟩, hq⟩ := rm0 l s _ hw tables_1 i0 i1 s.heap s.heap.size (Nat.le_refl _)  p e ha hc hk s m _ below hf ((Spec.applies_iff_loose hf).mp happ).1 ⟨rfl, State.Warmed39.refl s, rfl⟩ trivial
  refine ⟨n, _, h1, h2, h3, hpost _ _ _ _ _ _ ⟨Cond.after_iff.mpr rfl, Cond.after_iff.mpr (eq_i res_at (Term.int_eval (1)) rfl), trivial⟩ ⟨hq.1, hq.2.1, (hq.2.2.sift fun y hy => Or.inr (N y hy)).mono (by decide) (by decide)⟩⟩
theorem main_1_1 : Claimed_1_1 := comes_1 fun _ _ _ _ _ _ h hF => ⟨h.1, hF⟩
theorem main_1_2 : Claimed_1_2 := comes_1 fun _ _ _ _ _ _ h hF => ⟨h.2.1, hF⟩
end Jvm.Pilot.@@N@@
namespace Jvm.Pilot.@@N@@
open Jvm Jvm.ClassFile Sem Op Lib Jvm.Free Jvm.Stand Jvm.Pilot.@@N@@.Jvm.D
/-! MADE BY PROGRAM (witnessworld.py) out of the Statement's table words and the real class files: 10 classes; the members and pool entries that the words name. The judged class is class 1, her method 1. -/
namespace start1
open Jvm.ClassFile
def u (s : String) : CpInfo := .utf8 (stringToUtf16 s)
/-- a pool by its gaps: so many unusable entries, then the entry; so many at the end -/
def gap : Nat → List CpInfo → List CpInfo
  | 0, r => r
  | n + 1, r => .unusable :: gap n r
def poolList (es : List (Nat × CpInfo)) (last : Nat) : List CpInfo := es.foldr (fun e r => gap e.1 (e.2 :: r)) (gap last [])
def pool (es : List (Nat × CpInfo)) (last : Nat) : Array CpInfo := ⟨poolList es last⟩
def fileOf (pool : Array CpInfo) (this : Nat) (attrs : Array Attribute := #[]) (ms : Array MethodInfo := #[]) (fl : Nat := 33) (sup : Nat := 0) (ifs : Array Nat := #[]) (fds : Array FieldInfo := #[]) : ClassFile where
  minorVersion := 0
  majorVersion := 65
  constantPool := pool
  accessFlags := fl
  thisClass := this
  superClass := sup
  interfaces := ifs
  fields := fds
  methods := ms
  attributes := attrs
def plain (name : String) (sup : Option ClassId) : Class where
  name := name
  kind := .ordinary
  loader := none
  accessFlags := 33
  super := sup
  interfaces := #[]
  cf := none
  fields := #[]
  methods := #[]
  instanceTypes := #[]
  staticTypes := #[]
  resolved := #[]
  callSites := []
  init := .initialized
  statics := none
  mirror := none

def pool0 : Array CpInfo := pool [(5, u "<init>"), (0, u "()V"), (1, .class_ 10), (1, u "java/lang/Object")] 113

def k0m0 : Method := { name := "<init>", desc := "()V", sig := { parameters := [], returnType := none }, accessFlags := 1, code := none }
/-- java/lang/Object -/
def k0 : Class := { plain "java/lang/Object" none with
  accessFlags := 33
  interfaces := #[]
  cf := some (fileOf pool0 8 #[] #[{ accessFlags := 1, nameIndex := 5, descriptorIndex := 6, attributes := #[] }] 33 0 #[] #[])
  fields := #[]
  methods := #[k0m0]
  instanceTypes := #[]
  staticTypes := #[]
  resolved := Array.replicate 124 none
  statics := none }

def pool1 : Array CpInfo := pool [(2, .class_ 4), (1, u "java/lang/Object"), (0, u "<init>"), (0, u "()V"), (0, .integer 2147483647), (0, .integer 2147483646), (0, .methodref 10 11), (0, .class_ 12), (0, .nameAndType 13 14), (0, u "com/example/ringward/ringward/JumpPlacement"), (0, u "bucket"), (0, u "(JI)I"), (0, .long 2862933555777941757), (1, .long 2147483648), (1, .methodref 20 21), (0, .class_ 22), (0, .nameAndType 23 24), (0, u "com/example/ringward/ringward/JumpPlacementBucketPinLaw"), (0, u "agrees"), (0, u "(IJZJZJ)Z"), (2, u "law"), (0, u "(JI)Z")] 3

def k1m0 : Method := { name := "<init>", desc := "()V", sig := { parameters := [], returnType := none }, accessFlags := 1, code := none }
def k1c1 : Code := { maxStack := 9, maxLocals := 21, code := code, exceptionTable := #[], attributes := #[] }
def k1m1 : Method := { name := "law", desc := "(JI)Z", sig := { parameters := [.long, .int], returnType := some .boolean }, accessFlags := 9, code := some k1c1 }
def k1c2 : Code := { maxStack := 4, maxLocals := 9, code := method_3_code, exceptionTable := #[], attributes := #[] }
def k1m2 : Method := { name := "agrees", desc := "(IJZJZJ)Z", sig := { parameters := [.int, .long, .boolean, .long, .boolean, .long], returnType := some .boolean }, accessFlags := 10, code := some k1c2 }
/-- com/example/ringward/ringward/JumpPlacementBucketPinLaw -/
def k1 : Class := { plain "com/example/ringward/ringward/JumpPlacementBucketPinLaw" (some 0) with
  accessFlags := 49
  interfaces := #[]
  cf := some (fileOf pool1 20 #[] #[{ accessFlags := 1, nameIndex := 5, descriptorIndex := 6, attributes := #[] }, { accessFlags := 9, nameIndex := 27, descriptorIndex := 28, attributes := #[] }, { accessFlags := 10, nameIndex := 23, descriptorIndex := 24, attributes := #[] }] 49 2 #[] #[])
  fields := #[]
  methods := #[k1m0, k1m1, k1m2]
  instanceTypes := #[]
  staticTypes := #[]
  resolved := Array.replicate 32 none
  statics := none }

def pool2 : Array CpInfo := pool [(14, .class_ 16), (1, u "com/example/ringward/ringward/Placement"), (14, .class_ 32), (0, u "java/lang/Object")] 35

/-- com/example/ringward/ringward/Placement -/
def k2 : Class := { plain "com/example/ringward/ringward/Placement" (some 0) with
  accessFlags := 1536
  interfaces := #[]
  cf := some (fileOf pool2 14 #[] #[] 1536 31 #[] #[])
  fields := #[]
  methods := #[]
  instanceTypes := #[]
  staticTypes := #[]
  resolved := Array.replicate 68 none
  statics := none }

def pool3 : Array CpInfo := pool [(2, .class_ 4), (1, u "java/lang/Object"), (3, .class_ 10), (1, u "com/example/ringward/ringward/JumpPlacement"), (0, u "buckets"), (0, u "I"), (8, u "bucket"), (0, u "(JI)I"), (27, .class_ 52), (1, u "com/example/ringward/ringward/Placement"), (12, .long 2862933555777941757), (1, .long 2147483648), (1, u "MULTIPLIER"), (0, u "J"), (1, u "WRAP"), (0, u "NODES"), (0, u "Ljava/lang/String;")] 35

def k3c0 : Code := { maxStack := 4, maxLocals := 11, code := prog_4_method_8_code, exceptionTable := #[], attributes := #[] }
def k3m0 : Method := { name := "bucket", desc := "(JI)I", sig := { parameters := [.long, .int], returnType := some .int }, accessFlags := 8, code := some k3c0 }
/-- com/example/ringward/ringward/JumpPlacement -/
def k3 : Class := { plain "com/example/ringward/ringward/JumpPlacement" (some 0) with
  accessFlags := 48
  interfaces := #[2]
  cf := some (fileOf pool3 8 #[] #[{ accessFlags := 8, nameIndex := 21, descriptorIndex := 22, attributes := #[] }] 48 2 #[50] #[{ accessFlags := 26, nameIndex := 69, descriptorIndex := 70, attributes := #[] }, { accessFlags := 26, nameIndex := 72, descriptorIndex := 70, attributes := #[] }, { accessFlags := 26, nameIndex := 73, descriptorIndex := 74, attributes := #[] }, { accessFlags := 18, nameIndex := 11, descriptorIndex := 12, attributes := #[] }])
  fields := #[{ name := "MULTIPLIER", type := .long, accessFlags := 26, slot := 0, constantValue := 0 }, { name := "WRAP", type := .long, accessFlags := 26, slot := 1, constantValue := 0 }, { name := "NODES", type := (.object "java/lang/String"), accessFlags := 26, slot := 2, constantValue := 0 }, { name := "buckets", type := .int, accessFlags := 18, slot := 0, constantValue := 0 }]
  methods := #[k3m0]
  instanceTypes := #[.int]
  staticTypes := #[.long, .long, (.object "java/lang/String")]
  resolved := Array.replicate 110 none
  statics := none }

def pool4 : Array CpInfo := pool [(1, u "java/lang/Cloneable"), (0, .class_ 1), (0, u "java/lang/Object"), (0, .class_ 3)] 3

/-- java/lang/Cloneable -/
def k4 : Class := { plain "java/lang/Cloneable" (some 0) with
  accessFlags := 1537
  interfaces := #[]
  cf := some (fileOf pool4 2 #[] #[] 1537 4 #[] #[])
  fields := #[]
  methods := #[]
  instanceTypes := #[]
  staticTypes := #[]
  resolved := Array.replicate 8 none
  statics := none }

def pool5 : Array CpInfo := pool [(1, u "java/io/Serializable"), (0, .class_ 1), (0, u "java/lang/Object"), (0, .class_ 3)] 3

/-- java/io/Serializable -/
def k5 : Class := { plain "java/io/Serializable" (some 0) with
  accessFlags := 1537
  interfaces := #[]
  cf := some (fileOf pool5 2 #[] #[] 1537 4 #[] #[])
  fields := #[]
  methods := #[]
  instanceTypes := #[]
  staticTypes := #[]
  resolved := Array.replicate 8 none
  statics := none }

/-- the primitive byte -/
def k6 : Class := { plain "byte" none with kind := .primitive 'B', accessFlags := 0x411 }
/-- [B -/
def k7 : Class := { plain "[B" (some 0) with kind := .array 6 .byte, interfaces := #[4, 5], accessFlags := 1041 }

/-- the primitive int -/
def k8 : Class := { plain "int" none with kind := .primitive 'I', accessFlags := 0x411 }
/-- [I -/
def k9 : Class := { plain "[I" (some 0) with kind := .array 8 .int, interfaces := #[4, 5], accessFlags := 1041 }

def heap : Heap := #[]
def classes : Array Class := #[k0, k1, k2, k3, k4, k5, k6, k7, k8, k9]
def interned : List (Array UInt16 × Addr) := []
def slotsUsed : Nat := 0
def theMethod : MethodId := ⟨1, 1⟩
def args0 : Array Value := #[.long 5, .int 6]
def aboutOver (below : List Frame) : State where
  vm := { classes := classes, interned := interned.toArray }
  heap := heap
  slotsUsed := slotsUsed
  threads := #[{ frames := .invoking theMethod args0 :: below }]
def below0 : List Frame := [.native { method := ⟨0, 0⟩, args := #[] }]
def about1 : State := aboutOver below0
def p0 : Program := .bare "" "" ""
def e0 : Env := launch0.env 0 0 0
theorem w_frames : about1.frames = Frame.invoking theMethod args0 :: below0 := rfl
set_option maxRecDepth 65536 in
theorem w_args : argsFit about1.vm theMethod args0 = true := by decide +kernel
set_option maxRecDepth 65536 in
theorem w_heap : heapFits about1 = true := by decide +kernel
set_option maxRecDepth 65536 in
theorem w_runnable : about1.curStatus? = some .runnable := by decide +kernel
set_option maxRecDepth 65536 in
theorem w_alone : about1.alone = true := by decide +kernel
set_option maxRecDepth 65536 in
theorem w_named : about1.methodNamed? x = some theMethod := by decide +kernel
set_option maxRecDepth 65536 in
theorem w_hears : about1.hears theMethod below0 = true := by decide +kernel
set_option maxRecDepth 65536 in
theorem w_ripe : about1.ripe theMethod args0 below0 = true := by decide +kernel
theorem w_running : about1.status = .running := rfl
set_option maxRecDepth 65536 in
theorem w_room : about1.hasRoom e0.platform room_1 = true :=
  launch0.hasRoom_least _ room_1 (by decide +kernel) (by decide +kernel) (by decide +kernel) (by decide +kernel) (by decide +kernel) (by decide +kernel)
theorem allAtoms_all (ts : List Jvm.Cond) (a : Array Jvm.Value) (st : Jvm.State) : (allAtoms ts).before a st = ts.all (fun c => c.before a st) := by
  induction ts with
  | nil => rfl
  | cons c t ih =>
    show (Jvm.Cond.and c (allAtoms t)).before a st = _
    rw [Jvm.Cond.before_and, ih, List.all_cons]
def words1 : List Jvm.Cond := Jvm.Cond.code x code maxLocals ret :: tables_1
/-- a 'code' word, met by the world's own term for the bytes: nothing is compared byte by byte -/
theorem code_word {y : MethodName} {bytes : ByteArray} {mx : Nat} {rt : Option FieldType} {a : Array Value} {s : State} {m : MethodId} {meth : Method} {c : Code} (h1 : s.methodNamed? y = some m) (h2 : s.vm.method? m = some meth) (h3 : meth.code = some c) (h4 : c.code = bytes)
    (h5 : (c.maxLocals == mx && c.exceptionTable.isEmpty && decide (c.maxStack ≤ mostOperands) && decide (meth.sig.returnType = rt) && !meth.locks && decide (parseMethodDescriptor y.desc = some meth.sig)) = true) : (Jvm.Cond.code y bytes mx rt).before a s = true := by
  simp only [Bool.and_eq_true, beq_iff_eq, Bool.not_eq_true', decide_eq_true_eq] at h5
  obtain ⟨⟨⟨⟨⟨g1, g2⟩, g3⟩, g4⟩, g5⟩, g6⟩ := h5
  simp [Cond.before, Cond.holds, Cond.value, h1, h2, h3, h4, g1, g2, g3, g4, g5, g6]
def isCode : Jvm.Cond → Bool
  | .code _ _ _ _ => true
  | _ => false
theorem all_split {L : List Jvm.Cond} {P : Jvm.Cond → Bool} (h1 : L.all (fun c => isCode c || P c) = true) (h2 : ∀ c ∈ L.filter isCode, P c = true) : L.all P = true := by
  refine List.all_eq_true.mpr fun c hc => ?_
  have h := List.all_eq_true.mp h1 c hc
  rcases Bool.eq_false_or_eq_true (isCode c) with hi | hi
  · exact h2 c (List.mem_filter.mpr ⟨hc, hi⟩)
  · simpa [hi] using h
set_option maxRecDepth 65536 in
theorem w_c0 : (Jvm.Cond.code x code maxLocals ret).before args0 about1 = true := code_word (m := ⟨1, 1⟩) (meth := k1m1) (c := k1c1) (by decide +kernel) rfl rfl rfl (by decide +kernel)
set_option maxRecDepth 65536 in
theorem w_c1 : (Jvm.Cond.code ({ cls := "com/example/ringward/ringward/JumpPlacement", name := "bucket", desc := "(JI)I" } : Jvm.MethodName) prog_4_method_8_code (11 : Nat) (Option.some Jvm.ClassFile.FieldType.int)).before args0 about1 = true := code_word (m := ⟨3, 0⟩) (meth := k3m0) (c := k3c0) (by decide +kernel) rfl rfl rfl (by decide +kernel)
set_option maxRecDepth 65536 in
theorem w_c2 : (Jvm.Cond.code ({ cls := "com/example/ringward/ringward/JumpPlacementBucketPinLaw", name := "agrees", desc := "(IJZJZJ)Z" } : Jvm.MethodName) method_3_code (9 : Nat) (Option.some Jvm.ClassFile.FieldType.boolean)).before args0 about1 = true := code_word (m := ⟨1, 2⟩) (meth := k1m2) (c := k1c2) (by decide +kernel) rfl rfl rfl (by decide +kernel)
def codes1 : List Jvm.Cond := [Jvm.Cond.code x code maxLocals ret, Jvm.Cond.code ({ cls := "com/example/ringward/ringward/JumpPlacement", name := "bucket", desc := "(JI)I" } : Jvm.MethodName) prog_4_method_8_code (11 : Nat) (Option.some Jvm.ClassFile.FieldType.int), Jvm.Cond.code ({ cls := "com/example/ringward/ringward/JumpPlacementBucketPinLaw", name := "agrees", desc := "(IJZJZJ)Z" } : Jvm.MethodName) method_3_code (9 : Nat) (Option.some Jvm.ClassFile.FieldType.boolean)]
set_option maxRecDepth 65536 in
theorem codes_eq : words1.filter isCode = codes1 := rfl
theorem w_codes : ∀ c ∈ words1.filter isCode, c.before args0 about1 = true := by
  rw [codes_eq]
  intro c hc
  simp only [codes1, List.mem_cons, List.not_mem_nil, or_false] at hc
  rcases hc with rfl | rfl | rfl
  · exact w_c0
  · exact w_c1
  · exact w_c2
set_option maxRecDepth 65536 in
theorem w_t1 : words1.all (fun c => isCode c || c.before args0 about1) = true := by decide +kernel
theorem w_tables : (allAtoms (Jvm.Cond.code x code maxLocals ret :: tables_1)).before args0 about1 = true := by
  rw [allAtoms_all]
  show words1.all (fun c => c.before args0 about1) = true
  refine all_split ?_ w_codes
  rw [w_t1]
set_option maxRecDepth 65536 in
theorem w_case : (Jvm.Cond.and given_1 narrow_1).before args0 about1 = true := by decide +kernel
theorem w_applies : (headSpec (Jvm.Cond.code x code maxLocals ret :: tables_1) room_1).applies x e0.platform about1 = true :=
  (Spec.applies_iff w_frames).mpr ⟨w_running, w_runnable, w_alone, w_named, w_hears, w_ripe, w_room, w_tables⟩
theorem atStart : AtStart classFile x code maxLocals ret World_1 tables_1 room_1 Calls_1 rest_1 Pre_1 launch0 p0 e0 about1 theMethod args0 below0 :=
  ⟨lists_1, trivial, launch0.admits_env _ _ _, launch0.least_env, fairChoices_fair.cas, fairChoices_fair.clock, w_frames, w_args, w_heap, w_applies, trivial, trivial, w_case⟩
end start1
theorem witness_1 : WitnessClaimed_1 := ⟨start1.p0, start1.e0, start1.about1, start1.theMethod, start1.args0, start1.below0, start1.atStart⟩
end Jvm.Pilot.@@N@@
