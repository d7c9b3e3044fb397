import JvmDerived
import JvmDerived.Pilot.@@N@@Statement
import JvmDerived.Pilot.@@N@@Code
set_option linter.unusedVariables false
set_option linter.unusedSimpArgs false
@@BLOCK:NumsL.lean.txt@@
namespace Jvm.Pilot.@@N@@
open Jvm Jvm.ClassFile Sem Op Lib Jvm.Free Jvm.Stand Jvm.LawKit Jvm.RoadKit Bundle Jvm.Pilot.@@N@@.Jvm.D
def Nq (a b : Addr) : Prop := a ≠ b
section Layer
variable {p : Program} {l : Launch} {e : Env} {R : Room} {s : State} {m : MethodId} {args : Array Value} {below : List Frame} {meth : Method} {c : Code} {T T' : State} {locs : List Loc} {cells slots : Nat} {Fe : Outcome → State → List Loc → Prop} {Q : Option Value → Heap → List Loc → Prop} {pc pc' : Nat} {Ls l' : Array Slot} {g g' : JFrame} {Z : State} {a0 : Array Value}
/-- from the frame g over T the run comes to a return of which Q and the frame's condition Fe hold -/
def Ok (p : Program) (e : Env) (below : List Frame) (Fe : Outcome → State → List Loc → Prop) (Q : Option Value → Heap → List Loc → Prop) (T : State) (g : JFrame) : Prop :=
  ∃ s₂ o, Steps p.tables e below (T.setTop g) s₂ ∧ s₂.status = .running ∧ Ended s₂ below o ∧ ∃ v L, o = .returned v ∧ Q v s₂.heap L ∧ Fe o s₂ L
def NE (s : State) (nc ns : Nat) (o : Outcome) (t : State) (L : List Loc) : Prop := FrameEnd s o t L nc ns
def WE (s : State) (nc ns : Nat) (o : Outcome) (t : State) (L : List Loc) : Prop := ReturnedEndW s o t L nc ns
theorem Ok.st (h : ∀ t, Steps p.tables e below (T'.setTop g') t → Steps p.tables e below (T.setTop g) t) (k : Ok p e below Fe Q T' g') : Ok p e below Fe Q T g := by
  obtain ⟨t, o, st, r⟩ := k
  exact ⟨t, o, h t st, r⟩
theorem Ok.tr (h : Steps p.tables e below (T.setTop g) (T'.setTop g')) (k : Ok p e below Fe Q T' g') : Ok p e below Fe Q T g := Ok.st (fun _ k' => h.trans k') k
theorem Ok.fr (h : g = g') (k : Ok p e below Fe Q T g') : Ok p e below Fe Q T g := h ▸ k
theorem Ok.iadd {x y : Int32} {rest : List Value} (X : Stand p l e R s m args below meth c T locs cells slots) (hx : p.tables.exec = Jvm.exec) (hd : decode c.code pc = .ok (.iadd, 1)) (hp : pc + 1 = pc')  (k : Ok p e below Fe Q T (mkF m pc' Ls (.int (x + y) :: rest))) : Ok p e below Fe Q T (mkF m pc Ls (.int y :: .int x :: rest)) := by
  subst hp
  exact Ok.st (fun t k => XS.iadd X.here hx rfl hd rfl k) k
theorem Ok.ladd {x y : Int64} {rest : List Value} (X : Stand p l e R s m args below meth c T locs cells slots) (hx : p.tables.exec = Jvm.exec) (hd : decode c.code pc = .ok (.ladd, 1)) (hp : pc + 1 = pc')  (k : Ok p e below Fe Q T (mkF m pc' Ls (.long (x + y) :: rest))) : Ok p e below Fe Q T (mkF m pc Ls (.long y :: .long x :: rest)) := by
  subst hp
  exact Ok.st (fun t k => XS.ladd X.here hx rfl hd rfl k) k
theorem Ok.isub {x y : Int32} {rest : List Value} (X : Stand p l e R s m args below meth c T locs cells slots) (hx : p.tables.exec = Jvm.exec) (hd : decode c.code pc = .ok (.isub, 1)) (hp : pc + 1 = pc')  (k : Ok p e below Fe Q T (mkF m pc' Ls (.int (x - y) :: rest))) : Ok p e below Fe Q T (mkF m pc Ls (.int y :: .int x :: rest)) := by
  subst hp
  exact Ok.st (fun t k => XS.isub X.here hx rfl hd rfl k) k
theorem Ok.lsub {x y : Int64} {rest : List Value} (X : Stand p l e R s m args below meth c T locs cells slots) (hx : p.tables.exec = Jvm.exec) (hd : decode c.code pc = .ok (.lsub, 1)) (hp : pc + 1 = pc')  (k : Ok p e below Fe Q T (mkF m pc' Ls (.long (x - y) :: rest))) : Ok p e below Fe Q T (mkF m pc Ls (.long y :: .long x :: rest)) := by
  subst hp
  exact Ok.st (fun t k => XS.lsub X.here hx rfl hd rfl k) k
theorem Ok.imul {x y : Int32} {rest : List Value} (X : Stand p l e R s m args below meth c T locs cells slots) (hx : p.tables.exec = Jvm.exec) (hd : decode c.code pc = .ok (.imul, 1)) (hp : pc + 1 = pc')  (k : Ok p e below Fe Q T (mkF m pc' Ls (.int (x * y) :: rest))) : Ok p e below Fe Q T (mkF m pc Ls (.int y :: .int x :: rest)) := by
  subst hp
  exact Ok.st (fun t k => XS.imul X.here hx rfl hd rfl k) k
theorem Ok.lmul {x y : Int64} {rest : List Value} (X : Stand p l e R s m args below meth c T locs cells slots) (hx : p.tables.exec = Jvm.exec) (hd : decode c.code pc = .ok (.lmul, 1)) (hp : pc + 1 = pc')  (k : Ok p e below Fe Q T (mkF m pc' Ls (.long (x * y) :: rest))) : Ok p e below Fe Q T (mkF m pc Ls (.long y :: .long x :: rest)) := by
  subst hp
  exact Ok.st (fun t k => XS.lmul X.here hx rfl hd rfl k) k
theorem Ok.iand {x y : Int32} {rest : List Value} (X : Stand p l e R s m args below meth c T locs cells slots) (hx : p.tables.exec = Jvm.exec) (hd : decode c.code pc = .ok (.iand, 1)) (hp : pc + 1 = pc')  (k : Ok p e below Fe Q T (mkF m pc' Ls (.int (x &&& y) :: rest))) : Ok p e below Fe Q T (mkF m pc Ls (.int y :: .int x :: rest)) := by
  subst hp
  exact Ok.st (fun t k => XS.iand X.here hx rfl hd rfl k) k
theorem Ok.land {x y : Int64} {rest : List Value} (X : Stand p l e R s m args below meth c T locs cells slots) (hx : p.tables.exec = Jvm.exec) (hd : decode c.code pc = .ok (.land, 1)) (hp : pc + 1 = pc')  (k : Ok p e below Fe Q T (mkF m pc' Ls (.long (x &&& y) :: rest))) : Ok p e below Fe Q T (mkF m pc Ls (.long y :: .long x :: rest)) := by
  subst hp
  exact Ok.st (fun t k => XS.land X.here hx rfl hd rfl k) k
theorem Ok.ior {x y : Int32} {rest : List Value} (X : Stand p l e R s m args below meth c T locs cells slots) (hx : p.tables.exec = Jvm.exec) (hd : decode c.code pc = .ok (.ior, 1)) (hp : pc + 1 = pc')  (k : Ok p e below Fe Q T (mkF m pc' Ls (.int (x ||| y) :: rest))) : Ok p e below Fe Q T (mkF m pc Ls (.int y :: .int x :: rest)) := by
  subst hp
  exact Ok.st (fun t k => XS.ior X.here hx rfl hd rfl k) k
theorem Ok.lor {x y : Int64} {rest : List Value} (X : Stand p l e R s m args below meth c T locs cells slots) (hx : p.tables.exec = Jvm.exec) (hd : decode c.code pc = .ok (.lor, 1)) (hp : pc + 1 = pc')  (k : Ok p e below Fe Q T (mkF m pc' Ls (.long (x ||| y) :: rest))) : Ok p e below Fe Q T (mkF m pc Ls (.long y :: .long x :: rest)) := by
  subst hp
  exact Ok.st (fun t k => XS.lor X.here hx rfl hd rfl k) k
theorem Ok.ixor {x y : Int32} {rest : List Value} (X : Stand p l e R s m args below meth c T locs cells slots) (hx : p.tables.exec = Jvm.exec) (hd : decode c.code pc = .ok (.ixor, 1)) (hp : pc + 1 = pc')  (k : Ok p e below Fe Q T (mkF m pc' Ls (.int (x ^^^ y) :: rest))) : Ok p e below Fe Q T (mkF m pc Ls (.int y :: .int x :: rest)) := by
  subst hp
  exact Ok.st (fun t k => XS.ixor X.here hx rfl hd rfl k) k
theorem Ok.lxor {x y : Int64} {rest : List Value} (X : Stand p l e R s m args below meth c T locs cells slots) (hx : p.tables.exec = Jvm.exec) (hd : decode c.code pc = .ok (.lxor, 1)) (hp : pc + 1 = pc')  (k : Ok p e below Fe Q T (mkF m pc' Ls (.long (x ^^^ y) :: rest))) : Ok p e below Fe Q T (mkF m pc Ls (.long y :: .long x :: rest)) := by
  subst hp
  exact Ok.st (fun t k => XS.lxor X.here hx rfl hd rfl k) k
theorem Ok.idiv {x y : Int32} {rest : List Value} (X : Stand p l e R s m args below meth c T locs cells slots) (hx : p.tables.exec = Jvm.exec) (hd : decode c.code pc = .ok (.idiv, 1)) (hp : pc + 1 = pc') (hy : y ≠ 0) (k : Ok p e below Fe Q T (mkF m pc' Ls (.int (x / y) :: rest))) : Ok p e below Fe Q T (mkF m pc Ls (.int y :: .int x :: rest)) := by
  subst hp
  exact Ok.st (fun t k => XS.idiv X.here hx rfl hd rfl hy k) k
theorem Ok.ldiv {x y : Int64} {rest : List Value} (X : Stand p l e R s m args below meth c T locs cells slots) (hx : p.tables.exec = Jvm.exec) (hd : decode c.code pc = .ok (.ldiv, 1)) (hp : pc + 1 = pc') (hy : y ≠ 0) (k : Ok p e below Fe Q T (mkF m pc' Ls (.long (x / y) :: rest))) : Ok p e below Fe Q T (mkF m pc Ls (.long y :: .long x :: rest)) := by
  subst hp
  exact Ok.st (fun t k => XS.ldiv X.here hx rfl hd rfl hy k) k
theorem Ok.irem {x y : Int32} {rest : List Value} (X : Stand p l e R s m args below meth c T locs cells slots) (hx : p.tables.exec = Jvm.exec) (hd : decode c.code pc = .ok (.irem, 1)) (hp : pc + 1 = pc') (hy : y ≠ 0) (k : Ok p e below Fe Q T (mkF m pc' Ls (.int (x % y) :: rest))) : Ok p e below Fe Q T (mkF m pc Ls (.int y :: .int x :: rest)) := by
  subst hp
  exact Ok.st (fun t k => iremM X hx rfl hd rfl hy k) k
theorem Ok.lrem {x y : Int64} {rest : List Value} (X : Stand p l e R s m args below meth c T locs cells slots) (hx : p.tables.exec = Jvm.exec) (hd : decode c.code pc = .ok (.lrem, 1)) (hp : pc + 1 = pc') (hy : y ≠ 0) (k : Ok p e below Fe Q T (mkF m pc' Ls (.long (x - (x / y) * y) :: rest))) : Ok p e below Fe Q T (mkF m pc Ls (.long y :: .long x :: rest)) := by
  subst hp
  exact Ok.st (fun t k => XS.lrem X.here hx rfl hd rfl hy k) k
theorem Ok.ishl {x y : Int32} {rest : List Value} (X : Stand p l e R s m args below meth c T locs cells slots) (hx : p.tables.exec = Jvm.exec) (hd : decode c.code pc = .ok (.ishl, 1)) (hp : pc + 1 = pc')  (k : Ok p e below Fe Q T (mkF m pc' Ls (.int (x <<< (y &&& 31)) :: rest))) : Ok p e below Fe Q T (mkF m pc Ls (.int y :: .int x :: rest)) := by
  subst hp
  exact Ok.st (fun t k => XS.ishl X.here hx rfl hd rfl k) k
theorem Ok.ishr {x y : Int32} {rest : List Value} (X : Stand p l e R s m args below meth c T locs cells slots) (hx : p.tables.exec = Jvm.exec) (hd : decode c.code pc = .ok (.ishr, 1)) (hp : pc + 1 = pc')  (k : Ok p e below Fe Q T (mkF m pc' Ls (.int (x >>> (y &&& 31)) :: rest))) : Ok p e below Fe Q T (mkF m pc Ls (.int y :: .int x :: rest)) := by
  subst hp
  exact Ok.st (fun t k => XS.ishr X.here hx rfl hd rfl k) k
theorem Ok.iushr {x y : Int32} {rest : List Value} (X : Stand p l e R s m args below meth c T locs cells slots) (hx : p.tables.exec = Jvm.exec) (hd : decode c.code pc = .ok (.iushr, 1)) (hp : pc + 1 = pc')  (k : Ok p e below Fe Q T (mkF m pc' Ls (.int ((x.toUInt32 >>> (y &&& 31).toUInt32).toInt32) :: rest))) : Ok p e below Fe Q T (mkF m pc Ls (.int y :: .int x :: rest)) := by
  subst hp
  exact Ok.st (fun t k => XS.iushr X.here hx rfl hd rfl k) k
theorem Ok.lshl {x : Int64} {y : Int32} {rest : List Value} (X : Stand p l e R s m args below meth c T locs cells slots) (hx : p.tables.exec = Jvm.exec) (hd : decode c.code pc = .ok (.lshl, 1)) (hp : pc + 1 = pc')  (k : Ok p e below Fe Q T (mkF m pc' Ls (.long (x <<< (y &&& 0x3f).toInt64) :: rest))) : Ok p e below Fe Q T (mkF m pc Ls (.int y :: .long x :: rest)) := by
  subst hp
  exact Ok.st (fun t k => XS.lshl X.here hx rfl hd rfl k) k
theorem Ok.lshr {x : Int64} {y : Int32} {rest : List Value} (X : Stand p l e R s m args below meth c T locs cells slots) (hx : p.tables.exec = Jvm.exec) (hd : decode c.code pc = .ok (.lshr, 1)) (hp : pc + 1 = pc')  (k : Ok p e below Fe Q T (mkF m pc' Ls (.long (x >>> (y &&& 0x3f).toInt64) :: rest))) : Ok p e below Fe Q T (mkF m pc Ls (.int y :: .long x :: rest)) := by
  subst hp
  exact Ok.st (fun t k => XS.lshr X.here hx rfl hd rfl k) k
theorem Ok.lushr {x : Int64} {y : Int32} {rest : List Value} (X : Stand p l e R s m args below meth c T locs cells slots) (hx : p.tables.exec = Jvm.exec) (hd : decode c.code pc = .ok (.lushr, 1)) (hp : pc + 1 = pc')  (k : Ok p e below Fe Q T (mkF m pc' Ls (.long ((x.toUInt64 >>> (y &&& 0x3f).toInt64.toUInt64).toInt64) :: rest))) : Ok p e below Fe Q T (mkF m pc Ls (.int y :: .long x :: rest)) := by
  subst hp
  exact Ok.st (fun t k => XS.lushr X.here hx rfl hd rfl k) k
theorem Ok.ineg {x : Int32} {rest : List Value} (X : Stand p l e R s m args below meth c T locs cells slots) (hx : p.tables.exec = Jvm.exec) (hd : decode c.code pc = .ok (.ineg, 1)) (hp : pc + 1 = pc')  (k : Ok p e below Fe Q T (mkF m pc' Ls (.int (-x) :: rest))) : Ok p e below Fe Q T (mkF m pc Ls (.int x :: rest)) := by
  subst hp
  exact Ok.st (fun t k => XS.ineg X.here hx rfl hd rfl k) k
theorem Ok.lneg {x : Int64} {rest : List Value} (X : Stand p l e R s m args below meth c T locs cells slots) (hx : p.tables.exec = Jvm.exec) (hd : decode c.code pc = .ok (.lneg, 1)) (hp : pc + 1 = pc')  (k : Ok p e below Fe Q T (mkF m pc' Ls (.long (-x) :: rest))) : Ok p e below Fe Q T (mkF m pc Ls (.long x :: rest)) := by
  subst hp
  exact Ok.st (fun t k => XS.lneg X.here hx rfl hd rfl k) k
theorem Ok.i2l {x : Int32} {rest : List Value} (X : Stand p l e R s m args below meth c T locs cells slots) (hx : p.tables.exec = Jvm.exec) (hd : decode c.code pc = .ok (.i2l, 1)) (hp : pc + 1 = pc')  (k : Ok p e below Fe Q T (mkF m pc' Ls (.long x.toInt64 :: rest))) : Ok p e below Fe Q T (mkF m pc Ls (.int x :: rest)) := by
  subst hp
  exact Ok.st (fun t k => XS.i2l X.here hx rfl hd rfl k) k
theorem Ok.l2i {x : Int64} {rest : List Value} (X : Stand p l e R s m args below meth c T locs cells slots) (hx : p.tables.exec = Jvm.exec) (hd : decode c.code pc = .ok (.l2i, 1)) (hp : pc + 1 = pc')  (k : Ok p e below Fe Q T (mkF m pc' Ls (.int x.toInt32 :: rest))) : Ok p e below Fe Q T (mkF m pc Ls (.long x :: rest)) := by
  subst hp
  exact Ok.st (fun t k => XS.l2i X.here hx rfl hd rfl k) k
theorem Ok.i2b {x : Int32} {rest : List Value} (X : Stand p l e R s m args below meth c T locs cells slots) (hx : p.tables.exec = Jvm.exec) (hd : decode c.code pc = .ok (.i2b, 1)) (hp : pc + 1 = pc')  (k : Ok p e below Fe Q T (mkF m pc' Ls (.int x.toInt8.toInt32 :: rest))) : Ok p e below Fe Q T (mkF m pc Ls (.int x :: rest)) := by
  subst hp
  exact Ok.st (fun t k => XS.i2b X.here hx rfl hd rfl k) k
theorem Ok.i2c {x : Int32} {rest : List Value} (X : Stand p l e R s m args below meth c T locs cells slots) (hx : p.tables.exec = Jvm.exec) (hd : decode c.code pc = .ok (.i2c, 1)) (hp : pc + 1 = pc')  (k : Ok p e below Fe Q T (mkF m pc' Ls (.int x.toUInt32.toUInt16.toUInt32.toInt32 :: rest))) : Ok p e below Fe Q T (mkF m pc Ls (.int x :: rest)) := by
  subst hp
  exact Ok.st (fun t k => XS.i2c X.here hx rfl hd rfl k) k
theorem Ok.i2s {x : Int32} {rest : List Value} (X : Stand p l e R s m args below meth c T locs cells slots) (hx : p.tables.exec = Jvm.exec) (hd : decode c.code pc = .ok (.i2s, 1)) (hp : pc + 1 = pc')  (k : Ok p e below Fe Q T (mkF m pc' Ls (.int x.toInt16.toInt32 :: rest))) : Ok p e below Fe Q T (mkF m pc Ls (.int x :: rest)) := by
  subst hp
  exact Ok.st (fun t k => XS.i2s X.here hx rfl hd rfl k) k
theorem Ok.lcmp {x y : Int64} {rest : List Value} (X : Stand p l e R s m args below meth c T locs cells slots) (hx : p.tables.exec = Jvm.exec) (hd : decode c.code pc = .ok (.lcmp, 1)) (hp : pc + 1 = pc')  (k : Ok p e below Fe Q T (mkF m pc' Ls (.int (lcmpW x y) :: rest))) : Ok p e below Fe Q T (mkF m pc Ls (.long y :: .long x :: rest)) := by
  subst hp
  exact Ok.st (fun t k => XS.lcmp X.here hx rfl hd rfl k) k
theorem Ok.iconst {i : Int} {z : Int32} {rest : List Value} (X : Stand p l e R s m args below meth c T locs cells slots) (hx : p.tables.exec = Jvm.exec) (hd : decode c.code pc = .ok (.iconst i, 1)) (hp : pc + 1 = pc') (hz : z = Int32.ofInt i) (k : Ok p e below Fe Q T (mkF m pc' Ls (.int z :: rest))) : Ok p e below Fe Q T (mkF m pc Ls rest) := by
  subst hp
  exact Ok.st (fun t k => XS.iconst X.here hx rfl hd (hz ▸ k)) k
theorem Ok.bipush {i : Int} {z : Int32} {rest : List Value} (X : Stand p l e R s m args below meth c T locs cells slots) (hx : p.tables.exec = Jvm.exec) (hd : decode c.code pc = .ok (.bipush i, 2)) (hp : pc + 2 = pc') (hz : z = (Int8.ofInt i).toInt32) (k : Ok p e below Fe Q T (mkF m pc' Ls (.int z :: rest))) : Ok p e below Fe Q T (mkF m pc Ls rest) := by
  subst hp
  exact Ok.st (fun t k => XS.bipush X.here hx rfl hd (hz ▸ k)) k
theorem Ok.sipush {i : Int} {z : Int32} {rest : List Value} (X : Stand p l e R s m args below meth c T locs cells slots) (hx : p.tables.exec = Jvm.exec) (hd : decode c.code pc = .ok (.sipush i, 3)) (hp : pc + 3 = pc') (hz : z = (Int16.ofInt i).toInt32) (k : Ok p e below Fe Q T (mkF m pc' Ls (.int z :: rest))) : Ok p e below Fe Q T (mkF m pc Ls rest) := by
  subst hp
  exact Ok.st (fun t k => XS.sipush X.here hx rfl hd (hz ▸ k)) k
theorem Ok.lconst {i : Fin 2} {z : Int64} {rest : List Value} (X : Stand p l e R s m args below meth c T locs cells slots) (hx : p.tables.exec = Jvm.exec) (hd : decode c.code pc = .ok (.lconst i, 1)) (hp : pc + 1 = pc') (hz : z = Int64.ofNat i) (k : Ok p e below Fe Q T (mkF m pc' Ls (.long z :: rest))) : Ok p e below Fe Q T (mkF m pc Ls rest) := by
  subst hp
  exact Ok.st (fun t k => XS.lconst X.here hx rfl hd (hz ▸ k)) k
theorem Ok.aconstNull {rest : List Value} (X : Stand p l e R s m args below meth c T locs cells slots) (hx : p.tables.exec = Jvm.exec) (hd : decode c.code pc = .ok (.aconst_null, 1)) (hp : pc + 1 = pc')  (k : Ok p e below Fe Q T (mkF m pc' Ls (.null :: rest))) : Ok p e below Fe Q T (mkF m pc Ls rest) := by
  subst hp
  exact Ok.st (fun t k => XS.aconstNull X.here hx rfl hd k) k
theorem Ok.dup {x : Value} {rest : List Value} (X : Stand p l e R s m args below meth c T locs cells slots) (hx : p.tables.exec = Jvm.exec) (hd : decode c.code pc = .ok (.dup, 1)) (hp : pc + 1 = pc') (hc : x.category = 1) (k : Ok p e below Fe Q T (mkF m pc' Ls (x :: x :: rest))) : Ok p e below Fe Q T (mkF m pc Ls (x :: rest)) := by
  subst hp
  exact Ok.st (fun t k => XS.dup X.here hx rfl hd rfl hc k) k
theorem Ok.pop {x : Value} {rest : List Value} (X : Stand p l e R s m args below meth c T locs cells slots) (hx : p.tables.exec = Jvm.exec) (hd : decode c.code pc = .ok (.pop, 1)) (hp : pc + 1 = pc') (hc : x.category = 1) (k : Ok p e below Fe Q T (mkF m pc' Ls rest)) : Ok p e below Fe Q T (mkF m pc Ls (x :: rest)) := by
  subst hp
  exact Ok.st (fun t k => XS.pop X.here hx rfl hd rfl hc k) k
theorem Ok.iload {i : Nat} {v : Int32} {rest : List Value} (X : Stand p l e R s m args below meth c T locs cells slots) (hx : p.tables.exec = Jvm.exec) (hd : decode c.code pc = .ok (.iload i, 2)) (hp : pc + 2 = pc') (hl : Ls[i]? = some (.val (.int v))) (k : Ok p e below Fe Q T (mkF m pc' Ls (.int v :: rest))) : Ok p e below Fe Q T (mkF m pc Ls rest) := by
  subst hp
  exact Ok.st (fun t k => XS.iload X.here hx rfl hd hl k) k
theorem Ok.iloadN {i : Fin 4} {v : Int32} {rest : List Value} (X : Stand p l e R s m args below meth c T locs cells slots) (hx : p.tables.exec = Jvm.exec) (hd : decode c.code pc = .ok (.iload_n i, 1)) (hp : pc + 1 = pc') (hl : Ls[i.val]? = some (.val (.int v))) (k : Ok p e below Fe Q T (mkF m pc' Ls (.int v :: rest))) : Ok p e below Fe Q T (mkF m pc Ls rest) := by
  subst hp
  exact Ok.st (fun t k => XS.iloadN X.here hx rfl hd hl k) k
theorem Ok.lload {i : Nat} {v : Int64} {rest : List Value} (X : Stand p l e R s m args below meth c T locs cells slots) (hx : p.tables.exec = Jvm.exec) (hd : decode c.code pc = .ok (.lload i, 2)) (hp : pc + 2 = pc') (hl : Ls[i]? = some (.val (.long v))) (k : Ok p e below Fe Q T (mkF m pc' Ls (.long v :: rest))) : Ok p e below Fe Q T (mkF m pc Ls rest) := by
  subst hp
  exact Ok.st (fun t k => XS.lload X.here hx rfl hd hl k) k
theorem Ok.lloadN {i : Fin 4} {v : Int64} {rest : List Value} (X : Stand p l e R s m args below meth c T locs cells slots) (hx : p.tables.exec = Jvm.exec) (hd : decode c.code pc = .ok (.lload_n i, 1)) (hp : pc + 1 = pc') (hl : Ls[i.val]? = some (.val (.long v))) (k : Ok p e below Fe Q T (mkF m pc' Ls (.long v :: rest))) : Ok p e below Fe Q T (mkF m pc Ls rest) := by
  subst hp
  exact Ok.st (fun t k => XS.lloadN X.here hx rfl hd hl k) k
theorem Ok.aload {i : Nat} {v : Value} {rest : List Value} (X : Stand p l e R s m args below meth c T locs cells slots) (hx : p.tables.exec = Jvm.exec) (hd : decode c.code pc = .ok (.aload i, 2)) (hp : pc + 2 = pc') (hl : Ls[i]? = some (.val v)) (hv : v.isRef = true) (k : Ok p e below Fe Q T (mkF m pc' Ls (v :: rest))) : Ok p e below Fe Q T (mkF m pc Ls rest) := by
  subst hp
  exact Ok.st (fun t k => XS.aload X.here hx rfl hd hl hv k) k
theorem Ok.aloadN {i : Fin 4} {v : Value} {rest : List Value} (X : Stand p l e R s m args below meth c T locs cells slots) (hx : p.tables.exec = Jvm.exec) (hd : decode c.code pc = .ok (.aload_n i, 1)) (hp : pc + 1 = pc') (hl : Ls[i.val]? = some (.val v)) (hv : v.isRef = true) (k : Ok p e below Fe Q T (mkF m pc' Ls (v :: rest))) : Ok p e below Fe Q T (mkF m pc Ls rest) := by
  subst hp
  exact Ok.st (fun t k => XS.aloadN X.here hx rfl hd hl hv k) k
theorem Ok.istore {i : Nat} {x : Int32} {rest : List Value} (X : Stand p l e R s m args below meth c T locs cells slots) (hx : p.tables.exec = Jvm.exec) (hd : decode c.code pc = .ok (.istore i, 2)) (hp : pc + 2 = pc') (hl : storeLocals Ls i (.int x) = some l') (k : Ok p e below Fe Q T (mkF m pc' l' rest)) : Ok p e below Fe Q T (mkF m pc Ls ((.int x) :: rest)) := by
  subst hp
  exact Ok.st (fun t k => XS.istore X.here hx rfl hd rfl hl k) k
theorem Ok.istoreN {i : Fin 4} {x : Int32} {rest : List Value} (X : Stand p l e R s m args below meth c T locs cells slots) (hx : p.tables.exec = Jvm.exec) (hd : decode c.code pc = .ok (.istore_n i, 1)) (hp : pc + 1 = pc') (hl : storeLocals Ls i.val (.int x) = some l') (k : Ok p e below Fe Q T (mkF m pc' l' rest)) : Ok p e below Fe Q T (mkF m pc Ls ((.int x) :: rest)) := by
  subst hp
  exact Ok.st (fun t k => XS.istoreN X.here hx rfl hd rfl hl k) k
theorem Ok.lstore {i : Nat} {x : Int64} {rest : List Value} (X : Stand p l e R s m args below meth c T locs cells slots) (hx : p.tables.exec = Jvm.exec) (hd : decode c.code pc = .ok (.lstore i, 2)) (hp : pc + 2 = pc') (hl : storeLocals Ls i (.long x) = some l') (k : Ok p e below Fe Q T (mkF m pc' l' rest)) : Ok p e below Fe Q T (mkF m pc Ls ((.long x) :: rest)) := by
  subst hp
  exact Ok.st (fun t k => XS.lstore X.here hx rfl hd rfl hl k) k
theorem Ok.lstoreN {i : Fin 4} {x : Int64} {rest : List Value} (X : Stand p l e R s m args below meth c T locs cells slots) (hx : p.tables.exec = Jvm.exec) (hd : decode c.code pc = .ok (.lstore_n i, 1)) (hp : pc + 1 = pc') (hl : storeLocals Ls i.val (.long x) = some l') (k : Ok p e below Fe Q T (mkF m pc' l' rest)) : Ok p e below Fe Q T (mkF m pc Ls ((.long x) :: rest)) := by
  subst hp
  exact Ok.st (fun t k => XS.lstoreN X.here hx rfl hd rfl hl k) k
theorem Ok.astore {i : Nat} {x : Value} {rest : List Value} (X : Stand p l e R s m args below meth c T locs cells slots) (hx : p.tables.exec = Jvm.exec) (hd : decode c.code pc = .ok (.astore i, 2)) (hp : pc + 2 = pc') (hv : x.isRef = true) (hl : storeLocals Ls i x = some l') (k : Ok p e below Fe Q T (mkF m pc' l' rest)) : Ok p e below Fe Q T (mkF m pc Ls (x :: rest)) := by
  subst hp
  exact Ok.st (fun t k => XS.astore X.here hx rfl hd rfl hv hl k) k
theorem Ok.astoreN {i : Fin 4} {x : Value} {rest : List Value} (X : Stand p l e R s m args below meth c T locs cells slots) (hx : p.tables.exec = Jvm.exec) (hd : decode c.code pc = .ok (.astore_n i, 1)) (hp : pc + 1 = pc') (hv : x.isRef = true) (hl : storeLocals Ls i.val x = some l') (k : Ok p e below Fe Q T (mkF m pc' l' rest)) : Ok p e below Fe Q T (mkF m pc Ls (x :: rest)) := by
  subst hp
  exact Ok.st (fun t k => XS.astoreN X.here hx rfl hd rfl hv hl k) k
theorem Ok.iinc {i : Nat} {cst : Int} {x z : Int32} {st : List Value} (X : Stand p l e R s m args below meth c T locs cells slots) (hx : p.tables.exec = Jvm.exec) (hd : decode c.code pc = .ok (.iinc i cst, 3)) (hp : pc + 3 = pc') (hl : Ls[i]? = some (.val (.int x))) (hz : z = x + Int32.ofInt cst) (hl' : storeLocals Ls i (.int z) = some l') (k : Ok p e below Fe Q T (mkF m pc' l' st)) : Ok p e below Fe Q T (mkF m pc Ls st) := by
  subst hp hz
  exact Ok.st (fun t k => XS.iinc X.here hx rfl hd hl hl' k) k
theorem Ok.goto {o : Int} {st : List Value} (X : Stand p l e R s m args below meth c T locs cells slots) (hx : p.tables.exec = Jvm.exec) (hd : decode c.code pc = .ok (.goto o, 3)) (ho : 0 ≤ (pc : Int) + o) (hp : ((pc : Int) + o).toNat = pc') (k : Ok p e below Fe Q T (mkF m pc' Ls st)) : Ok p e below Fe Q T (mkF m pc Ls st) :=
  Ok.st (fun t k => XS.goto X.here hx rfl (pc0 := pc) rfl hd ho hp k) k
theorem Ok.ifY {cd : ClassFile.Cond} {x : Int32} {rest : List Value} {o : Int} (X : Stand p l e R s m args below meth c T locs cells slots) (hx : p.tables.exec = Jvm.exec) (hd : decode c.code pc = .ok (.ifCond cd o, 3)) (hc : ifCond.holds cd x = true) (ho : 0 ≤ (pc : Int) + o) (hp : ((pc : Int) + o).toNat = pc') (k : Ok p e below Fe Q T (mkF m pc' Ls rest)) : Ok p e below Fe Q T (mkF m pc Ls (.int x :: rest)) :=
  Ok.st (fun t k => XS.ifYes X.here hx rfl (pc0 := pc) rfl hd rfl hc ho hp k) k
theorem Ok.ifN {cd : ClassFile.Cond} {x : Int32} {rest : List Value} {o : Int} (X : Stand p l e R s m args below meth c T locs cells slots) (hx : p.tables.exec = Jvm.exec) (hd : decode c.code pc = .ok (.ifCond cd o, 3)) (hc : ifCond.holds cd x = false) (hp : pc + 3 = pc') (k : Ok p e below Fe Q T (mkF m pc' Ls rest)) : Ok p e below Fe Q T (mkF m pc Ls (.int x :: rest)) := by
  subst hp
  exact Ok.st (fun t k => XS.ifNo X.here hx rfl hd rfl hc k) k
theorem Ok.icY {cd : ClassFile.Cond} {x y : Int32} {rest : List Value} {o : Int} (X : Stand p l e R s m args below meth c T locs cells slots) (hx : p.tables.exec = Jvm.exec) (hd : decode c.code pc = .ok (.if_icmp cd o, 3)) (hc : if_icmp.holds cd x y = true) (ho : 0 ≤ (pc : Int) + o) (hp : ((pc : Int) + o).toNat = pc') (k : Ok p e below Fe Q T (mkF m pc' Ls rest)) : Ok p e below Fe Q T (mkF m pc Ls (.int y :: .int x :: rest)) :=
  Ok.st (fun t k => XS.icmpYes X.here hx rfl (pc0 := pc) rfl hd rfl hc ho hp k) k
theorem Ok.icN {cd : ClassFile.Cond} {x y : Int32} {rest : List Value} {o : Int} (X : Stand p l e R s m args below meth c T locs cells slots) (hx : p.tables.exec = Jvm.exec) (hd : decode c.code pc = .ok (.if_icmp cd o, 3)) (hc : if_icmp.holds cd x y = false) (hp : pc + 3 = pc') (k : Ok p e below Fe Q T (mkF m pc' Ls rest)) : Ok p e below Fe Q T (mkF m pc Ls (.int y :: .int x :: rest)) := by
  subst hp
  exact Ok.st (fun t k => XS.icmpNo X.here hx rfl hd rfl hc k) k
theorem Ok.nullY {rest : List Value} {o : Int} (X : Stand p l e R s m args below meth c T locs cells slots) (hx : p.tables.exec = Jvm.exec) (hd : decode c.code pc = .ok (.ifnull o, 3)) (ho : 0 ≤ (pc : Int) + o) (hp : ((pc : Int) + o).toNat = pc') (k : Ok p e below Fe Q T (mkF m pc' Ls rest)) : Ok p e below Fe Q T (mkF m pc Ls (.null :: rest)) :=
  Ok.st (fun t k => XS.ifnullYes X.here hx rfl (pc0 := pc) rfl hd rfl ho hp k) k
theorem Ok.nullN {b : Addr} {rest : List Value} {o : Int} (X : Stand p l e R s m args below meth c T locs cells slots) (hx : p.tables.exec = Jvm.exec) (hd : decode c.code pc = .ok (.ifnull o, 3)) (hp : pc + 3 = pc') (k : Ok p e below Fe Q T (mkF m pc' Ls rest)) : Ok p e below Fe Q T (mkF m pc Ls (.ref b :: rest)) := by
  subst hp
  exact Ok.st (fun t k => XS.ifnullNo X.here hx rfl hd rfl k) k
theorem Ok.nonnullY {b : Addr} {rest : List Value} {o : Int} (X : Stand p l e R s m args below meth c T locs cells slots) (hx : p.tables.exec = Jvm.exec) (hd : decode c.code pc = .ok (.ifnonnull o, 3)) (ho : 0 ≤ (pc : Int) + o) (hp : ((pc : Int) + o).toNat = pc') (k : Ok p e below Fe Q T (mkF m pc' Ls rest)) : Ok p e below Fe Q T (mkF m pc Ls (.ref b :: rest)) :=
  Ok.st (fun t k => XS.ifnonnullYes X.here hx rfl (pc0 := pc) rfl hd rfl ho hp k) k
theorem Ok.nonnullN {rest : List Value} {o : Int} (X : Stand p l e R s m args below meth c T locs cells slots) (hx : p.tables.exec = Jvm.exec) (hd : decode c.code pc = .ok (.ifnonnull o, 3)) (hp : pc + 3 = pc') (k : Ok p e below Fe Q T (mkF m pc' Ls rest)) : Ok p e below Fe Q T (mkF m pc Ls (.null :: rest)) := by
  subst hp
  exact Ok.st (fun t k => XS.ifnonnullNo X.here hx rfl hd rfl k) k
theorem Ok.ldcI {own : String} {index : Nat} {v : Int32} {st : List Value} (X : Stand p l e R s m args below meth c T locs cells slots) (hx : p.tables.exec = Jvm.exec) (hZ : Z.Warmed39 s.vm) (hown : s.vm.findClass own = some m.cls) (w : (Jvm.Cond.constant own index v).before a0 Z = true) (hd : decode c.code pc = .ok (.ldc index, 2)) (hp : pc + 2 = pc') (k : Ok p e below Fe Q T (mkF m pc' Ls (.int v :: st))) : Ok p e below Fe Q T (mkF m pc Ls st) := by
  subst hp
  exact Ok.st (X.ldcInt hx hown (mvT hZ w) (g := mkF m pc Ls st) rfl hd) k
theorem Ok.ldcJ {own : String} {index : Nat} {v : Int64} {st : List Value} (X : Stand p l e R s m args below meth c T locs cells slots) (hx : p.tables.exec = Jvm.exec) (hZ : Z.Warmed39 s.vm) (hown : s.vm.findClass own = some m.cls) (w : (Jvm.Cond.constantLong own index v).before a0 Z = true) (hd : decode c.code pc = .ok (.ldc2_w index, 3)) (hp : pc + 3 = pc') (k : Ok p e below Fe Q T (mkF m pc' Ls (.long v :: st))) : Ok p e below Fe Q T (mkF m pc Ls st) := by
  subst hp
  exact Ok.st (X.ldc2Long hx hown (mvT hZ w) (g := mkF m pc Ls st) rfl hd) k
/-! the ends -/
theorem Ok.retV (X : Stand p l e R s m args below meth c T locs cells slots) (hx : p.tables.exec = Jvm.exec) (hret : meth.sig.returnType = none) (hlk : meth.locks = false) (hd : decode c.code pc = .ok (.return_, 1)) {nc ns : Nat} (hc : cells ≤ nc) (hs : slots ≤ ns) (q : Q none T.heap locs) : Ok p e below (NE s nc ns) Q T (mkF m pc Ls []) := by
  obtain ⟨fs, hr, hrun, hended, hW, hsame⟩ := X.leave (v := none) (fun _ => rfl) hlk
  exact ⟨_, _, X.returnOut hx hret hd hr, hrun, hended, _, _, rfl, q, ⟨_, rfl⟩, hW, hsame.mono hc hs⟩
theorem Ok.retI {z : Int32} {rest : List Value} {t : FieldType} (X : Stand p l e R s m args below meth c T locs cells slots) (hx : p.tables.exec = Jvm.exec) (hret : meth.sig.returnType = some t) (hlk : meth.locks = false) (ht : t = .int ∨ t = .boolean ∨ t = .byte ∨ t = .char ∨ t = .short) (hn : narrow t (.int z) = .int z) (hd : decode c.code pc = .ok (.ireturn, 1)) {nc ns : Nat} (hc : cells ≤ nc) (hs : slots ≤ ns) (q : Q (some (.int z)) T.heap locs) : Ok p e below (NE s nc ns) Q T (mkF m pc Ls (.int z :: rest)) := by
  obtain ⟨fs, hr, hrun, hended, hW, hsame⟩ := X.leave (v := some (.int z)) (fun h => by rw [hret] at h; cases h) hlk
  exact ⟨_, _, retOut X hx hret hn (Or.inl ⟨rfl, ht, _, rfl⟩) hd hr, hrun, hended, _, _, rfl, q, ⟨_, rfl⟩, hW, hsame.mono hc hs⟩
theorem Ok.retJ {z : Int64} {rest : List Value} (X : Stand p l e R s m args below meth c T locs cells slots) (hx : p.tables.exec = Jvm.exec) (hret : meth.sig.returnType = some .long) (hlk : meth.locks = false) (hd : decode c.code pc = .ok (.lreturn, 1)) {nc ns : Nat} (hc : cells ≤ nc) (hs : slots ≤ ns) (q : Q (some (.long z)) T.heap locs) : Ok p e below (NE s nc ns) Q T (mkF m pc Ls (.long z :: rest)) := by
  obtain ⟨fs, hr, hrun, hended, hW, hsame⟩ := X.leave (v := some (.long z)) (fun h => by rw [hret] at h; cases h) hlk
  exact ⟨_, _, retOut X hx hret rfl (Or.inr (Or.inl ⟨rfl, rfl, _, rfl⟩)) hd hr, hrun, hended, _, _, rfl, q, ⟨_, rfl⟩, hW, hsame.mono hc hs⟩
theorem Ok.retA {w : Value} {rest : List Value} {t : FieldType} (X : Stand p l e R s m args below meth c T locs cells slots) (hx : p.tables.exec = Jvm.exec) (hret : meth.sig.returnType = some t) (hlk : meth.locks = false) (ht : t.isReference = true) (hn : narrow t w = w) (hw : w.isRef = true) (hd : decode c.code pc = .ok (.areturn, 1)) {nc ns : Nat} (hc : cells ≤ nc) (hs : slots ≤ ns) (q : Q (some w) T.heap locs) : Ok p e below (NE s nc ns) Q T (mkF m pc Ls (w :: rest)) := by
  obtain ⟨fs, hr, hrun, hended, hW, hsame⟩ := X.leave (v := some w) (fun h => by rw [hret] at h; cases h) hlk
  exact ⟨_, _, retOut X hx hret hn (Or.inr (Or.inr (Or.inr (Or.inr ⟨rfl, ht, hw⟩)))) hd hr, hrun, hended, _, _, rfl, q, ⟨_, rfl⟩, hW, hsame.mono hc hs⟩
theorem Ok.retVW {V : Vm} {n : Nat} (X : Stand p l e R (s.setVm V) m args below meth c T locs cells slots) (hx : p.tables.exec = Jvm.exec) (hS : s.Since V n) (hSn : n ≤ T.heap.size) (hret : meth.sig.returnType = none) (hlk : meth.locks = false) (hd : decode c.code pc = .ok (.return_, 1)) {nc ns : Nat} (hc : cells ≤ nc) (hs : slots ≤ ns) (q : Q none T.heap locs) : Ok p e below (WE s nc ns) Q T (mkF m pc Ls []) := by
  obtain ⟨fs, hr, hrun, hended, h1, h2, h3, h4⟩ := X.leaveW hS hSn (v := none) (fun _ => rfl) hlk
  exact ⟨_, _, X.returnOut hx hret hd hr, hrun, hended, _, _, rfl, q, h1, h2, h3, h4.mono hc hs⟩
theorem Ok.retIW {V : Vm} {n : Nat} {z : Int32} {rest : List Value} {t : FieldType} (X : Stand p l e R (s.setVm V) m args below meth c T locs cells slots) (hx : p.tables.exec = Jvm.exec) (hS : s.Since V n) (hSn : n ≤ T.heap.size) (hret : meth.sig.returnType = some t) (hlk : meth.locks = false) (ht : t = .int ∨ t = .boolean ∨ t = .byte ∨ t = .char ∨ t = .short) (hn : narrow t (.int z) = .int z) (hd : decode c.code pc = .ok (.ireturn, 1)) {nc ns : Nat} (hc : cells ≤ nc) (hs : slots ≤ ns) (q : Q (some (.int z)) T.heap locs) : Ok p e below (WE s nc ns) Q T (mkF m pc Ls (.int z :: rest)) := by
  obtain ⟨fs, hr, hrun, hended, h1, h2, h3, h4⟩ := X.leaveW hS hSn (v := some (.int z)) (fun h => by rw [hret] at h; cases h) hlk
  exact ⟨_, _, retOut X hx hret hn (Or.inl ⟨rfl, ht, _, rfl⟩) hd hr, hrun, hended, _, _, rfl, q, h1, h2, h3, h4.mono hc hs⟩
theorem Ok.retJW {V : Vm} {n : Nat} {z : Int64} {rest : List Value} (X : Stand p l e R (s.setVm V) m args below meth c T locs cells slots) (hx : p.tables.exec = Jvm.exec) (hS : s.Since V n) (hSn : n ≤ T.heap.size) (hret : meth.sig.returnType = some .long) (hlk : meth.locks = false) (hd : decode c.code pc = .ok (.lreturn, 1)) {nc ns : Nat} (hc : cells ≤ nc) (hs : slots ≤ ns) (q : Q (some (.long z)) T.heap locs) : Ok p e below (WE s nc ns) Q T (mkF m pc Ls (.long z :: rest)) := by
  obtain ⟨fs, hr, hrun, hended, h1, h2, h3, h4⟩ := X.leaveW hS hSn (v := some (.long z)) (fun h => by rw [hret] at h; cases h) hlk
  exact ⟨_, _, retOut X hx hret rfl (Or.inr (Or.inl ⟨rfl, rfl, _, rfl⟩)) hd hr, hrun, hended, _, _, rfl, q, h1, h2, h3, h4.mono hc hs⟩
theorem Ok.retAW {V : Vm} {n : Nat} {w : Value} {rest : List Value} {t : FieldType} (X : Stand p l e R (s.setVm V) m args below meth c T locs cells slots) (hx : p.tables.exec = Jvm.exec) (hS : s.Since V n) (hSn : n ≤ T.heap.size) (hret : meth.sig.returnType = some t) (hlk : meth.locks = false) (ht : t.isReference = true) (hn : narrow t w = w) (hw : w.isRef = true) (hd : decode c.code pc = .ok (.areturn, 1)) {nc ns : Nat} (hc : cells ≤ nc) (hs : slots ≤ ns) (q : Q (some w) T.heap locs) : Ok p e below (WE s nc ns) Q T (mkF m pc Ls (w :: rest)) := by
  obtain ⟨fs, hr, hrun, hended, h1, h2, h3, h4⟩ := X.leaveW hS hSn (v := some w) (fun h => by rw [hret] at h; cases h) hlk
  exact ⟨_, _, retOut X hx hret hn (Or.inr (Or.inr (Or.inr (Or.inr ⟨rfl, ht, hw⟩)))) hd hr, hrun, hended, _, _, rfl, q, h1, h2, h3, h4.mono hc hs⟩
/-! a body's contract -/
abbrev MetN (l : Launch) (Z : State) (y : MethodName) (bytes : ByteArray) (maxL : Nat) (ret : Option FieldType) (ws : List Jvm.Cond) (rm : Room) (as' : Array Value) (h0 : Heap) (Q : Option Value → Heap → List Loc → Prop) : Prop :=
  MetFree l y (head1 (Jvm.Cond.code y bytes maxL ret :: ws) rm) (fun a U => a = as' ∧ Z.Warmed39 U.vm ∧ U.heap = h0) (fun _ _ _ _ _ => True) (fun _ U o U' => ∃ v L, o = .returned v ∧ Q v U'.heap L ∧ FrameEnd U o U' L rm.cells rm.slots)
abbrev MetW (l : Launch) (Z : State) (y : MethodName) (bytes : ByteArray) (maxL : Nat) (ret : Option FieldType) (ws : List Jvm.Cond) (rm : Room) (as' : Array Value) (h0 : Heap) (Q : Option Value → Heap → List Loc → Prop) : Prop :=
  MetFree l y (head1 (Jvm.Cond.code y bytes maxL ret :: ws) rm) (fun a U => a = as' ∧ Z.Warmed39 U.vm ∧ U.heap = h0) (fun _ _ _ _ _ => True) (fun _ U o U' => ∃ v L, o = .returned v ∧ Q v U'.heap L ∧ ReturnedEndW U o U' L rm.cells rm.slots)
theorem met_n {y : MethodName} {bytes : ByteArray} {maxL : Nat} {ret : Option FieldType} {rm : Room} {ws : List Jvm.Cond} {as' : Array Value} {h0 : Heap} {F0 : MethodId → JFrame} (hp : plainFor y = true) (hf : ∀ m, entryFrame m as' maxL = F0 m)
    (body : ∀ (p : Program) (e : Env) (s : State) (m : MethodId) (below : List Frame) (meth : Method) (c : Code) (s₁ : State), Stand p l e rm s m as' below meth c s₁ [] 0 0 → p.tables.exec = Jvm.exec → c.code = bytes → c.maxLocals = maxL → Z.Warmed39 s.vm → s.vm.findClass y.cls = some m.cls → meth.name = y.name → meth.sig.returnType = ret → meth.locks = false → s₁.heap = h0 → Ok p e below (NE s rm.cells rm.slots) Q s₁ (F0 m)) :
    MetN l Z y bytes maxL ret ws rm as' h0 Q := by
  refine MetFree.of_bodySF hp hisR ?_
  intro p e s m args below meth c s₁ Bd hml0 hP hK
  obtain ⟨rfl, hZ, hh⟩ := hP
  have e0 : s₁.heap = h0 := by rw [← hh, Bd.state]; rfl
  exact Ok.fr (hf m) (body p e s m below meth c s₁ (Stand.of_body Bd) Bd.exec Bd.bytes hml0 hZ (findClass_of_methodNamed Bd.named) (name_of_methodNamed Bd.named Bd.method).1 Bd.returns (BodyLoose.notSynchronized Bd) e0)
theorem met_w {y : MethodName} {bytes : ByteArray} {maxL : Nat} {ret : Option FieldType} {rm : Room} {ws : List Jvm.Cond} {as' : Array Value} {h0 : Heap} {F0 : MethodId → JFrame} (hp : plainFor y = true) (hf : ∀ m, entryFrame m as' maxL = F0 m)
    (body : ∀ (p : Program) (e : Env) (s : State) (m : MethodId) (below : List Frame) (meth : Method) (c : Code) (s₁ : State) (V : Vm) (n : Nat), Stand p l e rm (s.setVm V) m as' below meth c s₁ [] 0 0 → p.tables.exec = Jvm.exec → c.code = bytes → c.maxLocals = maxL → Z.Warmed39 V → V.findClass y.cls = some m.cls → meth.name = y.name → meth.sig.returnType = ret → meth.locks = false → s₁.heap = h0 → s.Since V n → n ≤ h0.size → Ok p e below (WE s rm.cells rm.slots) Q s₁ (F0 m)) :
    MetW l Z y bytes maxL ret ws rm as' h0 Q := by
  refine MetFree.of_bodySF hp hisR ?_
  intro p e s m args below meth c s₁ Bd hml0 hP hK
  obtain ⟨rfl, hZ, hh⟩ := hP
  have e0 : s₁.heap = h0 := by rw [← hh, Bd.state]; rfl
  exact Ok.fr (hf m) (body p e s m below meth c s₁ s.vm 0 (Stand.of_body Bd) Bd.exec Bd.bytes hml0 hZ (findClass_of_methodNamed Bd.named) (name_of_methodNamed Bd.named Bd.method).1 Bd.returns (BodyLoose.notSynchronized Bd) e0 ((State.WarmedH.refl s).since 0) (Nat.zero_le _))
/-! calls, by a contract -/
theorem Ok.callS {y : MethodName} {bytes : ByteArray} {maxL : Nat} {ret : Option FieldType} {rm : Room} {as' : Array Value} {h : Heap} {Qc : Option Value → Heap → List Loc → Prop} {own : String} {index : Nat} {argsL rest st : List Value} {W : Nat} (X : Stand p l e R s m args below meth c T locs cells slots) (hx : p.tables.exec = Jvm.exec) (hZ : Z.Warmed39 s.vm) (hown : s.vm.findClass own = some m.cls)
    (hM : MetN l Z y bytes maxL ret [] rm as' h Qc) (wl : (Jvm.Cond.methodLink own index y).before a0 Z = true) (ws : (Jvm.Cond.static y).before a0 Z = true) (wz : (Jvm.Cond.initialized y.cls).before a0 Z = true) (wc : (Jvm.Cond.code y bytes maxL ret).before a0 Z = true) (hy : y.cls ≠ "java/lang/invoke/MethodHandle" ∧ y.cls ≠ "java/lang/invoke/VarHandle")
    (eT : T.heap = h) (hf : rm.frames + 1 ≤ R.frames) (hl : W + (maxL + 11) + rm.locals ≤ R.locals) (hc : cells + rm.cells ≤ R.cells) (hs : slots + rm.slots ≤ R.slots) (hlen : ∀ sig, parseMethodDescriptor y.desc = some sig → argsL.length = sig.parameters.length) (has : argsL.toArray = as') (hst : st = argsL.reverse ++ rest) (hW : (rest.map fun v => v.category).sum ≤ W) (hsize : Ls.size = c.maxLocals)
    (hd : decode c.code pc = .ok (.invokestatic index, 3)) (hp : pc + 3 = pc')
    (k : ∀ (v : Option Value) (T' : State) (L : List Loc), Stand p l e R s m args below meth c T' (locs ++ L) (cells + rm.cells) (slots + rm.slots) → Qc v T'.heap L → Ok p e below Fe Q T' (mkF m pc' Ls (v.toList ++ rest))) : Ok p e below Fe Q T (mkF m pc Ls st) := by
  subst hp
  obtain ⟨v, _, ⟨T1, L1, k1, n1⟩, -, X1, ⟨Lc, hQ, l1, y1, z1⟩, st1⟩ := Jvm.LawKit.callS X hx (y := y) hown (mvT hZ wl) (mvT hZ ws) (mvT hZ wz) (mvT hZ wc) hy (backOf (W := W) hM hZ wc wz hf hl) (g := mkF m pc Ls st) rfl hsize (argsL := argsL) (rest := rest) hlen hst (by show 2 * 0 + _ ≤ _; omega) hd (fun _ _ => ⟨has, eT, hc, hs⟩)
  dsimp only [Pt.U, Pt.locs, Pt.cells, Pt.slots] at X1 l1 y1 z1 st1 hQ
  subst l1 y1 z1
  exact Ok.st st1 (k v T1 Lc X1 hQ)
theorem Ok.init {y : MethodName} {bytes : ByteArray} {maxL : Nat} {rm : Room} {as' : Array Value} {h : Heap} {Qc : Option Value → Heap → List Loc → Prop} {own : String} {index : Nat} {a : Addr} {argsL rest st : List Value} {W : Nat} (X : Stand p l e R s m args below meth c T locs cells slots) (hx : p.tables.exec = Jvm.exec) (hZ : Z.Warmed39 s.vm) (hown : s.vm.findClass own = some m.cls)
    (hM : MetN l Z y bytes maxL none [] rm as' h Qc) (hyn : y.name = "<init>") (wl : (Jvm.Cond.methodLink own index y).before a0 Z = true) (wi : (Jvm.Cond.instanceMethod y).before a0 Z = true) (wz : (Jvm.Cond.initialized y.cls).before a0 Z = true) (wc : (Jvm.Cond.code y bytes maxL none).before a0 Z = true) (hy : y.cls ≠ "java/lang/invoke/MethodHandle" ∧ y.cls ≠ "java/lang/invoke/VarHandle")
    (eT : T.heap = h) (hf : rm.frames + 1 ≤ R.frames) (hl : W + (maxL + 11) + rm.locals ≤ R.locals) (hc : cells + rm.cells ≤ R.cells) (hs : slots + rm.slots ≤ R.slots) (hlen : ∀ sig, parseMethodDescriptor y.desc = some sig → argsL.length = sig.parameters.length) (has : (.ref a :: argsL).toArray = as') (hst : st = argsL.reverse ++ .ref a :: rest) (hW : (rest.map fun v => v.category).sum ≤ W) (hsize : Ls.size = c.maxLocals)
    (hd : decode c.code pc = .ok (.invokespecial index, 3)) (hp : pc + 3 = pc')
    (k : ∀ (v : Option Value) (T' : State) (L : List Loc), Stand p l e R s m args below meth c T' (locs ++ L) (cells + rm.cells) (slots + rm.slots) → Qc v T'.heap L → Ok p e below Fe Q T' (mkF m pc' Ls (v.toList ++ rest))) : Ok p e below Fe Q T (mkF m pc Ls st) := by
  subst hp
  obtain ⟨v, _, ⟨T1, L1, k1, n1⟩, -, X1, ⟨Lc, hQ, l1, y1, z1⟩, st1⟩ := X.specialBack hx (y := y) hyn hown (mvT hZ wl) (mvT hZ wi) (mvT hZ wc) hy (backOf (W := W) hM hZ wc wz hf hl) (g := mkF m pc Ls st) rfl hsize (Steps.refl _) (a := a) (argsL := argsL) (rest := rest) hlen hst (by show 2 * 0 + _ ≤ _; omega) hd (fun _ _ => ⟨has, eT, hc, hs⟩)
  dsimp only [Pt.U, Pt.locs, Pt.cells, Pt.slots] at X1 l1 y1 z1 st1 hQ
  subst l1 y1 z1
  exact Ok.tr st1 (k v T1 Lc X1 hQ)
theorem Ok.virt {y z : MethodName} {bytes : ByteArray} {maxL : Nat} {ret : Option FieldType} {rm : Room} {as' : Array Value} {h : Heap} {Qc : Option Value → Heap → List Loc → Prop} {own C : String} {index : Nat} {a : Addr} {argsL rest st : List Value} {W : Nat} (X : Stand p l e R s m args below meth c T locs cells slots) (hx : p.tables.exec = Jvm.exec) (hZ : Z.Warmed39 s.vm) (hown : s.vm.findClass own = some m.cls)
    (hM : MetN l Z z bytes maxL ret [] rm as' h Qc) (wl : (Jvm.Cond.methodLink own index y).before a0 Z = true) (wd : (Jvm.Cond.declares y).before a0 Z = true) (hnf : NotFace s y) (wse : (Jvm.Cond.selects C y z).before a0 Z = true) (wi : (Jvm.Cond.instanceMethod z).before a0 Z = true) (wz : (Jvm.Cond.initialized z.cls).before a0 Z = true) (wc : (Jvm.Cond.code z bytes maxL ret).before a0 Z = true) (hy : y.cls ≠ "java/lang/invoke/MethodHandle" ∧ y.cls ≠ "java/lang/invoke/VarHandle")
    (eT : T.heap = h) (E : Exa Z h a C) (hf : rm.frames + 1 ≤ R.frames) (hl : W + (maxL + 11) + rm.locals ≤ R.locals) (hc : cells + rm.cells ≤ R.cells) (hs : slots + rm.slots ≤ R.slots) (hlen : ∀ sig, parseMethodDescriptor y.desc = some sig → argsL.length = sig.parameters.length) (has : (.ref a :: argsL).toArray = as') (hst : st = argsL.reverse ++ .ref a :: rest) (hW : (rest.map fun v => v.category).sum ≤ W) (hsize : Ls.size = c.maxLocals)
    (hd : decode c.code pc = .ok (.invokevirtual index, 3)) (hp : pc + 3 = pc')
    (k : ∀ (v : Option Value) (T' : State) (L : List Loc), Stand p l e R s m args below meth c T' (locs ++ L) (cells + rm.cells) (slots + rm.slots) → Qc v T'.heap L → Ok p e below Fe Q T' (mkF m pc' Ls (v.toList ++ rest))) : Ok p e below Fe Q T (mkF m pc Ls st) := by
  subst hp
  obtain ⟨cq, kq, qa, qb, qc⟩ := isOf hZ eT E
  obtain ⟨v, _, ⟨T1, L1, k1, n1⟩, -, X1, ⟨Lc, hQ, l1, y1, z1⟩, st1⟩ := X.virtualBack hx (y := y) (z := z) hown (mvT hZ wl) (mvT hZ wd) hnf (mvT hZ wse) (mvT hZ wi) hy (backOf (W := W) hM hZ wc wz hf hl) qa qc (g := mkF m pc Ls st) rfl hsize (Steps.refl _) (argsL := argsL) (rest := rest) hlen hst (by show 2 * 0 + _ ≤ _; omega) hd (fun _ _ => ⟨has, eT, hc, hs⟩)
  dsimp only [Pt.U, Pt.locs, Pt.cells, Pt.slots] at X1 l1 y1 z1 st1 hQ
  subst l1 y1 z1
  exact Ok.tr st1 (k v T1 Lc X1 hQ)
/-! calls of bodies that may intern a string, by their wide contract, from a walk that may have interned -/
theorem Ok.callSW {y : MethodName} {bytes : ByteArray} {maxL : Nat} {ret : Option FieldType} {rm : Room} {as' : Array Value} {h : Heap} {Qc : Option Value → Heap → List Loc → Prop} {own : String} {index : Nat} {argsL rest st : List Value} {W n : Nat} {V : Vm} (X : Stand p l e R (s.setVm V) m args below meth c T locs cells slots) (hx : p.tables.exec = Jvm.exec) (hZ : Z.Warmed39 V) (hown : V.findClass own = some m.cls) (hS : s.Since V n) (hSn : n ≤ h.size)
    (hM : MetW l Z y bytes maxL ret [] rm as' h Qc) (wl : (Jvm.Cond.methodLink own index y).before a0 Z = true) (ws : (Jvm.Cond.static y).before a0 Z = true) (wz : (Jvm.Cond.initialized y.cls).before a0 Z = true) (wc : (Jvm.Cond.code y bytes maxL ret).before a0 Z = true) (hy : y.cls ≠ "java/lang/invoke/MethodHandle" ∧ y.cls ≠ "java/lang/invoke/VarHandle")
    (eT : T.heap = h) (hf : rm.frames + 1 ≤ R.frames) (hl : W + (maxL + 11) + rm.locals ≤ R.locals) (hc : cells + rm.cells ≤ R.cells) (hs : slots + rm.slots ≤ R.slots) (hlen : ∀ sig, parseMethodDescriptor y.desc = some sig → argsL.length = sig.parameters.length) (has : argsL.toArray = as') (hst : st = argsL.reverse ++ rest) (hW : (rest.map fun v => v.category).sum ≤ W) (hsize : Ls.size = c.maxLocals)
    (hd : decode c.code pc = .ok (.invokestatic index, 3)) (hp : pc + 3 = pc')
    (k : ∀ (v : Option Value) (T' : State) (L : List Loc), Stand p l e R (s.setVm T'.vm) m args below meth c T' (locs ++ L) (cells + rm.cells) (slots + rm.slots) → Z.Warmed39 T'.vm → T'.vm.findClass own = some m.cls → s.Since T'.vm T'.heap.size → Qc v T'.heap L → Ok p e below Fe Q T' (mkF m pc' Ls (v.toList ++ rest))) : Ok p e below Fe Q T (mkF m pc Ls st) := by
  subst hp
  have hZ' : Z.Warmed39 (s.setVm V).vm := hZ
  obtain ⟨v, _, ⟨T1, L1, k1, n1⟩, -, X1, hS1, hgr, ⟨Lc, hQ, l1, y1, z1⟩, st1⟩ := callSS X hx (y := y) hown (mvT hZ' wl) (mvT hZ' ws) (mvT hZ' wz) (mvT hZ' wc) hy (backOfS (W := W) hM hZ' wc wz hf hl) (g := mkF m pc Ls st) rfl hsize (argsL := argsL) (rest := rest) hlen hst (by show 2 * 0 + _ ≤ _; omega) hd (fun _ _ => ⟨has, eT, hc, hs⟩)
  dsimp only [Pt.U, Pt.locs, Pt.cells, Pt.slots] at X1 l1 y1 z1 st1 hQ hS1 hgr
  subst l1 y1 z1
  refine Ok.tr st1 (k v T1 Lc X1 (State.Warmed39.trans (t := s.setVm V) hZ hS1.1) (by rw [hS1.1.alike.findClass]; exact hown) (hS.trans hS1 ?_) hQ)
  rw [eT] at hgr
  exact Nat.le_trans hSn hgr
theorem Ok.initW {y : MethodName} {bytes : ByteArray} {maxL : Nat} {rm : Room} {as' : Array Value} {h : Heap} {Qc : Option Value → Heap → List Loc → Prop} {own : String} {index : Nat} {a : Addr} {argsL rest st : List Value} {W n : Nat} {V : Vm} (X : Stand p l e R (s.setVm V) m args below meth c T locs cells slots) (hx : p.tables.exec = Jvm.exec) (hZ : Z.Warmed39 V) (hown : V.findClass own = some m.cls) (hS : s.Since V n) (hSn : n ≤ h.size)
    (hM : MetW l Z y bytes maxL none [] rm as' h Qc) (hyn : y.name = "<init>") (wl : (Jvm.Cond.methodLink own index y).before a0 Z = true) (wi : (Jvm.Cond.instanceMethod y).before a0 Z = true) (wz : (Jvm.Cond.initialized y.cls).before a0 Z = true) (wc : (Jvm.Cond.code y bytes maxL none).before a0 Z = true) (hy : y.cls ≠ "java/lang/invoke/MethodHandle" ∧ y.cls ≠ "java/lang/invoke/VarHandle")
    (eT : T.heap = h) (hf : rm.frames + 1 ≤ R.frames) (hl : W + (maxL + 11) + rm.locals ≤ R.locals) (hc : cells + rm.cells ≤ R.cells) (hs : slots + rm.slots ≤ R.slots) (hlen : ∀ sig, parseMethodDescriptor y.desc = some sig → argsL.length = sig.parameters.length) (has : (.ref a :: argsL).toArray = as') (hst : st = argsL.reverse ++ .ref a :: rest) (hW : (rest.map fun v => v.category).sum ≤ W) (hsize : Ls.size = c.maxLocals)
    (hd : decode c.code pc = .ok (.invokespecial index, 3)) (hp : pc + 3 = pc')
    (k : ∀ (v : Option Value) (T' : State) (L : List Loc), Stand p l e R (s.setVm T'.vm) m args below meth c T' (locs ++ L) (cells + rm.cells) (slots + rm.slots) → Z.Warmed39 T'.vm → T'.vm.findClass own = some m.cls → s.Since T'.vm T'.heap.size → Qc v T'.heap L → Ok p e below Fe Q T' (mkF m pc' Ls (v.toList ++ rest))) : Ok p e below Fe Q T (mkF m pc Ls st) := by
  subst hp
  have hZ' : Z.Warmed39 (s.setVm V).vm := hZ
  obtain ⟨v, _, ⟨T1, L1, k1, n1⟩, -, X1, hS1, hgr, ⟨Lc, hQ, l1, y1, z1⟩, st1⟩ := X.specialBackS hx (y := y) hyn hown (mvT hZ' wl) (mvT hZ' wi) (mvT hZ' wc) hy (backOfS (W := W) hM hZ' wc wz hf hl) (g := mkF m pc Ls st) rfl hsize (Steps.refl _) (a := a) (argsL := argsL) (rest := rest) hlen hst (by show 2 * 0 + _ ≤ _; omega) hd (fun _ _ => ⟨has, eT, hc, hs⟩)
  dsimp only [Pt.U, Pt.locs, Pt.cells, Pt.slots] at X1 l1 y1 z1 st1 hQ hS1 hgr
  subst l1 y1 z1
  refine Ok.tr st1 (k v T1 Lc X1 (State.Warmed39.trans (t := s.setVm V) hZ hS1.1) (by rw [hS1.1.alike.findClass]; exact hown) (hS.trans hS1 ?_) hQ)
  rw [eT] at hgr
  exact Nat.le_trans hSn hgr
theorem Ok.virtW {y z : MethodName} {bytes : ByteArray} {maxL : Nat} {ret : Option FieldType} {rm : Room} {as' : Array Value} {h : Heap} {Qc : Option Value → Heap → List Loc → Prop} {own C : String} {index : Nat} {a : Addr} {argsL rest st : List Value} {W n : Nat} {V : Vm} (X : Stand p l e R (s.setVm V) m args below meth c T locs cells slots) (hx : p.tables.exec = Jvm.exec) (hZ : Z.Warmed39 V) (hown : V.findClass own = some m.cls) (hS : s.Since V n) (hSn : n ≤ h.size)
    (hM : MetW l Z z bytes maxL ret [] rm as' h Qc) (wl : (Jvm.Cond.methodLink own index y).before a0 Z = true) (wd : (Jvm.Cond.declares y).before a0 Z = true) (wse : (Jvm.Cond.selects C y z).before a0 Z = true) (hnf : NotFace (s.setVm V) y) (wi : (Jvm.Cond.instanceMethod z).before a0 Z = true) (wz : (Jvm.Cond.initialized z.cls).before a0 Z = true) (wc : (Jvm.Cond.code z bytes maxL ret).before a0 Z = true) (hy : y.cls ≠ "java/lang/invoke/MethodHandle" ∧ y.cls ≠ "java/lang/invoke/VarHandle")
    (eT : T.heap = h) (E : Exa Z h a C) (hf : rm.frames + 1 ≤ R.frames) (hl : W + (maxL + 11) + rm.locals ≤ R.locals) (hc : cells + rm.cells ≤ R.cells) (hs : slots + rm.slots ≤ R.slots) (hlen : ∀ sig, parseMethodDescriptor y.desc = some sig → argsL.length = sig.parameters.length) (has : (.ref a :: argsL).toArray = as') (hst : st = argsL.reverse ++ .ref a :: rest) (hW : (rest.map fun v => v.category).sum ≤ W) (hsize : Ls.size = c.maxLocals)
    (hd : decode c.code pc = .ok (.invokevirtual index, 3)) (hp : pc + 3 = pc')
    (k : ∀ (v : Option Value) (T' : State) (L : List Loc), Stand p l e R (s.setVm T'.vm) m args below meth c T' (locs ++ L) (cells + rm.cells) (slots + rm.slots) → Z.Warmed39 T'.vm → T'.vm.findClass own = some m.cls → s.Since T'.vm T'.heap.size → Qc v T'.heap L → Ok p e below Fe Q T' (mkF m pc' Ls (v.toList ++ rest))) : Ok p e below Fe Q T (mkF m pc Ls st) := by
  subst hp
  have hZ' : Z.Warmed39 (s.setVm V).vm := hZ
  obtain ⟨cq, kq, qa, qb, qc⟩ := isOf hZ' eT E
  obtain ⟨v, _, ⟨T1, L1, k1, n1⟩, -, X1, hS1, hgr, ⟨Lc, hQ, l1, y1, z1⟩, st1⟩ := X.virtualBackS hx (y := y) (z := z) hown (mvT hZ' wl) (mvT hZ' wd) hnf (mvT hZ' wse) (mvT hZ' wi) hy (backOfS (W := W) hM hZ' wc wz hf hl) qa qc (g := mkF m pc Ls st) rfl hsize (Steps.refl _) (argsL := argsL) (rest := rest) hlen hst (by show 2 * 0 + _ ≤ _; omega) hd (fun _ _ => ⟨has, eT, hc, hs⟩)
  dsimp only [Pt.U, Pt.locs, Pt.cells, Pt.slots] at X1 l1 y1 z1 st1 hQ hS1 hgr
  subst l1 y1 z1
  refine Ok.tr st1 (k v T1 Lc X1 (State.Warmed39.trans (t := s.setVm V) hZ hS1.1) (by rw [hS1.1.alike.findClass]; exact hown) (hS.trans hS1 ?_) hQ)
  rw [eT] at hgr
  exact Nat.le_trans hSn hgr
theorem Ok.faceW {y z : MethodName} {bytes : ByteArray} {maxL : Nat} {ret : Option FieldType} {rm : Room} {as' : Array Value} {h : Heap} {Qc : Option Value → Heap → List Loc → Prop} {own C : String} {index count : Nat} {a : Addr} {argsL rest st : List Value} {W n : Nat} {V : Vm} (X : Stand p l e R (s.setVm V) m args below meth c T locs cells slots) (hx : p.tables.exec = Jvm.exec) (hZ : Z.Warmed39 V) (hown : V.findClass own = some m.cls) (hS : s.Since V n) (hSn : n ≤ h.size)
    (hM : MetW l Z z bytes maxL ret [] rm as' h Qc) (wl : (Jvm.Cond.methodLink own index y).before a0 Z = true) (wd : (Jvm.Cond.declares y).before a0 Z = true) (wf : (Jvm.Cond.interfaceMethod y.cls y.cls y.name y.desc).before a0 Z = true) (hfa : ((Jvm.Cond.interfaceMethod y.cls y.cls y.name y.desc).onTables && (Jvm.Cond.interfaceMethod y.cls y.cls y.name y.desc).keepsFace) = true) (wse : (Jvm.Cond.selects C y z).before a0 Z = true) (wi : (Jvm.Cond.instanceMethod z).before a0 Z = true) (wp : (Jvm.Cond.publicMethod z).before a0 Z = true) (wu : (Jvm.Cond.unhidden C y.name y.desc).before a0 Z = true) (wk : (Jvm.Cond.castable C y.cls).before a0 Z = true) (wz : (Jvm.Cond.initialized z.cls).before a0 Z = true) (wc : (Jvm.Cond.code z bytes maxL ret).before a0 Z = true) (hy : y.cls ≠ "java/lang/invoke/MethodHandle" ∧ y.cls ≠ "java/lang/invoke/VarHandle")
    (eT : T.heap = h) (E : Exa Z h a C) (hf : rm.frames + 1 ≤ R.frames) (hl : W + (maxL + 11) + rm.locals ≤ R.locals) (hc : cells + rm.cells ≤ R.cells) (hs : slots + rm.slots ≤ R.slots) (hlen : ∀ sig, parseMethodDescriptor y.desc = some sig → argsL.length = sig.parameters.length) (has : (.ref a :: argsL).toArray = as') (hst : st = argsL.reverse ++ .ref a :: rest) (hW : (rest.map fun v => v.category).sum ≤ W) (hsize : Ls.size = c.maxLocals)
    (hd : decode c.code pc = .ok (.invokeinterface index count, 5)) (hp : pc + 5 = pc')
    (k : ∀ (v : Option Value) (T' : State) (L : List Loc), Stand p l e R (s.setVm T'.vm) m args below meth c T' (locs ++ L) (cells + rm.cells) (slots + rm.slots) → Z.Warmed39 T'.vm → T'.vm.findClass own = some m.cls → s.Since T'.vm T'.heap.size → Qc v T'.heap L → Ok p e below Fe Q T' (mkF m pc' Ls (v.toList ++ rest))) : Ok p e below Fe Q T (mkF m pc Ls st) := by
  subst hp
  have hZ' : Z.Warmed39 (s.setVm V).vm := hZ
  obtain ⟨cq, kq, qa, qb, qc⟩ := isOf hZ' eT E
  obtain ⟨v, _, ⟨T1, L1, k1, n1⟩, -, X1, hS1, hgr, ⟨Lc, hQ, l1, y1, z1⟩, st1⟩ := X.interfaceBackS hx (xi := y) (y := z) hown (mvT hZ' wl) (mvT hZ' wd) (mvT hZ' wf hfa) (mvT hZ' wse) (mvT hZ' wi) (mvT hZ' wp) (mvT hZ' wu) (mvT hZ' wk) hy (backOfS (W := W) hM hZ' wc wz hf hl) qa qb qc (g := mkF m pc Ls st) rfl hsize (Steps.refl _) (argsL := argsL) (rest := rest) hlen hst (by show 2 * 0 + _ ≤ _; omega) hd (fun _ _ => ⟨has, eT, hc, hs⟩)
  dsimp only [Pt.U, Pt.locs, Pt.cells, Pt.slots] at X1 l1 y1 z1 st1 hQ hS1 hgr
  subst l1 y1 z1
  refine Ok.tr st1 (k v T1 Lc X1 (State.Warmed39.trans (t := s.setVm V) hZ hS1.1) (by rw [hS1.1.alike.findClass]; exact hown) (hS.trans hS1 ?_) hQ)
  rw [eT] at hgr
  exact Nat.le_trans hSn hgr
theorem Ok.ldcS {own text : String} {index n N : Nat} {h : Heap} {st : List Value} {V : Vm} (X : Stand p l e R (s.setVm V) m args below meth c T locs cells slots) (hx : p.tables.exec = Jvm.exec) (hZ : Z.Warmed39 V) (hown : V.findClass own = some m.cls) (hS : s.Since V n) (hSn : n ≤ h.size) (w : (Jvm.Cond.stringLink own index text).before a0 Z = true) (wS : ∀ a ∈ Bundle.stringAtoms, a.before a0 Z = true)
    (eT : T.heap = h) (hN : 4 * text.toList.length ≤ N) (hbig : N ≤ 536870912) (hc : cells + 2 ≤ R.cells) (hl : slots + (N + 4) ≤ R.slots) (hd : decode c.code pc = .ok (.ldc index, 2)) (hp : pc + 2 = pc')
    (k : ∀ (a : Addr) (T' : State) (h' : Heap) (n' : Nat), Stand p l e R (s.setVm T'.vm) m args below meth c T' locs (cells + 2) (slots + (N + 4)) → Z.Warmed39 T'.vm → T'.vm.findClass own = some m.cls → s.Since T'.vm n' → n' ≤ h'.size → T'.heap = h' → Ext h h' → Ok p e below Fe Q T' (mkF m pc' Ls (.ref a :: st))) : Ok p e below Fe Q T (mkF m pc Ls st) := by
  subst hp
  obtain ⟨a, T1, h1, n1, X1, e1, E1, hS1, hSn1, hZ1, hown1, st1⟩ := Jvm.RoadKit.ldcS X hx hZ hown w wS eT hS hSn (g := mkF m pc Ls st) rfl hd hN hbig hc hl
  exact Ok.st st1 (k a T1 h1 n1 X1 hZ1 hown1 hS1 hSn1 e1 E1)
theorem ic_eq (x y : Int32) : (if_icmp.holds .eq x y = true ↔ x.toInt = y.toInt) ∧ (if_icmp.holds .ne x y = true ↔ ¬ x.toInt = y.toInt) ∧ (if_icmp.holds .lt x y = true ↔ x.toInt < y.toInt) ∧ (if_icmp.holds .ge x y = true ↔ y.toInt ≤ x.toInt) ∧ (if_icmp.holds .gt x y = true ↔ y.toInt < x.toInt) ∧ (if_icmp.holds .le x y = true ↔ x.toInt ≤ y.toInt) := by
  simp [if_icmp.holds, Int32.lt_iff_toInt_lt, Int32.le_iff_toInt_le, Int32.toInt_inj]
theorem bt {b : Bool} {P : Prop} (h : b = true ↔ P) (hp : P) : b = true := h.mpr hp
theorem bf {b : Bool} {P : Prop} (h : b = true ↔ P) (hp : ¬ P) : b = false := by
  cases b
  · rfl
  · exact absurd (h.mp rfl) hp
theorem i0 (cd : ClassFile.Cond) (x : Int32) {P : Prop} (h : if_icmp.holds cd x 0 = true ↔ P) : ifCond.holds cd x = true ↔ P := by rw [if0]; exact h
theorem lc_all (x y : Int64) : (ifCond.holds .eq (lcmpW x y) = true ↔ x.toInt = y.toInt) ∧ (ifCond.holds .ne (lcmpW x y) = true ↔ ¬ x.toInt = y.toInt) ∧ (ifCond.holds .lt (lcmpW x y) = true ↔ x.toInt < y.toInt) ∧ (ifCond.holds .ge (lcmpW x y) = true ↔ y.toInt ≤ x.toInt) ∧ (ifCond.holds .gt (lcmpW x y) = true ↔ y.toInt < x.toInt) ∧ (ifCond.holds .le (lcmpW x y) = true ↔ x.toInt ≤ y.toInt) := by
  have h1 := lc_lt x y
  have h2 := lc_gt x y
  have h3 := lc_eq x y
  have h4 := lc_le x y
  have h5 := lc_ge x y
  rw [← lcW] at h1 h2 h3 h4 h5
  simp only [if0, if_icmp.holds, decide_eq_true_eq, beq_iff_eq, bne_iff_ne, ne_eq, h3, GT.gt, GE.ge]
  simp only [h1, h2, h4, h5, Int64.lt_iff_toInt_lt, Int64.le_iff_toInt_le, Int64.toInt_inj]
  simp
end Layer
section Layer2
variable {p : Program} {l : Launch} {e : Env} {R : Room} {s : State} {m : MethodId} {args : Array Value} {below : List Frame} {meth : Method} {c : Code} {T T' : State} {locs : List Loc} {cells slots : Nat} {Fe : Outcome → State → List Loc → Prop} {Q : Option Value → Heap → List Loc → Prop} {pc pc' : Nat} {Ls l' : Array Slot} {g g' : JFrame} {Z : State} {a0 : Array Value} {h : Heap} {own : String} {rest st : List Value}
theorem Ok.new {C : String} {index n : Nat} (X : Stand p l e R s m args below meth c T locs cells slots) (hx : p.tables.exec = Jvm.exec) (hZ : Z.Warmed39 s.vm) (hown : s.vm.findClass own = some m.cls) (w : (Jvm.Cond.classLink own index C).before a0 Z = true) (wi : (Jvm.Cond.instantiable C n).before a0 Z = true) (wz : (Jvm.Cond.initialized C).before a0 Z = true) (eT : T.heap = h) (hd : decode c.code pc = .ok (.new index, 3)) (hp : pc + 3 = pc') (hc : cells + 1 ≤ R.cells) (hl : slots + n ≤ R.slots)
    (k : ∀ (T' : State) (h' : Heap) (a : Addr), a = h.size → Stand p l e R s m args below meth c T' locs (cells + 1) (slots + n) → T'.heap = h' → Ext h h' → Exa Z h' a C → (∀ {O nm d : String} {ty : FieldType}, Laid Z a0 C O nm d → parseFieldDescriptor d = some ty → Fld Z h' a O nm d (defaultValue ty)) → Ok p e below Fe Q T' (mkF m pc' Ls (.ref a :: st))) : Ok p e below Fe Q T (mkF m pc Ls st) := by
  subst hp
  obtain ⟨T1, h1, X1, e1, E1, A1, D1, -, st1⟩ := newO X hx hZ hown w wi wz eT (g := mkF m pc Ls st) rfl hd hc hl
  exact Ok.st st1 (k T1 h1 _ rfl X1 e1 E1 A1 D1)
theorem Ok.initO {index : Nat} {a : Addr} {W : Nat} (X : Stand p l e R s m args below meth c T locs cells slots) (hx : p.tables.exec = Jvm.exec) (hZ : Z.Warmed39 s.vm) (hown : s.vm.findClass own = some m.cls) (w1 : (Jvm.Cond.methodLink own index Lib.objectInit).before a0 Z = true) (w2 : (Jvm.Cond.instanceMethod Lib.objectInit).before a0 Z = true) (w3 : (Jvm.Cond.code Lib.objectInit ⟨#[0xb1]⟩ 1 none).before a0 Z = true) (eT : T.heap = h) (hsize : Ls.size = c.maxLocals) (hd : decode c.code pc = .ok (.invokespecial index, 3)) (hp : pc + 3 = pc') (hf : 1 ≤ R.frames) (hW : (rest.map fun v => v.category).sum ≤ W) (hl : W + 12 ≤ R.locals)
    (k : ∀ (T' : State), Stand p l e R s m args below meth c T' locs cells slots → T'.heap = h → Ok p e below Fe Q T' (mkF m pc' Ls rest)) : Ok p e below Fe Q T (mkF m pc Ls (.ref a :: rest)) := by
  subst hp
  obtain ⟨T1, X1, e1, st1⟩ := Jvm.RoadKit.initO X hx hZ hown w1 w2 w3 eT (g := mkF m pc Ls (.ref a :: rest)) rfl hsize rfl hd hf (W := W) (by show 2 * 0 + _ ≤ _; omega) hl
  exact Ok.st st1 (k T1 X1 e1)
theorem Ok.getF {R0 O n d host : String} {index : Nat} {a : Addr} {v : Value} (X : Stand p l e R s m args below meth c T locs cells slots) (hx : p.tables.exec = Jvm.exec) (hZ : Z.Warmed39 s.vm) (hown : s.vm.findClass own = some m.cls) (w : (Jvm.Cond.fieldLink own index R0 n d).before a0 Z = true ∨ (Jvm.Cond.fieldLinkNest own index R0 n d host).before a0 Z = true) (via : Via Z R0 O n d) (eT : T.heap = h) (F : Fld Z h a O n d v) (hd : decode c.code pc = .ok (.getfield index, 3)) (hp : pc + 3 = pc')
    (k : ∀ (T' : State), Stand p l e R s m args below meth c T' locs cells slots → T'.heap = h → Ok p e below Fe Q T' (mkF m pc' Ls (v :: rest))) : Ok p e below Fe Q T (mkF m pc Ls (.ref a :: rest)) := by
  subst hp
  obtain ⟨T1, X1, e1, st1⟩ := Jvm.RoadKit.getF X hx hZ hown w via eT F (g := mkF m pc Ls (.ref a :: rest)) rfl rfl hd
  exact Ok.st st1 (k T1 X1 e1)
theorem Ok.getS {R0 O n d host : String} {index : Nat} {v : Value} (X : Stand p l e R s m args below meth c T locs cells slots) (hx : p.tables.exec = Jvm.exec) (hZ : Z.Warmed39 s.vm) (hown : s.vm.findClass own = some m.cls) (w : (Jvm.Cond.fieldLink own index R0 n d).before a0 Z = true ∨ (Jvm.Cond.fieldLinkNest own index R0 n d host).before a0 Z = true) (via : Via Z R0 O n d) (eT : T.heap = h) (F : Sta Z h O n d v) (hd : decode c.code pc = .ok (.getstatic index, 3)) (hp : pc + 3 = pc')
    (k : ∀ (T' : State), Stand p l e R s m args below meth c T' locs cells slots → T'.heap = h → Ok p e below Fe Q T' (mkF m pc' Ls (v :: st))) : Ok p e below Fe Q T (mkF m pc Ls st) := by
  subst hp
  obtain ⟨T1, X1, e1, st1⟩ := Jvm.RoadKit.getS2 X hx hZ hown w via eT F (g := mkF m pc Ls st) rfl hd
  exact Ok.st st1 (k T1 X1 e1)
theorem Ok.putF {R0 O n d host C : String} {index kk : Nat} {ty : FieldType} {a : Addr} {v old : Value} (X : Stand p l e R s m args below meth c T locs cells slots) (hx : p.tables.exec = Jvm.exec) (hZ : Z.Warmed39 s.vm) (hown : s.vm.findClass own = some m.cls) (w : (Jvm.Cond.fieldLink own index R0 n d).before a0 Z = true ∨ (Jvm.Cond.fieldLinkNest own index R0 n d host).before a0 Z = true) (via : Via Z R0 O n d) (eT : T.heap = h) (F : Fld Z h a O n d old) (E : Exa Z h a C) (L : (Jvm.Cond.lays C O n d).before a0 Z = true ∨ ((Jvm.Cond.laysFinal C O n d).before a0 Z = true ∧ own = O ∧ meth.name = "<init>")) (wi : (Jvm.Cond.instantiable C kk).before a0 Z = true)
    (hty : parseFieldDescriptor d = some ty) (hn : narrow ty v = v) (hf : fits ty v = true) (hd : decode c.code pc = .ok (.putfield index, 3)) (hp : pc + 3 = pc')
    (k : ∀ (T' : State) (h' : Heap), Stand p l e R s m args below meth c T' (locs ++ [⟨a, Jvm.RoadKit.slotOf Z O n d⟩]) cells slots → T'.heap = h' → Wr h h' a (Jvm.RoadKit.slotOf Z O n d) v → Ok p e below Fe Q T' (mkF m pc' Ls rest)) : Ok p e below Fe Q T (mkF m pc Ls (v :: .ref a :: rest)) := by
  subst hp
  obtain ⟨T1, h1, X1, e1, W1, st1⟩ := Jvm.RoadKit.putF X hx hZ hown w via eT F E L wi hty hn hf (g := mkF m pc Ls (v :: .ref a :: rest)) rfl rfl hd
  exact Ok.st st1 (k T1 h1 X1 e1 W1)
theorem Ok.castY {K : String} {index : Nat} {a : Addr} (X : Stand p l e R s m args below meth c T locs cells slots) (hx : p.tables.exec = Jvm.exec) (hZ : Z.Warmed39 s.vm) (hown : s.vm.findClass own = some m.cls) (w : (Jvm.Cond.classLink own index K).before a0 Z = true) (eT : T.heap = h) (F : Ins Z h a K true) (hd : decode c.code pc = .ok (.checkcast index, 3)) (hp : pc + 3 = pc')
    (k : ∀ (T' : State), Stand p l e R s m args below meth c T' locs cells slots → T'.heap = h → Ok p e below Fe Q T' (mkF m pc' Ls (.ref a :: rest))) : Ok p e below Fe Q T (mkF m pc Ls (.ref a :: rest)) := by
  subst hp
  obtain ⟨T1, X1, e1, st1⟩ := Jvm.RoadKit.castY X hx hZ hown w eT F (g := mkF m pc Ls (.ref a :: rest)) rfl rfl hd
  exact Ok.st st1 (k T1 X1 e1)
theorem Ok.instY {K : String} {index : Nat} {a : Addr} (X : Stand p l e R s m args below meth c T locs cells slots) (hx : p.tables.exec = Jvm.exec) (hZ : Z.Warmed39 s.vm) (hown : s.vm.findClass own = some m.cls) (w : (Jvm.Cond.classLink own index K).before a0 Z = true) (eT : T.heap = h) (F : Ins Z h a K true) (hd : decode c.code pc = .ok (.instanceof index, 3)) (hp : pc + 3 = pc')
    (k : ∀ (T' : State), Stand p l e R s m args below meth c T' locs cells slots → T'.heap = h → Ok p e below Fe Q T' (mkF m pc' Ls (.int (1 : Int32) :: rest))) : Ok p e below Fe Q T (mkF m pc Ls (.ref a :: rest)) := by
  subst hp
  obtain ⟨T1, X1, e1, st1⟩ := Jvm.RoadKit.instY X hx hZ hown w eT F (g := mkF m pc Ls (.ref a :: rest)) rfl rfl hd
  exact Ok.st st1 (k T1 X1 e1)
theorem Ok.instNo {K C : String} {index : Nat} {a : Addr} (X : Stand p l e R s m args below meth c T locs cells slots) (hx : p.tables.exec = Jvm.exec) (hZ : Z.Warmed39 s.vm) (hown : s.vm.findClass own = some m.cls) (w : (Jvm.Cond.classLink own index K).before a0 Z = true) (eT : T.heap = h) (E : Exa Z h a C) (F : ∃ c t, Z.vm.findClass C = some c ∧ Z.vm.findClass K = some t ∧ Z.vm.assignable c t = false) (hd : decode c.code pc = .ok (.instanceof index, 3)) (hp : pc + 3 = pc')
    (k : ∀ (T' : State), Stand p l e R s m args below meth c T' locs cells slots → T'.heap = h → Ok p e below Fe Q T' (mkF m pc' Ls (.int (0 : Int32) :: rest))) : Ok p e below Fe Q T (mkF m pc Ls (.ref a :: rest)) := by
  subst hp
  obtain ⟨T1, X1, e1, st1⟩ := Jvm.RoadKit.instNo X hx hZ hown w eT E F (g := mkF m pc Ls (.ref a :: rest)) rfl rfl hd
  exact Ok.st st1 (k T1 X1 e1)
theorem Ok.instNull {index : Nat} (X : Stand p l e R s m args below meth c T locs cells slots) (hx : p.tables.exec = Jvm.exec) (hd : decode c.code pc = .ok (.instanceof index, 3)) (hp : pc + 3 = pc') (k : Ok p e below Fe Q T (mkF m pc' Ls (.int (0 : Int32) :: rest))) : Ok p e below Fe Q T (mkF m pc Ls (.null :: rest)) := by
  subst hp
  exact Ok.st (X.instanceofNull hx (g := mkF m pc Ls (.null :: rest)) rfl rfl hd) k
theorem Ok.newP {aty : ArrayType} {ty : FieldType} {n : Int32} {cap : Nat} (X : Stand p l e R s m args below meth c T locs cells slots) (hx : p.tables.exec = Jvm.exec) (hZ : Z.Warmed39 s.vm) (w : (Jvm.Cond.arrayClass ty).before a0 Z = true) (hty : newarray.typeOf aty = ty) (eT : T.heap = h) (hd : decode c.code pc = .ok (.newarray aty, 2)) (hp : pc + 2 = pc') (hn : ¬ n < 0) (hcap : n.toNatClampNeg ≤ cap) (hb : cap * 8 ≤ 536870912) (hc : cells + 1 ≤ R.cells) (hl : slots + cap ≤ R.slots)
    (k : ∀ (T' : State) (h' : Heap) (a : Addr) (cA : ClassId), a = h.size → Stand p l e R s m args below meth c T' locs (cells + 1) (slots + cap) → T'.heap = h' → Ext h h' → Arv Z h' a cA ty n [] (defaultValue ty) → Ok p e below Fe Q T' (mkF m pc' Ls (.ref a :: rest))) : Ok p e below Fe Q T (mkF m pc Ls (.int n :: rest)) := by
  subst hp hty
  obtain ⟨T1, h1, cA, X1, e1, E1, A1, st1⟩ := Jvm.RoadKit.newP X hx hZ w eT (g := mkF m pc Ls (.int n :: rest)) rfl hd rfl hn hcap hb hc hl
  exact Ok.st st1 (k T1 h1 _ cA rfl X1 e1 E1 (Arv.new A1 hn))
theorem Ok.stI {a : Addr} {kc : ClassId} {z j x : Int32} {vs : List Value} {dv : Value} (X : Stand p l e R s m args below meth c T locs cells slots) (hx : p.tables.exec = Jvm.exec) (hZ : Z.Warmed39 s.vm) (eT : T.heap = h) (V : Arv Z h a kc .int z vs dv) (hj : ¬ j < 0 ∧ j < z) {i : Nat} (hji : j.toNatClampNeg = i) (hi : i < vs.length) (hd : decode c.code pc = .ok (.iastore, 1)) (hp : pc + 1 = pc')
    (k : ∀ (T' : State) (h' : Heap), Stand p l e R s m args below meth c T' (locs ++ [⟨a, j.toNatClampNeg⟩]) cells slots → T'.heap = h' → Wr h h' a j.toNatClampNeg (.int x) → Arv Z h' a kc .int z (vs.set i (.int x)) dv → Ok p e below Fe Q T' (mkF m pc' Ls rest)) : Ok p e below Fe Q T (mkF m pc Ls (.int x :: .int j :: .ref a :: rest)) := by
  subst hp
  obtain ⟨cl, Ar, q, S1, N1, H1, G1⟩ := V
  obtain ⟨T1, h1, X1, e1, W1, st1⟩ := Jvm.RoadKit.stI X hx hZ eT Ar (j := j) (inb_of S1 hj) (g := mkF m pc Ls (.int x :: .int j :: .ref a :: rest)) rfl rfl hd
  exact Ok.st st1 (k T1 h1 X1 e1 W1 (Arv.set Ar q S1 N1 H1 G1 rfl W1 i hji hi))
theorem Ok.stC {a : Addr} {kc : ClassId} {z j x : Int32} {vs : List Value} {dv : Value} (X : Stand p l e R s m args below meth c T locs cells slots) (hx : p.tables.exec = Jvm.exec) (hZ : Z.Warmed39 s.vm) (eT : T.heap = h) (V : Arv Z h a kc .char z vs dv) (hj : ¬ j < 0 ∧ j < z) {i : Nat} (hji : j.toNatClampNeg = i) (hi : i < vs.length) (hd : decode c.code pc = .ok (.castore, 1)) (hp : pc + 1 = pc')
    (k : ∀ (T' : State) (h' : Heap), Stand p l e R s m args below meth c T' (locs ++ [⟨a, j.toNatClampNeg⟩]) cells slots → T'.heap = h' → Wr h h' a j.toNatClampNeg (.int (nar .char x)) → Arv Z h' a kc .char z (vs.set i (.int (nar .char x))) dv → Ok p e below Fe Q T' (mkF m pc' Ls rest)) : Ok p e below Fe Q T (mkF m pc Ls (.int x :: .int j :: .ref a :: rest)) := by
  subst hp
  obtain ⟨cl, Ar, q, S1, N1, H1, G1⟩ := V
  obtain ⟨T1, h1, X1, e1, W1, st1⟩ := Jvm.RoadKit.stC X hx hZ eT Ar (j := j) (inb_of S1 hj) (g := mkF m pc Ls (.int x :: .int j :: .ref a :: rest)) rfl rfl hd
  exact Ok.st st1 (k T1 h1 X1 e1 W1 (Arv.set Ar q S1 N1 H1 G1 (fits_nar_char _) W1 i hji hi))
theorem Ok.stB {a : Addr} {kc : ClassId} {z j x : Int32} {vs : List Value} {dv : Value} (X : Stand p l e R s m args below meth c T locs cells slots) (hx : p.tables.exec = Jvm.exec) (hZ : Z.Warmed39 s.vm) (eT : T.heap = h) (V : Arv Z h a kc .byte z vs dv) (hj : ¬ j < 0 ∧ j < z) {i : Nat} (hji : j.toNatClampNeg = i) (hi : i < vs.length) (hd : decode c.code pc = .ok (.bastore, 1)) (hp : pc + 1 = pc')
    (k : ∀ (T' : State) (h' : Heap), Stand p l e R s m args below meth c T' (locs ++ [⟨a, j.toNatClampNeg⟩]) cells slots → T'.heap = h' → Wr h h' a j.toNatClampNeg (.int x.toInt8.toInt32) → Arv Z h' a kc .byte z (vs.set i (.int x.toInt8.toInt32)) dv → Ok p e below Fe Q T' (mkF m pc' Ls rest)) : Ok p e below Fe Q T (mkF m pc Ls (.int x :: .int j :: .ref a :: rest)) := by
  subst hp
  obtain ⟨cl, Ar, q, S1, N1, H1, G1⟩ := V
  obtain ⟨T1, h1, X1, e1, W1, st1⟩ := Jvm.RoadKit.stB X hx hZ eT Ar (j := j) (inb_of S1 hj) (g := mkF m pc Ls (.int x :: .int j :: .ref a :: rest)) rfl rfl hd
  exact Ok.st st1 (k T1 h1 X1 e1 W1 (Arv.set Ar q S1 N1 H1 G1 (fits_nar_byte _) W1 i hji hi))
theorem Ok.len {a : Addr} {kc : ClassId} {ty : FieldType} {z : Int32} {vs : List Value} {dv : Value} (X : Stand p l e R s m args below meth c T locs cells slots) (hx : p.tables.exec = Jvm.exec) (hZ : Z.Warmed39 s.vm) (eT : T.heap = h) (V : Arv Z h a kc ty z vs dv) (hd : decode c.code pc = .ok (.arraylength, 1)) (hp : pc + 1 = pc') (k : Ok p e below Fe Q T (mkF m pc' Ls (.int z :: rest))) : Ok p e below Fe Q T (mkF m pc Ls (.ref a :: rest)) := by
  subst hp
  obtain ⟨cl, Ar, q, S1, N1, H1, G1⟩ := V
  refine Ok.st (X.arraylength hx (by rw [eT]; exact Ar.1) (State.isArrayOf_alike hZ.alike Ar.2.1) (g := mkF m pc Ls (.ref a :: rest)) rfl rfl hd) ?_
  rw [len_of S1 N1]
  exact k
theorem Ok.ldI {a : Addr} {kc : ClassId} {z j : Int32} {v : Value} {vs : List Value} {dv : Value} (X : Stand p l e R s m args below meth c T locs cells slots) (hx : p.tables.exec = Jvm.exec) (hZ : Z.Warmed39 s.vm) (eT : T.heap = h) (V : Arv Z h a kc .int z vs dv) (hj : ¬ j < 0 ∧ j < z) (hv : vs.getD j.toNatClampNeg dv = v) (hd : decode c.code pc = .ok (.iaload, 1)) (hp : pc + 1 = pc') (k : Ok p e below Fe Q T (mkF m pc' Ls (v :: rest))) : Ok p e below Fe Q T (mkF m pc Ls (.int j :: .ref a :: rest)) := by
  subst hp
  obtain ⟨cl, Ar, q, S1, N1, H1, G1⟩ := V
  exact Ok.st (X.iaload hx (j := j) (v := v) (by rw [eT]; exact Ar.1) (State.isArrayOf_alike hZ.alike Ar.2.1) Ar.2.2 (inb_of S1 hj) (H1.at (inb_of S1 hj) hv) (g := mkF m pc Ls (.int j :: .ref a :: rest)) rfl rfl hd) k
theorem Ok.ldB {a : Addr} {kc : ClassId} {z j : Int32} {v : Value} {vs : List Value} {dv : Value} (X : Stand p l e R s m args below meth c T locs cells slots) (hx : p.tables.exec = Jvm.exec) (hZ : Z.Warmed39 s.vm) (eT : T.heap = h) (V : Arv Z h a kc .byte z vs dv) (hj : ¬ j < 0 ∧ j < z) (hv : vs.getD j.toNatClampNeg dv = v) (hd : decode c.code pc = .ok (.baload, 1)) (hp : pc + 1 = pc') (k : Ok p e below Fe Q T (mkF m pc' Ls (v :: rest))) : Ok p e below Fe Q T (mkF m pc Ls (.int j :: .ref a :: rest)) := by
  subst hp
  obtain ⟨cl, Ar, q, S1, N1, H1, G1⟩ := V
  exact Ok.st (X.baloadBytes hx (j := j) (v := v) (by rw [eT]; exact Ar.1) (State.isArrayOf_alike hZ.alike Ar.2.1) Ar.2.2 (inb_of S1 hj) (H1.at (inb_of S1 hj) hv) (g := mkF m pc Ls (.int j :: .ref a :: rest)) rfl rfl hd) k
theorem Ok.ldC {a : Addr} {kc : ClassId} {z j : Int32} {v : Value} {vs : List Value} {dv : Value} (X : Stand p l e R s m args below meth c T locs cells slots) (hx : p.tables.exec = Jvm.exec) (hZ : Z.Warmed39 s.vm) (eT : T.heap = h) (V : Arv Z h a kc .char z vs dv) (hj : ¬ j < 0 ∧ j < z) (hv : vs.getD j.toNatClampNeg dv = v) (hd : decode c.code pc = .ok (.caload, 1)) (hp : pc + 1 = pc') (k : Ok p e below Fe Q T (mkF m pc' Ls (v :: rest))) : Ok p e below Fe Q T (mkF m pc Ls (.int j :: .ref a :: rest)) := by
  subst hp
  obtain ⟨cl, Ar, q, S1, N1, H1, G1⟩ := V
  exact Ok.st (X.caload hx (j := j) (v := v) (by rw [eT]; exact Ar.1) (State.isArrayOf_alike hZ.alike Ar.2.1) Ar.2.2 (inb_of S1 hj) (H1.at (inb_of S1 hj) hv) (g := mkF m pc Ls (.int j :: .ref a :: rest)) rfl rfl hd) k
theorem Ok.aald {a : Addr} {cl : Cell} {ty : FieldType} {j : Int32} {v : Value} (X : Stand p l e R s m args below meth c T locs cells slots) (hx : p.tables.exec = Jvm.exec) (hZ : Z.Warmed39 s.vm) (eT : T.heap = h) (A : Arr Z h a cl ty) (hty : ty.isReference = true) (hin : ¬ (j < 0 ∨ cl.slots.size ≤ j.toNatClampNeg)) (hv : cl.slots[j.toNatClampNeg]? = some v) (hd : decode c.code pc = .ok (.aaload, 1)) (hp : pc + 1 = pc') (k : Ok p e below Fe Q T (mkF m pc' Ls (v :: rest))) : Ok p e below Fe Q T (mkF m pc Ls (.int j :: .ref a :: rest)) := by
  subst hp
  exact Ok.st (X.aaload hx (j := j) (v := v) (by rw [eT]; exact A.1) (State.isArrayOf_alike hZ.alike A.2.1) hty A.2.2 hin hv (g := mkF m pc Ls (.int j :: .ref a :: rest)) rfl rfl hd) k
theorem Ok.ldcF {index : Nat} {v : UInt32} (X : Stand p l e R s m args below meth c T locs cells slots) (hx : p.tables.exec = Jvm.exec) (hZ : Z.Warmed39 s.vm) (hown : s.vm.findClass own = some m.cls) (w : (Jvm.Cond.constantFloat own index v).before a0 Z = true) (hd : decode c.code pc = .ok (.ldc index, 2)) (hp : pc + 2 = pc') (k : Ok p e below Fe Q T (mkF m pc' Ls (.float v :: st))) : Ok p e below Fe Q T (mkF m pc Ls st) := by
  subst hp
  exact Ok.st (X.ldcFloatC hx hown (mvT hZ w) (g := mkF m pc Ls st) rfl hd) k
theorem own_root {O K : String} {n : Nat} (w : (Jvm.Cond.noSuperclass O).before a0 Z = true) (wk : (Jvm.Cond.instantiable K n).before a0 Z = true) (hn : O ≠ K) : NS Z O K := by
  obtain ⟨c, k, h1, h2, h3, -, -⟩ := Cond.noSuperclass_spec w
  obtain ⟨t, k', g1, -⟩ := Cond.instantiable_spec wk
  have ne := ids_ne h1 g1 hn
  refine ⟨c, t, h1, g1, fun fuel => ?_⟩
  cases fuel with
  | zero => rfl
  | succ f => simp [Vm.isSubclassAux, ne, h2, h3]
theorem own_no {C S K : String} {n : Nat} (w : (Jvm.Cond.superclass C S).before a0 Z = true) (wk : (Jvm.Cond.instantiable K n).before a0 Z = true) (ns : NS Z C K) (hn : C ≠ K) : ∃ c t, Z.vm.findClass C = some c ∧ Z.vm.findClass K = some t ∧ Z.vm.assignable c t = false := by
  obtain ⟨c, t, h0, g0, n3⟩ := ns
  obtain ⟨p, k, kp, h1, h2, h3, h4, h5, -, h7⟩ := Cond.superclass_spec h0 w
  obtain ⟨t', k', g1, g2, g5, g7, -⟩ := Cond.instantiable_spec wk
  cases g0.symm.trans g1
  have g8 : k'.isInterface = false := by
    cases hq : k'.isInterface
    · rfl
    · rw [hq] at g7
      cases g7
  have ne := ids_ne h0 g0 hn
  refine ⟨c, t, h0, g0, ?_⟩
  show Z.vm.assignableAux (255 + 1) c t = false
  simp [Vm.assignableAux, ne, h2, g2, h5, g5, g8, Vm.isSubclass, n3]
end Layer2
theorem i2c_id {x : Int32} (h0 : 0 ≤ x.toInt) (h1 : x.toInt ≤ 65535) : x.toUInt32.toUInt16.toUInt32.toInt32 = x := by
  have hx : x.toInt = x.toBitVec.toInt := rfl
  have hlt : x.toBitVec.toNat < 65536 := by
    rw [hx, BitVec.toInt_eq_toNat_cond] at h0 h1
    have hb := x.toBitVec.isLt
    by_cases hc : 2 * x.toBitVec.toNat < 2 ^ 32
    · rw [if_pos hc] at h1
      omega
    · rw [if_neg hc] at h0
      omega
  apply Int32.toBitVec_inj.mp
  apply BitVec.eq_of_toNat_eq
  have e : (x.toUInt32.toUInt16.toUInt32.toInt32).toBitVec.toNat = x.toBitVec.toNat % 65536 := by
    show (x.toUInt32.toUInt16.toUInt32).toNat = _
    simp
    rfl
  rw [e]
  omega
theorem nar_char_id {x : Int32} (h0 : 0 ≤ x.toInt) (h1 : x.toInt ≤ 65535) : nar .char x = x := i2c_id h0 h1
theorem narrow_char_id {x : Int32} (h0 : 0 ≤ x.toInt) (h1 : x.toInt ≤ 65535) : narrow .char (.int x) = .int x := congrArg Value.int (i2c_id h0 h1)
theorem mask255 (x : Int32) : 0 ≤ (x &&& (255 : Int32)).toInt ∧ (x &&& (255 : Int32)).toInt ≤ 255 := by
  rw [Jvm.Kit.i32_mask x 255 (k := 8) (by decide) (by decide)]
  omega
theorem char255 (x : Int32) : (x &&& (255 : Int32)).toUInt32.toUInt16.toUInt32.toInt32 = x &&& (255 : Int32) := i2c_id (mask255 x).1 (by have := (mask255 x).2; omega)
theorem byte_back {x : Int32} (h0 : 0 ≤ x.toInt) (h1 : x.toInt ≤ 255) : (x.toInt8.toInt32.toInt8.toInt32 &&& (255 : Int32)) = x := by
  have key : ∀ k : Fin 256, ((Int32.ofNat k.val).toInt8.toInt32.toInt8.toInt32 &&& (255 : Int32)) = Int32.ofNat k.val := by decide +kernel
  have e : x = Int32.ofNat x.toInt.toNat := by
    apply Int32.toInt_inj.mp
    rw [Int32.toInt_ofNat_of_lt (by omega)]
    omega
  have q := key ⟨x.toInt.toNat, by omega⟩
  simp only at q
  rw [← e] at q
  exact q
def nx (k : Int64) : Int64 := k * (2862933555777941757 : Int64) + (1 : Int64)
def yv (k : Int64) : Int64 := (k.toUInt64 >>> ((33 : Int32) &&& 0x3f).toInt64.toUInt64).toInt64 + (1 : Int64)
def jn (j k : Int64) : Int64 := ((j + (1 : Int64)) <<< ((31 : Int32) &&& 0x3f).toInt64) / yv k
theorem shr33 (k : Int64) : 0 ≤ ((k.toUInt64 >>> ((33 : Int32) &&& 0x3f).toInt64.toUInt64).toInt64).toInt ∧ ((k.toUInt64 >>> ((33 : Int32) &&& 0x3f).toInt64.toUInt64).toInt64).toInt < 2147483648 := by
  have hn : (((33 : Int32) &&& 0x3f).toInt64.toUInt64) = 33 := by decide
  rw [hn]
  have e2 : ((k.toUInt64 >>> 33).toInt64).toBitVec.toNat = k.toBitVec.toNat / 2 ^ 33 := by
    simp only [UInt64.toBitVec_toInt64, UInt64.toBitVec_shiftRight, Int64.toBitVec_toUInt64]
    simp [BitVec.toNat_ushiftRight, Nat.shiftRight_eq_div_pow]
  have hb := k.toBitVec.isLt
  have hlt : k.toBitVec.toNat / 2 ^ 33 < 2147483648 := by omega
  have e3 : ((k.toUInt64 >>> 33).toInt64).toInt = ((k.toBitVec.toNat / 2 ^ 33 : Nat) : Int) := by
    have : ((k.toUInt64 >>> 33).toInt64).toInt = ((k.toUInt64 >>> 33).toInt64).toBitVec.toInt := rfl
    rw [this, BitVec.toInt_eq_toNat_cond, e2, if_pos (by omega)]
  rw [e3]
  omega
theorem yv_bounds (k : Int64) : 1 ≤ (yv k).toInt ∧ (yv k).toInt ≤ 2147483648 := by
  have h := shr33 k
  have h1 : ((1 : Int64)).toInt = 1 := rfl
  have e := Jvm.Kit.i64_add (x := (k.toUInt64 >>> ((33 : Int32) &&& 0x3f).toInt64.toUInt64).toInt64) (y := 1) (by rw [h1]; omega) (by rw [h1]; omega)
  rw [h1] at e
  unfold yv
  rw [e]
  omega
theorem yv_ne (k : Int64) : yv k ≠ 0 := fun q => by
  have h := yv_bounds k
  rw [q] at h
  simp at h
theorem jn_toInt {j : Int64} (k : Int64) (h0 : 0 ≤ j.toInt) (h1 : j.toInt ≤ 2147483648) : (jn j k).toInt = (j.toInt + 1) * 2147483648 / (yv k).toInt := by
  have h := yv_bounds k
  have e1 : ((1 : Int64)).toInt = 1 := rfl
  have ea := Jvm.Kit.i64_add (x := j) (y := 1) (by rw [e1]; omega) (by rw [e1]; omega)
  rw [e1] at ea
  have es := Jvm.Kit.i64_shl (j + 1) (((31 : Int32) &&& 0x3f).toInt64) (k := 31) (by decide) (by rw [ea]; omega) (by rw [ea]; omega)
  unfold jn
  rw [Jvm.Kit.i64_div (by omega), es, ea, Int.tdiv_eq_ediv_of_nonneg (by omega)]
  rfl
theorem jump_ge {j y : Int} (h0 : 0 ≤ j) (hy1 : 1 ≤ y) (hy2 : y ≤ 2147483648) : j + 1 ≤ (j + 1) * 2147483648 / y :=
  Int.le_ediv_of_mul_le (by omega) (Int.mul_le_mul_of_nonneg_left hy2 (by omega))
def Sm (a b : Int) : Prop := a = b
/-- the loop, in whole numbers: turns left, the state, the bucket, the next one, the number of buckets -/
def lp : Nat → Int64 → Int → Int → Int → Int
  | 0, _, b, _, _ => b
  | f + 1, k, b, j, n => if j < n then (if (yv (nx k)).toInt = 2147483648 then j else lp f (nx k) j ((j + 1) * 2147483648 / (yv (nx k)).toInt) n) else b
theorem lp_range : ∀ (f : Nat) (k : Int64) (b j n : Int), 0 ≤ j → lp f k b j n = b ∨ (j ≤ lp f k b j n ∧ lp f k b j n < n)
  | 0, _, _, _, _, _ => Or.inl rfl
  | f + 1, k, b, j, n, h0 => by
    have hy := yv_bounds (nx k)
    have hj := jump_ge h0 hy.1 hy.2
    unfold lp
    by_cases h1 : j < n
    · rw [if_pos h1]
      by_cases h2 : (yv (nx k)).toInt = 2147483648
      · rw [if_pos h2]
        right
        omega
      · rw [if_neg h2]
        rcases lp_range f (nx k) j _ n (by omega : 0 ≤ (j + 1) * 2147483648 / (yv (nx k)).toInt) with e | e
        · right
          rw [e]
          omega
        · right
          omega
    · rw [if_neg h1]
      exact Or.inl rfl
theorem lp_next : ∀ (f : Nat) (k : Int64) (b j n : Int), 0 ≤ j → lp f k b j (n + 1) = lp f k b j n ∨ lp f k b j (n + 1) = n
  | 0, _, _, _, _, _ => Or.inl rfl
  | f + 1, k, b, j, n, h0 => by
    have hy := yv_bounds (nx k)
    have hj := jump_ge h0 hy.1 hy.2
    unfold lp
    by_cases h2 : (yv (nx k)).toInt = 2147483648
    · rw [if_pos h2, if_pos h2]
      by_cases h1 : j < n
      · rw [if_pos h1, if_pos (by omega)]
        exact Or.inl rfl
      · rw [if_neg h1]
        by_cases h3 : j < n + 1
        · rw [if_pos h3]
          right
          omega
        · rw [if_neg h3]
          exact Or.inl rfl
    · rw [if_neg h2, if_neg h2]
      by_cases h1 : j < n
      · rw [if_pos h1, if_pos (by omega)]
        exact lp_next f (nx k) j _ n (by omega)
      · rw [if_neg h1]
        by_cases h3 : j < n + 1
        · rw [if_pos h3]
          right
          rcases lp_range f (nx k) j _ (n + 1) (by omega : 0 ≤ (j + 1) * 2147483648 / (yv (nx k)).toInt) with e | e
          · omega
          · omega
        · rw [if_neg h3]
          exact Or.inl rfl
theorem lp_in {f : Nat} {k : Int64} {n : Int} (h : 1 ≤ n) : 0 ≤ lp f k 0 0 n ∧ lp f k 0 0 n < n := by
  rcases lp_range f k 0 0 n (by omega) with e | e
  · rw [e]
    omega
  · exact e
/-- the first two turns, told apart -/
theorem lp_agrees {f : Nat} {q : Int64} {n : Int} (h : 1 ≤ n) : (((yv (nx q)).toInt = 2147483648 ∨ n ≤ 2147483648 / (yv (nx q)).toInt) → lp (f + 3) q 0 0 n = 0) ∧
    (¬ ((yv (nx q)).toInt = 2147483648 ∨ n ≤ 2147483648 / (yv (nx q)).toInt) →
      (((yv (nx (nx q))).toInt = 2147483648 ∨ n ≤ (2147483648 / (yv (nx q)).toInt + 1) * 2147483648 / (yv (nx (nx q))).toInt) → lp (f + 3) q 0 0 n = 2147483648 / (yv (nx q)).toInt) ∧
      (¬ ((yv (nx (nx q))).toInt = 2147483648 ∨ n ≤ (2147483648 / (yv (nx q)).toInt + 1) * 2147483648 / (yv (nx (nx q))).toInt) → (2147483648 / (yv (nx q)).toInt + 1) * 2147483648 / (yv (nx (nx q))).toInt ≤ lp (f + 3) q 0 0 n)) := by
  have hy := yv_bounds (nx q)
  have hy2 := yv_bounds (nx (nx q))
  have hj := jump_ge (j := 0) (by omega) hy.1 hy.2
  have e0 : ((0 : Int) + 1) * 2147483648 = 2147483648 := rfl
  rw [e0] at hj
  have hj2 := jump_ge (j := 2147483648 / (yv (nx q)).toInt) (by omega) hy2.1 hy2.2
  have E : lp (f + 3) q 0 0 n = if (yv (nx q)).toInt = 2147483648 then 0 else lp (f + 2) (nx q) 0 (2147483648 / (yv (nx q)).toInt) n := by
    rw [show f + 3 = (f + 2) + 1 from rfl, lp, if_pos (by omega), e0]
  have E2 : lp (f + 2) (nx q) 0 (2147483648 / (yv (nx q)).toInt) n = if 2147483648 / (yv (nx q)).toInt < n then (if (yv (nx (nx q))).toInt = 2147483648 then 2147483648 / (yv (nx q)).toInt else lp (f + 1) (nx (nx q)) (2147483648 / (yv (nx q)).toInt) ((2147483648 / (yv (nx q)).toInt + 1) * 2147483648 / (yv (nx (nx q))).toInt) n) else 0 := by
    rw [show f + 2 = (f + 1) + 1 from rfl, lp]
  have E3 : ∀ b, lp (f + 1) (nx (nx q)) b ((2147483648 / (yv (nx q)).toInt + 1) * 2147483648 / (yv (nx (nx q))).toInt) n = if (2147483648 / (yv (nx q)).toInt + 1) * 2147483648 / (yv (nx (nx q))).toInt < n then (if (yv (nx (nx (nx q)))).toInt = 2147483648 then (2147483648 / (yv (nx q)).toInt + 1) * 2147483648 / (yv (nx (nx q))).toInt else lp f (nx (nx (nx q))) ((2147483648 / (yv (nx q)).toInt + 1) * 2147483648 / (yv (nx (nx q))).toInt) (((2147483648 / (yv (nx q)).toInt + 1) * 2147483648 / (yv (nx (nx q))).toInt + 1) * 2147483648 / (yv (nx (nx (nx q)))).toInt) n) else b := fun b => by rw [lp]
  generalize hY1 : (yv (nx q)).toInt = Y1 at *
  generalize hJ1 : 2147483648 / Y1 = J1 at *
  generalize hY2 : (yv (nx (nx q))).toInt = Y2 at *
  generalize hJ2 : (J1 + 1) * 2147483648 / Y2 = J2 at *
  refine ⟨fun a => ?_, fun a => ⟨fun b => ?_, fun b => ?_⟩⟩
  · rw [E]
    by_cases c : Y1 = 2147483648
    · rw [if_pos c]
    · rw [if_neg c, E2, if_neg (by omega)]
  · rw [E, if_neg (by omega), E2, if_pos (by omega)]
    by_cases c : Y2 = 2147483648
    · rw [if_pos c]
    · rw [if_neg c, E3, if_neg (by omega)]
  · rw [E, if_neg (by omega), E2, if_pos (by omega), if_neg (by omega), E3, if_pos (by omega)]
    by_cases c : (yv (nx (nx (nx q)))).toInt = 2147483648
    · rw [if_pos c]
      exact Int.le_refl _
    · rw [if_neg c]
      have hy3 := yv_bounds (nx (nx (nx q)))
      have hj3 := jump_ge (j := J2) (by omega) hy3.1 hy3.2
      rcases lp_range f (nx (nx (nx q))) J2 ((J2 + 1) * 2147483648 / (yv (nx (nx (nx q)))).toInt) n (by omega) with e | e
      · rw [e]
        exact Int.le_refl _
      · omega
def rotl (x y : Int32) : Int32 := (x <<< (y &&& 31)) ||| ((x.toUInt32 >>> ((-y) &&& 31).toUInt32).toInt32)
def mixv (x : Int32) : Int32 := rotl (x * (-862048943 : Int32)) (15 : Int32) * (461845907 : Int32)
def wwv (h w : Int32) : Int32 := rotl (h ^^^ mixv w) (13 : Int32) * (5 : Int32) + (-430675100 : Int32)
def ush (x : Int32) (k : Int32) : Int32 := (x.toUInt32 >>> (k &&& 31).toUInt32).toInt32
def fm1 (x : Int32) : Int32 := (x ^^^ ush x 16) * (-2048144789 : Int32)
def fm2 (x : Int32) : Int32 := (x ^^^ ush x 13) * (-1028477387 : Int32)
def fmv (x : Int32) : Int32 := fm2 (fm1 x) ^^^ ush (fm2 (fm1 x)) 16
def ulv (x : Int32) : Int64 := x.toInt64 &&& (4294967295 : Int64)
def finv (h w n : Int32) : Int64 := ulv (fmv ((h ^^^ mixv w) ^^^ n))
def cont (x : Int32) : Int32 := (128 : Int32) ||| (x &&& (63 : Int32))
def aw (c0 c1 c2 c3 : Int32) : Int32 := if (((c0 ||| c1) ||| c2) ||| c3).toInt < 128 then (((c0 ||| (c1 <<< ((8 : Int32) &&& 31))) ||| (c2 <<< ((16 : Int32) &&& 31))) ||| (c3 <<< ((24 : Int32) &&& 31))) else (-1)
def hst (h : Int32) (acc : Int64) (bits nb : Int32) (ch : Int64) (len : Int32) : Int32 × Int64 × Int32 × Int32 :=
  if (bits + len).toInt < 32 then (h, acc ||| (ch <<< (bits &&& 0x3f).toInt64), bits + len, nb + len / (8 : Int32))
  else (wwv h (acc ||| (ch <<< (bits &&& 0x3f).toInt64)).toInt32, ((acc ||| (ch <<< (bits &&& 0x3f).toInt64)).toUInt64 >>> ((32 : Int32) &&& 0x3f).toInt64.toUInt64).toInt64, (bits + len) + (-32 : Int32), nb + len / (8 : Int32))
def hstep (s : Int32 × Int64 × Int32 × Int32) (c : Int32) : Int32 × Int64 × Int32 × Int32 :=
  if c.toInt < 128 then hst s.1 s.2.1 s.2.2.1 s.2.2.2 c.toInt64 (8 : Int32)
  else hst s.1 s.2.1 s.2.2.1 s.2.2.2 ((((192 : Int32) ||| ((c.toUInt32 >>> ((6 : Int32) &&& 31).toUInt32).toInt32)) ||| ((cont c) <<< ((8 : Int32) &&& 31))).toInt64) (16 : Int32)
def hend (s : Int32 × Int64 × Int32 × Int32) : Int64 := finv s.1 s.2.1.toInt32 s.2.2.2
def hval (c0 c1 c2 c3 : Int32) : Int64 := if (aw c0 c1 c2 c3).toInt = -1 then hend (hstep (hstep (hstep (hstep ((0 : Int32), (0 : Int64), (0 : Int32), (0 : Int32)) c0) c1) c2) c3) else finv (wwv 0 (aw c0 c1 c2 c3)) ((0 : Int64)).toInt32 4
theorem n_in (p : Int32) : 2 ≤ ((2 : Int32) + ((p &&& (2147483647 : Int32)) % (9999 : Int32))).toInt ∧ ((2 : Int32) + ((p &&& (2147483647 : Int32)) % (9999 : Int32))).toInt ≤ 10000 := by
  have h1 := Jvm.Kit.i32_mask p 2147483647 (k := 31) (by decide) (by decide)
  have h2 := Jvm.Kit.i32_rem_nonneg (x := p &&& 2147483647) (y := 9999) (by rw [h1]; omega)
  have h3 : ((9999 : Int32)).toInt = 9999 := rfl
  have h4 : ((2 : Int32)).toInt = 2 := rfl
  rw [h3] at h2
  rw [Jvm.Kit.i32_add (by rw [h4]; omega) (by rw [h4]; omega), h4]
  omega
theorem pd_0 : parseMethodDescriptor "([C)V" = some ⟨[(.array .char)], none⟩ := by decide +kernel
theorem pd_1 : parseMethodDescriptor "([CIILjava/lang/Void;)V" = some ⟨[(.array .char), .int, .int, (.object "java/lang/Void")], none⟩ := by decide +kernel
theorem pd_2 : parseMethodDescriptor "()V" = some ⟨[], none⟩ := by decide +kernel
theorem pd_3 : parseMethodDescriptor "([CII)[B" = some ⟨[(.array .char), .int, .int], some (.array .byte)⟩ := by decide +kernel
theorem pd_4 : parseMethodDescriptor "([CI[BII)I" = some ⟨[(.array .char), .int, (.array .byte), .int, .int], some .int⟩ := by decide +kernel
theorem pd_5 : parseMethodDescriptor "([BI)B" = some ⟨[(.array .byte), .int], some .byte⟩ := by decide +kernel
theorem pd_6 : parseMethodDescriptor "(C)Ljava/lang/String;" = some ⟨[.char], some (.object "java/lang/String")⟩ := by decide +kernel
theorem pd_7 : parseMethodDescriptor "(C)Z" = some ⟨[.char], some .boolean⟩ := by decide +kernel
theorem pd_8 : parseMethodDescriptor "(C)[B" = some ⟨[.char], some (.array .byte)⟩ := by decide +kernel
theorem pd_9 : parseMethodDescriptor "([BB)V" = some ⟨[(.array .byte), .byte], none⟩ := by decide +kernel
theorem pd_10 : parseMethodDescriptor "(I)V" = some ⟨[.int], none⟩ := by decide +kernel
theorem pd_11 : parseMethodDescriptor "(Ljava/lang/String;ILjava/util/List;Ljava/util/List;)Lcom/example/ringward/ringward/Placement;" = some ⟨[(.object "java/lang/String"), .int, (.object "java/util/List"), (.object "java/util/List")], some (.object "com/example/ringward/ringward/Placement")⟩ := by decide +kernel
theorem pd_12 : parseMethodDescriptor "(Ljava/lang/String;)I" = some ⟨[(.object "java/lang/String")], some .int⟩ := by decide +kernel
theorem pd_13 : parseMethodDescriptor "(Ljava/lang/String;)J" = some ⟨[(.object "java/lang/String")], some .long⟩ := by decide +kernel
theorem pd_14 : parseMethodDescriptor "(Ljava/lang/Object;Ljava/lang/String;)Ljava/lang/Object;" = some ⟨[(.object "java/lang/Object"), (.object "java/lang/String")], some (.object "java/lang/Object")⟩ := by decide +kernel
theorem pd_15 : parseMethodDescriptor "(Ljava/lang/String;I)I" = some ⟨[(.object "java/lang/String"), .int], some .int⟩ := by decide +kernel
theorem pd_16 : parseMethodDescriptor "()I" = some ⟨[], some .int⟩ := by decide +kernel
theorem pd_17 : parseMethodDescriptor "()B" = some ⟨[], some .byte⟩ := by decide +kernel
theorem pd_18 : parseMethodDescriptor "(I)C" = some ⟨[.int], some .char⟩ := by decide +kernel
theorem pd_19 : parseMethodDescriptor "()Z" = some ⟨[], some .boolean⟩ := by decide +kernel
theorem pd_20 : parseMethodDescriptor "([BI)C" = some ⟨[(.array .byte), .int], some .char⟩ := by decide +kernel
theorem pd_21 : parseMethodDescriptor "(II)V" = some ⟨[.int, .int], none⟩ := by decide +kernel
theorem pd_22 : parseMethodDescriptor "(IILjava/util/function/BiFunction;)I" = some ⟨[.int, .int, (.object "java/util/function/BiFunction")], some .int⟩ := by decide +kernel
theorem pd_23 : parseMethodDescriptor "(II)I" = some ⟨[.int, .int], some .int⟩ := by decide +kernel
theorem pd_24 : parseMethodDescriptor "(I)I" = some ⟨[.int], some .int⟩ := by decide +kernel
theorem pd_25 : parseMethodDescriptor "(III)J" = some ⟨[.int, .int, .int], some .long⟩ := by decide +kernel
theorem pd_26 : parseMethodDescriptor "(I)J" = some ⟨[.int], some .long⟩ := by decide +kernel
theorem pd_27 : parseMethodDescriptor "(JI)I" = some ⟨[.long, .int], some .int⟩ := by decide +kernel
theorem wStr {Z : State} {a0 : Array Value} (hw : ∀ d ∈ tables_1, d.before a0 Z = true) : ∀ a ∈ Bundle.stringAtoms, a.before a0 Z = true := by
  intro a ha
  simp only [Bundle.stringAtoms, List.mem_cons, List.not_mem_nil, or_false] at ha
  rcases ha with rfl | rfl | rfl | rfl | rfl | rfl | rfl
  · exact (hw _ (List.mem_of_getElem? (i := 4) rfl))
  · exact (hw _ (List.mem_of_getElem? (i := 3) rfl))
  · exact (hw _ (List.mem_of_getElem? (i := 20) rfl))
  · exact (hw _ (List.mem_of_getElem? (i := 30) rfl))
  · exact (hw _ (List.mem_of_getElem? (i := 28) rfl))
  · exact (hw _ (List.mem_of_getElem? (i := 95) rfl))
  · exact (hw _ (List.mem_of_getElem? (i := 96) rfl))
theorem Sta_keep {Z : State} {h h' : Heap} {C n d : String} {w : Value} {ws : List Addr} (F : Sta Z h C n d w) (K : Keep h h' ws) (q : ∀ x ∈ ws, ∃ k, Exa Z h x k) : Sta Z h' C n d w := by
  obtain ⟨cf, i, k, f, st, cell, h1, h2, h3, h4, h5, h6, h7⟩ := F
  refine ⟨cf, i, k, f, st, cell, h1, h2, h3, h4, K.2.1 st cell h5 fun hm => ?_, h6, h7⟩
  obtain ⟨k', c', k'', g1, -, -, g4, -⟩ := q st hm
  cases h5.symm.trans g1
  rw [h6] at g4
  cases g4
theorem d1_0 : decode prog_4_method_8_code 0 = .ok (.lload_n 0, 1) := by decide +kernel
theorem d1_1 : decode prog_4_method_8_code 1 = .ok (.lstore_n 3, 1) := by decide +kernel
theorem d1_2 : decode prog_4_method_8_code 2 = .ok (.lconst 0, 1) := by decide +kernel
theorem d1_3 : decode prog_4_method_8_code 3 = .ok (.lstore 5, 2) := by decide +kernel
theorem d1_5 : decode prog_4_method_8_code 5 = .ok (.lconst 0, 1) := by decide +kernel
theorem d1_6 : decode prog_4_method_8_code 6 = .ok (.lstore 7, 2) := by decide +kernel
theorem d1_8 : decode prog_4_method_8_code 8 = .ok (.lload 7, 2) := by decide +kernel
theorem d1_10 : decode prog_4_method_8_code 10 = .ok (.iload_n 2, 1) := by decide +kernel
theorem d1_11 : decode prog_4_method_8_code 11 = .ok (.i2l, 1) := by decide +kernel
theorem d1_12 : decode prog_4_method_8_code 12 = .ok (.lcmp, 1) := by decide +kernel
theorem d1_13 : decode prog_4_method_8_code 13 = .ok (.ifCond .ge 50, 3) := by decide +kernel
theorem d1_16 : decode prog_4_method_8_code 16 = .ok (.lload 7, 2) := by decide +kernel
theorem d1_18 : decode prog_4_method_8_code 18 = .ok (.lstore 5, 2) := by decide +kernel
theorem d1_20 : decode prog_4_method_8_code 20 = .ok (.lload_n 3, 1) := by decide +kernel
theorem d1_21 : decode prog_4_method_8_code 21 = .ok (.ldc2_w 65, 3) := by decide +kernel
theorem d1_24 : decode prog_4_method_8_code 24 = .ok (.lmul, 1) := by decide +kernel
theorem d1_25 : decode prog_4_method_8_code 25 = .ok (.lconst 1, 1) := by decide +kernel
theorem d1_26 : decode prog_4_method_8_code 26 = .ok (.ladd, 1) := by decide +kernel
theorem d1_27 : decode prog_4_method_8_code 27 = .ok (.lstore_n 3, 1) := by decide +kernel
theorem d1_28 : decode prog_4_method_8_code 28 = .ok (.lload_n 3, 1) := by decide +kernel
theorem d1_29 : decode prog_4_method_8_code 29 = .ok (.bipush 33, 2) := by decide +kernel
theorem d1_31 : decode prog_4_method_8_code 31 = .ok (.lushr, 1) := by decide +kernel
theorem d1_32 : decode prog_4_method_8_code 32 = .ok (.lconst 1, 1) := by decide +kernel
theorem d1_33 : decode prog_4_method_8_code 33 = .ok (.ladd, 1) := by decide +kernel
theorem d1_34 : decode prog_4_method_8_code 34 = .ok (.lstore 9, 2) := by decide +kernel
theorem d1_36 : decode prog_4_method_8_code 36 = .ok (.lload 9, 2) := by decide +kernel
theorem d1_38 : decode prog_4_method_8_code 38 = .ok (.ldc2_w 67, 3) := by decide +kernel
theorem d1_41 : decode prog_4_method_8_code 41 = .ok (.lcmp, 1) := by decide +kernel
theorem d1_42 : decode prog_4_method_8_code 42 = .ok (.ifCond .ne 6, 3) := by decide +kernel
theorem d1_45 : decode prog_4_method_8_code 45 = .ok (.goto 18, 3) := by decide +kernel
theorem d1_48 : decode prog_4_method_8_code 48 = .ok (.lload 5, 2) := by decide +kernel
theorem d1_50 : decode prog_4_method_8_code 50 = .ok (.lconst 1, 1) := by decide +kernel
theorem d1_51 : decode prog_4_method_8_code 51 = .ok (.ladd, 1) := by decide +kernel
theorem d1_52 : decode prog_4_method_8_code 52 = .ok (.bipush 31, 2) := by decide +kernel
theorem d1_54 : decode prog_4_method_8_code 54 = .ok (.lshl, 1) := by decide +kernel
theorem d1_55 : decode prog_4_method_8_code 55 = .ok (.lload 9, 2) := by decide +kernel
theorem d1_57 : decode prog_4_method_8_code 57 = .ok (.ldiv, 1) := by decide +kernel
theorem d1_58 : decode prog_4_method_8_code 58 = .ok (.lstore 7, 2) := by decide +kernel
theorem d1_60 : decode prog_4_method_8_code 60 = .ok (.goto (-52), 3) := by decide +kernel
theorem d1_63 : decode prog_4_method_8_code 63 = .ok (.lload 5, 2) := by decide +kernel
theorem d1_65 : decode prog_4_method_8_code 65 = .ok (.l2i, 1) := by decide +kernel
theorem d1_66 : decode prog_4_method_8_code 66 = .ok (.ireturn, 1) := by decide +kernel
theorem pn_0 : plainName "com/example/ringward/ringward/JumpPlacement" = true := by first | (simp [plainName, overriddenIn]; done) | decide +kernel
theorem ef_1 (m : MethodId) (x0 : Int64) (x1 : Int32) : entryFrame m #[(.long x0), (.int x1)] 11 = mkF m 0 #[.val (.long x0), .second, .val (.int x1), .unset, .unset, .unset, .unset, .unset, .unset, .unset, .unset] [] := by first | (simp [entryFrame, mkF, argsToLocals, Value.category]; done) | rfl
def Q1 (Z : State) (q1 : Int64) (p2 : Int32) (fu : Nat) (h0 : Heap) (n0 : Nat) (v : Option Value) (h : Heap) (L : List Loc) : Prop := ∃ r : Int32, v = some (.int r) ∧ r.toInt = lp fu q1 0 0 p2.toInt ∧ Fr n0 L ∧ h = h0
set_option maxRecDepth 65536 in
set_option maxHeartbeats 40000000 in
theorem rm1 (l : Launch) (Z : State) (a0 : Array Value) (hw : ∀ d ∈ tables_1, d.before a0 Z = true) (q1 : Int64) (p2 : Int32) (fu : Nat) (h0 : Heap) (n0 : Nat) (Z0 : n0 ≤ h0.size) (hp1 : 1 ≤ p2.toInt) (hfu : p2.toInt ≤ (fu : Int)) :
    MetN l Z (⟨"com/example/ringward/ringward/JumpPlacement", "bucket", "(JI)I"⟩ : MethodName) prog_4_method_8_code 11 (some .int) [] ({ frames := 0, cells := 0, slots := 0, locals := 0 } : Room) #[(.long q1), (.int p2)] h0 (Q1 Z q1 p2 fu h0 n0) := by
  refine met_n (plainFor_of_name pn_0) (fun m => ef_1 m q1 p2) ?_
  intro p e s m below meth c s₁ X0 hx hby hml hZ hown hnm hret hlk e0
  replace hown : s.vm.findClass "com/example/ringward/ringward/JumpPlacement" = some m.cls := hown
  replace hnm : meth.name = "bucket" := hnm
  replace hret : meth.sig.returnType = (some .int) := hret
  have N0 := Fr.nil n0
  have K0 : Keep h0 h0 [] := Keep.refl _ _
  show Ok p e below _ _ s₁ (mkF m 0 #[.val (.long q1), .second, .val (.int p2), .unset, .unset, .unset, .unset, .unset, .unset, .unset, .unset] [])
  refine Ok.lloadN (pc' := 1) X0 hx (hb hby d1_0) rfl rfl ?_
  refine Ok.lstoreN (l' := #[.val (.long q1), .second, .val (.int p2), .val (.long q1), .second, .unset, .unset, .unset, .unset, .unset, .unset]) (pc' := 2) X0 hx (hb hby d1_1) rfl rfl ?_
  refine Ok.lconst (z := (0 : Int64)) (pc' := 3) X0 hx (hb hby d1_2) rfl rfl ?_
  refine Ok.lstore (l' := #[.val (.long q1), .second, .val (.int p2), .val (.long q1), .second, .val (.long (0 : Int64)), .second, .unset, .unset, .unset, .unset]) (pc' := 5) X0 hx (hb hby d1_3) rfl rfl ?_
  refine Ok.lconst (z := (0 : Int64)) (pc' := 6) X0 hx (hb hby d1_5) rfl rfl ?_
  refine Ok.lstore (l' := #[.val (.long q1), .second, .val (.int p2), .val (.long q1), .second, .val (.long (0 : Int64)), .second, .val (.long (0 : Int64)), .second, .unset, .unset]) (pc' := 8) X0 hx (hb hby d1_6) rfl rfl ?_
  have hn64 : p2.toInt64.toInt = p2.toInt := Int32.toInt_toInt64 p2
  have hpl := p2.toInt_lt
  have loop : ∀ (f : Nat) (k bv jv : Int64) (sl9 sl10 : Slot), (sl9 = .unset ∧ sl10 = .unset ∨ ∃ z : Int64, sl9 = .val (.long z) ∧ sl10 = .second) → 0 ≤ bv.toInt → bv.toInt < p2.toInt → 0 ≤ jv.toInt → p2.toInt - jv.toInt ≤ (f : Int) → Sm (lp f k bv.toInt jv.toInt p2.toInt) (lp fu q1 0 0 p2.toInt) → Ok p e below (NE s ({ frames := 0, cells := 0, slots := 0, locals := 0 } : Room).cells ({ frames := 0, cells := 0, slots := 0, locals := 0 } : Room).slots) (Q1 Z q1 p2 fu h0 n0) s₁ (mkF m 8 #[.val (.long q1), .second, .val (.int p2), .val (.long k), .second, .val (.long bv), .second, .val (.long jv), .second, sl9, sl10] []) := by
    intro f
    induction f with
    | zero =>
      intro k bv jv sl9 sl10 h_sl9 hb0 hbn hj0 hf hR
      refine Ok.lload (pc' := 10) X0 hx (hb hby d1_8) rfl rfl ?_
      refine Ok.iloadN (pc' := 11) X0 hx (hb hby d1_10) rfl rfl ?_
      refine Ok.i2l (pc' := 12) X0 hx (hb hby d1_11) rfl ?_
      refine Ok.lcmp (pc' := 13) X0 hx (hb hby d1_12) rfl ?_
      refine Ok.ifY (pc' := 63) X0 hx (hb hby d1_13) (bt (lc_all jv p2.toInt64).2.2.2.1 (show p2.toInt64.toInt ≤ jv.toInt from (by omega))) (by decide) (by decide) ?_
      refine Ok.lload (pc' := 65) X0 hx (hb hby d1_63) rfl rfl ?_
      refine Ok.l2i (pc' := 66) X0 hx (hb hby d1_65) rfl ?_
      refine Ok.retI X0 hx hret hlk (Or.inl rfl) rfl (hb hby d1_66) (by decide) (by decide) ?_
      show Q1 Z q1 p2 fu h0 n0 _ s₁.heap _
      rw [e0]
      exact ⟨bv.toInt32, rfl, by rw [Jvm.Kit.i32_of_i64 (by omega) (by omega)]; exact Eq.trans rfl (show lp 0 k bv.toInt jv.toInt p2.toInt = lp fu q1 0 0 p2.toInt from hR), N0, rfl⟩
    | succ f ih =>
      intro k bv jv sl9 sl10 h_sl9 hb0 hbn hj0 hf hR
      obtain ⟨kk, hkk⟩ : ∃ z : Int64, nx k = z := ⟨_, rfl⟩
      obtain ⟨y, hye⟩ : ∃ z : Int64, yv kk = z := ⟨_, rfl⟩
      have hyb := yv_bounds kk
      have hyn := yv_ne kk
      rw [hye] at hyb hyn
      refine Ok.lload (pc' := 10) X0 hx (hb hby d1_8) rfl rfl ?_
      refine Ok.iloadN (pc' := 11) X0 hx (hb hby d1_10) rfl rfl ?_
      refine Ok.i2l (pc' := 12) X0 hx (hb hby d1_11) rfl ?_
      refine Ok.lcmp (pc' := 13) X0 hx (hb hby d1_12) rfl ?_
      by_cases hc13 : p2.toInt64.toInt ≤ jv.toInt
      · refine Ok.ifY (pc' := 63) X0 hx (hb hby d1_13) (bt (lc_all jv p2.toInt64).2.2.2.1 hc13) (by decide) (by decide) ?_
        refine Ok.lload (pc' := 65) X0 hx (hb hby d1_63) rfl rfl ?_
        refine Ok.l2i (pc' := 66) X0 hx (hb hby d1_65) rfl ?_
        refine Ok.retI X0 hx hret hlk (Or.inl rfl) rfl (hb hby d1_66) (by decide) (by decide) ?_
        show Q1 Z q1 p2 fu h0 n0 _ s₁.heap _
        rw [e0]
        exact ⟨bv.toInt32, rfl, by rw [Jvm.Kit.i32_of_i64 (by omega) (by omega)]; rw [← (show lp (f + 1) k bv.toInt jv.toInt p2.toInt = lp fu q1 0 0 p2.toInt from hR), lp, if_neg (by omega)], N0, rfl⟩
      · refine Ok.ifN (pc' := 16) X0 hx (hb hby d1_13) (bf (lc_all jv p2.toInt64).2.2.2.1 hc13) rfl ?_
        refine Ok.lload (pc' := 18) X0 hx (hb hby d1_16) rfl rfl ?_
        refine Ok.lstore (l' := #[.val (.long q1), .second, .val (.int p2), .val (.long k), .second, .val (.long jv), .second, .val (.long jv), .second, sl9, sl10]) (pc' := 20) X0 hx (hb hby d1_18) rfl rfl ?_
        refine Ok.lloadN (pc' := 21) X0 hx (hb hby d1_20) rfl rfl ?_
        refine Ok.ldcJ (pc' := 24) (v := (2862933555777941757 : Int64)) X0 hx hZ hown (hw _ (List.mem_of_getElem? (i := 163) rfl)) (hb hby d1_21) rfl ?_
        refine Ok.lmul (pc' := 25) X0 hx (hb hby d1_24) rfl ?_
        refine Ok.lconst (z := (1 : Int64)) (pc' := 26) X0 hx (hb hby d1_25) rfl rfl ?_
        refine Ok.ladd (pc' := 27) X0 hx (hb hby d1_26) rfl ?_
        show Ok p e below _ _ s₁ (mkF m 27 #[.val (.long q1), .second, .val (.int p2), .val (.long k), .second, .val (.long jv), .second, .val (.long jv), .second, sl9, sl10] [(.long (nx k))])
        rw [hkk]
        show Ok p e below _ _ s₁ (mkF m 27 #[.val (.long q1), .second, .val (.int p2), .val (.long k), .second, .val (.long jv), .second, .val (.long jv), .second, sl9, sl10] [(.long kk)])
        refine Ok.lstoreN (l' := #[.val (.long q1), .second, .val (.int p2), .val (.long kk), .second, .val (.long jv), .second, .val (.long jv), .second, sl9, sl10]) (pc' := 28) X0 hx (hb hby d1_27) rfl rfl ?_
        refine Ok.lloadN (pc' := 29) X0 hx (hb hby d1_28) rfl rfl ?_
        refine Ok.bipush (z := (33 : Int32)) (pc' := 31) X0 hx (hb hby d1_29) rfl rfl ?_
        refine Ok.lushr (pc' := 32) X0 hx (hb hby d1_31) rfl ?_
        refine Ok.lconst (z := (1 : Int64)) (pc' := 33) X0 hx (hb hby d1_32) rfl rfl ?_
        refine Ok.ladd (pc' := 34) X0 hx (hb hby d1_33) rfl ?_
        show Ok p e below _ _ s₁ (mkF m 34 #[.val (.long q1), .second, .val (.int p2), .val (.long kk), .second, .val (.long jv), .second, .val (.long jv), .second, sl9, sl10] [(.long (yv kk))])
        rw [hye]
        show Ok p e below _ _ s₁ (mkF m 34 #[.val (.long q1), .second, .val (.int p2), .val (.long kk), .second, .val (.long jv), .second, .val (.long jv), .second, sl9, sl10] [(.long y)])
        refine Ok.lstore (l' := #[.val (.long q1), .second, .val (.int p2), .val (.long kk), .second, .val (.long jv), .second, .val (.long jv), .second, .val (.long y), .second]) (pc' := 36) X0 hx (hb hby d1_34) rfl (by rcases h_sl9 with ⟨rfl, rfl⟩ | ⟨_, rfl, rfl⟩ <;> rfl) ?_
        refine Ok.lload (pc' := 38) X0 hx (hb hby d1_36) rfl rfl ?_
        refine Ok.ldcJ (pc' := 41) (v := (2147483648 : Int64)) X0 hx hZ hown (hw _ (List.mem_of_getElem? (i := 164) rfl)) (hb hby d1_38) rfl ?_
        refine Ok.lcmp (pc' := 42) X0 hx (hb hby d1_41) rfl ?_
        by_cases hc42 : ¬ y.toInt = 2147483648
        · refine Ok.ifY (pc' := 48) X0 hx (hb hby d1_42) (bt (lc_all y (2147483648 : Int64)).2.1 hc42) (by decide) (by decide) ?_
          refine Ok.lload (pc' := 50) X0 hx (hb hby d1_48) rfl rfl ?_
          refine Ok.lconst (z := (1 : Int64)) (pc' := 51) X0 hx (hb hby d1_50) rfl rfl ?_
          refine Ok.ladd (pc' := 52) X0 hx (hb hby d1_51) rfl ?_
          refine Ok.bipush (z := (31 : Int32)) (pc' := 54) X0 hx (hb hby d1_52) rfl rfl ?_
          refine Ok.lshl (pc' := 55) X0 hx (hb hby d1_54) rfl ?_
          refine Ok.lload (pc' := 57) X0 hx (hb hby d1_55) rfl rfl ?_
          refine Ok.ldiv (pc' := 58) X0 hx (hb hby d1_57) rfl hyn ?_
          obtain ⟨j2, hj2e⟩ : ∃ z : Int64, (((jv + (1 : Int64)) <<< ((31 : Int32) &&& 0x3f).toInt64) / y) = z := ⟨_, rfl⟩
          rw [hj2e]
          have ej : Sm j2.toInt ((jv.toInt + 1) * 2147483648 / y.toInt) := by
            have q : (((jv + (1 : Int64)) <<< ((31 : Int32) &&& 0x3f).toInt64) / (yv kk)).toInt = (jv.toInt + 1) * 2147483648 / (yv kk).toInt := jn_toInt kk hj0 (by omega)
            rw [hye, hj2e] at q
            exact q
          show Ok p e below _ _ s₁ (mkF m 58 #[.val (.long q1), .second, .val (.int p2), .val (.long kk), .second, .val (.long jv), .second, .val (.long jv), .second, .val (.long y), .second] [(.long j2)])
          refine Ok.lstore (l' := #[.val (.long q1), .second, .val (.int p2), .val (.long kk), .second, .val (.long jv), .second, .val (.long j2), .second, .val (.long y), .second]) (pc' := 60) X0 hx (hb hby d1_58) rfl rfl ?_
          refine Ok.goto (pc' := 8) X0 hx (hb hby d1_60) (by decide) (by decide) ?_
          have gj := jump_ge hj0 hyb.1 hyb.2
          rw [← (show j2.toInt = (jv.toInt + 1) * 2147483648 / y.toInt from ej)] at gj
          refine ih kk jv j2 _ _ (Or.inr ⟨_, rfl, rfl⟩) hj0 (by omega) (by omega) (by omega) ?_
          show lp f kk jv.toInt j2.toInt p2.toInt = lp fu q1 0 0 p2.toInt
          rw [← (show lp (f + 1) k bv.toInt jv.toInt p2.toInt = lp fu q1 0 0 p2.toInt from hR), lp, if_pos (by omega), hkk, hye, if_neg (by omega), ← (show j2.toInt = (jv.toInt + 1) * 2147483648 / y.toInt from ej)]
        · refine Ok.ifN (pc' := 45) X0 hx (hb hby d1_42) (bf (lc_all y (2147483648 : Int64)).2.1 hc42) rfl ?_
          have hy : y.toInt = 2147483648 := by omega
          refine Ok.goto (pc' := 63) X0 hx (hb hby d1_45) (by decide) (by decide) ?_
          refine Ok.lload (pc' := 65) X0 hx (hb hby d1_63) rfl rfl ?_
          refine Ok.l2i (pc' := 66) X0 hx (hb hby d1_65) rfl ?_
          refine Ok.retI X0 hx hret hlk (Or.inl rfl) rfl (hb hby d1_66) (by decide) (by decide) ?_
          show Q1 Z q1 p2 fu h0 n0 _ s₁.heap _
          rw [e0]
          exact ⟨jv.toInt32, rfl, by rw [Jvm.Kit.i32_of_i64 (by omega) (by omega)]; rw [← (show lp (f + 1) k bv.toInt jv.toInt p2.toInt = lp fu q1 0 0 p2.toInt from hR), lp, if_pos (by omega), hkk, hye, if_pos hy], N0, rfl⟩
  exact loop fu q1 0 0 .unset .unset (Or.inl ⟨rfl, rfl⟩) (by decide) (by rw [show ((0 : Int64)).toInt = 0 from rfl]; omega) (by decide) (by rw [show ((0 : Int64)).toInt = 0 from rfl]; omega) rfl
theorem d2_0 : decode jdk_33_method_50_code 0 = .ok (.iload_n 0, 1) := by decide +kernel
theorem d2_1 : decode jdk_33_method_50_code 1 = .ok (.iload_n 1, 1) := by decide +kernel
theorem d2_2 : decode jdk_33_method_50_code 2 = .ok (.ishl, 1) := by decide +kernel
theorem d2_3 : decode jdk_33_method_50_code 3 = .ok (.iload_n 0, 1) := by decide +kernel
theorem d2_4 : decode jdk_33_method_50_code 4 = .ok (.iload_n 1, 1) := by decide +kernel
theorem d2_5 : decode jdk_33_method_50_code 5 = .ok (.ineg, 1) := by decide +kernel
theorem d2_6 : decode jdk_33_method_50_code 6 = .ok (.iushr, 1) := by decide +kernel
theorem d2_7 : decode jdk_33_method_50_code 7 = .ok (.ior, 1) := by decide +kernel
theorem d2_8 : decode jdk_33_method_50_code 8 = .ok (.ireturn, 1) := by decide +kernel
theorem pn_1 : plainName "java/lang/Integer" = true := by first | (simp [plainName, overriddenIn]; done) | decide +kernel
theorem ef_2 (m : MethodId) (x0 : Int32) (x1 : Int32) : entryFrame m #[(.int x0), (.int x1)] 2 = mkF m 0 #[.val (.int x0), .val (.int x1)] [] := by first | (simp [entryFrame, mkF, argsToLocals, Value.category]; done) | rfl
def Q2 (Z : State) (p1 : Int32) (p2 : Int32) (h0 : Heap) (n0 : Nat) (v : Option Value) (h : Heap) (L : List Loc) : Prop := v = some (.int (rotl p1 p2)) ∧ Fr n0 L ∧ h = h0
set_option maxRecDepth 65536 in
set_option maxHeartbeats 40000000 in
theorem rm2 (l : Launch) (Z : State) (a0 : Array Value) (hw : ∀ d ∈ tables_1, d.before a0 Z = true) (p1 : Int32) (p2 : Int32) (h0 : Heap) (n0 : Nat) (Z0 : n0 ≤ h0.size)  :
    MetN l Z (⟨"java/lang/Integer", "rotateLeft", "(II)I"⟩ : MethodName) jdk_33_method_50_code 2 (some .int) [] ({ frames := 0, cells := 0, slots := 0, locals := 0 } : Room) #[(.int p1), (.int p2)] h0 (Q2 Z p1 p2 h0 n0) := by
  refine met_n (plainFor_of_name pn_1) (fun m => ef_2 m p1 p2) ?_
  intro p e s m below meth c s₁ X0 hx hby hml hZ hown hnm hret hlk e0
  replace hown : s.vm.findClass "java/lang/Integer" = some m.cls := hown
  replace hnm : meth.name = "rotateLeft" := hnm
  replace hret : meth.sig.returnType = (some .int) := hret
  have N0 := Fr.nil n0
  have K0 : Keep h0 h0 [] := Keep.refl _ _
  show Ok p e below _ _ s₁ (mkF m 0 #[.val (.int p1), .val (.int p2)] [])
  refine Ok.iloadN (pc' := 1) X0 hx (hb hby d2_0) rfl rfl ?_
  refine Ok.iloadN (pc' := 2) X0 hx (hb hby d2_1) rfl rfl ?_
  refine Ok.ishl (pc' := 3) X0 hx (hb hby d2_2) rfl ?_
  refine Ok.iloadN (pc' := 4) X0 hx (hb hby d2_3) rfl rfl ?_
  refine Ok.iloadN (pc' := 5) X0 hx (hb hby d2_4) rfl rfl ?_
  refine Ok.ineg (pc' := 6) X0 hx (hb hby d2_5) rfl ?_
  refine Ok.iushr (pc' := 7) X0 hx (hb hby d2_6) rfl ?_
  refine Ok.ior (pc' := 8) X0 hx (hb hby d2_7) rfl ?_
  refine Ok.retI X0 hx hret hlk (Or.inl rfl) rfl (hb hby d2_8) (by decide) (by decide) ?_
  show Q2 Z p1 p2 h0 n0 _ s₁.heap _
  rw [e0]
  exact ⟨rfl, N0, rfl⟩
theorem d3_0 : decode prog_34_method_8_code 0 = .ok (.iload_n 0, 1) := by decide +kernel
theorem d3_1 : decode prog_34_method_8_code 1 = .ok (.ldc 95, 2) := by decide +kernel
theorem d3_3 : decode prog_34_method_8_code 3 = .ok (.imul, 1) := by decide +kernel
theorem d3_4 : decode prog_34_method_8_code 4 = .ok (.bipush 15, 2) := by decide +kernel
theorem d3_6 : decode prog_34_method_8_code 6 = .ok (.invokestatic 84, 3) := by decide +kernel
theorem d3_9 : decode prog_34_method_8_code 9 = .ok (.ldc 96, 2) := by decide +kernel
theorem d3_11 : decode prog_34_method_8_code 11 = .ok (.imul, 1) := by decide +kernel
theorem d3_12 : decode prog_34_method_8_code 12 = .ok (.ireturn, 1) := by decide +kernel
theorem pn_2 : plainName "com/example/ringward/ringward/hash/MurmurHash3" = true := by first | (simp [plainName, overriddenIn]; done) | decide +kernel
theorem ef_3 (m : MethodId) (x0 : Int32) : entryFrame m #[(.int x0)] 1 = mkF m 0 #[.val (.int x0)] [] := by first | (simp [entryFrame, mkF, argsToLocals, Value.category]; done) | rfl
def Q3 (Z : State) (p1 : Int32) (h0 : Heap) (n0 : Nat) (v : Option Value) (h : Heap) (L : List Loc) : Prop := v = some (.int (mixv p1)) ∧ Fr n0 L ∧ h = h0
set_option maxRecDepth 65536 in
set_option maxHeartbeats 40000000 in
theorem rm3 (l : Launch) (Z : State) (a0 : Array Value) (hw : ∀ d ∈ tables_1, d.before a0 Z = true) (p1 : Int32) (h0 : Heap) (n0 : Nat) (Z0 : n0 ≤ h0.size)  :
    MetN l Z (⟨"com/example/ringward/ringward/hash/MurmurHash3", "mixed", "(I)I"⟩ : MethodName) prog_34_method_8_code 1 (some .int) [] ({ frames := 1, cells := 0, slots := 0, locals := 13 } : Room) #[(.int p1)] h0 (Q3 Z p1 h0 n0) := by
  refine met_n (plainFor_of_name pn_2) (fun m => ef_3 m p1) ?_
  intro p e s m below meth c s₁ X0 hx hby hml hZ hown hnm hret hlk e0
  replace hown : s.vm.findClass "com/example/ringward/ringward/hash/MurmurHash3" = some m.cls := hown
  replace hnm : meth.name = "mixed" := hnm
  replace hret : meth.sig.returnType = (some .int) := hret
  have N0 := Fr.nil n0
  have K0 : Keep h0 h0 [] := Keep.refl _ _
  show Ok p e below _ _ s₁ (mkF m 0 #[.val (.int p1)] [])
  refine Ok.iloadN (pc' := 1) X0 hx (hb hby d3_0) rfl rfl ?_
  refine Ok.ldcI (pc' := 3) (v := (-862048943 : Int32)) X0 hx hZ hown (hw _ (List.mem_of_getElem? (i := 141) rfl)) (hb hby d3_1) rfl ?_
  refine Ok.imul (pc' := 4) X0 hx (hb hby d3_3) rfl ?_
  refine Ok.bipush (z := (15 : Int32)) (pc' := 6) X0 hx (hb hby d3_4) rfl rfl ?_
  refine Ok.callS (pc' := 9) (W := 0)  (argsL := [(.int (p1 * (-862048943 : Int32))), (.int (15 : Int32))]) (rest := []) X0 hx hZ hown (rm2 l Z a0 hw (p1 * (-862048943 : Int32)) (15 : Int32) h0 n0 Z0 ) (hw _ (List.mem_of_getElem? (i := 142) rfl)) (hw _ (List.mem_of_getElem? (i := 143) rfl)) (hw _ (List.mem_of_getElem? (i := 144) rfl)) (hw _ (List.mem_of_getElem? (i := 145) rfl)) (by decide) e0 (by decide) (by decide) (by decide) (by decide) (lenOf pd_23 rfl) rfl rfl (Nat.le_of_eq rfl) (by rw [hml]; rfl) (hb hby d3_6) rfl ?_
  intro v1 T1 L1 X1 hQ1
  obtain ⟨rfl, Nq1, eq1⟩ := hQ1
  have N1 := Fr.app N0 Nq1
  show Ok p e below _ _ T1 (mkF m 9 #[.val (.int p1)] [(.int (rotl (p1 * (-862048943 : Int32)) (15 : Int32)))])
  refine Ok.ldcI (pc' := 11) (v := (461845907 : Int32)) X1 hx hZ hown (hw _ (List.mem_of_getElem? (i := 146) rfl)) (hb hby d3_9) rfl ?_
  refine Ok.imul (pc' := 12) X1 hx (hb hby d3_11) rfl ?_
  refine Ok.retI X1 hx hret hlk (Or.inl rfl) rfl (hb hby d3_12) (by decide) (by decide) ?_
  show Q3 Z p1 h0 n0 _ T1.heap _
  rw [eq1]
  exact ⟨rfl, N1, rfl⟩
theorem d4_0 : decode prog_34_method_6_code 0 = .ok (.iload_n 0, 1) := by decide +kernel
theorem d4_1 : decode prog_34_method_6_code 1 = .ok (.iload_n 1, 1) := by decide +kernel
theorem d4_2 : decode prog_34_method_6_code 2 = .ok (.invokestatic 81, 3) := by decide +kernel
theorem d4_5 : decode prog_34_method_6_code 5 = .ok (.ixor, 1) := by decide +kernel
theorem d4_6 : decode prog_34_method_6_code 6 = .ok (.bipush 13, 2) := by decide +kernel
theorem d4_8 : decode prog_34_method_6_code 8 = .ok (.invokestatic 84, 3) := by decide +kernel
theorem d4_11 : decode prog_34_method_6_code 11 = .ok (.iconst 5, 1) := by decide +kernel
theorem d4_12 : decode prog_34_method_6_code 12 = .ok (.imul, 1) := by decide +kernel
theorem d4_13 : decode prog_34_method_6_code 13 = .ok (.ldc 87, 2) := by decide +kernel
theorem d4_15 : decode prog_34_method_6_code 15 = .ok (.iadd, 1) := by decide +kernel
theorem d4_16 : decode prog_34_method_6_code 16 = .ok (.ireturn, 1) := by decide +kernel
theorem ef_4 (m : MethodId) (x0 : Int32) (x1 : Int32) : entryFrame m #[(.int x0), (.int x1)] 2 = mkF m 0 #[.val (.int x0), .val (.int x1)] [] := by first | (simp [entryFrame, mkF, argsToLocals, Value.category]; done) | rfl
def Q4 (Z : State) (p1 : Int32) (p2 : Int32) (h0 : Heap) (n0 : Nat) (v : Option Value) (h : Heap) (L : List Loc) : Prop := v = some (.int (wwv p1 p2)) ∧ Fr n0 L ∧ h = h0
set_option maxRecDepth 65536 in
set_option maxHeartbeats 40000000 in
theorem rm4 (l : Launch) (Z : State) (a0 : Array Value) (hw : ∀ d ∈ tables_1, d.before a0 Z = true) (p1 : Int32) (p2 : Int32) (h0 : Heap) (n0 : Nat) (Z0 : n0 ≤ h0.size)  :
    MetN l Z (⟨"com/example/ringward/ringward/hash/MurmurHash3", "withWord", "(II)I"⟩ : MethodName) prog_34_method_6_code 2 (some .int) [] ({ frames := 2, cells := 0, slots := 0, locals := 26 } : Room) #[(.int p1), (.int p2)] h0 (Q4 Z p1 p2 h0 n0) := by
  refine met_n (plainFor_of_name pn_2) (fun m => ef_4 m p1 p2) ?_
  intro p e s m below meth c s₁ X0 hx hby hml hZ hown hnm hret hlk e0
  replace hown : s.vm.findClass "com/example/ringward/ringward/hash/MurmurHash3" = some m.cls := hown
  replace hnm : meth.name = "withWord" := hnm
  replace hret : meth.sig.returnType = (some .int) := hret
  have N0 := Fr.nil n0
  have K0 : Keep h0 h0 [] := Keep.refl _ _
  show Ok p e below _ _ s₁ (mkF m 0 #[.val (.int p1), .val (.int p2)] [])
  refine Ok.iloadN (pc' := 1) X0 hx (hb hby d4_0) rfl rfl ?_
  refine Ok.iloadN (pc' := 2) X0 hx (hb hby d4_1) rfl rfl ?_
  refine Ok.callS (pc' := 5) (W := 1)  (argsL := [(.int p2)]) (rest := [(.int p1)]) X0 hx hZ hown (rm3 l Z a0 hw p2 h0 n0 Z0 ) (hw _ (List.mem_of_getElem? (i := 138) rfl)) (hw _ (List.mem_of_getElem? (i := 139) rfl)) (hw _ (List.mem_of_getElem? (i := 92) rfl)) (hw _ (List.mem_of_getElem? (i := 140) rfl)) (by decide) e0 (by decide) (by decide) (by decide) (by decide) (lenOf pd_24 rfl) rfl rfl (Nat.le_of_eq rfl) (by rw [hml]; rfl) (hb hby d4_2) rfl ?_
  intro v2 T2 L2 X2 hQ2
  obtain ⟨rfl, Nq2, eq2⟩ := hQ2
  have N2 := Fr.app N0 Nq2
  show Ok p e below _ _ T2 (mkF m 5 #[.val (.int p1), .val (.int p2)] [(.int (mixv p2)), (.int p1)])
  refine Ok.ixor (pc' := 6) X2 hx (hb hby d4_5) rfl ?_
  refine Ok.bipush (z := (13 : Int32)) (pc' := 8) X2 hx (hb hby d4_6) rfl rfl ?_
  refine Ok.callS (pc' := 11) (W := 0)  (argsL := [(.int (p1 ^^^ (mixv p2))), (.int (13 : Int32))]) (rest := []) X2 hx hZ hown (rm2 l Z a0 hw (p1 ^^^ (mixv p2)) (13 : Int32) h0 n0 Z0 ) (hw _ (List.mem_of_getElem? (i := 142) rfl)) (hw _ (List.mem_of_getElem? (i := 143) rfl)) (hw _ (List.mem_of_getElem? (i := 144) rfl)) (hw _ (List.mem_of_getElem? (i := 145) rfl)) (by decide) eq2 (by decide) (by decide) (by decide) (by decide) (lenOf pd_23 rfl) rfl rfl (Nat.le_of_eq rfl) (by rw [hml]; rfl) (hb hby d4_8) rfl ?_
  intro v3 T3 L3 X3 hQ3
  obtain ⟨rfl, Nq3, eq3⟩ := hQ3
  have N3 := Fr.app N2 Nq3
  show Ok p e below _ _ T3 (mkF m 11 #[.val (.int p1), .val (.int p2)] [(.int (rotl (p1 ^^^ (mixv p2)) (13 : Int32)))])
  refine Ok.iconst (z := (5 : Int32)) (pc' := 12) X3 hx (hb hby d4_11) rfl rfl ?_
  refine Ok.imul (pc' := 13) X3 hx (hb hby d4_12) rfl ?_
  refine Ok.ldcI (pc' := 15) (v := (-430675100 : Int32)) X3 hx hZ hown (hw _ (List.mem_of_getElem? (i := 147) rfl)) (hb hby d4_13) rfl ?_
  refine Ok.iadd (pc' := 16) X3 hx (hb hby d4_15) rfl ?_
  refine Ok.retI X3 hx hret hlk (Or.inl rfl) rfl (hb hby d4_16) (by decide) (by decide) ?_
  show Q4 Z p1 p2 h0 n0 _ T3.heap _
  rw [eq3]
  exact ⟨rfl, N3, rfl⟩
theorem d5_0 : decode prog_34_method_9_code 0 = .ok (.iload_n 0, 1) := by decide +kernel
theorem d5_1 : decode prog_34_method_9_code 1 = .ok (.istore_n 1, 1) := by decide +kernel
theorem d5_2 : decode prog_34_method_9_code 2 = .ok (.iload_n 1, 1) := by decide +kernel
theorem d5_3 : decode prog_34_method_9_code 3 = .ok (.iload_n 1, 1) := by decide +kernel
theorem d5_4 : decode prog_34_method_9_code 4 = .ok (.bipush 16, 2) := by decide +kernel
theorem d5_6 : decode prog_34_method_9_code 6 = .ok (.iushr, 1) := by decide +kernel
theorem d5_7 : decode prog_34_method_9_code 7 = .ok (.ixor, 1) := by decide +kernel
theorem d5_8 : decode prog_34_method_9_code 8 = .ok (.istore_n 1, 1) := by decide +kernel
theorem d5_9 : decode prog_34_method_9_code 9 = .ok (.iload_n 1, 1) := by decide +kernel
theorem d5_10 : decode prog_34_method_9_code 10 = .ok (.ldc 97, 2) := by decide +kernel
theorem d5_12 : decode prog_34_method_9_code 12 = .ok (.imul, 1) := by decide +kernel
theorem d5_13 : decode prog_34_method_9_code 13 = .ok (.istore_n 1, 1) := by decide +kernel
theorem d5_14 : decode prog_34_method_9_code 14 = .ok (.iload_n 1, 1) := by decide +kernel
theorem d5_15 : decode prog_34_method_9_code 15 = .ok (.iload_n 1, 1) := by decide +kernel
theorem d5_16 : decode prog_34_method_9_code 16 = .ok (.bipush 13, 2) := by decide +kernel
theorem d5_18 : decode prog_34_method_9_code 18 = .ok (.iushr, 1) := by decide +kernel
theorem d5_19 : decode prog_34_method_9_code 19 = .ok (.ixor, 1) := by decide +kernel
theorem d5_20 : decode prog_34_method_9_code 20 = .ok (.istore_n 1, 1) := by decide +kernel
theorem d5_21 : decode prog_34_method_9_code 21 = .ok (.iload_n 1, 1) := by decide +kernel
theorem d5_22 : decode prog_34_method_9_code 22 = .ok (.ldc 98, 2) := by decide +kernel
theorem d5_24 : decode prog_34_method_9_code 24 = .ok (.imul, 1) := by decide +kernel
theorem d5_25 : decode prog_34_method_9_code 25 = .ok (.istore_n 1, 1) := by decide +kernel
theorem d5_26 : decode prog_34_method_9_code 26 = .ok (.iload_n 1, 1) := by decide +kernel
theorem d5_27 : decode prog_34_method_9_code 27 = .ok (.iload_n 1, 1) := by decide +kernel
theorem d5_28 : decode prog_34_method_9_code 28 = .ok (.bipush 16, 2) := by decide +kernel
theorem d5_30 : decode prog_34_method_9_code 30 = .ok (.iushr, 1) := by decide +kernel
theorem d5_31 : decode prog_34_method_9_code 31 = .ok (.ixor, 1) := by decide +kernel
theorem d5_32 : decode prog_34_method_9_code 32 = .ok (.istore_n 1, 1) := by decide +kernel
theorem d5_33 : decode prog_34_method_9_code 33 = .ok (.iload_n 1, 1) := by decide +kernel
theorem d5_34 : decode prog_34_method_9_code 34 = .ok (.ireturn, 1) := by decide +kernel
theorem ef_5 (m : MethodId) (x0 : Int32) : entryFrame m #[(.int x0)] 2 = mkF m 0 #[.val (.int x0), .unset] [] := by first | (simp [entryFrame, mkF, argsToLocals, Value.category]; done) | rfl
def Q5 (Z : State) (p1 : Int32) (h0 : Heap) (n0 : Nat) (v : Option Value) (h : Heap) (L : List Loc) : Prop := v = some (.int (fmv p1)) ∧ Fr n0 L ∧ h = h0
set_option maxRecDepth 65536 in
set_option maxHeartbeats 40000000 in
theorem rm5 (l : Launch) (Z : State) (a0 : Array Value) (hw : ∀ d ∈ tables_1, d.before a0 Z = true) (p1 : Int32) (h0 : Heap) (n0 : Nat) (Z0 : n0 ≤ h0.size)  :
    MetN l Z (⟨"com/example/ringward/ringward/hash/MurmurHash3", "finalMix", "(I)I"⟩ : MethodName) prog_34_method_9_code 2 (some .int) [] ({ frames := 0, cells := 0, slots := 0, locals := 0 } : Room) #[(.int p1)] h0 (Q5 Z p1 h0 n0) := by
  refine met_n (plainFor_of_name pn_2) (fun m => ef_5 m p1) ?_
  intro p e s m below meth c s₁ X0 hx hby hml hZ hown hnm hret hlk e0
  replace hown : s.vm.findClass "com/example/ringward/ringward/hash/MurmurHash3" = some m.cls := hown
  replace hnm : meth.name = "finalMix" := hnm
  replace hret : meth.sig.returnType = (some .int) := hret
  have N0 := Fr.nil n0
  have K0 : Keep h0 h0 [] := Keep.refl _ _
  show Ok p e below _ _ s₁ (mkF m 0 #[.val (.int p1), .unset] [])
  refine Ok.iloadN (pc' := 1) X0 hx (hb hby d5_0) rfl rfl ?_
  refine Ok.istoreN (l' := #[.val (.int p1), .val (.int p1)]) (pc' := 2) X0 hx (hb hby d5_1) rfl rfl ?_
  refine Ok.iloadN (pc' := 3) X0 hx (hb hby d5_2) rfl rfl ?_
  refine Ok.iloadN (pc' := 4) X0 hx (hb hby d5_3) rfl rfl ?_
  refine Ok.bipush (z := (16 : Int32)) (pc' := 6) X0 hx (hb hby d5_4) rfl rfl ?_
  refine Ok.iushr (pc' := 7) X0 hx (hb hby d5_6) rfl ?_
  refine Ok.ixor (pc' := 8) X0 hx (hb hby d5_7) rfl ?_
  refine Ok.istoreN (l' := #[.val (.int p1), .val (.int (p1 ^^^ ((p1.toUInt32 >>> ((16 : Int32) &&& 31).toUInt32).toInt32)))]) (pc' := 9) X0 hx (hb hby d5_8) rfl rfl ?_
  refine Ok.iloadN (pc' := 10) X0 hx (hb hby d5_9) rfl rfl ?_
  refine Ok.ldcI (pc' := 12) (v := (-2048144789 : Int32)) X0 hx hZ hown (hw _ (List.mem_of_getElem? (i := 154) rfl)) (hb hby d5_10) rfl ?_
  refine Ok.imul (pc' := 13) X0 hx (hb hby d5_12) rfl ?_
  refine Ok.istoreN (l' := #[.val (.int p1), .val (.int ((p1 ^^^ ((p1.toUInt32 >>> ((16 : Int32) &&& 31).toUInt32).toInt32)) * (-2048144789 : Int32)))]) (pc' := 14) X0 hx (hb hby d5_13) rfl rfl ?_
  refine Ok.iloadN (pc' := 15) X0 hx (hb hby d5_14) rfl rfl ?_
  refine Ok.iloadN (pc' := 16) X0 hx (hb hby d5_15) rfl rfl ?_
  refine Ok.bipush (z := (13 : Int32)) (pc' := 18) X0 hx (hb hby d5_16) rfl rfl ?_
  refine Ok.iushr (pc' := 19) X0 hx (hb hby d5_18) rfl ?_
  refine Ok.ixor (pc' := 20) X0 hx (hb hby d5_19) rfl ?_
  refine Ok.istoreN (l' := #[.val (.int p1), .val (.int (((p1 ^^^ ((p1.toUInt32 >>> ((16 : Int32) &&& 31).toUInt32).toInt32)) * (-2048144789 : Int32)) ^^^ ((((p1 ^^^ ((p1.toUInt32 >>> ((16 : Int32) &&& 31).toUInt32).toInt32)) * (-2048144789 : Int32)).toUInt32 >>> ((13 : Int32) &&& 31).toUInt32).toInt32)))]) (pc' := 21) X0 hx (hb hby d5_20) rfl rfl ?_
  refine Ok.iloadN (pc' := 22) X0 hx (hb hby d5_21) rfl rfl ?_
  refine Ok.ldcI (pc' := 24) (v := (-1028477387 : Int32)) X0 hx hZ hown (hw _ (List.mem_of_getElem? (i := 155) rfl)) (hb hby d5_22) rfl ?_
  refine Ok.imul (pc' := 25) X0 hx (hb hby d5_24) rfl ?_
  refine Ok.istoreN (l' := #[.val (.int p1), .val (.int ((((p1 ^^^ ((p1.toUInt32 >>> ((16 : Int32) &&& 31).toUInt32).toInt32)) * (-2048144789 : Int32)) ^^^ ((((p1 ^^^ ((p1.toUInt32 >>> ((16 : Int32) &&& 31).toUInt32).toInt32)) * (-2048144789 : Int32)).toUInt32 >>> ((13 : Int32) &&& 31).toUInt32).toInt32)) * (-1028477387 : Int32)))]) (pc' := 26) X0 hx (hb hby d5_25) rfl rfl ?_
  refine Ok.iloadN (pc' := 27) X0 hx (hb hby d5_26) rfl rfl ?_
  refine Ok.iloadN (pc' := 28) X0 hx (hb hby d5_27) rfl rfl ?_
  refine Ok.bipush (z := (16 : Int32)) (pc' := 30) X0 hx (hb hby d5_28) rfl rfl ?_
  refine Ok.iushr (pc' := 31) X0 hx (hb hby d5_30) rfl ?_
  refine Ok.ixor (pc' := 32) X0 hx (hb hby d5_31) rfl ?_
  refine Ok.istoreN (l' := #[.val (.int p1), .val (.int (((((p1 ^^^ ((p1.toUInt32 >>> ((16 : Int32) &&& 31).toUInt32).toInt32)) * (-2048144789 : Int32)) ^^^ ((((p1 ^^^ ((p1.toUInt32 >>> ((16 : Int32) &&& 31).toUInt32).toInt32)) * (-2048144789 : Int32)).toUInt32 >>> ((13 : Int32) &&& 31).toUInt32).toInt32)) * (-1028477387 : Int32)) ^^^ ((((((p1 ^^^ ((p1.toUInt32 >>> ((16 : Int32) &&& 31).toUInt32).toInt32)) * (-2048144789 : Int32)) ^^^ ((((p1 ^^^ ((p1.toUInt32 >>> ((16 : Int32) &&& 31).toUInt32).toInt32)) * (-2048144789 : Int32)).toUInt32 >>> ((13 : Int32) &&& 31).toUInt32).toInt32)) * (-1028477387 : Int32)).toUInt32 >>> ((16 : Int32) &&& 31).toUInt32).toInt32)))]) (pc' := 33) X0 hx (hb hby d5_32) rfl rfl ?_
  refine Ok.iloadN (pc' := 34) X0 hx (hb hby d5_33) rfl rfl ?_
  refine Ok.retI X0 hx hret hlk (Or.inl rfl) rfl (hb hby d5_34) (by decide) (by decide) ?_
  show Q5 Z p1 h0 n0 _ s₁.heap _
  rw [e0]
  exact ⟨rfl, N0, rfl⟩
theorem d6_0 : decode jdk_33_method_42_code 0 = .ok (.iload_n 0, 1) := by decide +kernel
theorem d6_1 : decode jdk_33_method_42_code 1 = .ok (.i2l, 1) := by decide +kernel
theorem d6_2 : decode jdk_33_method_42_code 2 = .ok (.ldc2_w 262, 3) := by decide +kernel
theorem d6_5 : decode jdk_33_method_42_code 5 = .ok (.land, 1) := by decide +kernel
theorem d6_6 : decode jdk_33_method_42_code 6 = .ok (.lreturn, 1) := by decide +kernel
theorem ef_6 (m : MethodId) (x0 : Int32) : entryFrame m #[(.int x0)] 1 = mkF m 0 #[.val (.int x0)] [] := by first | (simp [entryFrame, mkF, argsToLocals, Value.category]; done) | rfl
def Q6 (Z : State) (p1 : Int32) (h0 : Heap) (n0 : Nat) (v : Option Value) (h : Heap) (L : List Loc) : Prop := v = some (.long (ulv p1)) ∧ Fr n0 L ∧ h = h0
set_option maxRecDepth 65536 in
set_option maxHeartbeats 40000000 in
theorem rm6 (l : Launch) (Z : State) (a0 : Array Value) (hw : ∀ d ∈ tables_1, d.before a0 Z = true) (p1 : Int32) (h0 : Heap) (n0 : Nat) (Z0 : n0 ≤ h0.size)  :
    MetN l Z (⟨"java/lang/Integer", "toUnsignedLong", "(I)J"⟩ : MethodName) jdk_33_method_42_code 1 (some .long) [] ({ frames := 0, cells := 0, slots := 0, locals := 0 } : Room) #[(.int p1)] h0 (Q6 Z p1 h0 n0) := by
  refine met_n (plainFor_of_name pn_1) (fun m => ef_6 m p1) ?_
  intro p e s m below meth c s₁ X0 hx hby hml hZ hown hnm hret hlk e0
  replace hown : s.vm.findClass "java/lang/Integer" = some m.cls := hown
  replace hnm : meth.name = "toUnsignedLong" := hnm
  replace hret : meth.sig.returnType = (some .long) := hret
  have N0 := Fr.nil n0
  have K0 : Keep h0 h0 [] := Keep.refl _ _
  show Ok p e below _ _ s₁ (mkF m 0 #[.val (.int p1)] [])
  refine Ok.iloadN (pc' := 1) X0 hx (hb hby d6_0) rfl rfl ?_
  refine Ok.i2l (pc' := 2) X0 hx (hb hby d6_1) rfl ?_
  refine Ok.ldcJ (pc' := 5) (v := (4294967295 : Int64)) X0 hx hZ hown (hw _ (List.mem_of_getElem? (i := 159) rfl)) (hb hby d6_2) rfl ?_
  refine Ok.land (pc' := 6) X0 hx (hb hby d6_5) rfl ?_
  refine Ok.retJ X0 hx hret hlk (hb hby d6_6) (by decide) (by decide) ?_
  show Q6 Z p1 h0 n0 _ s₁.heap _
  rw [e0]
  exact ⟨rfl, N0, rfl⟩
theorem d7_0 : decode prog_34_method_7_code 0 = .ok (.iload_n 0, 1) := by decide +kernel
theorem d7_1 : decode prog_34_method_7_code 1 = .ok (.iload_n 1, 1) := by decide +kernel
theorem d7_2 : decode prog_34_method_7_code 2 = .ok (.invokestatic 81, 3) := by decide +kernel
theorem d7_5 : decode prog_34_method_7_code 5 = .ok (.ixor, 1) := by decide +kernel
theorem d7_6 : decode prog_34_method_7_code 6 = .ok (.iload_n 2, 1) := by decide +kernel
theorem d7_7 : decode prog_34_method_7_code 7 = .ok (.ixor, 1) := by decide +kernel
theorem d7_8 : decode prog_34_method_7_code 8 = .ok (.invokestatic 88, 3) := by decide +kernel
theorem d7_11 : decode prog_34_method_7_code 11 = .ok (.istore_n 3, 1) := by decide +kernel
theorem d7_12 : decode prog_34_method_7_code 12 = .ok (.iload_n 3, 1) := by decide +kernel
theorem d7_13 : decode prog_34_method_7_code 13 = .ok (.invokestatic 91, 3) := by decide +kernel
theorem d7_16 : decode prog_34_method_7_code 16 = .ok (.lreturn, 1) := by decide +kernel
theorem ef_7 (m : MethodId) (x0 : Int32) (x1 : Int32) (x2 : Int32) : entryFrame m #[(.int x0), (.int x1), (.int x2)] 4 = mkF m 0 #[.val (.int x0), .val (.int x1), .val (.int x2), .unset] [] := by first | (simp [entryFrame, mkF, argsToLocals, Value.category]; done) | rfl
def Q7 (Z : State) (p1 : Int32) (p2 : Int32) (p3 : Int32) (h0 : Heap) (n0 : Nat) (v : Option Value) (h : Heap) (L : List Loc) : Prop := v = some (.long (finv p1 p2 p3)) ∧ Fr n0 L ∧ h = h0
set_option maxRecDepth 65536 in
set_option maxHeartbeats 40000000 in
theorem rm7 (l : Launch) (Z : State) (a0 : Array Value) (hw : ∀ d ∈ tables_1, d.before a0 Z = true) (p1 : Int32) (p2 : Int32) (p3 : Int32) (h0 : Heap) (n0 : Nat) (Z0 : n0 ≤ h0.size)  :
    MetN l Z (⟨"com/example/ringward/ringward/hash/MurmurHash3", "finished", "(III)J"⟩ : MethodName) prog_34_method_7_code 4 (some .long) [] ({ frames := 2, cells := 0, slots := 0, locals := 26 } : Room) #[(.int p1), (.int p2), (.int p3)] h0 (Q7 Z p1 p2 p3 h0 n0) := by
  refine met_n (plainFor_of_name pn_2) (fun m => ef_7 m p1 p2 p3) ?_
  intro p e s m below meth c s₁ X0 hx hby hml hZ hown hnm hret hlk e0
  replace hown : s.vm.findClass "com/example/ringward/ringward/hash/MurmurHash3" = some m.cls := hown
  replace hnm : meth.name = "finished" := hnm
  replace hret : meth.sig.returnType = (some .long) := hret
  have N0 := Fr.nil n0
  have K0 : Keep h0 h0 [] := Keep.refl _ _
  show Ok p e below _ _ s₁ (mkF m 0 #[.val (.int p1), .val (.int p2), .val (.int p3), .unset] [])
  refine Ok.iloadN (pc' := 1) X0 hx (hb hby d7_0) rfl rfl ?_
  refine Ok.iloadN (pc' := 2) X0 hx (hb hby d7_1) rfl rfl ?_
  refine Ok.callS (pc' := 5) (W := 1)  (argsL := [(.int p2)]) (rest := [(.int p1)]) X0 hx hZ hown (rm3 l Z a0 hw p2 h0 n0 Z0 ) (hw _ (List.mem_of_getElem? (i := 138) rfl)) (hw _ (List.mem_of_getElem? (i := 139) rfl)) (hw _ (List.mem_of_getElem? (i := 92) rfl)) (hw _ (List.mem_of_getElem? (i := 140) rfl)) (by decide) e0 (by decide) (by decide) (by decide) (by decide) (lenOf pd_24 rfl) rfl rfl (Nat.le_of_eq rfl) (by rw [hml]; rfl) (hb hby d7_2) rfl ?_
  intro v4 T4 L4 X4 hQ4
  obtain ⟨rfl, Nq4, eq4⟩ := hQ4
  have N4 := Fr.app N0 Nq4
  show Ok p e below _ _ T4 (mkF m 5 #[.val (.int p1), .val (.int p2), .val (.int p3), .unset] [(.int (mixv p2)), (.int p1)])
  refine Ok.ixor (pc' := 6) X4 hx (hb hby d7_5) rfl ?_
  refine Ok.iloadN (pc' := 7) X4 hx (hb hby d7_6) rfl rfl ?_
  refine Ok.ixor (pc' := 8) X4 hx (hb hby d7_7) rfl ?_
  refine Ok.callS (pc' := 11) (W := 0)  (argsL := [(.int ((p1 ^^^ (mixv p2)) ^^^ p3))]) (rest := []) X4 hx hZ hown (rm5 l Z a0 hw ((p1 ^^^ (mixv p2)) ^^^ p3) h0 n0 Z0 ) (hw _ (List.mem_of_getElem? (i := 151) rfl)) (hw _ (List.mem_of_getElem? (i := 152) rfl)) (hw _ (List.mem_of_getElem? (i := 92) rfl)) (hw _ (List.mem_of_getElem? (i := 153) rfl)) (by decide) eq4 (by decide) (by decide) (by decide) (by decide) (lenOf pd_24 rfl) rfl rfl (Nat.le_of_eq rfl) (by rw [hml]; rfl) (hb hby d7_8) rfl ?_
  intro v5 T5 L5 X5 hQ5
  obtain ⟨rfl, Nq5, eq5⟩ := hQ5
  have N5 := Fr.app N4 Nq5
  show Ok p e below _ _ T5 (mkF m 11 #[.val (.int p1), .val (.int p2), .val (.int p3), .unset] [(.int (fmv ((p1 ^^^ (mixv p2)) ^^^ p3)))])
  refine Ok.istoreN (l' := #[.val (.int p1), .val (.int p2), .val (.int p3), .val (.int (fmv ((p1 ^^^ (mixv p2)) ^^^ p3)))]) (pc' := 12) X5 hx (hb hby d7_11) rfl rfl ?_
  refine Ok.iloadN (pc' := 13) X5 hx (hb hby d7_12) rfl rfl ?_
  refine Ok.callS (pc' := 16) (W := 0)  (argsL := [(.int (fmv ((p1 ^^^ (mixv p2)) ^^^ p3)))]) (rest := []) X5 hx hZ hown (rm6 l Z a0 hw (fmv ((p1 ^^^ (mixv p2)) ^^^ p3)) h0 n0 Z0 ) (hw _ (List.mem_of_getElem? (i := 156) rfl)) (hw _ (List.mem_of_getElem? (i := 157) rfl)) (hw _ (List.mem_of_getElem? (i := 144) rfl)) (hw _ (List.mem_of_getElem? (i := 158) rfl)) (by decide) eq5 (by decide) (by decide) (by decide) (by decide) (lenOf pd_26 rfl) rfl rfl (Nat.le_of_eq rfl) (by rw [hml]; rfl) (hb hby d7_13) rfl ?_
  intro v6 T6 L6 X6 hQ6
  obtain ⟨rfl, Nq6, eq6⟩ := hQ6
  have N6 := Fr.app N5 Nq6
  show Ok p e below _ _ T6 (mkF m 16 #[.val (.int p1), .val (.int p2), .val (.int p3), .val (.int (fmv ((p1 ^^^ (mixv p2)) ^^^ p3)))] [(.long (ulv (fmv ((p1 ^^^ (mixv p2)) ^^^ p3))))])
  refine Ok.retJ X6 hx hret hlk (hb hby d7_16) (by decide) (by decide) ?_
  show Q7 Z p1 p2 p3 h0 n0 _ T6.heap _
  rw [eq6]
  exact ⟨rfl, N6, rfl⟩
theorem d8_0 : decode prog_34_method_5_code 0 = .ok (.sipush 128, 3) := by decide +kernel
theorem d8_3 : decode prog_34_method_5_code 3 = .ok (.iload_n 0, 1) := by decide +kernel
theorem d8_4 : decode prog_34_method_5_code 4 = .ok (.bipush 63, 2) := by decide +kernel
theorem d8_6 : decode prog_34_method_5_code 6 = .ok (.iand, 1) := by decide +kernel
theorem d8_7 : decode prog_34_method_5_code 7 = .ok (.ior, 1) := by decide +kernel
theorem d8_8 : decode prog_34_method_5_code 8 = .ok (.ireturn, 1) := by decide +kernel
theorem ef_8 (m : MethodId) (x0 : Int32) : entryFrame m #[(.int x0)] 1 = mkF m 0 #[.val (.int x0)] [] := by first | (simp [entryFrame, mkF, argsToLocals, Value.category]; done) | rfl
def Q8 (Z : State) (p1 : Int32) (h0 : Heap) (n0 : Nat) (v : Option Value) (h : Heap) (L : List Loc) : Prop := v = some (.int (cont p1)) ∧ Fr n0 L ∧ h = h0
set_option maxRecDepth 65536 in
set_option maxHeartbeats 40000000 in
theorem rm8 (l : Launch) (Z : State) (a0 : Array Value) (hw : ∀ d ∈ tables_1, d.before a0 Z = true) (p1 : Int32) (h0 : Heap) (n0 : Nat) (Z0 : n0 ≤ h0.size)  :
    MetN l Z (⟨"com/example/ringward/ringward/hash/MurmurHash3", "continuation", "(I)I"⟩ : MethodName) prog_34_method_5_code 1 (some .int) [] ({ frames := 0, cells := 0, slots := 0, locals := 0 } : Room) #[(.int p1)] h0 (Q8 Z p1 h0 n0) := by
  refine met_n (plainFor_of_name pn_2) (fun m => ef_8 m p1) ?_
  intro p e s m below meth c s₁ X0 hx hby hml hZ hown hnm hret hlk e0
  replace hown : s.vm.findClass "com/example/ringward/ringward/hash/MurmurHash3" = some m.cls := hown
  replace hnm : meth.name = "continuation" := hnm
  replace hret : meth.sig.returnType = (some .int) := hret
  have N0 := Fr.nil n0
  have K0 : Keep h0 h0 [] := Keep.refl _ _
  show Ok p e below _ _ s₁ (mkF m 0 #[.val (.int p1)] [])
  refine Ok.sipush (z := (128 : Int32)) (pc' := 3) X0 hx (hb hby d8_0) rfl rfl ?_
  refine Ok.iloadN (pc' := 4) X0 hx (hb hby d8_3) rfl rfl ?_
  refine Ok.bipush (z := (63 : Int32)) (pc' := 6) X0 hx (hb hby d8_4) rfl rfl ?_
  refine Ok.iand (pc' := 7) X0 hx (hb hby d8_6) rfl ?_
  refine Ok.ior (pc' := 8) X0 hx (hb hby d8_7) rfl ?_
  refine Ok.retI X0 hx hret hlk (Or.inl rfl) rfl (hb hby d8_8) (by decide) (by decide) ?_
  show Q8 Z p1 h0 n0 _ s₁.heap _
  rw [e0]
  exact ⟨rfl, N0, rfl⟩
theorem d10_0 : decode jdk_52_method_21_code 0 = .ok (.iconst 0, 1) := by decide +kernel
theorem d10_1 : decode jdk_52_method_21_code 1 = .ok (.istore 5, 2) := by decide +kernel
theorem d10_3 : decode jdk_52_method_21_code 3 = .ok (.iload 5, 2) := by decide +kernel
theorem d10_5 : decode jdk_52_method_21_code 5 = .ok (.iload 4, 2) := by decide +kernel
theorem d10_7 : decode jdk_52_method_21_code 7 = .ok (.if_icmp .ge 37, 3) := by decide +kernel
theorem d10_10 : decode jdk_52_method_21_code 10 = .ok (.aload_n 0, 1) := by decide +kernel
theorem d10_11 : decode jdk_52_method_21_code 11 = .ok (.iload_n 1, 1) := by decide +kernel
theorem d10_12 : decode jdk_52_method_21_code 12 = .ok (.caload, 1) := by decide +kernel
theorem d10_13 : decode jdk_52_method_21_code 13 = .ok (.istore 6, 2) := by decide +kernel
theorem d10_15 : decode jdk_52_method_21_code 15 = .ok (.iload 6, 2) := by decide +kernel
theorem d10_17 : decode jdk_52_method_21_code 17 = .ok (.sipush 255, 3) := by decide +kernel
theorem d10_20 : decode jdk_52_method_21_code 20 = .ok (.if_icmp .le 6, 3) := by decide +kernel
theorem d10_23 : decode jdk_52_method_21_code 23 = .ok (.iload 5, 2) := by decide +kernel
theorem d10_25 : decode jdk_52_method_21_code 25 = .ok (.ireturn, 1) := by decide +kernel
theorem d10_26 : decode jdk_52_method_21_code 26 = .ok (.aload_n 2, 1) := by decide +kernel
theorem d10_27 : decode jdk_52_method_21_code 27 = .ok (.iload_n 3, 1) := by decide +kernel
theorem d10_28 : decode jdk_52_method_21_code 28 = .ok (.iload 6, 2) := by decide +kernel
theorem d10_30 : decode jdk_52_method_21_code 30 = .ok (.i2b, 1) := by decide +kernel
theorem d10_31 : decode jdk_52_method_21_code 31 = .ok (.bastore, 1) := by decide +kernel
theorem d10_32 : decode jdk_52_method_21_code 32 = .ok (.iinc 1 1, 3) := by decide +kernel
theorem d10_35 : decode jdk_52_method_21_code 35 = .ok (.iinc 3 1, 3) := by decide +kernel
theorem d10_38 : decode jdk_52_method_21_code 38 = .ok (.iinc 5 1, 3) := by decide +kernel
theorem d10_41 : decode jdk_52_method_21_code 41 = .ok (.goto (-38), 3) := by decide +kernel
theorem d10_44 : decode jdk_52_method_21_code 44 = .ok (.iload 4, 2) := by decide +kernel
theorem d10_46 : decode jdk_52_method_21_code 46 = .ok (.ireturn, 1) := by decide +kernel
theorem pn_3 : plainName "java/lang/StringUTF16" = true := by first | (simp [plainName, overriddenIn]; done) | decide +kernel
theorem ef_10 (m : MethodId) (x0 : Addr) (x1 : Int32) (x2 : Addr) (x3 : Int32) (x4 : Int32) : entryFrame m #[(.ref x0), (.int x1), (.ref x2), (.int x3), (.int x4)] 7 = mkF m 0 #[.val (.ref x0), .val (.int x1), .val (.ref x2), .val (.int x3), .val (.int x4), .unset, .unset] [] := by first | (simp [entryFrame, mkF, argsToLocals, Value.category]; done) | rfl
def Q10 (Z : State) (a1 : Addr) (k1 : ClassId) (a2 : Addr) (k2 : ClassId) (c0 : Int32) (c1 : Int32) (c2 : Int32) (c3 : Int32) (h0 : Heap) (n0 : Nat) (v : Option Value) (h : Heap) (L : List Loc) : Prop := v = some (.int (4 : Int32)) ∧ Fr n0 L ∧ Keep h0 h [a2] ∧ Arv Z h a2 k2 .byte (4 : Int32) [(.int c0.toInt8.toInt32.toInt8.toInt32), (.int c1.toInt8.toInt32.toInt8.toInt32), (.int c2.toInt8.toInt32.toInt8.toInt32), (.int c3.toInt8.toInt32.toInt8.toInt32)] (.int (0 : Int32))
set_option maxRecDepth 65536 in
set_option maxHeartbeats 40000000 in
theorem rm10 (l : Launch) (Z : State) (a0 : Array Value) (hw : ∀ d ∈ tables_1, d.before a0 Z = true) (a1 : Addr) (k1 : ClassId) (a2 : Addr) (k2 : ClassId) (c0 : Int32) (c1 : Int32) (c2 : Int32) (c3 : Int32) (h0 : Heap) (n0 : Nat) (Z0 : n0 ≤ h0.size) (V_1 : Arv Z h0 a1 k1 .char (4 : Int32) [(.int c0), (.int c1), (.int c2), (.int c3)] (.int (0 : Int32))) (V_2 : Arv Z h0 a2 k2 .byte (4 : Int32) [(.int (0 : Int32)), (.int (0 : Int32)), (.int (0 : Int32)), (.int (0 : Int32))] (.int (0 : Int32))) (g_a2 : n0 ≤ a2) (ne_12 : a1 ≠ a2) (hc0 : 0 ≤ c0.toInt ∧ c0.toInt ≤ 255) (hc1 : 0 ≤ c1.toInt ∧ c1.toInt ≤ 255) (hc2 : 0 ≤ c2.toInt ∧ c2.toInt ≤ 255) (hc3 : 0 ≤ c3.toInt ∧ c3.toInt ≤ 255) :
    MetN l Z (⟨"java/lang/StringUTF16", "compress", "([CI[BII)I"⟩ : MethodName) jdk_52_method_21_code 7 (some .int) [] ({ frames := 0, cells := 0, slots := 0, locals := 0 } : Room) #[(.ref a1), (.int (0 : Int32)), (.ref a2), (.int (0 : Int32)), (.int (4 : Int32))] h0 (Q10 Z a1 k1 a2 k2 c0 c1 c2 c3 h0 n0) := by
  refine met_n (plainFor_of_name pn_3) (fun m => ef_10 m a1 (0 : Int32) a2 (0 : Int32) (4 : Int32)) ?_
  intro p e s m below meth c s₁ X0 hx hby hml hZ hown hnm hret hlk e0
  replace hown : s.vm.findClass "java/lang/StringUTF16" = some m.cls := hown
  replace hnm : meth.name = "compress" := hnm
  replace hret : meth.sig.returnType = (some .int) := hret
  have N0 := Fr.nil n0
  have K0 : Keep h0 h0 [a2] := Keep.refl _ _
  show Ok p e below _ _ s₁ (mkF m 0 #[.val (.ref a1), .val (.int (0 : Int32)), .val (.ref a2), .val (.int (0 : Int32)), .val (.int (4 : Int32)), .unset, .unset] [])
  refine Ok.iconst (z := (0 : Int32)) (pc' := 1) X0 hx (hb hby d10_0) rfl rfl ?_
  refine Ok.istore (l' := #[.val (.ref a1), .val (.int (0 : Int32)), .val (.ref a2), .val (.int (0 : Int32)), .val (.int (4 : Int32)), .val (.int (0 : Int32)), .unset]) (pc' := 3) X0 hx (hb hby d10_1) rfl rfl ?_
  refine Ok.iload (pc' := 5) X0 hx (hb hby d10_3) rfl rfl ?_
  refine Ok.iload (pc' := 7) X0 hx (hb hby d10_5) rfl rfl ?_
  refine Ok.icN (pc' := 10) X0 hx (hb hby d10_7) (bf (ic_eq (0 : Int32) (4 : Int32)).2.2.2.1 (by decide)) rfl ?_
  refine Ok.aloadN (pc' := 11) X0 hx (hb hby d10_10) rfl rfl rfl ?_
  refine Ok.iloadN (pc' := 12) X0 hx (hb hby d10_11) rfl rfl ?_
  refine Ok.ldC (pc' := 13) (v := (.int c0)) X0 hx hZ e0 V_1 ⟨by decide, by decide⟩ rfl (hb hby d10_12) rfl ?_
  refine Ok.istore (l' := #[.val (.ref a1), .val (.int (0 : Int32)), .val (.ref a2), .val (.int (0 : Int32)), .val (.int (4 : Int32)), .val (.int (0 : Int32)), .val (.int c0)]) (pc' := 15) X0 hx (hb hby d10_13) rfl rfl ?_
  refine Ok.iload (pc' := 17) X0 hx (hb hby d10_15) rfl rfl ?_
  refine Ok.sipush (z := (255 : Int32)) (pc' := 20) X0 hx (hb hby d10_17) rfl rfl ?_
  refine Ok.icY (pc' := 26) X0 hx (hb hby d10_20) (bt (ic_eq c0 (255 : Int32)).2.2.2.2.2 (show c0.toInt ≤ 255 from hc0.2)) (by decide) (by decide) ?_
  refine Ok.aloadN (pc' := 27) X0 hx (hb hby d10_26) rfl rfl rfl ?_
  refine Ok.iloadN (pc' := 28) X0 hx (hb hby d10_27) rfl rfl ?_
  refine Ok.iload (pc' := 30) X0 hx (hb hby d10_28) rfl rfl ?_
  refine Ok.i2b (pc' := 31) X0 hx (hb hby d10_30) rfl ?_
  refine Ok.stB (pc' := 32) (i := 0) X0 hx hZ e0 V_2 ⟨by decide, by decide⟩ rfl (Nat.le_of_ble_eq_true rfl) (hb hby d10_31) rfl ?_
  intro T7 h7 X7 e7 W7 V7
  replace V_1 := V_1.other W7 ne_12
  replace V7 : Arv Z h7 a2 k2 .byte (4 : Int32) [(.int c0.toInt8.toInt32.toInt8.toInt32), (.int (0 : Int32)), (.int (0 : Int32)), (.int (0 : Int32))] (.int (0 : Int32)) := V7
  have N7 := Fr.snoc X7 N0 g_a2
  have K7 : Keep h0 h7 [a2] := K0.wr W7 (Or.inl (List.mem_of_getElem? (i := 0) rfl))
  have Z8 : n0 ≤ h7.size := Nat.le_trans Z0 (Keep.of_wr W7).1
  refine Ok.iinc (z := (1 : Int32)) (l' := #[.val (.ref a1), .val (.int (1 : Int32)), .val (.ref a2), .val (.int (0 : Int32)), .val (.int (4 : Int32)), .val (.int (0 : Int32)), .val (.int c0)]) (pc' := 35) X7 hx (hb hby d10_32) rfl rfl rfl rfl ?_
  refine Ok.iinc (z := (1 : Int32)) (l' := #[.val (.ref a1), .val (.int (1 : Int32)), .val (.ref a2), .val (.int (1 : Int32)), .val (.int (4 : Int32)), .val (.int (0 : Int32)), .val (.int c0)]) (pc' := 38) X7 hx (hb hby d10_35) rfl rfl rfl rfl ?_
  refine Ok.iinc (z := (1 : Int32)) (l' := #[.val (.ref a1), .val (.int (1 : Int32)), .val (.ref a2), .val (.int (1 : Int32)), .val (.int (4 : Int32)), .val (.int (1 : Int32)), .val (.int c0)]) (pc' := 41) X7 hx (hb hby d10_38) rfl rfl rfl rfl ?_
  refine Ok.goto (pc' := 3) X7 hx (hb hby d10_41) (by decide) (by decide) ?_
  refine Ok.iload (pc' := 5) X7 hx (hb hby d10_3) rfl rfl ?_
  refine Ok.iload (pc' := 7) X7 hx (hb hby d10_5) rfl rfl ?_
  refine Ok.icN (pc' := 10) X7 hx (hb hby d10_7) (bf (ic_eq (1 : Int32) (4 : Int32)).2.2.2.1 (by decide)) rfl ?_
  refine Ok.aloadN (pc' := 11) X7 hx (hb hby d10_10) rfl rfl rfl ?_
  refine Ok.iloadN (pc' := 12) X7 hx (hb hby d10_11) rfl rfl ?_
  refine Ok.ldC (pc' := 13) (v := (.int c1)) X7 hx hZ e7 V_1 ⟨by decide, by decide⟩ rfl (hb hby d10_12) rfl ?_
  refine Ok.istore (l' := #[.val (.ref a1), .val (.int (1 : Int32)), .val (.ref a2), .val (.int (1 : Int32)), .val (.int (4 : Int32)), .val (.int (1 : Int32)), .val (.int c1)]) (pc' := 15) X7 hx (hb hby d10_13) rfl rfl ?_
  refine Ok.iload (pc' := 17) X7 hx (hb hby d10_15) rfl rfl ?_
  refine Ok.sipush (z := (255 : Int32)) (pc' := 20) X7 hx (hb hby d10_17) rfl rfl ?_
  refine Ok.icY (pc' := 26) X7 hx (hb hby d10_20) (bt (ic_eq c1 (255 : Int32)).2.2.2.2.2 (show c1.toInt ≤ 255 from hc1.2)) (by decide) (by decide) ?_
  refine Ok.aloadN (pc' := 27) X7 hx (hb hby d10_26) rfl rfl rfl ?_
  refine Ok.iloadN (pc' := 28) X7 hx (hb hby d10_27) rfl rfl ?_
  refine Ok.iload (pc' := 30) X7 hx (hb hby d10_28) rfl rfl ?_
  refine Ok.i2b (pc' := 31) X7 hx (hb hby d10_30) rfl ?_
  refine Ok.stB (pc' := 32) (i := 1) X7 hx hZ e7 V7 ⟨by decide, by decide⟩ rfl (Nat.le_of_ble_eq_true rfl) (hb hby d10_31) rfl ?_
  intro T9 h9 X9 e9 W9 V9
  replace V_1 := V_1.other W9 ne_12
  replace V9 : Arv Z h9 a2 k2 .byte (4 : Int32) [(.int c0.toInt8.toInt32.toInt8.toInt32), (.int c1.toInt8.toInt32.toInt8.toInt32), (.int (0 : Int32)), (.int (0 : Int32))] (.int (0 : Int32)) := V9
  have N9 := Fr.snoc X9 N7 g_a2
  have K9 : Keep h0 h9 [a2] := K7.wr W9 (Or.inl (List.mem_of_getElem? (i := 0) rfl))
  have Z10 : n0 ≤ h9.size := Nat.le_trans Z8 (Keep.of_wr W9).1
  refine Ok.iinc (z := (2 : Int32)) (l' := #[.val (.ref a1), .val (.int (2 : Int32)), .val (.ref a2), .val (.int (1 : Int32)), .val (.int (4 : Int32)), .val (.int (1 : Int32)), .val (.int c1)]) (pc' := 35) X9 hx (hb hby d10_32) rfl rfl rfl rfl ?_
  refine Ok.iinc (z := (2 : Int32)) (l' := #[.val (.ref a1), .val (.int (2 : Int32)), .val (.ref a2), .val (.int (2 : Int32)), .val (.int (4 : Int32)), .val (.int (1 : Int32)), .val (.int c1)]) (pc' := 38) X9 hx (hb hby d10_35) rfl rfl rfl rfl ?_
  refine Ok.iinc (z := (2 : Int32)) (l' := #[.val (.ref a1), .val (.int (2 : Int32)), .val (.ref a2), .val (.int (2 : Int32)), .val (.int (4 : Int32)), .val (.int (2 : Int32)), .val (.int c1)]) (pc' := 41) X9 hx (hb hby d10_38) rfl rfl rfl rfl ?_
  refine Ok.goto (pc' := 3) X9 hx (hb hby d10_41) (by decide) (by decide) ?_
  refine Ok.iload (pc' := 5) X9 hx (hb hby d10_3) rfl rfl ?_
  refine Ok.iload (pc' := 7) X9 hx (hb hby d10_5) rfl rfl ?_
  refine Ok.icN (pc' := 10) X9 hx (hb hby d10_7) (bf (ic_eq (2 : Int32) (4 : Int32)).2.2.2.1 (by decide)) rfl ?_
  refine Ok.aloadN (pc' := 11) X9 hx (hb hby d10_10) rfl rfl rfl ?_
  refine Ok.iloadN (pc' := 12) X9 hx (hb hby d10_11) rfl rfl ?_
  refine Ok.ldC (pc' := 13) (v := (.int c2)) X9 hx hZ e9 V_1 ⟨by decide, by decide⟩ rfl (hb hby d10_12) rfl ?_
  refine Ok.istore (l' := #[.val (.ref a1), .val (.int (2 : Int32)), .val (.ref a2), .val (.int (2 : Int32)), .val (.int (4 : Int32)), .val (.int (2 : Int32)), .val (.int c2)]) (pc' := 15) X9 hx (hb hby d10_13) rfl rfl ?_
  refine Ok.iload (pc' := 17) X9 hx (hb hby d10_15) rfl rfl ?_
  refine Ok.sipush (z := (255 : Int32)) (pc' := 20) X9 hx (hb hby d10_17) rfl rfl ?_
  refine Ok.icY (pc' := 26) X9 hx (hb hby d10_20) (bt (ic_eq c2 (255 : Int32)).2.2.2.2.2 (show c2.toInt ≤ 255 from hc2.2)) (by decide) (by decide) ?_
  refine Ok.aloadN (pc' := 27) X9 hx (hb hby d10_26) rfl rfl rfl ?_
  refine Ok.iloadN (pc' := 28) X9 hx (hb hby d10_27) rfl rfl ?_
  refine Ok.iload (pc' := 30) X9 hx (hb hby d10_28) rfl rfl ?_
  refine Ok.i2b (pc' := 31) X9 hx (hb hby d10_30) rfl ?_
  refine Ok.stB (pc' := 32) (i := 2) X9 hx hZ e9 V9 ⟨by decide, by decide⟩ rfl (Nat.le_of_ble_eq_true rfl) (hb hby d10_31) rfl ?_
  intro T11 h11 X11 e11 W11 V11
  replace V_1 := V_1.other W11 ne_12
  replace V11 : Arv Z h11 a2 k2 .byte (4 : Int32) [(.int c0.toInt8.toInt32.toInt8.toInt32), (.int c1.toInt8.toInt32.toInt8.toInt32), (.int c2.toInt8.toInt32.toInt8.toInt32), (.int (0 : Int32))] (.int (0 : Int32)) := V11
  have N11 := Fr.snoc X11 N9 g_a2
  have K11 : Keep h0 h11 [a2] := K9.wr W11 (Or.inl (List.mem_of_getElem? (i := 0) rfl))
  have Z12 : n0 ≤ h11.size := Nat.le_trans Z10 (Keep.of_wr W11).1
  refine Ok.iinc (z := (3 : Int32)) (l' := #[.val (.ref a1), .val (.int (3 : Int32)), .val (.ref a2), .val (.int (2 : Int32)), .val (.int (4 : Int32)), .val (.int (2 : Int32)), .val (.int c2)]) (pc' := 35) X11 hx (hb hby d10_32) rfl rfl rfl rfl ?_
  refine Ok.iinc (z := (3 : Int32)) (l' := #[.val (.ref a1), .val (.int (3 : Int32)), .val (.ref a2), .val (.int (3 : Int32)), .val (.int (4 : Int32)), .val (.int (2 : Int32)), .val (.int c2)]) (pc' := 38) X11 hx (hb hby d10_35) rfl rfl rfl rfl ?_
  refine Ok.iinc (z := (3 : Int32)) (l' := #[.val (.ref a1), .val (.int (3 : Int32)), .val (.ref a2), .val (.int (3 : Int32)), .val (.int (4 : Int32)), .val (.int (3 : Int32)), .val (.int c2)]) (pc' := 41) X11 hx (hb hby d10_38) rfl rfl rfl rfl ?_
  refine Ok.goto (pc' := 3) X11 hx (hb hby d10_41) (by decide) (by decide) ?_
  refine Ok.iload (pc' := 5) X11 hx (hb hby d10_3) rfl rfl ?_
  refine Ok.iload (pc' := 7) X11 hx (hb hby d10_5) rfl rfl ?_
  refine Ok.icN (pc' := 10) X11 hx (hb hby d10_7) (bf (ic_eq (3 : Int32) (4 : Int32)).2.2.2.1 (by decide)) rfl ?_
  refine Ok.aloadN (pc' := 11) X11 hx (hb hby d10_10) rfl rfl rfl ?_
  refine Ok.iloadN (pc' := 12) X11 hx (hb hby d10_11) rfl rfl ?_
  refine Ok.ldC (pc' := 13) (v := (.int c3)) X11 hx hZ e11 V_1 ⟨by decide, by decide⟩ rfl (hb hby d10_12) rfl ?_
  refine Ok.istore (l' := #[.val (.ref a1), .val (.int (3 : Int32)), .val (.ref a2), .val (.int (3 : Int32)), .val (.int (4 : Int32)), .val (.int (3 : Int32)), .val (.int c3)]) (pc' := 15) X11 hx (hb hby d10_13) rfl rfl ?_
  refine Ok.iload (pc' := 17) X11 hx (hb hby d10_15) rfl rfl ?_
  refine Ok.sipush (z := (255 : Int32)) (pc' := 20) X11 hx (hb hby d10_17) rfl rfl ?_
  refine Ok.icY (pc' := 26) X11 hx (hb hby d10_20) (bt (ic_eq c3 (255 : Int32)).2.2.2.2.2 (show c3.toInt ≤ 255 from hc3.2)) (by decide) (by decide) ?_
  refine Ok.aloadN (pc' := 27) X11 hx (hb hby d10_26) rfl rfl rfl ?_
  refine Ok.iloadN (pc' := 28) X11 hx (hb hby d10_27) rfl rfl ?_
  refine Ok.iload (pc' := 30) X11 hx (hb hby d10_28) rfl rfl ?_
  refine Ok.i2b (pc' := 31) X11 hx (hb hby d10_30) rfl ?_
  refine Ok.stB (pc' := 32) (i := 3) X11 hx hZ e11 V11 ⟨by decide, by decide⟩ rfl (Nat.le_of_ble_eq_true rfl) (hb hby d10_31) rfl ?_
  intro T13 h13 X13 e13 W13 V13
  replace V_1 := V_1.other W13 ne_12
  replace V13 : Arv Z h13 a2 k2 .byte (4 : Int32) [(.int c0.toInt8.toInt32.toInt8.toInt32), (.int c1.toInt8.toInt32.toInt8.toInt32), (.int c2.toInt8.toInt32.toInt8.toInt32), (.int c3.toInt8.toInt32.toInt8.toInt32)] (.int (0 : Int32)) := V13
  have N13 := Fr.snoc X13 N11 g_a2
  have K13 : Keep h0 h13 [a2] := K11.wr W13 (Or.inl (List.mem_of_getElem? (i := 0) rfl))
  have Z14 : n0 ≤ h13.size := Nat.le_trans Z12 (Keep.of_wr W13).1
  refine Ok.iinc (z := (4 : Int32)) (l' := #[.val (.ref a1), .val (.int (4 : Int32)), .val (.ref a2), .val (.int (3 : Int32)), .val (.int (4 : Int32)), .val (.int (3 : Int32)), .val (.int c3)]) (pc' := 35) X13 hx (hb hby d10_32) rfl rfl rfl rfl ?_
  refine Ok.iinc (z := (4 : Int32)) (l' := #[.val (.ref a1), .val (.int (4 : Int32)), .val (.ref a2), .val (.int (4 : Int32)), .val (.int (4 : Int32)), .val (.int (3 : Int32)), .val (.int c3)]) (pc' := 38) X13 hx (hb hby d10_35) rfl rfl rfl rfl ?_
  refine Ok.iinc (z := (4 : Int32)) (l' := #[.val (.ref a1), .val (.int (4 : Int32)), .val (.ref a2), .val (.int (4 : Int32)), .val (.int (4 : Int32)), .val (.int (4 : Int32)), .val (.int c3)]) (pc' := 41) X13 hx (hb hby d10_38) rfl rfl rfl rfl ?_
  refine Ok.goto (pc' := 3) X13 hx (hb hby d10_41) (by decide) (by decide) ?_
  refine Ok.iload (pc' := 5) X13 hx (hb hby d10_3) rfl rfl ?_
  refine Ok.iload (pc' := 7) X13 hx (hb hby d10_5) rfl rfl ?_
  refine Ok.icY (pc' := 44) X13 hx (hb hby d10_7) (bt (ic_eq (4 : Int32) (4 : Int32)).2.2.2.1 (by decide)) (by decide) (by decide) ?_
  refine Ok.iload (pc' := 46) X13 hx (hb hby d10_44) rfl rfl ?_
  refine Ok.retI X13 hx hret hlk (Or.inl rfl) rfl (hb hby d10_46) (by decide) (by decide) ?_
  show Q10 Z a1 k1 a2 k2 c0 c1 c2 c3 h0 n0 _ T13.heap _
  rw [e13]
  exact ⟨rfl, N13, K13, V13⟩
theorem d11_0 : decode jdk_52_method_16_code 0 = .ok (.iload_n 2, 1) := by decide +kernel
theorem d11_1 : decode jdk_52_method_16_code 1 = .ok (.newarray .byte, 2) := by decide +kernel
theorem d11_3 : decode jdk_52_method_16_code 3 = .ok (.astore_n 3, 1) := by decide +kernel
theorem d11_4 : decode jdk_52_method_16_code 4 = .ok (.aload_n 0, 1) := by decide +kernel
theorem d11_5 : decode jdk_52_method_16_code 5 = .ok (.iload_n 1, 1) := by decide +kernel
theorem d11_6 : decode jdk_52_method_16_code 6 = .ok (.aload_n 3, 1) := by decide +kernel
theorem d11_7 : decode jdk_52_method_16_code 7 = .ok (.iconst 0, 1) := by decide +kernel
theorem d11_8 : decode jdk_52_method_16_code 8 = .ok (.iload_n 2, 1) := by decide +kernel
theorem d11_9 : decode jdk_52_method_16_code 9 = .ok (.invokestatic 115, 3) := by decide +kernel
theorem d11_12 : decode jdk_52_method_16_code 12 = .ok (.istore 4, 2) := by decide +kernel
theorem d11_14 : decode jdk_52_method_16_code 14 = .ok (.iload 4, 2) := by decide +kernel
theorem d11_16 : decode jdk_52_method_16_code 16 = .ok (.iload_n 2, 1) := by decide +kernel
theorem d11_17 : decode jdk_52_method_16_code 17 = .ok (.if_icmp .eq 40, 3) := by decide +kernel
theorem d11_20 : decode jdk_52_method_16_code 20 = .ok (.aload_n 0, 1) := by decide +kernel
theorem d11_21 : decode jdk_52_method_16_code 21 = .ok (.iload_n 1, 1) := by decide +kernel
theorem d11_22 : decode jdk_52_method_16_code 22 = .ok (.iload_n 2, 1) := by decide +kernel
theorem d11_23 : decode jdk_52_method_16_code 23 = .ok (.invokestatic 119, 3) := by decide +kernel
theorem d11_26 : decode jdk_52_method_16_code 26 = .ok (.astore 5, 2) := by decide +kernel
theorem d11_28 : decode jdk_52_method_16_code 28 = .ok (.aload 5, 2) := by decide +kernel
theorem d11_30 : decode jdk_52_method_16_code 30 = .ok (.iload 4, 2) := by decide +kernel
theorem d11_32 : decode jdk_52_method_16_code 32 = .ok (.invokestatic 71, 3) := by decide +kernel
theorem d11_35 : decode jdk_52_method_16_code 35 = .ok (.sipush 255, 3) := by decide +kernel
theorem d11_38 : decode jdk_52_method_16_code 38 = .ok (.if_icmp .gt 16, 3) := by decide +kernel
theorem d11_41 : decode jdk_52_method_16_code 41 = .ok (.aload 5, 2) := by decide +kernel
theorem d11_43 : decode jdk_52_method_16_code 43 = .ok (.iconst 0, 1) := by decide +kernel
theorem d11_44 : decode jdk_52_method_16_code 44 = .ok (.aload_n 3, 1) := by decide +kernel
theorem d11_45 : decode jdk_52_method_16_code 45 = .ok (.iconst 0, 1) := by decide +kernel
theorem d11_46 : decode jdk_52_method_16_code 46 = .ok (.iload_n 2, 1) := by decide +kernel
theorem d11_47 : decode jdk_52_method_16_code 47 = .ok (.invokestatic 123, 3) := by decide +kernel
theorem d11_50 : decode jdk_52_method_16_code 50 = .ok (.iload_n 2, 1) := by decide +kernel
theorem d11_51 : decode jdk_52_method_16_code 51 = .ok (.if_icmp .eq 6, 3) := by decide +kernel
theorem d11_54 : decode jdk_52_method_16_code 54 = .ok (.aload 5, 2) := by decide +kernel
theorem d11_56 : decode jdk_52_method_16_code 56 = .ok (.areturn, 1) := by decide +kernel
theorem d11_57 : decode jdk_52_method_16_code 57 = .ok (.aload_n 3, 1) := by decide +kernel
theorem d11_58 : decode jdk_52_method_16_code 58 = .ok (.areturn, 1) := by decide +kernel
theorem ef_11 (m : MethodId) (x0 : Addr) (x1 : Int32) (x2 : Int32) : entryFrame m #[(.ref x0), (.int x1), (.int x2)] 6 = mkF m 0 #[.val (.ref x0), .val (.int x1), .val (.int x2), .unset, .unset, .unset] [] := by first | (simp [entryFrame, mkF, argsToLocals, Value.category]; done) | rfl
def Q11 (Z : State) (a1 : Addr) (k1 : ClassId) (c0 : Int32) (c1 : Int32) (c2 : Int32) (c3 : Int32) (h0 : Heap) (n0 : Nat) (v : Option Value) (h : Heap) (L : List Loc) : Prop := ∃ (r : Addr) (kr : ClassId), v = some (.ref r) ∧ Fr n0 L ∧ Keep h0 h [] ∧ h0.size ≤ r ∧ Arv Z h r kr .byte (4 : Int32) [(.int c0.toInt8.toInt32.toInt8.toInt32), (.int c1.toInt8.toInt32.toInt8.toInt32), (.int c2.toInt8.toInt32.toInt8.toInt32), (.int c3.toInt8.toInt32.toInt8.toInt32)] (.int (0 : Int32))
set_option maxRecDepth 65536 in
set_option maxHeartbeats 40000000 in
theorem rm11 (l : Launch) (Z : State) (a0 : Array Value) (hw : ∀ d ∈ tables_1, d.before a0 Z = true) (a1 : Addr) (k1 : ClassId) (c0 : Int32) (c1 : Int32) (c2 : Int32) (c3 : Int32) (h0 : Heap) (n0 : Nat) (Z0 : n0 ≤ h0.size) (V_1 : Arv Z h0 a1 k1 .char (4 : Int32) [(.int c0), (.int c1), (.int c2), (.int c3)] (.int (0 : Int32))) (hc0 : 0 ≤ c0.toInt ∧ c0.toInt ≤ 255) (hc1 : 0 ≤ c1.toInt ∧ c1.toInt ≤ 255) (hc2 : 0 ≤ c2.toInt ∧ c2.toInt ≤ 255) (hc3 : 0 ≤ c3.toInt ∧ c3.toInt ≤ 255) :
    MetN l Z (⟨"java/lang/StringUTF16", "compress", "([CII)[B"⟩ : MethodName) jdk_52_method_16_code 6 (some (.array .byte)) [] ({ frames := 1, cells := 1, slots := 4, locals := 18 } : Room) #[(.ref a1), (.int (0 : Int32)), (.int (4 : Int32))] h0 (Q11 Z a1 k1 c0 c1 c2 c3 h0 n0) := by
  refine met_n (plainFor_of_name pn_3) (fun m => ef_11 m a1 (0 : Int32) (4 : Int32)) ?_
  intro p e s m below meth c s₁ X0 hx hby hml hZ hown hnm hret hlk e0
  replace hown : s.vm.findClass "java/lang/StringUTF16" = some m.cls := hown
  replace hnm : meth.name = "compress" := hnm
  replace hret : meth.sig.returnType = (some (.array .byte)) := hret
  have N0 := Fr.nil n0
  have K0 : Keep h0 h0 [] := Keep.refl _ _
  show Ok p e below _ _ s₁ (mkF m 0 #[.val (.ref a1), .val (.int (0 : Int32)), .val (.int (4 : Int32)), .unset, .unset, .unset] [])
  refine Ok.iloadN (pc' := 1) X0 hx (hb hby d11_0) rfl rfl ?_
  refine Ok.newP (pc' := 3) (cap := 4) X0 hx hZ (hw _ (List.mem_of_getElem? (i := 20) rfl)) rfl e0 (hb hby d11_1) rfl (by decide) (by decide) (by decide) (by decide) (by decide) ?_
  intro T15 h15 b15 kc15 g15 X15 e15 E15 V15
  have ne_a1_b15 : Nq a1 b15 := Nat.ne_of_lt (Nat.lt_of_lt_of_eq V_1.lt g15.symm)
  replace V_1 := V_1.ext E15
  have ge_b15 : n0 ≤ b15 := Nat.le_trans Z0 (Nat.le_of_eq g15.symm)
  have sz_b15 : h0.size ≤ b15 := Nat.le_trans K0.1 (Nat.le_of_eq g15.symm)
  have K15 : Keep h0 h15 [] := K0.ext E15
  have Z16 : n0 ≤ h15.size := Nat.le_trans Z0 E15.1
  replace V15 : Arv Z h15 b15 kc15 .byte (4 : Int32) [(.int (0 : Int32)), (.int (0 : Int32)), (.int (0 : Int32)), (.int (0 : Int32))] (.int (0 : Int32)) := V15.pad (pad_rep [] (.int (0 : Int32)) 4)
  show Ok p e below _ _ T15 (mkF m 3 #[.val (.ref a1), .val (.int (0 : Int32)), .val (.int (4 : Int32)), .unset, .unset, .unset] [(.ref b15)])
  refine Ok.astoreN (l' := #[.val (.ref a1), .val (.int (0 : Int32)), .val (.int (4 : Int32)), .val (.ref b15), .unset, .unset]) (pc' := 4) X15 hx (hb hby d11_3) rfl rfl rfl ?_
  refine Ok.aloadN (pc' := 5) X15 hx (hb hby d11_4) rfl rfl rfl ?_
  refine Ok.iloadN (pc' := 6) X15 hx (hb hby d11_5) rfl rfl ?_
  refine Ok.aloadN (pc' := 7) X15 hx (hb hby d11_6) rfl rfl rfl ?_
  refine Ok.iconst (z := (0 : Int32)) (pc' := 8) X15 hx (hb hby d11_7) rfl rfl ?_
  refine Ok.iloadN (pc' := 9) X15 hx (hb hby d11_8) rfl rfl ?_
  refine Ok.callS (pc' := 12) (W := 0)  (argsL := [(.ref a1), (.int (0 : Int32)), (.ref b15), (.int (0 : Int32)), (.int (4 : Int32))]) (rest := []) X15 hx hZ hown (rm10 l Z a0 hw a1 k1 b15 kc15 c0 c1 c2 c3 h15 n0 Z16 V_1 V15 ge_b15 ne_a1_b15 hc0 hc1 hc2 hc3) (hw _ (List.mem_of_getElem? (i := 21) rfl)) (hw _ (List.mem_of_getElem? (i := 22) rfl)) (hw _ (List.mem_of_getElem? (i := 18) rfl)) (hw _ (List.mem_of_getElem? (i := 23) rfl)) (by decide) e15 (by decide) (by decide) (by decide) (by decide) (lenOf pd_4 rfl) rfl rfl (Nat.le_of_eq rfl) (by rw [hml]; rfl) (hb hby d11_9) rfl ?_
  intro v17 T17 L17 X17 hQ17
  obtain ⟨rfl, Nq17, Kq17, V17⟩ := hQ17
  have N17 := Fr.app N0 Nq17
  replace V_1 := V_1.keep Kq17 (ninS ne_a1_b15 nin0)
  have K17' : Keep h0 T17.heap [] := K15.trans Kq17 (allS (Or.inr sz_b15) all0)
  have Z18 : n0 ≤ T17.heap.size := Nat.le_trans Z16 Kq17.1
  show Ok p e below _ _ T17 (mkF m 12 #[.val (.ref a1), .val (.int (0 : Int32)), .val (.int (4 : Int32)), .val (.ref b15), .unset, .unset] [(.int (4 : Int32))])
  refine Ok.istore (l' := #[.val (.ref a1), .val (.int (0 : Int32)), .val (.int (4 : Int32)), .val (.ref b15), .val (.int (4 : Int32)), .unset]) (pc' := 14) X17 hx (hb hby d11_12) rfl rfl ?_
  refine Ok.iload (pc' := 16) X17 hx (hb hby d11_14) rfl rfl ?_
  refine Ok.iloadN (pc' := 17) X17 hx (hb hby d11_16) rfl rfl ?_
  refine Ok.icY (pc' := 57) X17 hx (hb hby d11_17) (bt (ic_eq (4 : Int32) (4 : Int32)).1 (by decide)) (by decide) (by decide) ?_
  refine Ok.aloadN (pc' := 58) X17 hx (hb hby d11_57) rfl rfl rfl ?_
  refine Ok.retA X17 hx hret hlk rfl rfl rfl (hb hby d11_58) (by decide) (by decide) ?_
  show Q11 Z a1 k1 c0 c1 c2 c3 h0 n0 _ T17.heap _
  exact ⟨_, _, rfl, N17, K17', sz_b15, V17⟩
theorem d12_0 : decode jdk_52_method_15_code 0 = .ok (.iload_n 1, 1) := by decide +kernel
theorem d12_1 : decode jdk_52_method_15_code 1 = .ok (.aload_n 0, 1) := by decide +kernel
theorem d12_2 : decode jdk_52_method_15_code 2 = .ok (.arraylength, 1) := by decide +kernel
theorem d12_3 : decode jdk_52_method_15_code 3 = .ok (.isub, 1) := by decide +kernel
theorem d12_4 : decode jdk_52_method_15_code 4 = .ok (.bipush 31, 2) := by decide +kernel
theorem d12_6 : decode jdk_52_method_15_code 6 = .ok (.iushr, 1) := by decide +kernel
theorem d12_7 : decode jdk_52_method_15_code 7 = .ok (.i2b, 1) := by decide +kernel
theorem d12_8 : decode jdk_52_method_15_code 8 = .ok (.ireturn, 1) := by decide +kernel
theorem ef_12 (m : MethodId) (x0 : Addr) (x1 : Int32) : entryFrame m #[(.ref x0), (.int x1)] 2 = mkF m 0 #[.val (.ref x0), .val (.int x1)] [] := by first | (simp [entryFrame, mkF, argsToLocals, Value.category]; done) | rfl
def Q12 (Z : State) (a1 : Addr) (k1 : ClassId) (c0 : Int32) (c1 : Int32) (c2 : Int32) (c3 : Int32) (h0 : Heap) (n0 : Nat) (v : Option Value) (h : Heap) (L : List Loc) : Prop := v = some (.int (0 : Int32)) ∧ Fr n0 L ∧ h = h0
set_option maxRecDepth 65536 in
set_option maxHeartbeats 40000000 in
theorem rm12 (l : Launch) (Z : State) (a0 : Array Value) (hw : ∀ d ∈ tables_1, d.before a0 Z = true) (a1 : Addr) (k1 : ClassId) (c0 : Int32) (c1 : Int32) (c2 : Int32) (c3 : Int32) (h0 : Heap) (n0 : Nat) (Z0 : n0 ≤ h0.size) (V_1 : Arv Z h0 a1 k1 .byte (4 : Int32) [(.int c0.toInt8.toInt32.toInt8.toInt32), (.int c1.toInt8.toInt32.toInt8.toInt32), (.int c2.toInt8.toInt32.toInt8.toInt32), (.int c3.toInt8.toInt32.toInt8.toInt32)] (.int (0 : Int32))) :
    MetN l Z (⟨"java/lang/StringUTF16", "coderFromArrayLen", "([BI)B"⟩ : MethodName) jdk_52_method_15_code 2 (some .byte) [] ({ frames := 0, cells := 0, slots := 0, locals := 0 } : Room) #[(.ref a1), (.int (4 : Int32))] h0 (Q12 Z a1 k1 c0 c1 c2 c3 h0 n0) := by
  refine met_n (plainFor_of_name pn_3) (fun m => ef_12 m a1 (4 : Int32)) ?_
  intro p e s m below meth c s₁ X0 hx hby hml hZ hown hnm hret hlk e0
  replace hown : s.vm.findClass "java/lang/StringUTF16" = some m.cls := hown
  replace hnm : meth.name = "coderFromArrayLen" := hnm
  replace hret : meth.sig.returnType = (some .byte) := hret
  have N0 := Fr.nil n0
  have K0 : Keep h0 h0 [] := Keep.refl _ _
  show Ok p e below _ _ s₁ (mkF m 0 #[.val (.ref a1), .val (.int (4 : Int32))] [])
  refine Ok.iloadN (pc' := 1) X0 hx (hb hby d12_0) rfl rfl ?_
  refine Ok.aloadN (pc' := 2) X0 hx (hb hby d12_1) rfl rfl rfl ?_
  refine Ok.len (pc' := 3) X0 hx hZ e0 V_1 (hb hby d12_2) rfl ?_
  refine Ok.isub (pc' := 4) X0 hx (hb hby d12_3) rfl ?_
  refine Ok.bipush (z := (31 : Int32)) (pc' := 6) X0 hx (hb hby d12_4) rfl rfl ?_
  refine Ok.iushr (pc' := 7) X0 hx (hb hby d12_6) rfl ?_
  refine Ok.i2b (pc' := 8) X0 hx (hb hby d12_7) rfl ?_
  refine Ok.retI X0 hx hret hlk (Or.inr (Or.inr (Or.inl rfl))) rfl (hb hby d12_8) (by decide) (by decide) ?_
  show Q12 Z a1 k1 c0 c1 c2 c3 h0 n0 _ s₁.heap _
  rw [e0]
  exact ⟨rfl, N0, rfl⟩
theorem d13_0 : decode jdk_42_method_149_code 0 = .ok (.aload_n 0, 1) := by decide +kernel
theorem d13_1 : decode jdk_42_method_149_code 1 = .ok (.invokespecial 1, 3) := by decide +kernel
theorem d13_4 : decode jdk_42_method_149_code 4 = .ok (.iload_n 3, 1) := by decide +kernel
theorem d13_5 : decode jdk_42_method_149_code 5 = .ok (.ifCond .ne 22, 3) := by decide +kernel
theorem d13_8 : decode jdk_42_method_149_code 8 = .ok (.aload_n 0, 1) := by decide +kernel
theorem d13_9 : decode jdk_42_method_149_code 9 = .ok (.ldc 7, 2) := by decide +kernel
theorem d13_11 : decode jdk_42_method_149_code 11 = .ok (.getfield 9, 3) := by decide +kernel
theorem d13_14 : decode jdk_42_method_149_code 14 = .ok (.putfield 9, 3) := by decide +kernel
theorem d13_17 : decode jdk_42_method_149_code 17 = .ok (.aload_n 0, 1) := by decide +kernel
theorem d13_18 : decode jdk_42_method_149_code 18 = .ok (.ldc 7, 2) := by decide +kernel
theorem d13_20 : decode jdk_42_method_149_code 20 = .ok (.getfield 15, 3) := by decide +kernel
theorem d13_23 : decode jdk_42_method_149_code 23 = .ok (.putfield 15, 3) := by decide +kernel
theorem d13_26 : decode jdk_42_method_149_code 26 = .ok (.return_, 1) := by decide +kernel
theorem d13_27 : decode jdk_42_method_149_code 27 = .ok (.getstatic 38, 3) := by decide +kernel
theorem d13_30 : decode jdk_42_method_149_code 30 = .ok (.ifCond .eq 28, 3) := by decide +kernel
theorem d13_33 : decode jdk_42_method_149_code 33 = .ok (.aload_n 1, 1) := by decide +kernel
theorem d13_34 : decode jdk_42_method_149_code 34 = .ok (.iload_n 2, 1) := by decide +kernel
theorem d13_35 : decode jdk_42_method_149_code 35 = .ok (.iload_n 3, 1) := by decide +kernel
theorem d13_36 : decode jdk_42_method_149_code 36 = .ok (.invokestatic 177, 3) := by decide +kernel
theorem d13_39 : decode jdk_42_method_149_code 39 = .ok (.astore 5, 2) := by decide +kernel
theorem d13_41 : decode jdk_42_method_149_code 41 = .ok (.aload_n 0, 1) := by decide +kernel
theorem d13_42 : decode jdk_42_method_149_code 42 = .ok (.aload 5, 2) := by decide +kernel
theorem d13_44 : decode jdk_42_method_149_code 44 = .ok (.iload_n 3, 1) := by decide +kernel
theorem d13_45 : decode jdk_42_method_149_code 45 = .ok (.invokestatic 47, 3) := by decide +kernel
theorem d13_48 : decode jdk_42_method_149_code 48 = .ok (.putfield 15, 3) := by decide +kernel
theorem d13_51 : decode jdk_42_method_149_code 51 = .ok (.aload_n 0, 1) := by decide +kernel
theorem d13_52 : decode jdk_42_method_149_code 52 = .ok (.aload 5, 2) := by decide +kernel
theorem d13_54 : decode jdk_42_method_149_code 54 = .ok (.putfield 9, 3) := by decide +kernel
theorem d13_57 : decode jdk_42_method_149_code 57 = .ok (.return_, 1) := by decide +kernel
theorem d13_58 : decode jdk_42_method_149_code 58 = .ok (.aload_n 0, 1) := by decide +kernel
theorem d13_59 : decode jdk_42_method_149_code 59 = .ok (.iconst 1, 1) := by decide +kernel
theorem d13_60 : decode jdk_42_method_149_code 60 = .ok (.putfield 15, 3) := by decide +kernel
theorem d13_63 : decode jdk_42_method_149_code 63 = .ok (.aload_n 0, 1) := by decide +kernel
theorem d13_64 : decode jdk_42_method_149_code 64 = .ok (.aload_n 1, 1) := by decide +kernel
theorem d13_65 : decode jdk_42_method_149_code 65 = .ok (.iload_n 2, 1) := by decide +kernel
theorem d13_66 : decode jdk_42_method_149_code 66 = .ok (.iload_n 3, 1) := by decide +kernel
theorem d13_67 : decode jdk_42_method_149_code 67 = .ok (.invokestatic 180, 3) := by decide +kernel
theorem d13_70 : decode jdk_42_method_149_code 70 = .ok (.putfield 9, 3) := by decide +kernel
theorem d13_73 : decode jdk_42_method_149_code 73 = .ok (.return_, 1) := by decide +kernel
theorem pn_4 : plainName "java/lang/String" = true := by first | (simp [plainName, overriddenIn]; done) | decide +kernel
theorem ef_13 (m : MethodId) (x0 : Addr) (x1 : Addr) (x2 : Int32) (x3 : Int32) : entryFrame m #[(.ref x0), (.ref x1), (.int x2), (.int x3), .null] 6 = mkF m 0 #[.val (.ref x0), .val (.ref x1), .val (.int x2), .val (.int x3), .val .null, .unset] [] := by first | (simp [entryFrame, mkF, argsToLocals, Value.category]; done) | rfl
def Q13 (Z : State) (a1 : Addr) (a2 : Addr) (k2 : ClassId) (c0 : Int32) (c1 : Int32) (c2 : Int32) (c3 : Int32) (u_value : Value) (u_coder : Value) (cs0 : Int32) (h0 : Heap) (n0 : Nat) (v : Option Value) (h : Heap) (L : List Loc) : Prop := v = none ∧ Fr n0 L ∧ Keep h0 h [a1] ∧ Exa Z h a1 "java/lang/String" ∧ ∃ (r : Addr) (kr : ClassId), h0.size ≤ r ∧ Fld Z h a1 "java/lang/String" "value" "[B" (.ref r) ∧ Fld Z h a1 "java/lang/String" "coder" "B" (.int (0 : Int32)) ∧ Arv Z h r kr .byte (4 : Int32) [(.int c0.toInt8.toInt32.toInt8.toInt32), (.int c1.toInt8.toInt32.toInt8.toInt32), (.int c2.toInt8.toInt32.toInt8.toInt32), (.int c3.toInt8.toInt32.toInt8.toInt32)] (.int (0 : Int32))
set_option maxRecDepth 65536 in
set_option maxHeartbeats 40000000 in
theorem rm13 (l : Launch) (Z : State) (a0 : Array Value) (hw : ∀ d ∈ tables_1, d.before a0 Z = true) (a1 : Addr) (a2 : Addr) (k2 : ClassId) (c0 : Int32) (c1 : Int32) (c2 : Int32) (c3 : Int32) (u_value : Value) (u_coder : Value) (cs0 : Int32) (h0 : Heap) (n0 : Nat) (Z0 : n0 ≤ h0.size) (E_a1 : Exa Z h0 a1 "java/lang/String") (g_a1 : n0 ≤ a1) (F_value : Fld Z h0 a1 "java/lang/String" "value" "[B" u_value) (F_coder : Fld Z h0 a1 "java/lang/String" "coder" "B" u_coder) (V_2 : Arv Z h0 a2 k2 .char (4 : Int32) [(.int c0), (.int c1), (.int c2), (.int c3)] (.int (0 : Int32))) (hc0 : 0 ≤ c0.toInt ∧ c0.toInt ≤ 255) (hc1 : 0 ≤ c1.toInt ∧ c1.toInt ≤ 255) (hc2 : 0 ≤ c2.toInt ∧ c2.toInt ≤ 255) (hc3 : 0 ≤ c3.toInt ∧ c3.toInt ≤ 255) (O_0 : Old Z n0 h0) (S_cs : Sta Z Z.heap "java/lang/String" "COMPACT_STRINGS" "Z" (.int cs0)) (hcs : ¬ cs0.toInt = 0) :
    MetN l Z (⟨"java/lang/String", "<init>", "([CIILjava/lang/Void;)V"⟩ : MethodName) jdk_42_method_149_code 6 none [] ({ frames := 2, cells := 1, slots := 4, locals := 35 } : Room) #[(.ref a1), (.ref a2), (.int (0 : Int32)), (.int (4 : Int32)), .null] h0 (Q13 Z a1 a2 k2 c0 c1 c2 c3 u_value u_coder cs0 h0 n0) := by
  refine met_n (plainFor_of_name pn_4) (fun m => ef_13 m a1 a2 (0 : Int32) (4 : Int32)) ?_
  intro p e s m below meth c s₁ X0 hx hby hml hZ hown hnm hret hlk e0
  replace hown : s.vm.findClass "java/lang/String" = some m.cls := hown
  replace hnm : meth.name = "<init>" := hnm
  replace hret : meth.sig.returnType = none := hret
  have N0 := Fr.nil n0
  have K0 : Keep h0 h0 [a1] := Keep.refl _ _
  show Ok p e below _ _ s₁ (mkF m 0 #[.val (.ref a1), .val (.ref a2), .val (.int (0 : Int32)), .val (.int (4 : Int32)), .val .null, .unset] [])
  refine Ok.aloadN (pc' := 1) X0 hx (hb hby d13_0) rfl rfl rfl ?_
  refine Ok.initO (pc' := 4) (W := 0) X0 hx hZ hown (hw _ (List.mem_of_getElem? (i := 12) rfl)) (hw _ (List.mem_of_getElem? (i := 13) rfl)) (hw _ (List.mem_of_getElem? (i := 14) rfl)) e0 (by rw [hml]; rfl) (hb hby d13_1) rfl (by decide) (Nat.le_of_eq rfl) (by decide) ?_
  intro T19 X19 e19
  refine Ok.iloadN (pc' := 5) X19 hx (hb hby d13_4) rfl rfl ?_
  refine Ok.ifY (pc' := 27) X19 hx (hb hby d13_5) (bt (i0 .ne (4 : Int32) (ic_eq (4 : Int32) 0).2.1) (by decide)) (by decide) (by decide) ?_
  refine Ok.getS (pc' := 30) X19 hx hZ hown (host := "") (Or.inl (hw _ (List.mem_of_getElem? (i := 15) rfl))) Via.refl e19 (S_cs.ext O_0.2) (hb hby d13_27) rfl ?_
  intro T20 X20 e20
  refine Ok.ifN (pc' := 33) X20 hx (hb hby d13_30) (bf (i0 .eq cs0 (ic_eq cs0 0).1) (show ¬ (cs0.toInt = 0) from hcs)) rfl ?_
  refine Ok.aloadN (pc' := 34) X20 hx (hb hby d13_33) rfl rfl rfl ?_
  refine Ok.iloadN (pc' := 35) X20 hx (hb hby d13_34) rfl rfl ?_
  refine Ok.iloadN (pc' := 36) X20 hx (hb hby d13_35) rfl rfl ?_
  refine Ok.callS (pc' := 39) (W := 0)  (argsL := [(.ref a2), (.int (0 : Int32)), (.int (4 : Int32))]) (rest := []) X20 hx hZ hown (rm11 l Z a0 hw a2 k2 c0 c1 c2 c3 h0 n0 Z0 V_2 hc0 hc1 hc2 hc3) (hw _ (List.mem_of_getElem? (i := 16) rfl)) (hw _ (List.mem_of_getElem? (i := 17) rfl)) (hw _ (List.mem_of_getElem? (i := 18) rfl)) (hw _ (List.mem_of_getElem? (i := 19) rfl)) (by decide) e20 (by decide) (by decide) (by decide) (by decide) (lenOf pd_3 rfl) rfl rfl (Nat.le_of_eq rfl) (by rw [hml]; rfl) (hb hby d13_36) rfl ?_
  intro v21 T21 L21 X21 hQ21
  obtain ⟨r21, kr21, rfl, Nq21, Kq21, hr21, V21⟩ := hQ21
  have ne_a1_r21 : Nq a1 r21 := Nat.ne_of_lt (Nat.lt_of_lt_of_le E_a1.lt hr21)
  have ge_r21 : n0 ≤ r21 := Nat.le_trans Z0 hr21
  have sz_r21 : h0.size ≤ r21 := Nat.le_trans K0.1 hr21
  have N21 := Fr.app N0 Nq21
  replace E_a1 := E_a1.keep Kq21
  replace O_0 := O_0.keep Kq21 all0
  replace F_value := F_value.keep Kq21 nin0
  replace F_coder := F_coder.keep Kq21 nin0
  have K21' : Keep h0 T21.heap [a1] := K0.trans Kq21 all0
  have Z22 : n0 ≤ T21.heap.size := Nat.le_trans Z0 Kq21.1
  show Ok p e below _ _ T21 (mkF m 39 #[.val (.ref a1), .val (.ref a2), .val (.int (0 : Int32)), .val (.int (4 : Int32)), .val .null, .unset] [(.ref r21)])
  refine Ok.astore (l' := #[.val (.ref a1), .val (.ref a2), .val (.int (0 : Int32)), .val (.int (4 : Int32)), .val .null, .val (.ref r21)]) (pc' := 41) X21 hx (hb hby d13_39) rfl rfl rfl ?_
  refine Ok.aloadN (pc' := 42) X21 hx (hb hby d13_41) rfl rfl rfl ?_
  refine Ok.aload (pc' := 44) X21 hx (hb hby d13_42) rfl rfl rfl ?_
  refine Ok.iloadN (pc' := 45) X21 hx (hb hby d13_44) rfl rfl ?_
  refine Ok.callS (pc' := 48) (W := 1)  (argsL := [(.ref r21), (.int (4 : Int32))]) (rest := [(.ref a1)]) X21 hx hZ hown (rm12 l Z a0 hw r21 kr21 c0 c1 c2 c3 T21.heap n0 Z22 V21) (hw _ (List.mem_of_getElem? (i := 24) rfl)) (hw _ (List.mem_of_getElem? (i := 25) rfl)) (hw _ (List.mem_of_getElem? (i := 18) rfl)) (hw _ (List.mem_of_getElem? (i := 26) rfl)) (by decide) rfl (by decide) (by decide) (by decide) (by decide) (lenOf pd_5 rfl) rfl rfl (Nat.le_of_eq rfl) (by rw [hml]; rfl) (hb hby d13_45) rfl ?_
  intro v23 T23 L23 X23 hQ23
  obtain ⟨rfl, Nq23, eq23⟩ := hQ23
  have N23 := Fr.app N21 Nq23
  show Ok p e below _ _ T23 (mkF m 48 #[.val (.ref a1), .val (.ref a2), .val (.int (0 : Int32)), .val (.int (4 : Int32)), .val .null, .val (.ref r21)] [(.int (0 : Int32)), (.ref a1)])
  refine Ok.putF (pc' := 51) (ty := .byte) X23 hx hZ hown (host := "") (Or.inl (hw _ (List.mem_of_getElem? (i := 27) rfl))) Via.refl eq23 F_coder E_a1 (Or.inr ⟨(hw _ (List.mem_of_getElem? (i := 28) rfl)), rfl, hnm⟩) (hw _ (List.mem_of_getElem? (i := 3) rfl)) (by decide) rfl rfl (hb hby d13_48) rfl ?_
  intro T24 h24 X24 e24 W24
  replace F_coder := F_coder.same W24
  replace E_a1 := E_a1.wr W24
  replace O_0 := O_0.wr W24 g_a1
  replace F_value := F_value.other W24 (Or.inr (slot_ne (Or.inr (hw _ (List.mem_of_getElem? (i := 30) rfl))) (Or.inr (hw _ (List.mem_of_getElem? (i := 28) rfl))) (by decide) (t := (.array .byte)) (t' := .byte) (by decide) (by decide)))
  replace V21 := V21.other W24 (Ne.symm ne_a1_r21)
  have N24 := Fr.snoc X24 N23 g_a1
  have K24 : Keep h0 h24 [a1] := K21'.wr W24 (Or.inl (List.mem_of_getElem? (i := 0) rfl))
  have Z25 : n0 ≤ h24.size := Nat.le_trans Z22 (Keep.of_wr W24).1
  refine Ok.aloadN (pc' := 52) X24 hx (hb hby d13_51) rfl rfl rfl ?_
  refine Ok.aload (pc' := 54) X24 hx (hb hby d13_52) rfl rfl rfl ?_
  refine Ok.putF (pc' := 57) (ty := (.array .byte)) X24 hx hZ hown (host := "") (Or.inl (hw _ (List.mem_of_getElem? (i := 29) rfl))) Via.refl e24 F_value E_a1 (Or.inr ⟨(hw _ (List.mem_of_getElem? (i := 30) rfl)), rfl, hnm⟩) (hw _ (List.mem_of_getElem? (i := 3) rfl)) (by decide) rfl rfl (hb hby d13_54) rfl ?_
  intro T26 h26 X26 e26 W26
  replace F_value := F_value.same W26
  replace E_a1 := E_a1.wr W26
  replace O_0 := O_0.wr W26 g_a1
  replace V21 := V21.other W26 (Ne.symm ne_a1_r21)
  replace F_coder := F_coder.other W26 (Or.inr (slot_ne (Or.inr (hw _ (List.mem_of_getElem? (i := 28) rfl))) (Or.inr (hw _ (List.mem_of_getElem? (i := 30) rfl))) (by decide) (t := .byte) (t' := (.array .byte)) (by decide) (by decide)))
  have N26 := Fr.snoc X26 N24 g_a1
  have K26 : Keep h0 h26 [a1] := K24.wr W26 (Or.inl (List.mem_of_getElem? (i := 0) rfl))
  have Z27 : n0 ≤ h26.size := Nat.le_trans Z25 (Keep.of_wr W26).1
  refine Ok.retV X26 hx hret hlk (hb hby d13_57) (by decide) (by decide) ?_
  show Q13 Z a1 a2 k2 c0 c1 c2 c3 u_value u_coder cs0 h0 n0 _ T26.heap _
  rw [e26]
  exact ⟨rfl, N26, K26, E_a1, r21, _, sz_r21, F_value, F_coder, V21⟩
theorem d14_0 : decode jdk_42_method_3_code 0 = .ok (.aload_n 0, 1) := by decide +kernel
theorem d14_1 : decode jdk_42_method_3_code 1 = .ok (.aload_n 1, 1) := by decide +kernel
theorem d14_2 : decode jdk_42_method_3_code 2 = .ok (.iconst 0, 1) := by decide +kernel
theorem d14_3 : decode jdk_42_method_3_code 3 = .ok (.aload_n 1, 1) := by decide +kernel
theorem d14_4 : decode jdk_42_method_3_code 4 = .ok (.arraylength, 1) := by decide +kernel
theorem d14_5 : decode jdk_42_method_3_code 5 = .ok (.aconst_null, 1) := by decide +kernel
theorem d14_6 : decode jdk_42_method_3_code 6 = .ok (.invokespecial 27, 3) := by decide +kernel
theorem d14_9 : decode jdk_42_method_3_code 9 = .ok (.return_, 1) := by decide +kernel
theorem ef_14 (m : MethodId) (x0 : Addr) (x1 : Addr) : entryFrame m #[(.ref x0), (.ref x1)] 2 = mkF m 0 #[.val (.ref x0), .val (.ref x1)] [] := by first | (simp [entryFrame, mkF, argsToLocals, Value.category]; done) | rfl
def Q14 (Z : State) (a1 : Addr) (a2 : Addr) (k2 : ClassId) (c0 : Int32) (c1 : Int32) (c2 : Int32) (c3 : Int32) (u_value : Value) (u_coder : Value) (cs0 : Int32) (h0 : Heap) (n0 : Nat) (v : Option Value) (h : Heap) (L : List Loc) : Prop := v = none ∧ Fr n0 L ∧ Keep h0 h [a1] ∧ Exa Z h a1 "java/lang/String" ∧ ∃ (r : Addr) (kr : ClassId), h0.size ≤ r ∧ Fld Z h a1 "java/lang/String" "value" "[B" (.ref r) ∧ Fld Z h a1 "java/lang/String" "coder" "B" (.int (0 : Int32)) ∧ Arv Z h r kr .byte (4 : Int32) [(.int c0.toInt8.toInt32.toInt8.toInt32), (.int c1.toInt8.toInt32.toInt8.toInt32), (.int c2.toInt8.toInt32.toInt8.toInt32), (.int c3.toInt8.toInt32.toInt8.toInt32)] (.int (0 : Int32))
set_option maxRecDepth 65536 in
set_option maxHeartbeats 40000000 in
theorem rm14 (l : Launch) (Z : State) (a0 : Array Value) (hw : ∀ d ∈ tables_1, d.before a0 Z = true) (a1 : Addr) (a2 : Addr) (k2 : ClassId) (c0 : Int32) (c1 : Int32) (c2 : Int32) (c3 : Int32) (u_value : Value) (u_coder : Value) (cs0 : Int32) (h0 : Heap) (n0 : Nat) (Z0 : n0 ≤ h0.size) (E_a1 : Exa Z h0 a1 "java/lang/String") (g_a1 : n0 ≤ a1) (F_value : Fld Z h0 a1 "java/lang/String" "value" "[B" u_value) (F_coder : Fld Z h0 a1 "java/lang/String" "coder" "B" u_coder) (V_2 : Arv Z h0 a2 k2 .char (4 : Int32) [(.int c0), (.int c1), (.int c2), (.int c3)] (.int (0 : Int32))) (hc0 : 0 ≤ c0.toInt ∧ c0.toInt ≤ 255) (hc1 : 0 ≤ c1.toInt ∧ c1.toInt ≤ 255) (hc2 : 0 ≤ c2.toInt ∧ c2.toInt ≤ 255) (hc3 : 0 ≤ c3.toInt ∧ c3.toInt ≤ 255) (O_0 : Old Z n0 h0) (S_cs : Sta Z Z.heap "java/lang/String" "COMPACT_STRINGS" "Z" (.int cs0)) (hcs : ¬ cs0.toInt = 0) :
    MetN l Z (⟨"java/lang/String", "<init>", "([C)V"⟩ : MethodName) jdk_42_method_3_code 2 none [] ({ frames := 3, cells := 1, slots := 4, locals := 52 } : Room) #[(.ref a1), (.ref a2)] h0 (Q14 Z a1 a2 k2 c0 c1 c2 c3 u_value u_coder cs0 h0 n0) := by
  refine met_n (plainFor_of_name pn_4) (fun m => ef_14 m a1 a2) ?_
  intro p e s m below meth c s₁ X0 hx hby hml hZ hown hnm hret hlk e0
  replace hown : s.vm.findClass "java/lang/String" = some m.cls := hown
  replace hnm : meth.name = "<init>" := hnm
  replace hret : meth.sig.returnType = none := hret
  have N0 := Fr.nil n0
  have K0 : Keep h0 h0 [a1] := Keep.refl _ _
  show Ok p e below _ _ s₁ (mkF m 0 #[.val (.ref a1), .val (.ref a2)] [])
  refine Ok.aloadN (pc' := 1) X0 hx (hb hby d14_0) rfl rfl rfl ?_
  refine Ok.aloadN (pc' := 2) X0 hx (hb hby d14_1) rfl rfl rfl ?_
  refine Ok.iconst (z := (0 : Int32)) (pc' := 3) X0 hx (hb hby d14_2) rfl rfl ?_
  refine Ok.aloadN (pc' := 4) X0 hx (hb hby d14_3) rfl rfl rfl ?_
  refine Ok.len (pc' := 5) X0 hx hZ e0 V_2 (hb hby d14_4) rfl ?_
  refine Ok.aconstNull (pc' := 6) X0 hx (hb hby d14_5) rfl ?_
  refine Ok.init (pc' := 9) (W := 0) (a := a1)  (argsL := [(.ref a2), (.int (0 : Int32)), (.int (4 : Int32)), .null]) (rest := []) X0 hx hZ hown (rm13 l Z a0 hw a1 a2 k2 c0 c1 c2 c3 u_value u_coder cs0 h0 n0 Z0 E_a1 g_a1 F_value F_coder V_2 hc0 hc1 hc2 hc3 O_0 S_cs hcs) rfl (hw _ (List.mem_of_getElem? (i := 8) rfl)) (hw _ (List.mem_of_getElem? (i := 9) rfl)) (hw _ (List.mem_of_getElem? (i := 4) rfl)) (hw _ (List.mem_of_getElem? (i := 11) rfl)) (by decide) e0 (by decide) (by decide) (by decide) (by decide) (lenOf pd_1 rfl) rfl rfl (Nat.le_of_eq rfl) (by rw [hml]; rfl) (hb hby d14_6) rfl ?_
  intro v28 T28 L28 X28 hQ28
  obtain ⟨rfl, Nq28, Kq28, Aq28, hx28⟩ := hQ28
  have N28 := Fr.app N0 Nq28
  replace E_a1 := E_a1.keep Kq28
  replace O_0 := O_0.keep Kq28 (allS g_a1 all0)
  have K28' : Keep h0 T28.heap [a1] := K0.trans Kq28 (allS (Or.inl (List.mem_of_getElem? (i := 0) rfl)) all0)
  have Z29 : n0 ≤ T28.heap.size := Nat.le_trans Z0 Kq28.1
  show Ok p e below _ _ T28 (mkF m 9 #[.val (.ref a1), .val (.ref a2)] [])
  refine Ok.retV X28 hx hret hlk (hb hby d14_9) (by decide) (by decide) ?_
  show Q14 Z a1 a2 k2 c0 c1 c2 c3 u_value u_coder cs0 h0 n0 _ T28.heap _
  exact ⟨rfl, N28, K28', E_a1, hx28⟩
theorem d15_0 : decode jdk_43_method_3_code 0 = .ok (.iload_n 0, 1) := by decide +kernel
theorem d15_1 : decode jdk_43_method_3_code 1 = .ok (.sipush 255, 3) := by decide +kernel
theorem d15_4 : decode jdk_43_method_3_code 4 = .ok (.if_icmp .gt 7, 3) := by decide +kernel
theorem d15_7 : decode jdk_43_method_3_code 7 = .ok (.iconst 1, 1) := by decide +kernel
theorem d15_8 : decode jdk_43_method_3_code 8 = .ok (.goto 4, 3) := by decide +kernel
theorem d15_11 : decode jdk_43_method_3_code 11 = .ok (.iconst 0, 1) := by decide +kernel
theorem d15_12 : decode jdk_43_method_3_code 12 = .ok (.ireturn, 1) := by decide +kernel
theorem pn_5 : plainName "java/lang/StringLatin1" = true := by first | (simp [plainName, overriddenIn]; done) | decide +kernel
theorem ef_15 (m : MethodId) (x0 : Int32) : entryFrame m #[(.int x0)] 1 = mkF m 0 #[.val (.int x0)] [] := by first | (simp [entryFrame, mkF, argsToLocals, Value.category]; done) | rfl
def Q15 (Z : State) (p1 : Int32) (h0 : Heap) (n0 : Nat) (v : Option Value) (h : Heap) (L : List Loc) : Prop := ∃ b : Int32, v = some (.int b) ∧ (b.toInt = 1 ∧ (p1.toInt ≤ 255) ∨ b.toInt = 0 ∧ ¬ (p1.toInt ≤ 255)) ∧ Fr n0 L ∧ h = h0
set_option maxRecDepth 65536 in
set_option maxHeartbeats 40000000 in
theorem rm15 (l : Launch) (Z : State) (a0 : Array Value) (hw : ∀ d ∈ tables_1, d.before a0 Z = true) (p1 : Int32) (h0 : Heap) (n0 : Nat) (Z0 : n0 ≤ h0.size)  :
    MetN l Z (⟨"java/lang/StringLatin1", "canEncode", "(C)Z"⟩ : MethodName) jdk_43_method_3_code 1 (some .boolean) [] ({ frames := 0, cells := 0, slots := 0, locals := 0 } : Room) #[(.int p1)] h0 (Q15 Z p1 h0 n0) := by
  refine met_n (plainFor_of_name pn_5) (fun m => ef_15 m p1) ?_
  intro p e s m below meth c s₁ X0 hx hby hml hZ hown hnm hret hlk e0
  replace hown : s.vm.findClass "java/lang/StringLatin1" = some m.cls := hown
  replace hnm : meth.name = "canEncode" := hnm
  replace hret : meth.sig.returnType = (some .boolean) := hret
  have N0 := Fr.nil n0
  have K0 : Keep h0 h0 [] := Keep.refl _ _
  show Ok p e below _ _ s₁ (mkF m 0 #[.val (.int p1)] [])
  refine Ok.iloadN (pc' := 1) X0 hx (hb hby d15_0) rfl rfl ?_
  refine Ok.sipush (z := (255 : Int32)) (pc' := 4) X0 hx (hb hby d15_1) rfl rfl ?_
  by_cases hc4 : 255 < p1.toInt
  · refine Ok.icY (pc' := 11) X0 hx (hb hby d15_4) (bt (ic_eq p1 (255 : Int32)).2.2.2.2.1 hc4) (by decide) (by decide) ?_
    refine Ok.iconst (z := (0 : Int32)) (pc' := 12) X0 hx (hb hby d15_11) rfl rfl ?_
    refine Ok.retI X0 hx hret hlk (Or.inr (Or.inl rfl)) rfl (hb hby d15_12) (by decide) (by decide) ?_
    show Q15 Z p1 h0 n0 _ s₁.heap _
    rw [e0]
    exact ⟨(0 : Int32), rfl, by rw [show ((0 : Int32)).toInt = 0 from rfl]; omega, N0, rfl⟩
  · refine Ok.icN (pc' := 7) X0 hx (hb hby d15_4) (bf (ic_eq p1 (255 : Int32)).2.2.2.2.1 hc4) rfl ?_
    refine Ok.iconst (z := (1 : Int32)) (pc' := 8) X0 hx (hb hby d15_7) rfl rfl ?_
    refine Ok.goto (pc' := 12) X0 hx (hb hby d15_8) (by decide) (by decide) ?_
    refine Ok.retI X0 hx hret hlk (Or.inr (Or.inl rfl)) rfl (hb hby d15_12) (by decide) (by decide) ?_
    show Q15 Z p1 h0 n0 _ s₁.heap _
    rw [e0]
    exact ⟨(1 : Int32), rfl, by rw [show ((1 : Int32)).toInt = 1 from rfl]; omega, N0, rfl⟩
theorem d16_0 : decode jdk_43_method_46_code 0 = .ok (.iconst 1, 1) := by decide +kernel
theorem d16_1 : decode jdk_43_method_46_code 1 = .ok (.newarray .byte, 2) := by decide +kernel
theorem d16_3 : decode jdk_43_method_46_code 3 = .ok (.dup, 1) := by decide +kernel
theorem d16_4 : decode jdk_43_method_46_code 4 = .ok (.iconst 0, 1) := by decide +kernel
theorem d16_5 : decode jdk_43_method_46_code 5 = .ok (.iload_n 0, 1) := by decide +kernel
theorem d16_6 : decode jdk_43_method_46_code 6 = .ok (.i2b, 1) := by decide +kernel
theorem d16_7 : decode jdk_43_method_46_code 7 = .ok (.bastore, 1) := by decide +kernel
theorem d16_8 : decode jdk_43_method_46_code 8 = .ok (.areturn, 1) := by decide +kernel
theorem ef_16 (m : MethodId) (x0 : Int32) : entryFrame m #[(.int x0)] 1 = mkF m 0 #[.val (.int x0)] [] := by first | (simp [entryFrame, mkF, argsToLocals, Value.category]; done) | rfl
def Q16 (Z : State) (p1 : Int32) (h0 : Heap) (n0 : Nat) (v : Option Value) (h : Heap) (L : List Loc) : Prop := ∃ (r : Addr) (kr : ClassId), v = some (.ref r) ∧ Fr n0 L ∧ Keep h0 h [] ∧ h0.size ≤ r ∧ Arv Z h r kr .byte (1 : Int32) [(.int p1.toInt8.toInt32.toInt8.toInt32)] (.int (0 : Int32))
set_option maxRecDepth 65536 in
set_option maxHeartbeats 40000000 in
theorem rm16 (l : Launch) (Z : State) (a0 : Array Value) (hw : ∀ d ∈ tables_1, d.before a0 Z = true) (p1 : Int32) (h0 : Heap) (n0 : Nat) (Z0 : n0 ≤ h0.size)  :
    MetN l Z (⟨"java/lang/StringLatin1", "toBytes", "(C)[B"⟩ : MethodName) jdk_43_method_46_code 1 (some (.array .byte)) [] ({ frames := 0, cells := 1, slots := 1, locals := 0 } : Room) #[(.int p1)] h0 (Q16 Z p1 h0 n0) := by
  refine met_n (plainFor_of_name pn_5) (fun m => ef_16 m p1) ?_
  intro p e s m below meth c s₁ X0 hx hby hml hZ hown hnm hret hlk e0
  replace hown : s.vm.findClass "java/lang/StringLatin1" = some m.cls := hown
  replace hnm : meth.name = "toBytes" := hnm
  replace hret : meth.sig.returnType = (some (.array .byte)) := hret
  have N0 := Fr.nil n0
  have K0 : Keep h0 h0 [] := Keep.refl _ _
  show Ok p e below _ _ s₁ (mkF m 0 #[.val (.int p1)] [])
  refine Ok.iconst (z := (1 : Int32)) (pc' := 1) X0 hx (hb hby d16_0) rfl rfl ?_
  refine Ok.newP (pc' := 3) (cap := 1) X0 hx hZ (hw _ (List.mem_of_getElem? (i := 20) rfl)) rfl e0 (hb hby d16_1) rfl (by decide) (by decide) (by decide) (by decide) (by decide) ?_
  intro T30 h30 b30 kc30 g30 X30 e30 E30 V30
  have ge_b30 : n0 ≤ b30 := Nat.le_trans Z0 (Nat.le_of_eq g30.symm)
  have sz_b30 : h0.size ≤ b30 := Nat.le_trans K0.1 (Nat.le_of_eq g30.symm)
  have K30 : Keep h0 h30 [] := K0.ext E30
  have Z31 : n0 ≤ h30.size := Nat.le_trans Z0 E30.1
  replace V30 : Arv Z h30 b30 kc30 .byte (1 : Int32) [(.int (0 : Int32))] (.int (0 : Int32)) := V30.pad (pad_rep [] (.int (0 : Int32)) 1)
  show Ok p e below _ _ T30 (mkF m 3 #[.val (.int p1)] [(.ref b30)])
  refine Ok.dup (pc' := 4) X30 hx (hb hby d16_3) rfl rfl ?_
  refine Ok.iconst (z := (0 : Int32)) (pc' := 5) X30 hx (hb hby d16_4) rfl rfl ?_
  refine Ok.iloadN (pc' := 6) X30 hx (hb hby d16_5) rfl rfl ?_
  refine Ok.i2b (pc' := 7) X30 hx (hb hby d16_6) rfl ?_
  refine Ok.stB (pc' := 8) (i := 0) X30 hx hZ e30 V30 ⟨by decide, by decide⟩ rfl (Nat.le_of_ble_eq_true rfl) (hb hby d16_7) rfl ?_
  intro T32 h32 X32 e32 W32 V32
  replace V32 : Arv Z h32 b30 kc30 .byte (1 : Int32) [(.int p1.toInt8.toInt32.toInt8.toInt32)] (.int (0 : Int32)) := V32
  have N32 := Fr.snoc X32 N0 ge_b30
  have K32 : Keep h0 h32 [] := K30.wr W32 (Or.inr sz_b30)
  have Z33 : n0 ≤ h32.size := Nat.le_trans Z31 (Keep.of_wr W32).1
  refine Ok.retA X32 hx hret hlk rfl rfl rfl (hb hby d16_8) (by decide) (by decide) ?_
  show Q16 Z p1 h0 n0 _ T32.heap _
  rw [e32]
  exact ⟨_, _, rfl, N32, K32, sz_b30, V32⟩
theorem d17_0 : decode jdk_42_method_151_code 0 = .ok (.aload_n 0, 1) := by decide +kernel
theorem d17_1 : decode jdk_42_method_151_code 1 = .ok (.invokespecial 1, 3) := by decide +kernel
theorem d17_4 : decode jdk_42_method_151_code 4 = .ok (.aload_n 0, 1) := by decide +kernel
theorem d17_5 : decode jdk_42_method_151_code 5 = .ok (.aload_n 1, 1) := by decide +kernel
theorem d17_6 : decode jdk_42_method_151_code 6 = .ok (.putfield 9, 3) := by decide +kernel
theorem d17_9 : decode jdk_42_method_151_code 9 = .ok (.aload_n 0, 1) := by decide +kernel
theorem d17_10 : decode jdk_42_method_151_code 10 = .ok (.iload_n 2, 1) := by decide +kernel
theorem d17_11 : decode jdk_42_method_151_code 11 = .ok (.putfield 15, 3) := by decide +kernel
theorem d17_14 : decode jdk_42_method_151_code 14 = .ok (.return_, 1) := by decide +kernel
theorem ef_17 (m : MethodId) (x0 : Addr) (x1 : Addr) (x2 : Int32) : entryFrame m #[(.ref x0), (.ref x1), (.int x2)] 3 = mkF m 0 #[.val (.ref x0), .val (.ref x1), .val (.int x2)] [] := by first | (simp [entryFrame, mkF, argsToLocals, Value.category]; done) | rfl
def Q17 (Z : State) (a1 : Addr) (q2 : Addr) (u_value : Value) (u_coder : Value) (h0 : Heap) (n0 : Nat) (v : Option Value) (h : Heap) (L : List Loc) : Prop := v = none ∧ Fr n0 L ∧ Keep h0 h [a1] ∧ Exa Z h a1 "java/lang/String" ∧ Fld Z h a1 "java/lang/String" "value" "[B" (.ref q2) ∧ Fld Z h a1 "java/lang/String" "coder" "B" (.int (0 : Int32))
set_option maxRecDepth 65536 in
set_option maxHeartbeats 40000000 in
theorem rm17 (l : Launch) (Z : State) (a0 : Array Value) (hw : ∀ d ∈ tables_1, d.before a0 Z = true) (a1 : Addr) (q2 : Addr) (u_value : Value) (u_coder : Value) (h0 : Heap) (n0 : Nat) (Z0 : n0 ≤ h0.size) (E_a1 : Exa Z h0 a1 "java/lang/String") (g_a1 : n0 ≤ a1) (F_value : Fld Z h0 a1 "java/lang/String" "value" "[B" u_value) (F_coder : Fld Z h0 a1 "java/lang/String" "coder" "B" u_coder) :
    MetN l Z (⟨"java/lang/String", "<init>", "([BB)V"⟩ : MethodName) jdk_42_method_151_code 3 none [] ({ frames := 1, cells := 0, slots := 0, locals := 12 } : Room) #[(.ref a1), (.ref q2), (.int (0 : Int32))] h0 (Q17 Z a1 q2 u_value u_coder h0 n0) := by
  refine met_n (plainFor_of_name pn_4) (fun m => ef_17 m a1 q2 (0 : Int32)) ?_
  intro p e s m below meth c s₁ X0 hx hby hml hZ hown hnm hret hlk e0
  replace hown : s.vm.findClass "java/lang/String" = some m.cls := hown
  replace hnm : meth.name = "<init>" := hnm
  replace hret : meth.sig.returnType = none := hret
  have N0 := Fr.nil n0
  have K0 : Keep h0 h0 [a1] := Keep.refl _ _
  show Ok p e below _ _ s₁ (mkF m 0 #[.val (.ref a1), .val (.ref q2), .val (.int (0 : Int32))] [])
  refine Ok.aloadN (pc' := 1) X0 hx (hb hby d17_0) rfl rfl rfl ?_
  refine Ok.initO (pc' := 4) (W := 0) X0 hx hZ hown (hw _ (List.mem_of_getElem? (i := 12) rfl)) (hw _ (List.mem_of_getElem? (i := 13) rfl)) (hw _ (List.mem_of_getElem? (i := 14) rfl)) e0 (by rw [hml]; rfl) (hb hby d17_1) rfl (by decide) (Nat.le_of_eq rfl) (by decide) ?_
  intro T34 X34 e34
  refine Ok.aloadN (pc' := 5) X34 hx (hb hby d17_4) rfl rfl rfl ?_
  refine Ok.aloadN (pc' := 6) X34 hx (hb hby d17_5) rfl rfl rfl ?_
  refine Ok.putF (pc' := 9) (ty := (.array .byte)) X34 hx hZ hown (host := "") (Or.inl (hw _ (List.mem_of_getElem? (i := 29) rfl))) Via.refl e34 F_value E_a1 (Or.inr ⟨(hw _ (List.mem_of_getElem? (i := 30) rfl)), rfl, hnm⟩) (hw _ (List.mem_of_getElem? (i := 3) rfl)) (by decide) rfl rfl (hb hby d17_6) rfl ?_
  intro T35 h35 X35 e35 W35
  replace F_value := F_value.same W35
  replace E_a1 := E_a1.wr W35
  replace F_coder := F_coder.other W35 (Or.inr (slot_ne (Or.inr (hw _ (List.mem_of_getElem? (i := 28) rfl))) (Or.inr (hw _ (List.mem_of_getElem? (i := 30) rfl))) (by decide) (t := .byte) (t' := (.array .byte)) (by decide) (by decide)))
  have N35 := Fr.snoc X35 N0 g_a1
  have K35 : Keep h0 h35 [a1] := K0.wr W35 (Or.inl (List.mem_of_getElem? (i := 0) rfl))
  have Z36 : n0 ≤ h35.size := Nat.le_trans Z0 (Keep.of_wr W35).1
  refine Ok.aloadN (pc' := 10) X35 hx (hb hby d17_9) rfl rfl rfl ?_
  refine Ok.iloadN (pc' := 11) X35 hx (hb hby d17_10) rfl rfl ?_
  refine Ok.putF (pc' := 14) (ty := .byte) X35 hx hZ hown (host := "") (Or.inl (hw _ (List.mem_of_getElem? (i := 27) rfl))) Via.refl e35 F_coder E_a1 (Or.inr ⟨(hw _ (List.mem_of_getElem? (i := 28) rfl)), rfl, hnm⟩) (hw _ (List.mem_of_getElem? (i := 3) rfl)) (by decide) rfl rfl (hb hby d17_11) rfl ?_
  intro T37 h37 X37 e37 W37
  replace F_coder := F_coder.same W37
  replace E_a1 := E_a1.wr W37
  replace F_value := F_value.other W37 (Or.inr (slot_ne (Or.inr (hw _ (List.mem_of_getElem? (i := 30) rfl))) (Or.inr (hw _ (List.mem_of_getElem? (i := 28) rfl))) (by decide) (t := (.array .byte)) (t' := .byte) (by decide) (by decide)))
  have N37 := Fr.snoc X37 N35 g_a1
  have K37 : Keep h0 h37 [a1] := K35.wr W37 (Or.inl (List.mem_of_getElem? (i := 0) rfl))
  have Z38 : n0 ≤ h37.size := Nat.le_trans Z36 (Keep.of_wr W37).1
  refine Ok.retV X37 hx hret hlk (hb hby d17_14) (by decide) (by decide) ?_
  show Q17 Z a1 q2 u_value u_coder h0 n0 _ T37.heap _
  rw [e37]
  exact ⟨rfl, N37, K37, E_a1, F_value, F_coder⟩
theorem d18_0 : decode jdk_42_method_139_code 0 = .ok (.getstatic 38, 3) := by decide +kernel
theorem d18_3 : decode jdk_42_method_139_code 3 = .ok (.ifCond .eq 23, 3) := by decide +kernel
theorem d18_6 : decode jdk_42_method_139_code 6 = .ok (.iload_n 0, 1) := by decide +kernel
theorem d18_7 : decode jdk_42_method_139_code 7 = .ok (.invokestatic 1015, 3) := by decide +kernel
theorem d18_10 : decode jdk_42_method_139_code 10 = .ok (.ifCond .eq 16, 3) := by decide +kernel
theorem d18_13 : decode jdk_42_method_139_code 13 = .ok (.new 10, 3) := by decide +kernel
theorem d18_16 : decode jdk_42_method_139_code 16 = .ok (.dup, 1) := by decide +kernel
theorem d18_17 : decode jdk_42_method_139_code 17 = .ok (.iload_n 0, 1) := by decide +kernel
theorem d18_18 : decode jdk_42_method_139_code 18 = .ok (.invokestatic 1018, 3) := by decide +kernel
theorem d18_21 : decode jdk_42_method_139_code 21 = .ok (.iconst 0, 1) := by decide +kernel
theorem d18_22 : decode jdk_42_method_139_code 22 = .ok (.invokespecial 209, 3) := by decide +kernel
theorem d18_25 : decode jdk_42_method_139_code 25 = .ok (.areturn, 1) := by decide +kernel
theorem d18_26 : decode jdk_42_method_139_code 26 = .ok (.new 10, 3) := by decide +kernel
theorem d18_29 : decode jdk_42_method_139_code 29 = .ok (.dup, 1) := by decide +kernel
theorem d18_30 : decode jdk_42_method_139_code 30 = .ok (.iload_n 0, 1) := by decide +kernel
theorem d18_31 : decode jdk_42_method_139_code 31 = .ok (.invokestatic 1021, 3) := by decide +kernel
theorem d18_34 : decode jdk_42_method_139_code 34 = .ok (.iconst 1, 1) := by decide +kernel
theorem d18_35 : decode jdk_42_method_139_code 35 = .ok (.invokespecial 209, 3) := by decide +kernel
theorem d18_38 : decode jdk_42_method_139_code 38 = .ok (.areturn, 1) := by decide +kernel
theorem ef_18 (m : MethodId) (x0 : Int32) : entryFrame m #[(.int x0)] 1 = mkF m 0 #[.val (.int x0)] [] := by first | (simp [entryFrame, mkF, argsToLocals, Value.category]; done) | rfl
def Q18 (Z : State) (p1 : Int32) (cs0 : Int32) (h0 : Heap) (n0 : Nat) (v : Option Value) (h : Heap) (L : List Loc) : Prop := ∃ (b r : Addr) (kr : ClassId), v = some (.ref b) ∧ Fr n0 L ∧ Keep h0 h [] ∧ h0.size ≤ b ∧ h0.size ≤ r ∧ b ≠ r ∧ Exa Z h b "java/lang/String" ∧ Fld Z h b "java/lang/String" "value" "[B" (.ref r) ∧ Fld Z h b "java/lang/String" "coder" "B" (.int (0 : Int32)) ∧ Arv Z h r kr .byte (1 : Int32) [(.int p1.toInt8.toInt32.toInt8.toInt32)] (.int (0 : Int32))
set_option maxRecDepth 65536 in
set_option maxHeartbeats 40000000 in
theorem rm18 (l : Launch) (Z : State) (a0 : Array Value) (hw : ∀ d ∈ tables_1, d.before a0 Z = true) (p1 : Int32) (cs0 : Int32) (h0 : Heap) (n0 : Nat) (Z0 : n0 ≤ h0.size) (hp1 : 0 ≤ p1.toInt ∧ p1.toInt ≤ 255) (O_0 : Old Z n0 h0) (S_cs : Sta Z Z.heap "java/lang/String" "COMPACT_STRINGS" "Z" (.int cs0)) (hcs : ¬ cs0.toInt = 0) :
    MetN l Z (⟨"java/lang/String", "valueOf", "(C)Ljava/lang/String;"⟩ : MethodName) jdk_42_method_139_code 1 (some (.object "java/lang/String")) [] ({ frames := 2, cells := 2, slots := 5, locals := 27 } : Room) #[(.int p1)] h0 (Q18 Z p1 cs0 h0 n0) := by
  refine met_n (plainFor_of_name pn_4) (fun m => ef_18 m p1) ?_
  intro p e s m below meth c s₁ X0 hx hby hml hZ hown hnm hret hlk e0
  replace hown : s.vm.findClass "java/lang/String" = some m.cls := hown
  replace hnm : meth.name = "valueOf" := hnm
  replace hret : meth.sig.returnType = (some (.object "java/lang/String")) := hret
  have N0 := Fr.nil n0
  have K0 : Keep h0 h0 [] := Keep.refl _ _
  show Ok p e below _ _ s₁ (mkF m 0 #[.val (.int p1)] [])
  refine Ok.getS (pc' := 3) X0 hx hZ hown (host := "") (Or.inl (hw _ (List.mem_of_getElem? (i := 15) rfl))) Via.refl e0 (S_cs.ext O_0.2) (hb hby d18_0) rfl ?_
  intro T39 X39 e39
  refine Ok.ifN (pc' := 6) X39 hx (hb hby d18_3) (bf (i0 .eq cs0 (ic_eq cs0 0).1) (show ¬ (cs0.toInt = 0) from hcs)) rfl ?_
  refine Ok.iloadN (pc' := 7) X39 hx (hb hby d18_6) rfl rfl ?_
  refine Ok.callS (pc' := 10) (W := 0)  (argsL := [(.int p1)]) (rest := []) X39 hx hZ hown (rm15 l Z a0 hw p1 h0 n0 Z0 ) (hw _ (List.mem_of_getElem? (i := 34) rfl)) (hw _ (List.mem_of_getElem? (i := 35) rfl)) (hw _ (List.mem_of_getElem? (i := 36) rfl)) (hw _ (List.mem_of_getElem? (i := 37) rfl)) (by decide) e39 (by decide) (by decide) (by decide) (by decide) (lenOf pd_7 rfl) rfl rfl (Nat.le_of_eq rfl) (by rw [hml]; rfl) (hb hby d18_7) rfl ?_
  intro v40 T40 L40 X40 hQ40
  obtain ⟨b40, rfl, hb40, Nq40, eq40⟩ := hQ40
  have N40 := Fr.app N0 Nq40
  show Ok p e below _ _ T40 (mkF m 10 #[.val (.int p1)] [(.int b40)])
  refine Ok.ifN (pc' := 13) X40 hx (hb hby d18_10) (bf (i0 .eq b40 (ic_eq b40 0).1) (show ¬ (b40.toInt = 0) from (by omega))) rfl ?_
  refine Ok.new (pc' := 16) X40 hx hZ hown (hw _ (List.mem_of_getElem? (i := 38) rfl)) (hw _ (List.mem_of_getElem? (i := 3) rfl)) (hw _ (List.mem_of_getElem? (i := 4) rfl)) eq40 (hb hby d18_13) rfl (by decide) (by decide) ?_
  intro T41 h41 b41 g41 X41 e41 E41 A41 D41
  replace O_0 := O_0.ext E41
  have ge_b41 : n0 ≤ b41 := Nat.le_trans Z0 (Nat.le_of_eq g41.symm)
  have sz_b41 : h0.size ≤ b41 := Nat.le_trans K0.1 (Nat.le_of_eq g41.symm)
  have K41 : Keep h0 h41 [] := K0.ext E41
  have Z42 : n0 ≤ h41.size := Nat.le_trans Z0 E41.1
  have F41_coder : Fld Z h41 b41 "java/lang/String" "coder" "B" (.int (0 : Int32)) := D41 (Or.inr (hw _ (List.mem_of_getElem? (i := 28) rfl))) (ty := .byte) (by decide)
  have F41_value : Fld Z h41 b41 "java/lang/String" "value" "[B" .null := D41 (Or.inr (hw _ (List.mem_of_getElem? (i := 30) rfl))) (ty := (.array .byte)) (by decide)
  show Ok p e below _ _ T41 (mkF m 16 #[.val (.int p1)] [(.ref b41)])
  refine Ok.dup (pc' := 17) X41 hx (hb hby d18_16) rfl rfl ?_
  refine Ok.iloadN (pc' := 18) X41 hx (hb hby d18_17) rfl rfl ?_
  refine Ok.callS (pc' := 21) (W := 2)  (argsL := [(.int p1)]) (rest := [(.ref b41), (.ref b41)]) X41 hx hZ hown (rm16 l Z a0 hw p1 h41 n0 Z42 ) (hw _ (List.mem_of_getElem? (i := 39) rfl)) (hw _ (List.mem_of_getElem? (i := 40) rfl)) (hw _ (List.mem_of_getElem? (i := 36) rfl)) (hw _ (List.mem_of_getElem? (i := 41) rfl)) (by decide) e41 (by decide) (by decide) (by decide) (by decide) (lenOf pd_8 rfl) rfl rfl (Nat.le_of_eq rfl) (by rw [hml]; rfl) (hb hby d18_18) rfl ?_
  intro v43 T43 L43 X43 hQ43
  obtain ⟨r43, kr43, rfl, Nq43, Kq43, hr43, V43⟩ := hQ43
  have ne_b41_r43 : Nq b41 r43 := Nat.ne_of_lt (Nat.lt_of_lt_of_le A41.lt hr43)
  have ge_r43 : n0 ≤ r43 := Nat.le_trans Z42 hr43
  have sz_r43 : h0.size ≤ r43 := Nat.le_trans K41.1 hr43
  have N43 := Fr.app N40 Nq43
  replace O_0 := O_0.keep Kq43 all0
  replace A41 := A41.keep Kq43
  replace F41_coder := F41_coder.keep Kq43 nin0
  replace F41_value := F41_value.keep Kq43 nin0
  have K43' : Keep h0 T43.heap [] := K41.trans Kq43 all0
  have Z44 : n0 ≤ T43.heap.size := Nat.le_trans Z42 Kq43.1
  show Ok p e below _ _ T43 (mkF m 21 #[.val (.int p1)] [(.ref r43), (.ref b41), (.ref b41)])
  refine Ok.iconst (z := (0 : Int32)) (pc' := 22) X43 hx (hb hby d18_21) rfl rfl ?_
  refine Ok.init (pc' := 25) (W := 1) (a := b41)  (argsL := [(.ref r43), (.int (0 : Int32))]) (rest := [(.ref b41)]) X43 hx hZ hown (rm17 l Z a0 hw b41 r43 .null (.int (0 : Int32)) T43.heap n0 Z44 A41 ge_b41 F41_value F41_coder) rfl (hw _ (List.mem_of_getElem? (i := 42) rfl)) (hw _ (List.mem_of_getElem? (i := 43) rfl)) (hw _ (List.mem_of_getElem? (i := 4) rfl)) (hw _ (List.mem_of_getElem? (i := 44) rfl)) (by decide) rfl (by decide) (by decide) (by decide) (by decide) (lenOf pd_9 rfl) rfl rfl (Nat.le_of_eq rfl) (by rw [hml]; rfl) (hb hby d18_22) rfl ?_
  intro v45 T45 L45 X45 hQ45
  obtain ⟨rfl, Nq45, Kq45, Aq45, Fv45, Fc45⟩ := hQ45
  have N45 := Fr.app N43 Nq45
  replace O_0 := O_0.keep Kq45 (allS ge_b41 all0)
  replace A41 := A41.keep Kq45
  replace V43 := V43.keep Kq45 (ninS (Ne.symm ne_b41_r43) nin0)
  have K45' : Keep h0 T45.heap [] := K43'.trans Kq45 (allS (Or.inr sz_b41) all0)
  have Z46 : n0 ≤ T45.heap.size := Nat.le_trans Z44 Kq45.1
  show Ok p e below _ _ T45 (mkF m 25 #[.val (.int p1)] [(.ref b41)])
  refine Ok.retA X45 hx hret hlk rfl rfl rfl (hb hby d18_25) (by decide) (by decide) ?_
  show Q18 Z p1 cs0 h0 n0 _ T45.heap _
  exact ⟨_, _, _, rfl, N45, K45', sz_b41, sz_r43, ne_b41_r43, A41, Fv45, Fc45, V43⟩
theorem d19_0 : decode jdk_42_method_152_code 0 = .ok (.getstatic 38, 3) := by decide +kernel
theorem d19_3 : decode jdk_42_method_152_code 3 = .ok (.ifCond .eq 10, 3) := by decide +kernel
theorem d19_6 : decode jdk_42_method_152_code 6 = .ok (.aload_n 0, 1) := by decide +kernel
theorem d19_7 : decode jdk_42_method_152_code 7 = .ok (.getfield 15, 3) := by decide +kernel
theorem d19_10 : decode jdk_42_method_152_code 10 = .ok (.goto 4, 3) := by decide +kernel
theorem d19_13 : decode jdk_42_method_152_code 13 = .ok (.iconst 1, 1) := by decide +kernel
theorem d19_14 : decode jdk_42_method_152_code 14 = .ok (.ireturn, 1) := by decide +kernel
theorem ef_19 (m : MethodId) (x0 : Addr) : entryFrame m #[(.ref x0)] 1 = mkF m 0 #[.val (.ref x0)] [] := by first | (simp [entryFrame, mkF, argsToLocals, Value.category]; done) | rfl
def Q19 (Z : State) (a1 : Addr) (r1 : Addr) (k1 : ClassId) (y0 : Int32) (y1 : Int32) (y2 : Int32) (y3 : Int32) (cs0 : Int32) (h0 : Heap) (n0 : Nat) (v : Option Value) (h : Heap) (L : List Loc) : Prop := v = some (.int (0 : Int32)) ∧ Fr n0 L ∧ h = h0
set_option maxRecDepth 65536 in
set_option maxHeartbeats 40000000 in
theorem rm19 (l : Launch) (Z : State) (a0 : Array Value) (hw : ∀ d ∈ tables_1, d.before a0 Z = true) (a1 : Addr) (r1 : Addr) (k1 : ClassId) (y0 : Int32) (y1 : Int32) (y2 : Int32) (y3 : Int32) (cs0 : Int32) (h0 : Heap) (n0 : Nat) (Z0 : n0 ≤ h0.size) (E_a1 : Exa Z h0 a1 "java/lang/String") (Fv : Fld Z h0 a1 "java/lang/String" "value" "[B" (.ref r1)) (Fc : Fld Z h0 a1 "java/lang/String" "coder" "B" (.int (0 : Int32))) (V_1 : Arv Z h0 r1 k1 .byte (4 : Int32) [(.int y0), (.int y1), (.int y2), (.int y3)] (.int (0 : Int32))) (O_0 : Old Z n0 h0) (S_cs : Sta Z Z.heap "java/lang/String" "COMPACT_STRINGS" "Z" (.int cs0)) (hcs : ¬ cs0.toInt = 0) :
    MetN l Z (⟨"java/lang/String", "coder", "()B"⟩ : MethodName) jdk_42_method_152_code 1 (some .byte) [] ({ frames := 0, cells := 0, slots := 0, locals := 0 } : Room) #[(.ref a1)] h0 (Q19 Z a1 r1 k1 y0 y1 y2 y3 cs0 h0 n0) := by
  refine met_n (plainFor_of_name pn_4) (fun m => ef_19 m a1) ?_
  intro p e s m below meth c s₁ X0 hx hby hml hZ hown hnm hret hlk e0
  replace hown : s.vm.findClass "java/lang/String" = some m.cls := hown
  replace hnm : meth.name = "coder" := hnm
  replace hret : meth.sig.returnType = (some .byte) := hret
  have N0 := Fr.nil n0
  have K0 : Keep h0 h0 [] := Keep.refl _ _
  show Ok p e below _ _ s₁ (mkF m 0 #[.val (.ref a1)] [])
  refine Ok.getS (pc' := 3) X0 hx hZ hown (host := "") (Or.inl (hw _ (List.mem_of_getElem? (i := 15) rfl))) Via.refl e0 (S_cs.ext O_0.2) (hb hby d19_0) rfl ?_
  intro T47 X47 e47
  refine Ok.ifN (pc' := 6) X47 hx (hb hby d19_3) (bf (i0 .eq cs0 (ic_eq cs0 0).1) (show ¬ (cs0.toInt = 0) from hcs)) rfl ?_
  refine Ok.aloadN (pc' := 7) X47 hx (hb hby d19_6) rfl rfl rfl ?_
  refine Ok.getF (pc' := 10) X47 hx hZ hown (host := "") (Or.inl (hw _ (List.mem_of_getElem? (i := 27) rfl))) Via.refl e47 Fc (hb hby d19_7) rfl ?_
  intro T48 X48 e48
  refine Ok.goto (pc' := 14) X48 hx (hb hby d19_10) (by decide) (by decide) ?_
  refine Ok.retI X48 hx hret hlk (Or.inr (Or.inr (Or.inl rfl))) rfl (hb hby d19_14) (by decide) (by decide) ?_
  show Q19 Z a1 r1 k1 y0 y1 y2 y3 cs0 h0 n0 _ T48.heap _
  rw [e48]
  exact ⟨rfl, N0, rfl⟩
theorem d20_0 : decode jdk_42_method_54_code 0 = .ok (.aload_n 0, 1) := by decide +kernel
theorem d20_1 : decode jdk_42_method_54_code 1 = .ok (.getfield 9, 3) := by decide +kernel
theorem d20_4 : decode jdk_42_method_54_code 4 = .ok (.arraylength, 1) := by decide +kernel
theorem d20_5 : decode jdk_42_method_54_code 5 = .ok (.aload_n 0, 1) := by decide +kernel
theorem d20_6 : decode jdk_42_method_54_code 6 = .ok (.invokevirtual 335, 3) := by decide +kernel
theorem d20_9 : decode jdk_42_method_54_code 9 = .ok (.ishr, 1) := by decide +kernel
theorem d20_10 : decode jdk_42_method_54_code 10 = .ok (.ireturn, 1) := by decide +kernel
theorem ef_20 (m : MethodId) (x0 : Addr) : entryFrame m #[(.ref x0)] 1 = mkF m 0 #[.val (.ref x0)] [] := by first | (simp [entryFrame, mkF, argsToLocals, Value.category]; done) | rfl
def Q20 (Z : State) (a1 : Addr) (r1 : Addr) (k1 : ClassId) (y0 : Int32) (y1 : Int32) (y2 : Int32) (y3 : Int32) (cs0 : Int32) (h0 : Heap) (n0 : Nat) (v : Option Value) (h : Heap) (L : List Loc) : Prop := v = some (.int (4 : Int32)) ∧ Fr n0 L ∧ h = h0
set_option maxRecDepth 65536 in
set_option maxHeartbeats 40000000 in
theorem rm20 (l : Launch) (Z : State) (a0 : Array Value) (hw : ∀ d ∈ tables_1, d.before a0 Z = true) (a1 : Addr) (r1 : Addr) (k1 : ClassId) (y0 : Int32) (y1 : Int32) (y2 : Int32) (y3 : Int32) (cs0 : Int32) (h0 : Heap) (n0 : Nat) (Z0 : n0 ≤ h0.size) (E_a1 : Exa Z h0 a1 "java/lang/String") (Fv : Fld Z h0 a1 "java/lang/String" "value" "[B" (.ref r1)) (Fc : Fld Z h0 a1 "java/lang/String" "coder" "B" (.int (0 : Int32))) (V_1 : Arv Z h0 r1 k1 .byte (4 : Int32) [(.int y0), (.int y1), (.int y2), (.int y3)] (.int (0 : Int32))) (O_0 : Old Z n0 h0) (S_cs : Sta Z Z.heap "java/lang/String" "COMPACT_STRINGS" "Z" (.int cs0)) (hcs : ¬ cs0.toInt = 0) :
    MetN l Z (⟨"java/lang/String", "length", "()I"⟩ : MethodName) jdk_42_method_54_code 1 (some .int) [] ({ frames := 1, cells := 0, slots := 0, locals := 13 } : Room) #[(.ref a1)] h0 (Q20 Z a1 r1 k1 y0 y1 y2 y3 cs0 h0 n0) := by
  refine met_n (plainFor_of_name pn_4) (fun m => ef_20 m a1) ?_
  intro p e s m below meth c s₁ X0 hx hby hml hZ hown hnm hret hlk e0
  replace hown : s.vm.findClass "java/lang/String" = some m.cls := hown
  replace hnm : meth.name = "length" := hnm
  replace hret : meth.sig.returnType = (some .int) := hret
  have N0 := Fr.nil n0
  have K0 : Keep h0 h0 [] := Keep.refl _ _
  show Ok p e below _ _ s₁ (mkF m 0 #[.val (.ref a1)] [])
  refine Ok.aloadN (pc' := 1) X0 hx (hb hby d20_0) rfl rfl rfl ?_
  refine Ok.getF (pc' := 4) X0 hx hZ hown (host := "") (Or.inl (hw _ (List.mem_of_getElem? (i := 29) rfl))) Via.refl e0 Fv (hb hby d20_1) rfl ?_
  intro T49 X49 e49
  refine Ok.len (pc' := 5) X49 hx hZ e49 V_1 (hb hby d20_4) rfl ?_
  refine Ok.aloadN (pc' := 6) X49 hx (hb hby d20_5) rfl rfl rfl ?_
  refine Ok.virt (pc' := 9) (W := 1) (a := a1)  (argsL := []) (rest := [(.int (4 : Int32))]) X49 hx hZ hown (rm19 l Z a0 hw a1 r1 k1 y0 y1 y2 y3 cs0 h0 n0 Z0 E_a1 Fv Fc V_1 O_0 S_cs hcs) (hw _ (List.mem_of_getElem? (i := 109) rfl)) (hw _ (List.mem_of_getElem? (i := 110) rfl)) (notFace_of_selects (args := #[]) (mvT hZ (hw _ (List.mem_of_getElem? (i := 112) rfl)))) (hw _ (List.mem_of_getElem? (i := 112) rfl)) (hw _ (List.mem_of_getElem? (i := 111) rfl)) (hw _ (List.mem_of_getElem? (i := 4) rfl)) (hw _ (List.mem_of_getElem? (i := 113) rfl)) (by decide) e49 E_a1 (by decide) (by decide) (by decide) (by decide) (lenOf pd_17 rfl) rfl rfl (Nat.le_of_eq rfl) (by rw [hml]; rfl) (hb hby d20_6) rfl ?_
  intro v50 T50 L50 X50 hQ50
  obtain ⟨rfl, Nq50, eq50⟩ := hQ50
  have N50 := Fr.app N0 Nq50
  show Ok p e below _ _ T50 (mkF m 9 #[.val (.ref a1)] [(.int (0 : Int32)), (.int (4 : Int32))])
  refine Ok.ishr (pc' := 10) X50 hx (hb hby d20_9) rfl ?_
  refine Ok.retI X50 hx hret hlk (Or.inl rfl) rfl (hb hby d20_10) (by decide) (by decide) ?_
  show Q20 Z a1 r1 k1 y0 y1 y2 y3 cs0 h0 n0 _ T50.heap _
  rw [eq50]
  exact ⟨rfl, N50, rfl⟩
theorem d21_0 : decode jdk_42_method_154_code 0 = .ok (.getstatic 38, 3) := by decide +kernel
theorem d21_3 : decode jdk_42_method_154_code 3 = .ok (.ifCond .eq 14, 3) := by decide +kernel
theorem d21_6 : decode jdk_42_method_154_code 6 = .ok (.aload_n 0, 1) := by decide +kernel
theorem d21_7 : decode jdk_42_method_154_code 7 = .ok (.getfield 15, 3) := by decide +kernel
theorem d21_10 : decode jdk_42_method_154_code 10 = .ok (.ifCond .ne 7, 3) := by decide +kernel
theorem d21_13 : decode jdk_42_method_154_code 13 = .ok (.iconst 1, 1) := by decide +kernel
theorem d21_14 : decode jdk_42_method_154_code 14 = .ok (.goto 4, 3) := by decide +kernel
theorem d21_17 : decode jdk_42_method_154_code 17 = .ok (.iconst 0, 1) := by decide +kernel
theorem d21_18 : decode jdk_42_method_154_code 18 = .ok (.ireturn, 1) := by decide +kernel
theorem ef_21 (m : MethodId) (x0 : Addr) : entryFrame m #[(.ref x0)] 1 = mkF m 0 #[.val (.ref x0)] [] := by first | (simp [entryFrame, mkF, argsToLocals, Value.category]; done) | rfl
def Q21 (Z : State) (a1 : Addr) (r1 : Addr) (k1 : ClassId) (y0 : Int32) (y1 : Int32) (y2 : Int32) (y3 : Int32) (cs0 : Int32) (gv : Value) (h0 : Heap) (n0 : Nat) (v : Option Value) (h : Heap) (L : List Loc) : Prop := v = some (.int (1 : Int32)) ∧ Fr n0 L ∧ h = h0
set_option maxRecDepth 65536 in
set_option maxHeartbeats 40000000 in
theorem rm21 (l : Launch) (Z : State) (a0 : Array Value) (hw : ∀ d ∈ tables_1, d.before a0 Z = true) (a1 : Addr) (r1 : Addr) (k1 : ClassId) (y0 : Int32) (y1 : Int32) (y2 : Int32) (y3 : Int32) (cs0 : Int32) (gv : Value) (h0 : Heap) (n0 : Nat) (Z0 : n0 ≤ h0.size) (E_a1 : Exa Z h0 a1 "java/lang/String") (Fv : Fld Z h0 a1 "java/lang/String" "value" "[B" (.ref r1)) (Fc : Fld Z h0 a1 "java/lang/String" "coder" "B" (.int (0 : Int32))) (V_1 : Arv Z h0 r1 k1 .byte (4 : Int32) [(.int y0), (.int y1), (.int y2), (.int y3)] (.int (0 : Int32))) (O_0 : Old Z n0 h0) (S_cs : Sta Z Z.heap "java/lang/String" "COMPACT_STRINGS" "Z" (.int cs0)) (hcs : ¬ cs0.toInt = 0) (S_sf : Sta Z Z.heap "jdk/internal/util/Preconditions" "SIOOBE_FORMATTER" "Ljava/util/function/BiFunction;" gv) (r_gv : gv.isRef = true) :
    MetN l Z (⟨"java/lang/String", "isLatin1", "()Z"⟩ : MethodName) jdk_42_method_154_code 1 (some .boolean) [] ({ frames := 0, cells := 0, slots := 0, locals := 0 } : Room) #[(.ref a1)] h0 (Q21 Z a1 r1 k1 y0 y1 y2 y3 cs0 gv h0 n0) := by
  refine met_n (plainFor_of_name pn_4) (fun m => ef_21 m a1) ?_
  intro p e s m below meth c s₁ X0 hx hby hml hZ hown hnm hret hlk e0
  replace hown : s.vm.findClass "java/lang/String" = some m.cls := hown
  replace hnm : meth.name = "isLatin1" := hnm
  replace hret : meth.sig.returnType = (some .boolean) := hret
  have N0 := Fr.nil n0
  have K0 : Keep h0 h0 [] := Keep.refl _ _
  show Ok p e below _ _ s₁ (mkF m 0 #[.val (.ref a1)] [])
  refine Ok.getS (pc' := 3) X0 hx hZ hown (host := "") (Or.inl (hw _ (List.mem_of_getElem? (i := 15) rfl))) Via.refl e0 (S_cs.ext O_0.2) (hb hby d21_0) rfl ?_
  intro T51 X51 e51
  refine Ok.ifN (pc' := 6) X51 hx (hb hby d21_3) (bf (i0 .eq cs0 (ic_eq cs0 0).1) (show ¬ (cs0.toInt = 0) from hcs)) rfl ?_
  refine Ok.aloadN (pc' := 7) X51 hx (hb hby d21_6) rfl rfl rfl ?_
  refine Ok.getF (pc' := 10) X51 hx hZ hown (host := "") (Or.inl (hw _ (List.mem_of_getElem? (i := 27) rfl))) Via.refl e51 Fc (hb hby d21_7) rfl ?_
  intro T52 X52 e52
  refine Ok.ifN (pc' := 13) X52 hx (hb hby d21_10) (bf (i0 .ne (0 : Int32) (ic_eq (0 : Int32) 0).2.1) (by decide)) rfl ?_
  refine Ok.iconst (z := (1 : Int32)) (pc' := 14) X52 hx (hb hby d21_13) rfl rfl ?_
  refine Ok.goto (pc' := 18) X52 hx (hb hby d21_14) (by decide) (by decide) ?_
  refine Ok.retI X52 hx hret hlk (Or.inr (Or.inl rfl)) rfl (hb hby d21_18) (by decide) (by decide) ?_
  show Q21 Z a1 r1 k1 y0 y1 y2 y3 cs0 gv h0 n0 _ T52.heap _
  rw [e52]
  exact ⟨rfl, N0, rfl⟩
theorem d22_0 : decode jdk_41_method_11_code 0 = .ok (.iload_n 0, 1) := by decide +kernel
theorem d22_1 : decode jdk_41_method_11_code 1 = .ok (.ifCond .lt 8, 3) := by decide +kernel
theorem d22_4 : decode jdk_41_method_11_code 4 = .ok (.iload_n 0, 1) := by decide +kernel
theorem d22_5 : decode jdk_41_method_11_code 5 = .ok (.iload_n 1, 1) := by decide +kernel
theorem d22_6 : decode jdk_41_method_11_code 6 = .ok (.if_icmp .lt 10, 3) := by decide +kernel
theorem d22_9 : decode jdk_41_method_11_code 9 = .ok (.aload_n 2, 1) := by decide +kernel
theorem d22_10 : decode jdk_41_method_11_code 10 = .ok (.iload_n 0, 1) := by decide +kernel
theorem d22_11 : decode jdk_41_method_11_code 11 = .ok (.iload_n 1, 1) := by decide +kernel
theorem d22_12 : decode jdk_41_method_11_code 12 = .ok (.invokestatic 95, 3) := by decide +kernel
theorem d22_16 : decode jdk_41_method_11_code 16 = .ok (.iload_n 0, 1) := by decide +kernel
theorem d22_17 : decode jdk_41_method_11_code 17 = .ok (.ireturn, 1) := by decide +kernel
theorem pn_6 : plainName "jdk/internal/util/Preconditions" = true := by first | (simp [plainName, overriddenIn]; done) | decide +kernel
theorem ef_22 (m : MethodId) (x0 : Int32) (x1 : Int32) (x2 : Value) (r2 : x2.isRef = true) : entryFrame m #[(.int x0), (.int x1), x2] 3 = mkF m 0 #[.val (.int x0), .val (.int x1), .val x2] [] := by
  (cases x2 <;> simp [Value.isRef] at r2) <;> first | (simp [entryFrame, mkF, argsToLocals, Value.category]; done) | rfl
def Q22 (Z : State) (gv : Value) (h0 : Heap) (n0 : Nat) (v : Option Value) (h : Heap) (L : List Loc) : Prop := v = some (.int (0 : Int32)) ∧ Fr n0 L ∧ h = h0
set_option maxRecDepth 65536 in
set_option maxHeartbeats 40000000 in
theorem rm22 (l : Launch) (Z : State) (a0 : Array Value) (hw : ∀ d ∈ tables_1, d.before a0 Z = true) (gv : Value) (h0 : Heap) (n0 : Nat) (Z0 : n0 ≤ h0.size) (r_gv : gv.isRef = true) :
    MetN l Z (⟨"jdk/internal/util/Preconditions", "checkIndex", "(IILjava/util/function/BiFunction;)I"⟩ : MethodName) jdk_41_method_11_code 3 (some .int) [] ({ frames := 0, cells := 0, slots := 0, locals := 0 } : Room) #[(.int (0 : Int32)), (.int (4 : Int32)), gv] h0 (Q22 Z gv h0 n0) := by
  refine met_n (plainFor_of_name pn_6) (fun m => ef_22 m (0 : Int32) (4 : Int32) gv r_gv) ?_
  intro p e s m below meth c s₁ X0 hx hby hml hZ hown hnm hret hlk e0
  replace hown : s.vm.findClass "jdk/internal/util/Preconditions" = some m.cls := hown
  replace hnm : meth.name = "checkIndex" := hnm
  replace hret : meth.sig.returnType = (some .int) := hret
  have N0 := Fr.nil n0
  have K0 : Keep h0 h0 [] := Keep.refl _ _
  show Ok p e below _ _ s₁ (mkF m 0 #[.val (.int (0 : Int32)), .val (.int (4 : Int32)), .val gv] [])
  refine Ok.iloadN (pc' := 1) X0 hx (hb hby d22_0) rfl rfl ?_
  refine Ok.ifN (pc' := 4) X0 hx (hb hby d22_1) (bf (i0 .lt (0 : Int32) (ic_eq (0 : Int32) 0).2.2.1) (by decide)) rfl ?_
  refine Ok.iloadN (pc' := 5) X0 hx (hb hby d22_4) rfl rfl ?_
  refine Ok.iloadN (pc' := 6) X0 hx (hb hby d22_5) rfl rfl ?_
  refine Ok.icY (pc' := 16) X0 hx (hb hby d22_6) (bt (ic_eq (0 : Int32) (4 : Int32)).2.2.1 (by decide)) (by decide) (by decide) ?_
  refine Ok.iloadN (pc' := 17) X0 hx (hb hby d22_16) rfl rfl ?_
  refine Ok.retI X0 hx hret hlk (Or.inl rfl) rfl (hb hby d22_17) (by decide) (by decide) ?_
  show Q22 Z gv h0 n0 _ s₁.heap _
  rw [e0]
  exact ⟨rfl, N0, rfl⟩
theorem d23_0 : decode jdk_42_method_155_code 0 = .ok (.iload_n 0, 1) := by decide +kernel
theorem d23_1 : decode jdk_42_method_155_code 1 = .ok (.iload_n 1, 1) := by decide +kernel
theorem d23_2 : decode jdk_42_method_155_code 2 = .ok (.getstatic 1053, 3) := by decide +kernel
theorem d23_5 : decode jdk_42_method_155_code 5 = .ok (.invokestatic 1059, 3) := by decide +kernel
theorem d23_8 : decode jdk_42_method_155_code 8 = .ok (.pop, 1) := by decide +kernel
theorem d23_9 : decode jdk_42_method_155_code 9 = .ok (.return_, 1) := by decide +kernel
theorem ef_23 (m : MethodId) (x0 : Int32) (x1 : Int32) : entryFrame m #[(.int x0), (.int x1)] 2 = mkF m 0 #[.val (.int x0), .val (.int x1)] [] := by first | (simp [entryFrame, mkF, argsToLocals, Value.category]; done) | rfl
def Q23 (Z : State) (gv : Value) (h0 : Heap) (n0 : Nat) (v : Option Value) (h : Heap) (L : List Loc) : Prop := v = none ∧ Fr n0 L ∧ h = h0
set_option maxRecDepth 65536 in
set_option maxHeartbeats 40000000 in
theorem rm23 (l : Launch) (Z : State) (a0 : Array Value) (hw : ∀ d ∈ tables_1, d.before a0 Z = true) (gv : Value) (h0 : Heap) (n0 : Nat) (Z0 : n0 ≤ h0.size) (O_0 : Old Z n0 h0) (S_sf : Sta Z Z.heap "jdk/internal/util/Preconditions" "SIOOBE_FORMATTER" "Ljava/util/function/BiFunction;" gv) (r_gv : gv.isRef = true) :
    MetN l Z (⟨"java/lang/String", "checkIndex", "(II)V"⟩ : MethodName) jdk_42_method_155_code 2 none [] ({ frames := 1, cells := 0, slots := 0, locals := 14 } : Room) #[(.int (0 : Int32)), (.int (4 : Int32))] h0 (Q23 Z gv h0 n0) := by
  refine met_n (plainFor_of_name pn_4) (fun m => ef_23 m (0 : Int32) (4 : Int32)) ?_
  intro p e s m below meth c s₁ X0 hx hby hml hZ hown hnm hret hlk e0
  replace hown : s.vm.findClass "java/lang/String" = some m.cls := hown
  replace hnm : meth.name = "checkIndex" := hnm
  replace hret : meth.sig.returnType = none := hret
  have N0 := Fr.nil n0
  have K0 : Keep h0 h0 [] := Keep.refl _ _
  show Ok p e below _ _ s₁ (mkF m 0 #[.val (.int (0 : Int32)), .val (.int (4 : Int32))] [])
  refine Ok.iloadN (pc' := 1) X0 hx (hb hby d23_0) rfl rfl ?_
  refine Ok.iloadN (pc' := 2) X0 hx (hb hby d23_1) rfl rfl ?_
  refine Ok.getS (pc' := 5) X0 hx hZ hown (host := "") (Or.inl (hw _ (List.mem_of_getElem? (i := 130) rfl))) Via.refl e0 (S_sf.ext O_0.2) (hb hby d23_2) rfl ?_
  intro T53 X53 e53
  refine Ok.callS (pc' := 8) (W := 0)  (argsL := [(.int (0 : Int32)), (.int (4 : Int32)), gv]) (rest := []) X53 hx hZ hown (rm22 l Z a0 hw gv h0 n0 Z0 r_gv) (hw _ (List.mem_of_getElem? (i := 132) rfl)) (hw _ (List.mem_of_getElem? (i := 133) rfl)) (hw _ (List.mem_of_getElem? (i := 131) rfl)) (hw _ (List.mem_of_getElem? (i := 134) rfl)) (by decide) e53 (by decide) (by decide) (by decide) (by decide) (lenOf pd_22 rfl) rfl rfl (Nat.le_of_eq rfl) (by rw [hml]; rfl) (hb hby d23_5) rfl ?_
  intro v54 T54 L54 X54 hQ54
  obtain ⟨rfl, Nq54, eq54⟩ := hQ54
  have N54 := Fr.app N0 Nq54
  show Ok p e below _ _ T54 (mkF m 8 #[.val (.int (0 : Int32)), .val (.int (4 : Int32))] [(.int (0 : Int32))])
  refine Ok.pop (pc' := 9) X54 hx (hb hby d23_8) rfl rfl ?_
  refine Ok.retV X54 hx hret hlk (hb hby d23_9) (by decide) (by decide) ?_
  show Q23 Z gv h0 n0 _ T54.heap _
  rw [eq54]
  exact ⟨rfl, N54, rfl⟩
theorem d24_0 : decode jdk_43_method_2_code 0 = .ok (.iload_n 1, 1) := by decide +kernel
theorem d24_1 : decode jdk_43_method_2_code 1 = .ok (.aload_n 0, 1) := by decide +kernel
theorem d24_2 : decode jdk_43_method_2_code 2 = .ok (.arraylength, 1) := by decide +kernel
theorem d24_3 : decode jdk_43_method_2_code 3 = .ok (.invokestatic 9, 3) := by decide +kernel
theorem d24_6 : decode jdk_43_method_2_code 6 = .ok (.aload_n 0, 1) := by decide +kernel
theorem d24_7 : decode jdk_43_method_2_code 7 = .ok (.iload_n 1, 1) := by decide +kernel
theorem d24_8 : decode jdk_43_method_2_code 8 = .ok (.baload, 1) := by decide +kernel
theorem d24_9 : decode jdk_43_method_2_code 9 = .ok (.sipush 255, 3) := by decide +kernel
theorem d24_12 : decode jdk_43_method_2_code 12 = .ok (.iand, 1) := by decide +kernel
theorem d24_13 : decode jdk_43_method_2_code 13 = .ok (.i2c, 1) := by decide +kernel
theorem d24_14 : decode jdk_43_method_2_code 14 = .ok (.ireturn, 1) := by decide +kernel
theorem ef_24 (m : MethodId) (x0 : Addr) (x1 : Int32) : entryFrame m #[(.ref x0), (.int x1)] 2 = mkF m 0 #[.val (.ref x0), .val (.int x1)] [] := by first | (simp [entryFrame, mkF, argsToLocals, Value.category]; done) | rfl
def Q24 (Z : State) (r1 : Addr) (k1 : ClassId) (y0 : Int32) (y1 : Int32) (y2 : Int32) (y3 : Int32) (gv : Value) (h0 : Heap) (n0 : Nat) (v : Option Value) (h : Heap) (L : List Loc) : Prop := v = some (.int (y0 &&& (255 : Int32))) ∧ Fr n0 L ∧ h = h0
set_option maxRecDepth 65536 in
set_option maxHeartbeats 40000000 in
theorem rm24 (l : Launch) (Z : State) (a0 : Array Value) (hw : ∀ d ∈ tables_1, d.before a0 Z = true) (r1 : Addr) (k1 : ClassId) (y0 : Int32) (y1 : Int32) (y2 : Int32) (y3 : Int32) (gv : Value) (h0 : Heap) (n0 : Nat) (Z0 : n0 ≤ h0.size) (V_1 : Arv Z h0 r1 k1 .byte (4 : Int32) [(.int y0), (.int y1), (.int y2), (.int y3)] (.int (0 : Int32))) (O_0 : Old Z n0 h0) (S_sf : Sta Z Z.heap "jdk/internal/util/Preconditions" "SIOOBE_FORMATTER" "Ljava/util/function/BiFunction;" gv) (r_gv : gv.isRef = true) :
    MetN l Z (⟨"java/lang/StringLatin1", "charAt", "([BI)C"⟩ : MethodName) jdk_43_method_2_code 2 (some .char) [] ({ frames := 2, cells := 0, slots := 0, locals := 27 } : Room) #[(.ref r1), (.int (0 : Int32))] h0 (Q24 Z r1 k1 y0 y1 y2 y3 gv h0 n0) := by
  refine met_n (plainFor_of_name pn_5) (fun m => ef_24 m r1 (0 : Int32)) ?_
  intro p e s m below meth c s₁ X0 hx hby hml hZ hown hnm hret hlk e0
  replace hown : s.vm.findClass "java/lang/StringLatin1" = some m.cls := hown
  replace hnm : meth.name = "charAt" := hnm
  replace hret : meth.sig.returnType = (some .char) := hret
  have N0 := Fr.nil n0
  have K0 : Keep h0 h0 [] := Keep.refl _ _
  show Ok p e below _ _ s₁ (mkF m 0 #[.val (.ref r1), .val (.int (0 : Int32))] [])
  refine Ok.iloadN (pc' := 1) X0 hx (hb hby d24_0) rfl rfl ?_
  refine Ok.aloadN (pc' := 2) X0 hx (hb hby d24_1) rfl rfl rfl ?_
  refine Ok.len (pc' := 3) X0 hx hZ e0 V_1 (hb hby d24_2) rfl ?_
  refine Ok.callS (pc' := 6) (W := 0)  (argsL := [(.int (0 : Int32)), (.int (4 : Int32))]) (rest := []) X0 hx hZ hown (rm23 l Z a0 hw gv h0 n0 Z0 O_0 S_sf r_gv) (hw _ (List.mem_of_getElem? (i := 127) rfl)) (hw _ (List.mem_of_getElem? (i := 128) rfl)) (hw _ (List.mem_of_getElem? (i := 4) rfl)) (hw _ (List.mem_of_getElem? (i := 129) rfl)) (by decide) e0 (by decide) (by decide) (by decide) (by decide) (lenOf pd_21 rfl) rfl rfl (Nat.le_of_eq rfl) (by rw [hml]; rfl) (hb hby d24_3) rfl ?_
  intro v55 T55 L55 X55 hQ55
  obtain ⟨rfl, Nq55, eq55⟩ := hQ55
  have N55 := Fr.app N0 Nq55
  show Ok p e below _ _ T55 (mkF m 6 #[.val (.ref r1), .val (.int (0 : Int32))] [])
  refine Ok.aloadN (pc' := 7) X55 hx (hb hby d24_6) rfl rfl rfl ?_
  refine Ok.iloadN (pc' := 8) X55 hx (hb hby d24_7) rfl rfl ?_
  refine Ok.ldB (pc' := 9) (v := (.int y0)) X55 hx hZ eq55 V_1 ⟨by decide, by decide⟩ rfl (hb hby d24_8) rfl ?_
  refine Ok.sipush (z := (255 : Int32)) (pc' := 12) X55 hx (hb hby d24_9) rfl rfl ?_
  refine Ok.iand (pc' := 13) X55 hx (hb hby d24_12) rfl ?_
  refine Ok.i2c (pc' := 14) X55 hx (hb hby d24_13) rfl ?_
  rw [char255]
  refine Ok.retI X55 hx hret hlk (Or.inr (Or.inr (Or.inr (Or.inl rfl)))) (narrow_char_id (mask255 _).1 (by have := (mask255 y0).2; omega)) (hb hby d24_14) (by decide) (by decide) ?_
  show Q24 Z r1 k1 y0 y1 y2 y3 gv h0 n0 _ T55.heap _
  rw [eq55]
  exact ⟨rfl, N55, rfl⟩
theorem d25_0 : decode jdk_42_method_56_code 0 = .ok (.aload_n 0, 1) := by decide +kernel
theorem d25_1 : decode jdk_42_method_56_code 1 = .ok (.invokevirtual 492, 3) := by decide +kernel
theorem d25_4 : decode jdk_42_method_56_code 4 = .ok (.ifCond .eq 12, 3) := by decide +kernel
theorem d25_7 : decode jdk_42_method_56_code 7 = .ok (.aload_n 0, 1) := by decide +kernel
theorem d25_8 : decode jdk_42_method_56_code 8 = .ok (.getfield 9, 3) := by decide +kernel
theorem d25_11 : decode jdk_42_method_56_code 11 = .ok (.iload_n 1, 1) := by decide +kernel
theorem d25_12 : decode jdk_42_method_56_code 12 = .ok (.invokestatic 495, 3) := by decide +kernel
theorem d25_15 : decode jdk_42_method_56_code 15 = .ok (.ireturn, 1) := by decide +kernel
theorem d25_16 : decode jdk_42_method_56_code 16 = .ok (.aload_n 0, 1) := by decide +kernel
theorem d25_17 : decode jdk_42_method_56_code 17 = .ok (.getfield 9, 3) := by decide +kernel
theorem d25_20 : decode jdk_42_method_56_code 20 = .ok (.iload_n 1, 1) := by decide +kernel
theorem d25_21 : decode jdk_42_method_56_code 21 = .ok (.invokestatic 498, 3) := by decide +kernel
theorem d25_24 : decode jdk_42_method_56_code 24 = .ok (.ireturn, 1) := by decide +kernel
theorem ef_25 (m : MethodId) (x0 : Addr) (x1 : Int32) : entryFrame m #[(.ref x0), (.int x1)] 2 = mkF m 0 #[.val (.ref x0), .val (.int x1)] [] := by first | (simp [entryFrame, mkF, argsToLocals, Value.category]; done) | rfl
def Q25 (Z : State) (a1 : Addr) (r1 : Addr) (k1 : ClassId) (y0 : Int32) (y1 : Int32) (y2 : Int32) (y3 : Int32) (cs0 : Int32) (gv : Value) (h0 : Heap) (n0 : Nat) (v : Option Value) (h : Heap) (L : List Loc) : Prop := v = some (.int (y0 &&& (255 : Int32))) ∧ Fr n0 L ∧ h = h0
set_option maxRecDepth 65536 in
set_option maxHeartbeats 40000000 in
theorem rm25 (l : Launch) (Z : State) (a0 : Array Value) (hw : ∀ d ∈ tables_1, d.before a0 Z = true) (a1 : Addr) (r1 : Addr) (k1 : ClassId) (y0 : Int32) (y1 : Int32) (y2 : Int32) (y3 : Int32) (cs0 : Int32) (gv : Value) (h0 : Heap) (n0 : Nat) (Z0 : n0 ≤ h0.size) (E_a1 : Exa Z h0 a1 "java/lang/String") (Fv : Fld Z h0 a1 "java/lang/String" "value" "[B" (.ref r1)) (Fc : Fld Z h0 a1 "java/lang/String" "coder" "B" (.int (0 : Int32))) (V_1 : Arv Z h0 r1 k1 .byte (4 : Int32) [(.int y0), (.int y1), (.int y2), (.int y3)] (.int (0 : Int32))) (O_0 : Old Z n0 h0) (S_cs : Sta Z Z.heap "java/lang/String" "COMPACT_STRINGS" "Z" (.int cs0)) (hcs : ¬ cs0.toInt = 0) (S_sf : Sta Z Z.heap "jdk/internal/util/Preconditions" "SIOOBE_FORMATTER" "Ljava/util/function/BiFunction;" gv) (r_gv : gv.isRef = true) :
    MetN l Z (⟨"java/lang/String", "charAt", "(I)C"⟩ : MethodName) jdk_42_method_56_code 2 (some .char) [] ({ frames := 3, cells := 0, slots := 0, locals := 40 } : Room) #[(.ref a1), (.int (0 : Int32))] h0 (Q25 Z a1 r1 k1 y0 y1 y2 y3 cs0 gv h0 n0) := by
  refine met_n (plainFor_of_name pn_4) (fun m => ef_25 m a1 (0 : Int32)) ?_
  intro p e s m below meth c s₁ X0 hx hby hml hZ hown hnm hret hlk e0
  replace hown : s.vm.findClass "java/lang/String" = some m.cls := hown
  replace hnm : meth.name = "charAt" := hnm
  replace hret : meth.sig.returnType = (some .char) := hret
  have N0 := Fr.nil n0
  have K0 : Keep h0 h0 [] := Keep.refl _ _
  show Ok p e below _ _ s₁ (mkF m 0 #[.val (.ref a1), .val (.int (0 : Int32))] [])
  refine Ok.aloadN (pc' := 1) X0 hx (hb hby d25_0) rfl rfl rfl ?_
  refine Ok.virt (pc' := 4) (W := 0) (a := a1)  (argsL := []) (rest := []) X0 hx hZ hown (rm21 l Z a0 hw a1 r1 k1 y0 y1 y2 y3 cs0 gv h0 n0 Z0 E_a1 Fv Fc V_1 O_0 S_cs hcs S_sf r_gv) (hw _ (List.mem_of_getElem? (i := 119) rfl)) (hw _ (List.mem_of_getElem? (i := 120) rfl)) (notFace_of_selects (args := #[]) (mvT hZ (hw _ (List.mem_of_getElem? (i := 122) rfl)))) (hw _ (List.mem_of_getElem? (i := 122) rfl)) (hw _ (List.mem_of_getElem? (i := 121) rfl)) (hw _ (List.mem_of_getElem? (i := 4) rfl)) (hw _ (List.mem_of_getElem? (i := 123) rfl)) (by decide) e0 E_a1 (by decide) (by decide) (by decide) (by decide) (lenOf pd_19 rfl) rfl rfl (Nat.le_of_eq rfl) (by rw [hml]; rfl) (hb hby d25_1) rfl ?_
  intro v56 T56 L56 X56 hQ56
  obtain ⟨rfl, Nq56, eq56⟩ := hQ56
  have N56 := Fr.app N0 Nq56
  show Ok p e below _ _ T56 (mkF m 4 #[.val (.ref a1), .val (.int (0 : Int32))] [(.int (1 : Int32))])
  refine Ok.ifN (pc' := 7) X56 hx (hb hby d25_4) (bf (i0 .eq (1 : Int32) (ic_eq (1 : Int32) 0).1) (by decide)) rfl ?_
  refine Ok.aloadN (pc' := 8) X56 hx (hb hby d25_7) rfl rfl rfl ?_
  refine Ok.getF (pc' := 11) X56 hx hZ hown (host := "") (Or.inl (hw _ (List.mem_of_getElem? (i := 29) rfl))) Via.refl eq56 Fv (hb hby d25_8) rfl ?_
  intro T57 X57 e57
  refine Ok.iloadN (pc' := 12) X57 hx (hb hby d25_11) rfl rfl ?_
  refine Ok.callS (pc' := 15) (W := 0)  (argsL := [(.ref r1), (.int (0 : Int32))]) (rest := []) X57 hx hZ hown (rm24 l Z a0 hw r1 k1 y0 y1 y2 y3 gv h0 n0 Z0 V_1 O_0 S_sf r_gv) (hw _ (List.mem_of_getElem? (i := 124) rfl)) (hw _ (List.mem_of_getElem? (i := 125) rfl)) (hw _ (List.mem_of_getElem? (i := 36) rfl)) (hw _ (List.mem_of_getElem? (i := 126) rfl)) (by decide) e57 (by decide) (by decide) (by decide) (by decide) (lenOf pd_20 rfl) rfl rfl (Nat.le_of_eq rfl) (by rw [hml]; rfl) (hb hby d25_12) rfl ?_
  intro v58 T58 L58 X58 hQ58
  obtain ⟨rfl, Nq58, eq58⟩ := hQ58
  have N58 := Fr.app N56 Nq58
  show Ok p e below _ _ T58 (mkF m 15 #[.val (.ref a1), .val (.int (0 : Int32))] [(.int (y0 &&& (255 : Int32)))])
  refine Ok.retI X58 hx hret hlk (Or.inr (Or.inr (Or.inr (Or.inl rfl)))) (narrow_char_id (mask255 _).1 (by have := (mask255 y0).2; omega)) (hb hby d25_15) (by decide) (by decide) ?_
  show Q25 Z a1 r1 k1 y0 y1 y2 y3 cs0 gv h0 n0 _ T58.heap _
  rw [eq58]
  exact ⟨rfl, N58, rfl⟩
theorem d27_0 : decode jdk_41_method_11_code 0 = .ok (.iload_n 0, 1) := by decide +kernel
theorem d27_1 : decode jdk_41_method_11_code 1 = .ok (.ifCond .lt 8, 3) := by decide +kernel
theorem d27_4 : decode jdk_41_method_11_code 4 = .ok (.iload_n 0, 1) := by decide +kernel
theorem d27_5 : decode jdk_41_method_11_code 5 = .ok (.iload_n 1, 1) := by decide +kernel
theorem d27_6 : decode jdk_41_method_11_code 6 = .ok (.if_icmp .lt 10, 3) := by decide +kernel
theorem d27_9 : decode jdk_41_method_11_code 9 = .ok (.aload_n 2, 1) := by decide +kernel
theorem d27_10 : decode jdk_41_method_11_code 10 = .ok (.iload_n 0, 1) := by decide +kernel
theorem d27_11 : decode jdk_41_method_11_code 11 = .ok (.iload_n 1, 1) := by decide +kernel
theorem d27_12 : decode jdk_41_method_11_code 12 = .ok (.invokestatic 95, 3) := by decide +kernel
theorem d27_16 : decode jdk_41_method_11_code 16 = .ok (.iload_n 0, 1) := by decide +kernel
theorem d27_17 : decode jdk_41_method_11_code 17 = .ok (.ireturn, 1) := by decide +kernel
theorem ef_27 (m : MethodId) (x0 : Int32) (x1 : Int32) (x2 : Value) (r2 : x2.isRef = true) : entryFrame m #[(.int x0), (.int x1), x2] 3 = mkF m 0 #[.val (.int x0), .val (.int x1), .val x2] [] := by
  (cases x2 <;> simp [Value.isRef] at r2) <;> first | (simp [entryFrame, mkF, argsToLocals, Value.category]; done) | rfl
def Q27 (Z : State) (gv : Value) (h0 : Heap) (n0 : Nat) (v : Option Value) (h : Heap) (L : List Loc) : Prop := v = some (.int (1 : Int32)) ∧ Fr n0 L ∧ h = h0
set_option maxRecDepth 65536 in
set_option maxHeartbeats 40000000 in
theorem rm27 (l : Launch) (Z : State) (a0 : Array Value) (hw : ∀ d ∈ tables_1, d.before a0 Z = true) (gv : Value) (h0 : Heap) (n0 : Nat) (Z0 : n0 ≤ h0.size) (r_gv : gv.isRef = true) :
    MetN l Z (⟨"jdk/internal/util/Preconditions", "checkIndex", "(IILjava/util/function/BiFunction;)I"⟩ : MethodName) jdk_41_method_11_code 3 (some .int) [] ({ frames := 0, cells := 0, slots := 0, locals := 0 } : Room) #[(.int (1 : Int32)), (.int (4 : Int32)), gv] h0 (Q27 Z gv h0 n0) := by
  refine met_n (plainFor_of_name pn_6) (fun m => ef_27 m (1 : Int32) (4 : Int32) gv r_gv) ?_
  intro p e s m below meth c s₁ X0 hx hby hml hZ hown hnm hret hlk e0
  replace hown : s.vm.findClass "jdk/internal/util/Preconditions" = some m.cls := hown
  replace hnm : meth.name = "checkIndex" := hnm
  replace hret : meth.sig.returnType = (some .int) := hret
  have N0 := Fr.nil n0
  have K0 : Keep h0 h0 [] := Keep.refl _ _
  show Ok p e below _ _ s₁ (mkF m 0 #[.val (.int (1 : Int32)), .val (.int (4 : Int32)), .val gv] [])
  refine Ok.iloadN (pc' := 1) X0 hx (hb hby d27_0) rfl rfl ?_
  refine Ok.ifN (pc' := 4) X0 hx (hb hby d27_1) (bf (i0 .lt (1 : Int32) (ic_eq (1 : Int32) 0).2.2.1) (by decide)) rfl ?_
  refine Ok.iloadN (pc' := 5) X0 hx (hb hby d27_4) rfl rfl ?_
  refine Ok.iloadN (pc' := 6) X0 hx (hb hby d27_5) rfl rfl ?_
  refine Ok.icY (pc' := 16) X0 hx (hb hby d27_6) (bt (ic_eq (1 : Int32) (4 : Int32)).2.2.1 (by decide)) (by decide) (by decide) ?_
  refine Ok.iloadN (pc' := 17) X0 hx (hb hby d27_16) rfl rfl ?_
  refine Ok.retI X0 hx hret hlk (Or.inl rfl) rfl (hb hby d27_17) (by decide) (by decide) ?_
  show Q27 Z gv h0 n0 _ s₁.heap _
  rw [e0]
  exact ⟨rfl, N0, rfl⟩
theorem d28_0 : decode jdk_42_method_155_code 0 = .ok (.iload_n 0, 1) := by decide +kernel
theorem d28_1 : decode jdk_42_method_155_code 1 = .ok (.iload_n 1, 1) := by decide +kernel
theorem d28_2 : decode jdk_42_method_155_code 2 = .ok (.getstatic 1053, 3) := by decide +kernel
theorem d28_5 : decode jdk_42_method_155_code 5 = .ok (.invokestatic 1059, 3) := by decide +kernel
theorem d28_8 : decode jdk_42_method_155_code 8 = .ok (.pop, 1) := by decide +kernel
theorem d28_9 : decode jdk_42_method_155_code 9 = .ok (.return_, 1) := by decide +kernel
theorem ef_28 (m : MethodId) (x0 : Int32) (x1 : Int32) : entryFrame m #[(.int x0), (.int x1)] 2 = mkF m 0 #[.val (.int x0), .val (.int x1)] [] := by first | (simp [entryFrame, mkF, argsToLocals, Value.category]; done) | rfl
def Q28 (Z : State) (gv : Value) (h0 : Heap) (n0 : Nat) (v : Option Value) (h : Heap) (L : List Loc) : Prop := v = none ∧ Fr n0 L ∧ h = h0
set_option maxRecDepth 65536 in
set_option maxHeartbeats 40000000 in
theorem rm28 (l : Launch) (Z : State) (a0 : Array Value) (hw : ∀ d ∈ tables_1, d.before a0 Z = true) (gv : Value) (h0 : Heap) (n0 : Nat) (Z0 : n0 ≤ h0.size) (O_0 : Old Z n0 h0) (S_sf : Sta Z Z.heap "jdk/internal/util/Preconditions" "SIOOBE_FORMATTER" "Ljava/util/function/BiFunction;" gv) (r_gv : gv.isRef = true) :
    MetN l Z (⟨"java/lang/String", "checkIndex", "(II)V"⟩ : MethodName) jdk_42_method_155_code 2 none [] ({ frames := 1, cells := 0, slots := 0, locals := 14 } : Room) #[(.int (1 : Int32)), (.int (4 : Int32))] h0 (Q28 Z gv h0 n0) := by
  refine met_n (plainFor_of_name pn_4) (fun m => ef_28 m (1 : Int32) (4 : Int32)) ?_
  intro p e s m below meth c s₁ X0 hx hby hml hZ hown hnm hret hlk e0
  replace hown : s.vm.findClass "java/lang/String" = some m.cls := hown
  replace hnm : meth.name = "checkIndex" := hnm
  replace hret : meth.sig.returnType = none := hret
  have N0 := Fr.nil n0
  have K0 : Keep h0 h0 [] := Keep.refl _ _
  show Ok p e below _ _ s₁ (mkF m 0 #[.val (.int (1 : Int32)), .val (.int (4 : Int32))] [])
  refine Ok.iloadN (pc' := 1) X0 hx (hb hby d28_0) rfl rfl ?_
  refine Ok.iloadN (pc' := 2) X0 hx (hb hby d28_1) rfl rfl ?_
  refine Ok.getS (pc' := 5) X0 hx hZ hown (host := "") (Or.inl (hw _ (List.mem_of_getElem? (i := 130) rfl))) Via.refl e0 (S_sf.ext O_0.2) (hb hby d28_2) rfl ?_
  intro T59 X59 e59
  refine Ok.callS (pc' := 8) (W := 0)  (argsL := [(.int (1 : Int32)), (.int (4 : Int32)), gv]) (rest := []) X59 hx hZ hown (rm27 l Z a0 hw gv h0 n0 Z0 r_gv) (hw _ (List.mem_of_getElem? (i := 132) rfl)) (hw _ (List.mem_of_getElem? (i := 133) rfl)) (hw _ (List.mem_of_getElem? (i := 131) rfl)) (hw _ (List.mem_of_getElem? (i := 134) rfl)) (by decide) e59 (by decide) (by decide) (by decide) (by decide) (lenOf pd_22 rfl) rfl rfl (Nat.le_of_eq rfl) (by rw [hml]; rfl) (hb hby d28_5) rfl ?_
  intro v60 T60 L60 X60 hQ60
  obtain ⟨rfl, Nq60, eq60⟩ := hQ60
  have N60 := Fr.app N0 Nq60
  show Ok p e below _ _ T60 (mkF m 8 #[.val (.int (1 : Int32)), .val (.int (4 : Int32))] [(.int (1 : Int32))])
  refine Ok.pop (pc' := 9) X60 hx (hb hby d28_8) rfl rfl ?_
  refine Ok.retV X60 hx hret hlk (hb hby d28_9) (by decide) (by decide) ?_
  show Q28 Z gv h0 n0 _ T60.heap _
  rw [eq60]
  exact ⟨rfl, N60, rfl⟩
theorem d29_0 : decode jdk_43_method_2_code 0 = .ok (.iload_n 1, 1) := by decide +kernel
theorem d29_1 : decode jdk_43_method_2_code 1 = .ok (.aload_n 0, 1) := by decide +kernel
theorem d29_2 : decode jdk_43_method_2_code 2 = .ok (.arraylength, 1) := by decide +kernel
theorem d29_3 : decode jdk_43_method_2_code 3 = .ok (.invokestatic 9, 3) := by decide +kernel
theorem d29_6 : decode jdk_43_method_2_code 6 = .ok (.aload_n 0, 1) := by decide +kernel
theorem d29_7 : decode jdk_43_method_2_code 7 = .ok (.iload_n 1, 1) := by decide +kernel
theorem d29_8 : decode jdk_43_method_2_code 8 = .ok (.baload, 1) := by decide +kernel
theorem d29_9 : decode jdk_43_method_2_code 9 = .ok (.sipush 255, 3) := by decide +kernel
theorem d29_12 : decode jdk_43_method_2_code 12 = .ok (.iand, 1) := by decide +kernel
theorem d29_13 : decode jdk_43_method_2_code 13 = .ok (.i2c, 1) := by decide +kernel
theorem d29_14 : decode jdk_43_method_2_code 14 = .ok (.ireturn, 1) := by decide +kernel
theorem ef_29 (m : MethodId) (x0 : Addr) (x1 : Int32) : entryFrame m #[(.ref x0), (.int x1)] 2 = mkF m 0 #[.val (.ref x0), .val (.int x1)] [] := by first | (simp [entryFrame, mkF, argsToLocals, Value.category]; done) | rfl
def Q29 (Z : State) (r1 : Addr) (k1 : ClassId) (y0 : Int32) (y1 : Int32) (y2 : Int32) (y3 : Int32) (gv : Value) (h0 : Heap) (n0 : Nat) (v : Option Value) (h : Heap) (L : List Loc) : Prop := v = some (.int (y1 &&& (255 : Int32))) ∧ Fr n0 L ∧ h = h0
set_option maxRecDepth 65536 in
set_option maxHeartbeats 40000000 in
theorem rm29 (l : Launch) (Z : State) (a0 : Array Value) (hw : ∀ d ∈ tables_1, d.before a0 Z = true) (r1 : Addr) (k1 : ClassId) (y0 : Int32) (y1 : Int32) (y2 : Int32) (y3 : Int32) (gv : Value) (h0 : Heap) (n0 : Nat) (Z0 : n0 ≤ h0.size) (V_1 : Arv Z h0 r1 k1 .byte (4 : Int32) [(.int y0), (.int y1), (.int y2), (.int y3)] (.int (0 : Int32))) (O_0 : Old Z n0 h0) (S_sf : Sta Z Z.heap "jdk/internal/util/Preconditions" "SIOOBE_FORMATTER" "Ljava/util/function/BiFunction;" gv) (r_gv : gv.isRef = true) :
    MetN l Z (⟨"java/lang/StringLatin1", "charAt", "([BI)C"⟩ : MethodName) jdk_43_method_2_code 2 (some .char) [] ({ frames := 2, cells := 0, slots := 0, locals := 27 } : Room) #[(.ref r1), (.int (1 : Int32))] h0 (Q29 Z r1 k1 y0 y1 y2 y3 gv h0 n0) := by
  refine met_n (plainFor_of_name pn_5) (fun m => ef_29 m r1 (1 : Int32)) ?_
  intro p e s m below meth c s₁ X0 hx hby hml hZ hown hnm hret hlk e0
  replace hown : s.vm.findClass "java/lang/StringLatin1" = some m.cls := hown
  replace hnm : meth.name = "charAt" := hnm
  replace hret : meth.sig.returnType = (some .char) := hret
  have N0 := Fr.nil n0
  have K0 : Keep h0 h0 [] := Keep.refl _ _
  show Ok p e below _ _ s₁ (mkF m 0 #[.val (.ref r1), .val (.int (1 : Int32))] [])
  refine Ok.iloadN (pc' := 1) X0 hx (hb hby d29_0) rfl rfl ?_
  refine Ok.aloadN (pc' := 2) X0 hx (hb hby d29_1) rfl rfl rfl ?_
  refine Ok.len (pc' := 3) X0 hx hZ e0 V_1 (hb hby d29_2) rfl ?_
  refine Ok.callS (pc' := 6) (W := 0)  (argsL := [(.int (1 : Int32)), (.int (4 : Int32))]) (rest := []) X0 hx hZ hown (rm28 l Z a0 hw gv h0 n0 Z0 O_0 S_sf r_gv) (hw _ (List.mem_of_getElem? (i := 127) rfl)) (hw _ (List.mem_of_getElem? (i := 128) rfl)) (hw _ (List.mem_of_getElem? (i := 4) rfl)) (hw _ (List.mem_of_getElem? (i := 129) rfl)) (by decide) e0 (by decide) (by decide) (by decide) (by decide) (lenOf pd_21 rfl) rfl rfl (Nat.le_of_eq rfl) (by rw [hml]; rfl) (hb hby d29_3) rfl ?_
  intro v61 T61 L61 X61 hQ61
  obtain ⟨rfl, Nq61, eq61⟩ := hQ61
  have N61 := Fr.app N0 Nq61
  show Ok p e below _ _ T61 (mkF m 6 #[.val (.ref r1), .val (.int (1 : Int32))] [])
  refine Ok.aloadN (pc' := 7) X61 hx (hb hby d29_6) rfl rfl rfl ?_
  refine Ok.iloadN (pc' := 8) X61 hx (hb hby d29_7) rfl rfl ?_
  refine Ok.ldB (pc' := 9) (v := (.int y1)) X61 hx hZ eq61 V_1 ⟨by decide, by decide⟩ rfl (hb hby d29_8) rfl ?_
  refine Ok.sipush (z := (255 : Int32)) (pc' := 12) X61 hx (hb hby d29_9) rfl rfl ?_
  refine Ok.iand (pc' := 13) X61 hx (hb hby d29_12) rfl ?_
  refine Ok.i2c (pc' := 14) X61 hx (hb hby d29_13) rfl ?_
  rw [char255]
  refine Ok.retI X61 hx hret hlk (Or.inr (Or.inr (Or.inr (Or.inl rfl)))) (narrow_char_id (mask255 _).1 (by have := (mask255 y1).2; omega)) (hb hby d29_14) (by decide) (by decide) ?_
  show Q29 Z r1 k1 y0 y1 y2 y3 gv h0 n0 _ T61.heap _
  rw [eq61]
  exact ⟨rfl, N61, rfl⟩
theorem d30_0 : decode jdk_42_method_56_code 0 = .ok (.aload_n 0, 1) := by decide +kernel
theorem d30_1 : decode jdk_42_method_56_code 1 = .ok (.invokevirtual 492, 3) := by decide +kernel
theorem d30_4 : decode jdk_42_method_56_code 4 = .ok (.ifCond .eq 12, 3) := by decide +kernel
theorem d30_7 : decode jdk_42_method_56_code 7 = .ok (.aload_n 0, 1) := by decide +kernel
theorem d30_8 : decode jdk_42_method_56_code 8 = .ok (.getfield 9, 3) := by decide +kernel
theorem d30_11 : decode jdk_42_method_56_code 11 = .ok (.iload_n 1, 1) := by decide +kernel
theorem d30_12 : decode jdk_42_method_56_code 12 = .ok (.invokestatic 495, 3) := by decide +kernel
theorem d30_15 : decode jdk_42_method_56_code 15 = .ok (.ireturn, 1) := by decide +kernel
theorem d30_16 : decode jdk_42_method_56_code 16 = .ok (.aload_n 0, 1) := by decide +kernel
theorem d30_17 : decode jdk_42_method_56_code 17 = .ok (.getfield 9, 3) := by decide +kernel
theorem d30_20 : decode jdk_42_method_56_code 20 = .ok (.iload_n 1, 1) := by decide +kernel
theorem d30_21 : decode jdk_42_method_56_code 21 = .ok (.invokestatic 498, 3) := by decide +kernel
theorem d30_24 : decode jdk_42_method_56_code 24 = .ok (.ireturn, 1) := by decide +kernel
theorem ef_30 (m : MethodId) (x0 : Addr) (x1 : Int32) : entryFrame m #[(.ref x0), (.int x1)] 2 = mkF m 0 #[.val (.ref x0), .val (.int x1)] [] := by first | (simp [entryFrame, mkF, argsToLocals, Value.category]; done) | rfl
def Q30 (Z : State) (a1 : Addr) (r1 : Addr) (k1 : ClassId) (y0 : Int32) (y1 : Int32) (y2 : Int32) (y3 : Int32) (cs0 : Int32) (gv : Value) (h0 : Heap) (n0 : Nat) (v : Option Value) (h : Heap) (L : List Loc) : Prop := v = some (.int (y1 &&& (255 : Int32))) ∧ Fr n0 L ∧ h = h0
set_option maxRecDepth 65536 in
set_option maxHeartbeats 40000000 in
theorem rm30 (l : Launch) (Z : State) (a0 : Array Value) (hw : ∀ d ∈ tables_1, d.before a0 Z = true) (a1 : Addr) (r1 : Addr) (k1 : ClassId) (y0 : Int32) (y1 : Int32) (y2 : Int32) (y3 : Int32) (cs0 : Int32) (gv : Value) (h0 : Heap) (n0 : Nat) (Z0 : n0 ≤ h0.size) (E_a1 : Exa Z h0 a1 "java/lang/String") (Fv : Fld Z h0 a1 "java/lang/String" "value" "[B" (.ref r1)) (Fc : Fld Z h0 a1 "java/lang/String" "coder" "B" (.int (0 : Int32))) (V_1 : Arv Z h0 r1 k1 .byte (4 : Int32) [(.int y0), (.int y1), (.int y2), (.int y3)] (.int (0 : Int32))) (O_0 : Old Z n0 h0) (S_cs : Sta Z Z.heap "java/lang/String" "COMPACT_STRINGS" "Z" (.int cs0)) (hcs : ¬ cs0.toInt = 0) (S_sf : Sta Z Z.heap "jdk/internal/util/Preconditions" "SIOOBE_FORMATTER" "Ljava/util/function/BiFunction;" gv) (r_gv : gv.isRef = true) :
    MetN l Z (⟨"java/lang/String", "charAt", "(I)C"⟩ : MethodName) jdk_42_method_56_code 2 (some .char) [] ({ frames := 3, cells := 0, slots := 0, locals := 40 } : Room) #[(.ref a1), (.int (1 : Int32))] h0 (Q30 Z a1 r1 k1 y0 y1 y2 y3 cs0 gv h0 n0) := by
  refine met_n (plainFor_of_name pn_4) (fun m => ef_30 m a1 (1 : Int32)) ?_
  intro p e s m below meth c s₁ X0 hx hby hml hZ hown hnm hret hlk e0
  replace hown : s.vm.findClass "java/lang/String" = some m.cls := hown
  replace hnm : meth.name = "charAt" := hnm
  replace hret : meth.sig.returnType = (some .char) := hret
  have N0 := Fr.nil n0
  have K0 : Keep h0 h0 [] := Keep.refl _ _
  show Ok p e below _ _ s₁ (mkF m 0 #[.val (.ref a1), .val (.int (1 : Int32))] [])
  refine Ok.aloadN (pc' := 1) X0 hx (hb hby d30_0) rfl rfl rfl ?_
  refine Ok.virt (pc' := 4) (W := 0) (a := a1)  (argsL := []) (rest := []) X0 hx hZ hown (rm21 l Z a0 hw a1 r1 k1 y0 y1 y2 y3 cs0 gv h0 n0 Z0 E_a1 Fv Fc V_1 O_0 S_cs hcs S_sf r_gv) (hw _ (List.mem_of_getElem? (i := 119) rfl)) (hw _ (List.mem_of_getElem? (i := 120) rfl)) (notFace_of_selects (args := #[]) (mvT hZ (hw _ (List.mem_of_getElem? (i := 122) rfl)))) (hw _ (List.mem_of_getElem? (i := 122) rfl)) (hw _ (List.mem_of_getElem? (i := 121) rfl)) (hw _ (List.mem_of_getElem? (i := 4) rfl)) (hw _ (List.mem_of_getElem? (i := 123) rfl)) (by decide) e0 E_a1 (by decide) (by decide) (by decide) (by decide) (lenOf pd_19 rfl) rfl rfl (Nat.le_of_eq rfl) (by rw [hml]; rfl) (hb hby d30_1) rfl ?_
  intro v62 T62 L62 X62 hQ62
  obtain ⟨rfl, Nq62, eq62⟩ := hQ62
  have N62 := Fr.app N0 Nq62
  show Ok p e below _ _ T62 (mkF m 4 #[.val (.ref a1), .val (.int (1 : Int32))] [(.int (1 : Int32))])
  refine Ok.ifN (pc' := 7) X62 hx (hb hby d30_4) (bf (i0 .eq (1 : Int32) (ic_eq (1 : Int32) 0).1) (by decide)) rfl ?_
  refine Ok.aloadN (pc' := 8) X62 hx (hb hby d30_7) rfl rfl rfl ?_
  refine Ok.getF (pc' := 11) X62 hx hZ hown (host := "") (Or.inl (hw _ (List.mem_of_getElem? (i := 29) rfl))) Via.refl eq62 Fv (hb hby d30_8) rfl ?_
  intro T63 X63 e63
  refine Ok.iloadN (pc' := 12) X63 hx (hb hby d30_11) rfl rfl ?_
  refine Ok.callS (pc' := 15) (W := 0)  (argsL := [(.ref r1), (.int (1 : Int32))]) (rest := []) X63 hx hZ hown (rm29 l Z a0 hw r1 k1 y0 y1 y2 y3 gv h0 n0 Z0 V_1 O_0 S_sf r_gv) (hw _ (List.mem_of_getElem? (i := 124) rfl)) (hw _ (List.mem_of_getElem? (i := 125) rfl)) (hw _ (List.mem_of_getElem? (i := 36) rfl)) (hw _ (List.mem_of_getElem? (i := 126) rfl)) (by decide) e63 (by decide) (by decide) (by decide) (by decide) (lenOf pd_20 rfl) rfl rfl (Nat.le_of_eq rfl) (by rw [hml]; rfl) (hb hby d30_12) rfl ?_
  intro v64 T64 L64 X64 hQ64
  obtain ⟨rfl, Nq64, eq64⟩ := hQ64
  have N64 := Fr.app N62 Nq64
  show Ok p e below _ _ T64 (mkF m 15 #[.val (.ref a1), .val (.int (1 : Int32))] [(.int (y1 &&& (255 : Int32)))])
  refine Ok.retI X64 hx hret hlk (Or.inr (Or.inr (Or.inr (Or.inl rfl)))) (narrow_char_id (mask255 _).1 (by have := (mask255 y1).2; omega)) (hb hby d30_15) (by decide) (by decide) ?_
  show Q30 Z a1 r1 k1 y0 y1 y2 y3 cs0 gv h0 n0 _ T64.heap _
  rw [eq64]
  exact ⟨rfl, N64, rfl⟩
theorem d32_0 : decode jdk_41_method_11_code 0 = .ok (.iload_n 0, 1) := by decide +kernel
theorem d32_1 : decode jdk_41_method_11_code 1 = .ok (.ifCond .lt 8, 3) := by decide +kernel
theorem d32_4 : decode jdk_41_method_11_code 4 = .ok (.iload_n 0, 1) := by decide +kernel
theorem d32_5 : decode jdk_41_method_11_code 5 = .ok (.iload_n 1, 1) := by decide +kernel
theorem d32_6 : decode jdk_41_method_11_code 6 = .ok (.if_icmp .lt 10, 3) := by decide +kernel
theorem d32_9 : decode jdk_41_method_11_code 9 = .ok (.aload_n 2, 1) := by decide +kernel
theorem d32_10 : decode jdk_41_method_11_code 10 = .ok (.iload_n 0, 1) := by decide +kernel
theorem d32_11 : decode jdk_41_method_11_code 11 = .ok (.iload_n 1, 1) := by decide +kernel
theorem d32_12 : decode jdk_41_method_11_code 12 = .ok (.invokestatic 95, 3) := by decide +kernel
theorem d32_16 : decode jdk_41_method_11_code 16 = .ok (.iload_n 0, 1) := by decide +kernel
theorem d32_17 : decode jdk_41_method_11_code 17 = .ok (.ireturn, 1) := by decide +kernel
theorem ef_32 (m : MethodId) (x0 : Int32) (x1 : Int32) (x2 : Value) (r2 : x2.isRef = true) : entryFrame m #[(.int x0), (.int x1), x2] 3 = mkF m 0 #[.val (.int x0), .val (.int x1), .val x2] [] := by
  (cases x2 <;> simp [Value.isRef] at r2) <;> first | (simp [entryFrame, mkF, argsToLocals, Value.category]; done) | rfl
def Q32 (Z : State) (gv : Value) (h0 : Heap) (n0 : Nat) (v : Option Value) (h : Heap) (L : List Loc) : Prop := v = some (.int (2 : Int32)) ∧ Fr n0 L ∧ h = h0
set_option maxRecDepth 65536 in
set_option maxHeartbeats 40000000 in
theorem rm32 (l : Launch) (Z : State) (a0 : Array Value) (hw : ∀ d ∈ tables_1, d.before a0 Z = true) (gv : Value) (h0 : Heap) (n0 : Nat) (Z0 : n0 ≤ h0.size) (r_gv : gv.isRef = true) :
    MetN l Z (⟨"jdk/internal/util/Preconditions", "checkIndex", "(IILjava/util/function/BiFunction;)I"⟩ : MethodName) jdk_41_method_11_code 3 (some .int) [] ({ frames := 0, cells := 0, slots := 0, locals := 0 } : Room) #[(.int (2 : Int32)), (.int (4 : Int32)), gv] h0 (Q32 Z gv h0 n0) := by
  refine met_n (plainFor_of_name pn_6) (fun m => ef_32 m (2 : Int32) (4 : Int32) gv r_gv) ?_
  intro p e s m below meth c s₁ X0 hx hby hml hZ hown hnm hret hlk e0
  replace hown : s.vm.findClass "jdk/internal/util/Preconditions" = some m.cls := hown
  replace hnm : meth.name = "checkIndex" := hnm
  replace hret : meth.sig.returnType = (some .int) := hret
  have N0 := Fr.nil n0
  have K0 : Keep h0 h0 [] := Keep.refl _ _
  show Ok p e below _ _ s₁ (mkF m 0 #[.val (.int (2 : Int32)), .val (.int (4 : Int32)), .val gv] [])
  refine Ok.iloadN (pc' := 1) X0 hx (hb hby d32_0) rfl rfl ?_
  refine Ok.ifN (pc' := 4) X0 hx (hb hby d32_1) (bf (i0 .lt (2 : Int32) (ic_eq (2 : Int32) 0).2.2.1) (by decide)) rfl ?_
  refine Ok.iloadN (pc' := 5) X0 hx (hb hby d32_4) rfl rfl ?_
  refine Ok.iloadN (pc' := 6) X0 hx (hb hby d32_5) rfl rfl ?_
  refine Ok.icY (pc' := 16) X0 hx (hb hby d32_6) (bt (ic_eq (2 : Int32) (4 : Int32)).2.2.1 (by decide)) (by decide) (by decide) ?_
  refine Ok.iloadN (pc' := 17) X0 hx (hb hby d32_16) rfl rfl ?_
  refine Ok.retI X0 hx hret hlk (Or.inl rfl) rfl (hb hby d32_17) (by decide) (by decide) ?_
  show Q32 Z gv h0 n0 _ s₁.heap _
  rw [e0]
  exact ⟨rfl, N0, rfl⟩
theorem d33_0 : decode jdk_42_method_155_code 0 = .ok (.iload_n 0, 1) := by decide +kernel
theorem d33_1 : decode jdk_42_method_155_code 1 = .ok (.iload_n 1, 1) := by decide +kernel
theorem d33_2 : decode jdk_42_method_155_code 2 = .ok (.getstatic 1053, 3) := by decide +kernel
theorem d33_5 : decode jdk_42_method_155_code 5 = .ok (.invokestatic 1059, 3) := by decide +kernel
theorem d33_8 : decode jdk_42_method_155_code 8 = .ok (.pop, 1) := by decide +kernel
theorem d33_9 : decode jdk_42_method_155_code 9 = .ok (.return_, 1) := by decide +kernel
theorem ef_33 (m : MethodId) (x0 : Int32) (x1 : Int32) : entryFrame m #[(.int x0), (.int x1)] 2 = mkF m 0 #[.val (.int x0), .val (.int x1)] [] := by first | (simp [entryFrame, mkF, argsToLocals, Value.category]; done) | rfl
def Q33 (Z : State) (gv : Value) (h0 : Heap) (n0 : Nat) (v : Option Value) (h : Heap) (L : List Loc) : Prop := v = none ∧ Fr n0 L ∧ h = h0
set_option maxRecDepth 65536 in
set_option maxHeartbeats 40000000 in
theorem rm33 (l : Launch) (Z : State) (a0 : Array Value) (hw : ∀ d ∈ tables_1, d.before a0 Z = true) (gv : Value) (h0 : Heap) (n0 : Nat) (Z0 : n0 ≤ h0.size) (O_0 : Old Z n0 h0) (S_sf : Sta Z Z.heap "jdk/internal/util/Preconditions" "SIOOBE_FORMATTER" "Ljava/util/function/BiFunction;" gv) (r_gv : gv.isRef = true) :
    MetN l Z (⟨"java/lang/String", "checkIndex", "(II)V"⟩ : MethodName) jdk_42_method_155_code 2 none [] ({ frames := 1, cells := 0, slots := 0, locals := 14 } : Room) #[(.int (2 : Int32)), (.int (4 : Int32))] h0 (Q33 Z gv h0 n0) := by
  refine met_n (plainFor_of_name pn_4) (fun m => ef_33 m (2 : Int32) (4 : Int32)) ?_
  intro p e s m below meth c s₁ X0 hx hby hml hZ hown hnm hret hlk e0
  replace hown : s.vm.findClass "java/lang/String" = some m.cls := hown
  replace hnm : meth.name = "checkIndex" := hnm
  replace hret : meth.sig.returnType = none := hret
  have N0 := Fr.nil n0
  have K0 : Keep h0 h0 [] := Keep.refl _ _
  show Ok p e below _ _ s₁ (mkF m 0 #[.val (.int (2 : Int32)), .val (.int (4 : Int32))] [])
  refine Ok.iloadN (pc' := 1) X0 hx (hb hby d33_0) rfl rfl ?_
  refine Ok.iloadN (pc' := 2) X0 hx (hb hby d33_1) rfl rfl ?_
  refine Ok.getS (pc' := 5) X0 hx hZ hown (host := "") (Or.inl (hw _ (List.mem_of_getElem? (i := 130) rfl))) Via.refl e0 (S_sf.ext O_0.2) (hb hby d33_2) rfl ?_
  intro T65 X65 e65
  refine Ok.callS (pc' := 8) (W := 0)  (argsL := [(.int (2 : Int32)), (.int (4 : Int32)), gv]) (rest := []) X65 hx hZ hown (rm32 l Z a0 hw gv h0 n0 Z0 r_gv) (hw _ (List.mem_of_getElem? (i := 132) rfl)) (hw _ (List.mem_of_getElem? (i := 133) rfl)) (hw _ (List.mem_of_getElem? (i := 131) rfl)) (hw _ (List.mem_of_getElem? (i := 134) rfl)) (by decide) e65 (by decide) (by decide) (by decide) (by decide) (lenOf pd_22 rfl) rfl rfl (Nat.le_of_eq rfl) (by rw [hml]; rfl) (hb hby d33_5) rfl ?_
  intro v66 T66 L66 X66 hQ66
  obtain ⟨rfl, Nq66, eq66⟩ := hQ66
  have N66 := Fr.app N0 Nq66
  show Ok p e below _ _ T66 (mkF m 8 #[.val (.int (2 : Int32)), .val (.int (4 : Int32))] [(.int (2 : Int32))])
  refine Ok.pop (pc' := 9) X66 hx (hb hby d33_8) rfl rfl ?_
  refine Ok.retV X66 hx hret hlk (hb hby d33_9) (by decide) (by decide) ?_
  show Q33 Z gv h0 n0 _ T66.heap _
  rw [eq66]
  exact ⟨rfl, N66, rfl⟩
theorem d34_0 : decode jdk_43_method_2_code 0 = .ok (.iload_n 1, 1) := by decide +kernel
theorem d34_1 : decode jdk_43_method_2_code 1 = .ok (.aload_n 0, 1) := by decide +kernel
theorem d34_2 : decode jdk_43_method_2_code 2 = .ok (.arraylength, 1) := by decide +kernel
theorem d34_3 : decode jdk_43_method_2_code 3 = .ok (.invokestatic 9, 3) := by decide +kernel
theorem d34_6 : decode jdk_43_method_2_code 6 = .ok (.aload_n 0, 1) := by decide +kernel
theorem d34_7 : decode jdk_43_method_2_code 7 = .ok (.iload_n 1, 1) := by decide +kernel
theorem d34_8 : decode jdk_43_method_2_code 8 = .ok (.baload, 1) := by decide +kernel
theorem d34_9 : decode jdk_43_method_2_code 9 = .ok (.sipush 255, 3) := by decide +kernel
theorem d34_12 : decode jdk_43_method_2_code 12 = .ok (.iand, 1) := by decide +kernel
theorem d34_13 : decode jdk_43_method_2_code 13 = .ok (.i2c, 1) := by decide +kernel
theorem d34_14 : decode jdk_43_method_2_code 14 = .ok (.ireturn, 1) := by decide +kernel
theorem ef_34 (m : MethodId) (x0 : Addr) (x1 : Int32) : entryFrame m #[(.ref x0), (.int x1)] 2 = mkF m 0 #[.val (.ref x0), .val (.int x1)] [] := by first | (simp [entryFrame, mkF, argsToLocals, Value.category]; done) | rfl
def Q34 (Z : State) (r1 : Addr) (k1 : ClassId) (y0 : Int32) (y1 : Int32) (y2 : Int32) (y3 : Int32) (gv : Value) (h0 : Heap) (n0 : Nat) (v : Option Value) (h : Heap) (L : List Loc) : Prop := v = some (.int (y2 &&& (255 : Int32))) ∧ Fr n0 L ∧ h = h0
set_option maxRecDepth 65536 in
set_option maxHeartbeats 40000000 in
theorem rm34 (l : Launch) (Z : State) (a0 : Array Value) (hw : ∀ d ∈ tables_1, d.before a0 Z = true) (r1 : Addr) (k1 : ClassId) (y0 : Int32) (y1 : Int32) (y2 : Int32) (y3 : Int32) (gv : Value) (h0 : Heap) (n0 : Nat) (Z0 : n0 ≤ h0.size) (V_1 : Arv Z h0 r1 k1 .byte (4 : Int32) [(.int y0), (.int y1), (.int y2), (.int y3)] (.int (0 : Int32))) (O_0 : Old Z n0 h0) (S_sf : Sta Z Z.heap "jdk/internal/util/Preconditions" "SIOOBE_FORMATTER" "Ljava/util/function/BiFunction;" gv) (r_gv : gv.isRef = true) :
    MetN l Z (⟨"java/lang/StringLatin1", "charAt", "([BI)C"⟩ : MethodName) jdk_43_method_2_code 2 (some .char) [] ({ frames := 2, cells := 0, slots := 0, locals := 27 } : Room) #[(.ref r1), (.int (2 : Int32))] h0 (Q34 Z r1 k1 y0 y1 y2 y3 gv h0 n0) := by
  refine met_n (plainFor_of_name pn_5) (fun m => ef_34 m r1 (2 : Int32)) ?_
  intro p e s m below meth c s₁ X0 hx hby hml hZ hown hnm hret hlk e0
  replace hown : s.vm.findClass "java/lang/StringLatin1" = some m.cls := hown
  replace hnm : meth.name = "charAt" := hnm
  replace hret : meth.sig.returnType = (some .char) := hret
  have N0 := Fr.nil n0
  have K0 : Keep h0 h0 [] := Keep.refl _ _
  show Ok p e below _ _ s₁ (mkF m 0 #[.val (.ref r1), .val (.int (2 : Int32))] [])
  refine Ok.iloadN (pc' := 1) X0 hx (hb hby d34_0) rfl rfl ?_
  refine Ok.aloadN (pc' := 2) X0 hx (hb hby d34_1) rfl rfl rfl ?_
  refine Ok.len (pc' := 3) X0 hx hZ e0 V_1 (hb hby d34_2) rfl ?_
  refine Ok.callS (pc' := 6) (W := 0)  (argsL := [(.int (2 : Int32)), (.int (4 : Int32))]) (rest := []) X0 hx hZ hown (rm33 l Z a0 hw gv h0 n0 Z0 O_0 S_sf r_gv) (hw _ (List.mem_of_getElem? (i := 127) rfl)) (hw _ (List.mem_of_getElem? (i := 128) rfl)) (hw _ (List.mem_of_getElem? (i := 4) rfl)) (hw _ (List.mem_of_getElem? (i := 129) rfl)) (by decide) e0 (by decide) (by decide) (by decide) (by decide) (lenOf pd_21 rfl) rfl rfl (Nat.le_of_eq rfl) (by rw [hml]; rfl) (hb hby d34_3) rfl ?_
  intro v67 T67 L67 X67 hQ67
  obtain ⟨rfl, Nq67, eq67⟩ := hQ67
  have N67 := Fr.app N0 Nq67
  show Ok p e below _ _ T67 (mkF m 6 #[.val (.ref r1), .val (.int (2 : Int32))] [])
  refine Ok.aloadN (pc' := 7) X67 hx (hb hby d34_6) rfl rfl rfl ?_
  refine Ok.iloadN (pc' := 8) X67 hx (hb hby d34_7) rfl rfl ?_
  refine Ok.ldB (pc' := 9) (v := (.int y2)) X67 hx hZ eq67 V_1 ⟨by decide, by decide⟩ rfl (hb hby d34_8) rfl ?_
  refine Ok.sipush (z := (255 : Int32)) (pc' := 12) X67 hx (hb hby d34_9) rfl rfl ?_
  refine Ok.iand (pc' := 13) X67 hx (hb hby d34_12) rfl ?_
  refine Ok.i2c (pc' := 14) X67 hx (hb hby d34_13) rfl ?_
  rw [char255]
  refine Ok.retI X67 hx hret hlk (Or.inr (Or.inr (Or.inr (Or.inl rfl)))) (narrow_char_id (mask255 _).1 (by have := (mask255 y2).2; omega)) (hb hby d34_14) (by decide) (by decide) ?_
  show Q34 Z r1 k1 y0 y1 y2 y3 gv h0 n0 _ T67.heap _
  rw [eq67]
  exact ⟨rfl, N67, rfl⟩
theorem d35_0 : decode jdk_42_method_56_code 0 = .ok (.aload_n 0, 1) := by decide +kernel
theorem d35_1 : decode jdk_42_method_56_code 1 = .ok (.invokevirtual 492, 3) := by decide +kernel
theorem d35_4 : decode jdk_42_method_56_code 4 = .ok (.ifCond .eq 12, 3) := by decide +kernel
theorem d35_7 : decode jdk_42_method_56_code 7 = .ok (.aload_n 0, 1) := by decide +kernel
theorem d35_8 : decode jdk_42_method_56_code 8 = .ok (.getfield 9, 3) := by decide +kernel
theorem d35_11 : decode jdk_42_method_56_code 11 = .ok (.iload_n 1, 1) := by decide +kernel
theorem d35_12 : decode jdk_42_method_56_code 12 = .ok (.invokestatic 495, 3) := by decide +kernel
theorem d35_15 : decode jdk_42_method_56_code 15 = .ok (.ireturn, 1) := by decide +kernel
theorem d35_16 : decode jdk_42_method_56_code 16 = .ok (.aload_n 0, 1) := by decide +kernel
theorem d35_17 : decode jdk_42_method_56_code 17 = .ok (.getfield 9, 3) := by decide +kernel
theorem d35_20 : decode jdk_42_method_56_code 20 = .ok (.iload_n 1, 1) := by decide +kernel
theorem d35_21 : decode jdk_42_method_56_code 21 = .ok (.invokestatic 498, 3) := by decide +kernel
theorem d35_24 : decode jdk_42_method_56_code 24 = .ok (.ireturn, 1) := by decide +kernel
theorem ef_35 (m : MethodId) (x0 : Addr) (x1 : Int32) : entryFrame m #[(.ref x0), (.int x1)] 2 = mkF m 0 #[.val (.ref x0), .val (.int x1)] [] := by first | (simp [entryFrame, mkF, argsToLocals, Value.category]; done) | rfl
def Q35 (Z : State) (a1 : Addr) (r1 : Addr) (k1 : ClassId) (y0 : Int32) (y1 : Int32) (y2 : Int32) (y3 : Int32) (cs0 : Int32) (gv : Value) (h0 : Heap) (n0 : Nat) (v : Option Value) (h : Heap) (L : List Loc) : Prop := v = some (.int (y2 &&& (255 : Int32))) ∧ Fr n0 L ∧ h = h0
set_option maxRecDepth 65536 in
set_option maxHeartbeats 40000000 in
theorem rm35 (l : Launch) (Z : State) (a0 : Array Value) (hw : ∀ d ∈ tables_1, d.before a0 Z = true) (a1 : Addr) (r1 : Addr) (k1 : ClassId) (y0 : Int32) (y1 : Int32) (y2 : Int32) (y3 : Int32) (cs0 : Int32) (gv : Value) (h0 : Heap) (n0 : Nat) (Z0 : n0 ≤ h0.size) (E_a1 : Exa Z h0 a1 "java/lang/String") (Fv : Fld Z h0 a1 "java/lang/String" "value" "[B" (.ref r1)) (Fc : Fld Z h0 a1 "java/lang/String" "coder" "B" (.int (0 : Int32))) (V_1 : Arv Z h0 r1 k1 .byte (4 : Int32) [(.int y0), (.int y1), (.int y2), (.int y3)] (.int (0 : Int32))) (O_0 : Old Z n0 h0) (S_cs : Sta Z Z.heap "java/lang/String" "COMPACT_STRINGS" "Z" (.int cs0)) (hcs : ¬ cs0.toInt = 0) (S_sf : Sta Z Z.heap "jdk/internal/util/Preconditions" "SIOOBE_FORMATTER" "Ljava/util/function/BiFunction;" gv) (r_gv : gv.isRef = true) :
    MetN l Z (⟨"java/lang/String", "charAt", "(I)C"⟩ : MethodName) jdk_42_method_56_code 2 (some .char) [] ({ frames := 3, cells := 0, slots := 0, locals := 40 } : Room) #[(.ref a1), (.int (2 : Int32))] h0 (Q35 Z a1 r1 k1 y0 y1 y2 y3 cs0 gv h0 n0) := by
  refine met_n (plainFor_of_name pn_4) (fun m => ef_35 m a1 (2 : Int32)) ?_
  intro p e s m below meth c s₁ X0 hx hby hml hZ hown hnm hret hlk e0
  replace hown : s.vm.findClass "java/lang/String" = some m.cls := hown
  replace hnm : meth.name = "charAt" := hnm
  replace hret : meth.sig.returnType = (some .char) := hret
  have N0 := Fr.nil n0
  have K0 : Keep h0 h0 [] := Keep.refl _ _
  show Ok p e below _ _ s₁ (mkF m 0 #[.val (.ref a1), .val (.int (2 : Int32))] [])
  refine Ok.aloadN (pc' := 1) X0 hx (hb hby d35_0) rfl rfl rfl ?_
  refine Ok.virt (pc' := 4) (W := 0) (a := a1)  (argsL := []) (rest := []) X0 hx hZ hown (rm21 l Z a0 hw a1 r1 k1 y0 y1 y2 y3 cs0 gv h0 n0 Z0 E_a1 Fv Fc V_1 O_0 S_cs hcs S_sf r_gv) (hw _ (List.mem_of_getElem? (i := 119) rfl)) (hw _ (List.mem_of_getElem? (i := 120) rfl)) (notFace_of_selects (args := #[]) (mvT hZ (hw _ (List.mem_of_getElem? (i := 122) rfl)))) (hw _ (List.mem_of_getElem? (i := 122) rfl)) (hw _ (List.mem_of_getElem? (i := 121) rfl)) (hw _ (List.mem_of_getElem? (i := 4) rfl)) (hw _ (List.mem_of_getElem? (i := 123) rfl)) (by decide) e0 E_a1 (by decide) (by decide) (by decide) (by decide) (lenOf pd_19 rfl) rfl rfl (Nat.le_of_eq rfl) (by rw [hml]; rfl) (hb hby d35_1) rfl ?_
  intro v68 T68 L68 X68 hQ68
  obtain ⟨rfl, Nq68, eq68⟩ := hQ68
  have N68 := Fr.app N0 Nq68
  show Ok p e below _ _ T68 (mkF m 4 #[.val (.ref a1), .val (.int (2 : Int32))] [(.int (1 : Int32))])
  refine Ok.ifN (pc' := 7) X68 hx (hb hby d35_4) (bf (i0 .eq (1 : Int32) (ic_eq (1 : Int32) 0).1) (by decide)) rfl ?_
  refine Ok.aloadN (pc' := 8) X68 hx (hb hby d35_7) rfl rfl rfl ?_
  refine Ok.getF (pc' := 11) X68 hx hZ hown (host := "") (Or.inl (hw _ (List.mem_of_getElem? (i := 29) rfl))) Via.refl eq68 Fv (hb hby d35_8) rfl ?_
  intro T69 X69 e69
  refine Ok.iloadN (pc' := 12) X69 hx (hb hby d35_11) rfl rfl ?_
  refine Ok.callS (pc' := 15) (W := 0)  (argsL := [(.ref r1), (.int (2 : Int32))]) (rest := []) X69 hx hZ hown (rm34 l Z a0 hw r1 k1 y0 y1 y2 y3 gv h0 n0 Z0 V_1 O_0 S_sf r_gv) (hw _ (List.mem_of_getElem? (i := 124) rfl)) (hw _ (List.mem_of_getElem? (i := 125) rfl)) (hw _ (List.mem_of_getElem? (i := 36) rfl)) (hw _ (List.mem_of_getElem? (i := 126) rfl)) (by decide) e69 (by decide) (by decide) (by decide) (by decide) (lenOf pd_20 rfl) rfl rfl (Nat.le_of_eq rfl) (by rw [hml]; rfl) (hb hby d35_12) rfl ?_
  intro v70 T70 L70 X70 hQ70
  obtain ⟨rfl, Nq70, eq70⟩ := hQ70
  have N70 := Fr.app N68 Nq70
  show Ok p e below _ _ T70 (mkF m 15 #[.val (.ref a1), .val (.int (2 : Int32))] [(.int (y2 &&& (255 : Int32)))])
  refine Ok.retI X70 hx hret hlk (Or.inr (Or.inr (Or.inr (Or.inl rfl)))) (narrow_char_id (mask255 _).1 (by have := (mask255 y2).2; omega)) (hb hby d35_15) (by decide) (by decide) ?_
  show Q35 Z a1 r1 k1 y0 y1 y2 y3 cs0 gv h0 n0 _ T70.heap _
  rw [eq70]
  exact ⟨rfl, N70, rfl⟩
theorem d37_0 : decode jdk_41_method_11_code 0 = .ok (.iload_n 0, 1) := by decide +kernel
theorem d37_1 : decode jdk_41_method_11_code 1 = .ok (.ifCond .lt 8, 3) := by decide +kernel
theorem d37_4 : decode jdk_41_method_11_code 4 = .ok (.iload_n 0, 1) := by decide +kernel
theorem d37_5 : decode jdk_41_method_11_code 5 = .ok (.iload_n 1, 1) := by decide +kernel
theorem d37_6 : decode jdk_41_method_11_code 6 = .ok (.if_icmp .lt 10, 3) := by decide +kernel
theorem d37_9 : decode jdk_41_method_11_code 9 = .ok (.aload_n 2, 1) := by decide +kernel
theorem d37_10 : decode jdk_41_method_11_code 10 = .ok (.iload_n 0, 1) := by decide +kernel
theorem d37_11 : decode jdk_41_method_11_code 11 = .ok (.iload_n 1, 1) := by decide +kernel
theorem d37_12 : decode jdk_41_method_11_code 12 = .ok (.invokestatic 95, 3) := by decide +kernel
theorem d37_16 : decode jdk_41_method_11_code 16 = .ok (.iload_n 0, 1) := by decide +kernel
theorem d37_17 : decode jdk_41_method_11_code 17 = .ok (.ireturn, 1) := by decide +kernel
theorem ef_37 (m : MethodId) (x0 : Int32) (x1 : Int32) (x2 : Value) (r2 : x2.isRef = true) : entryFrame m #[(.int x0), (.int x1), x2] 3 = mkF m 0 #[.val (.int x0), .val (.int x1), .val x2] [] := by
  (cases x2 <;> simp [Value.isRef] at r2) <;> first | (simp [entryFrame, mkF, argsToLocals, Value.category]; done) | rfl
def Q37 (Z : State) (gv : Value) (h0 : Heap) (n0 : Nat) (v : Option Value) (h : Heap) (L : List Loc) : Prop := v = some (.int (3 : Int32)) ∧ Fr n0 L ∧ h = h0
set_option maxRecDepth 65536 in
set_option maxHeartbeats 40000000 in
theorem rm37 (l : Launch) (Z : State) (a0 : Array Value) (hw : ∀ d ∈ tables_1, d.before a0 Z = true) (gv : Value) (h0 : Heap) (n0 : Nat) (Z0 : n0 ≤ h0.size) (r_gv : gv.isRef = true) :
    MetN l Z (⟨"jdk/internal/util/Preconditions", "checkIndex", "(IILjava/util/function/BiFunction;)I"⟩ : MethodName) jdk_41_method_11_code 3 (some .int) [] ({ frames := 0, cells := 0, slots := 0, locals := 0 } : Room) #[(.int (3 : Int32)), (.int (4 : Int32)), gv] h0 (Q37 Z gv h0 n0) := by
  refine met_n (plainFor_of_name pn_6) (fun m => ef_37 m (3 : Int32) (4 : Int32) gv r_gv) ?_
  intro p e s m below meth c s₁ X0 hx hby hml hZ hown hnm hret hlk e0
  replace hown : s.vm.findClass "jdk/internal/util/Preconditions" = some m.cls := hown
  replace hnm : meth.name = "checkIndex" := hnm
  replace hret : meth.sig.returnType = (some .int) := hret
  have N0 := Fr.nil n0
  have K0 : Keep h0 h0 [] := Keep.refl _ _
  show Ok p e below _ _ s₁ (mkF m 0 #[.val (.int (3 : Int32)), .val (.int (4 : Int32)), .val gv] [])
  refine Ok.iloadN (pc' := 1) X0 hx (hb hby d37_0) rfl rfl ?_
  refine Ok.ifN (pc' := 4) X0 hx (hb hby d37_1) (bf (i0 .lt (3 : Int32) (ic_eq (3 : Int32) 0).2.2.1) (by decide)) rfl ?_
  refine Ok.iloadN (pc' := 5) X0 hx (hb hby d37_4) rfl rfl ?_
  refine Ok.iloadN (pc' := 6) X0 hx (hb hby d37_5) rfl rfl ?_
  refine Ok.icY (pc' := 16) X0 hx (hb hby d37_6) (bt (ic_eq (3 : Int32) (4 : Int32)).2.2.1 (by decide)) (by decide) (by decide) ?_
  refine Ok.iloadN (pc' := 17) X0 hx (hb hby d37_16) rfl rfl ?_
  refine Ok.retI X0 hx hret hlk (Or.inl rfl) rfl (hb hby d37_17) (by decide) (by decide) ?_
  show Q37 Z gv h0 n0 _ s₁.heap _
  rw [e0]
  exact ⟨rfl, N0, rfl⟩
theorem d38_0 : decode jdk_42_method_155_code 0 = .ok (.iload_n 0, 1) := by decide +kernel
theorem d38_1 : decode jdk_42_method_155_code 1 = .ok (.iload_n 1, 1) := by decide +kernel
theorem d38_2 : decode jdk_42_method_155_code 2 = .ok (.getstatic 1053, 3) := by decide +kernel
theorem d38_5 : decode jdk_42_method_155_code 5 = .ok (.invokestatic 1059, 3) := by decide +kernel
theorem d38_8 : decode jdk_42_method_155_code 8 = .ok (.pop, 1) := by decide +kernel
theorem d38_9 : decode jdk_42_method_155_code 9 = .ok (.return_, 1) := by decide +kernel
theorem ef_38 (m : MethodId) (x0 : Int32) (x1 : Int32) : entryFrame m #[(.int x0), (.int x1)] 2 = mkF m 0 #[.val (.int x0), .val (.int x1)] [] := by first | (simp [entryFrame, mkF, argsToLocals, Value.category]; done) | rfl
def Q38 (Z : State) (gv : Value) (h0 : Heap) (n0 : Nat) (v : Option Value) (h : Heap) (L : List Loc) : Prop := v = none ∧ Fr n0 L ∧ h = h0
set_option maxRecDepth 65536 in
set_option maxHeartbeats 40000000 in
theorem rm38 (l : Launch) (Z : State) (a0 : Array Value) (hw : ∀ d ∈ tables_1, d.before a0 Z = true) (gv : Value) (h0 : Heap) (n0 : Nat) (Z0 : n0 ≤ h0.size) (O_0 : Old Z n0 h0) (S_sf : Sta Z Z.heap "jdk/internal/util/Preconditions" "SIOOBE_FORMATTER" "Ljava/util/function/BiFunction;" gv) (r_gv : gv.isRef = true) :
    MetN l Z (⟨"java/lang/String", "checkIndex", "(II)V"⟩ : MethodName) jdk_42_method_155_code 2 none [] ({ frames := 1, cells := 0, slots := 0, locals := 14 } : Room) #[(.int (3 : Int32)), (.int (4 : Int32))] h0 (Q38 Z gv h0 n0) := by
  refine met_n (plainFor_of_name pn_4) (fun m => ef_38 m (3 : Int32) (4 : Int32)) ?_
  intro p e s m below meth c s₁ X0 hx hby hml hZ hown hnm hret hlk e0
  replace hown : s.vm.findClass "java/lang/String" = some m.cls := hown
  replace hnm : meth.name = "checkIndex" := hnm
  replace hret : meth.sig.returnType = none := hret
  have N0 := Fr.nil n0
  have K0 : Keep h0 h0 [] := Keep.refl _ _
  show Ok p e below _ _ s₁ (mkF m 0 #[.val (.int (3 : Int32)), .val (.int (4 : Int32))] [])
  refine Ok.iloadN (pc' := 1) X0 hx (hb hby d38_0) rfl rfl ?_
  refine Ok.iloadN (pc' := 2) X0 hx (hb hby d38_1) rfl rfl ?_
  refine Ok.getS (pc' := 5) X0 hx hZ hown (host := "") (Or.inl (hw _ (List.mem_of_getElem? (i := 130) rfl))) Via.refl e0 (S_sf.ext O_0.2) (hb hby d38_2) rfl ?_
  intro T71 X71 e71
  refine Ok.callS (pc' := 8) (W := 0)  (argsL := [(.int (3 : Int32)), (.int (4 : Int32)), gv]) (rest := []) X71 hx hZ hown (rm37 l Z a0 hw gv h0 n0 Z0 r_gv) (hw _ (List.mem_of_getElem? (i := 132) rfl)) (hw _ (List.mem_of_getElem? (i := 133) rfl)) (hw _ (List.mem_of_getElem? (i := 131) rfl)) (hw _ (List.mem_of_getElem? (i := 134) rfl)) (by decide) e71 (by decide) (by decide) (by decide) (by decide) (lenOf pd_22 rfl) rfl rfl (Nat.le_of_eq rfl) (by rw [hml]; rfl) (hb hby d38_5) rfl ?_
  intro v72 T72 L72 X72 hQ72
  obtain ⟨rfl, Nq72, eq72⟩ := hQ72
  have N72 := Fr.app N0 Nq72
  show Ok p e below _ _ T72 (mkF m 8 #[.val (.int (3 : Int32)), .val (.int (4 : Int32))] [(.int (3 : Int32))])
  refine Ok.pop (pc' := 9) X72 hx (hb hby d38_8) rfl rfl ?_
  refine Ok.retV X72 hx hret hlk (hb hby d38_9) (by decide) (by decide) ?_
  show Q38 Z gv h0 n0 _ T72.heap _
  rw [eq72]
  exact ⟨rfl, N72, rfl⟩
theorem d39_0 : decode jdk_43_method_2_code 0 = .ok (.iload_n 1, 1) := by decide +kernel
theorem d39_1 : decode jdk_43_method_2_code 1 = .ok (.aload_n 0, 1) := by decide +kernel
theorem d39_2 : decode jdk_43_method_2_code 2 = .ok (.arraylength, 1) := by decide +kernel
theorem d39_3 : decode jdk_43_method_2_code 3 = .ok (.invokestatic 9, 3) := by decide +kernel
theorem d39_6 : decode jdk_43_method_2_code 6 = .ok (.aload_n 0, 1) := by decide +kernel
theorem d39_7 : decode jdk_43_method_2_code 7 = .ok (.iload_n 1, 1) := by decide +kernel
theorem d39_8 : decode jdk_43_method_2_code 8 = .ok (.baload, 1) := by decide +kernel
theorem d39_9 : decode jdk_43_method_2_code 9 = .ok (.sipush 255, 3) := by decide +kernel
theorem d39_12 : decode jdk_43_method_2_code 12 = .ok (.iand, 1) := by decide +kernel
theorem d39_13 : decode jdk_43_method_2_code 13 = .ok (.i2c, 1) := by decide +kernel
theorem d39_14 : decode jdk_43_method_2_code 14 = .ok (.ireturn, 1) := by decide +kernel
theorem ef_39 (m : MethodId) (x0 : Addr) (x1 : Int32) : entryFrame m #[(.ref x0), (.int x1)] 2 = mkF m 0 #[.val (.ref x0), .val (.int x1)] [] := by first | (simp [entryFrame, mkF, argsToLocals, Value.category]; done) | rfl
def Q39 (Z : State) (r1 : Addr) (k1 : ClassId) (y0 : Int32) (y1 : Int32) (y2 : Int32) (y3 : Int32) (gv : Value) (h0 : Heap) (n0 : Nat) (v : Option Value) (h : Heap) (L : List Loc) : Prop := v = some (.int (y3 &&& (255 : Int32))) ∧ Fr n0 L ∧ h = h0
set_option maxRecDepth 65536 in
set_option maxHeartbeats 40000000 in
theorem rm39 (l : Launch) (Z : State) (a0 : Array Value) (hw : ∀ d ∈ tables_1, d.before a0 Z = true) (r1 : Addr) (k1 : ClassId) (y0 : Int32) (y1 : Int32) (y2 : Int32) (y3 : Int32) (gv : Value) (h0 : Heap) (n0 : Nat) (Z0 : n0 ≤ h0.size) (V_1 : Arv Z h0 r1 k1 .byte (4 : Int32) [(.int y0), (.int y1), (.int y2), (.int y3)] (.int (0 : Int32))) (O_0 : Old Z n0 h0) (S_sf : Sta Z Z.heap "jdk/internal/util/Preconditions" "SIOOBE_FORMATTER" "Ljava/util/function/BiFunction;" gv) (r_gv : gv.isRef = true) :
    MetN l Z (⟨"java/lang/StringLatin1", "charAt", "([BI)C"⟩ : MethodName) jdk_43_method_2_code 2 (some .char) [] ({ frames := 2, cells := 0, slots := 0, locals := 27 } : Room) #[(.ref r1), (.int (3 : Int32))] h0 (Q39 Z r1 k1 y0 y1 y2 y3 gv h0 n0) := by
  refine met_n (plainFor_of_name pn_5) (fun m => ef_39 m r1 (3 : Int32)) ?_
  intro p e s m below meth c s₁ X0 hx hby hml hZ hown hnm hret hlk e0
  replace hown : s.vm.findClass "java/lang/StringLatin1" = some m.cls := hown
  replace hnm : meth.name = "charAt" := hnm
  replace hret : meth.sig.returnType = (some .char) := hret
  have N0 := Fr.nil n0
  have K0 : Keep h0 h0 [] := Keep.refl _ _
  show Ok p e below _ _ s₁ (mkF m 0 #[.val (.ref r1), .val (.int (3 : Int32))] [])
  refine Ok.iloadN (pc' := 1) X0 hx (hb hby d39_0) rfl rfl ?_
  refine Ok.aloadN (pc' := 2) X0 hx (hb hby d39_1) rfl rfl rfl ?_
  refine Ok.len (pc' := 3) X0 hx hZ e0 V_1 (hb hby d39_2) rfl ?_
  refine Ok.callS (pc' := 6) (W := 0)  (argsL := [(.int (3 : Int32)), (.int (4 : Int32))]) (rest := []) X0 hx hZ hown (rm38 l Z a0 hw gv h0 n0 Z0 O_0 S_sf r_gv) (hw _ (List.mem_of_getElem? (i := 127) rfl)) (hw _ (List.mem_of_getElem? (i := 128) rfl)) (hw _ (List.mem_of_getElem? (i := 4) rfl)) (hw _ (List.mem_of_getElem? (i := 129) rfl)) (by decide) e0 (by decide) (by decide) (by decide) (by decide) (lenOf pd_21 rfl) rfl rfl (Nat.le_of_eq rfl) (by rw [hml]; rfl) (hb hby d39_3) rfl ?_
  intro v73 T73 L73 X73 hQ73
  obtain ⟨rfl, Nq73, eq73⟩ := hQ73
  have N73 := Fr.app N0 Nq73
  show Ok p e below _ _ T73 (mkF m 6 #[.val (.ref r1), .val (.int (3 : Int32))] [])
  refine Ok.aloadN (pc' := 7) X73 hx (hb hby d39_6) rfl rfl rfl ?_
  refine Ok.iloadN (pc' := 8) X73 hx (hb hby d39_7) rfl rfl ?_
  refine Ok.ldB (pc' := 9) (v := (.int y3)) X73 hx hZ eq73 V_1 ⟨by decide, by decide⟩ rfl (hb hby d39_8) rfl ?_
  refine Ok.sipush (z := (255 : Int32)) (pc' := 12) X73 hx (hb hby d39_9) rfl rfl ?_
  refine Ok.iand (pc' := 13) X73 hx (hb hby d39_12) rfl ?_
  refine Ok.i2c (pc' := 14) X73 hx (hb hby d39_13) rfl ?_
  rw [char255]
  refine Ok.retI X73 hx hret hlk (Or.inr (Or.inr (Or.inr (Or.inl rfl)))) (narrow_char_id (mask255 _).1 (by have := (mask255 y3).2; omega)) (hb hby d39_14) (by decide) (by decide) ?_
  show Q39 Z r1 k1 y0 y1 y2 y3 gv h0 n0 _ T73.heap _
  rw [eq73]
  exact ⟨rfl, N73, rfl⟩
theorem d40_0 : decode jdk_42_method_56_code 0 = .ok (.aload_n 0, 1) := by decide +kernel
theorem d40_1 : decode jdk_42_method_56_code 1 = .ok (.invokevirtual 492, 3) := by decide +kernel
theorem d40_4 : decode jdk_42_method_56_code 4 = .ok (.ifCond .eq 12, 3) := by decide +kernel
theorem d40_7 : decode jdk_42_method_56_code 7 = .ok (.aload_n 0, 1) := by decide +kernel
theorem d40_8 : decode jdk_42_method_56_code 8 = .ok (.getfield 9, 3) := by decide +kernel
theorem d40_11 : decode jdk_42_method_56_code 11 = .ok (.iload_n 1, 1) := by decide +kernel
theorem d40_12 : decode jdk_42_method_56_code 12 = .ok (.invokestatic 495, 3) := by decide +kernel
theorem d40_15 : decode jdk_42_method_56_code 15 = .ok (.ireturn, 1) := by decide +kernel
theorem d40_16 : decode jdk_42_method_56_code 16 = .ok (.aload_n 0, 1) := by decide +kernel
theorem d40_17 : decode jdk_42_method_56_code 17 = .ok (.getfield 9, 3) := by decide +kernel
theorem d40_20 : decode jdk_42_method_56_code 20 = .ok (.iload_n 1, 1) := by decide +kernel
theorem d40_21 : decode jdk_42_method_56_code 21 = .ok (.invokestatic 498, 3) := by decide +kernel
theorem d40_24 : decode jdk_42_method_56_code 24 = .ok (.ireturn, 1) := by decide +kernel
theorem ef_40 (m : MethodId) (x0 : Addr) (x1 : Int32) : entryFrame m #[(.ref x0), (.int x1)] 2 = mkF m 0 #[.val (.ref x0), .val (.int x1)] [] := by first | (simp [entryFrame, mkF, argsToLocals, Value.category]; done) | rfl
def Q40 (Z : State) (a1 : Addr) (r1 : Addr) (k1 : ClassId) (y0 : Int32) (y1 : Int32) (y2 : Int32) (y3 : Int32) (cs0 : Int32) (gv : Value) (h0 : Heap) (n0 : Nat) (v : Option Value) (h : Heap) (L : List Loc) : Prop := v = some (.int (y3 &&& (255 : Int32))) ∧ Fr n0 L ∧ h = h0
set_option maxRecDepth 65536 in
set_option maxHeartbeats 40000000 in
theorem rm40 (l : Launch) (Z : State) (a0 : Array Value) (hw : ∀ d ∈ tables_1, d.before a0 Z = true) (a1 : Addr) (r1 : Addr) (k1 : ClassId) (y0 : Int32) (y1 : Int32) (y2 : Int32) (y3 : Int32) (cs0 : Int32) (gv : Value) (h0 : Heap) (n0 : Nat) (Z0 : n0 ≤ h0.size) (E_a1 : Exa Z h0 a1 "java/lang/String") (Fv : Fld Z h0 a1 "java/lang/String" "value" "[B" (.ref r1)) (Fc : Fld Z h0 a1 "java/lang/String" "coder" "B" (.int (0 : Int32))) (V_1 : Arv Z h0 r1 k1 .byte (4 : Int32) [(.int y0), (.int y1), (.int y2), (.int y3)] (.int (0 : Int32))) (O_0 : Old Z n0 h0) (S_cs : Sta Z Z.heap "java/lang/String" "COMPACT_STRINGS" "Z" (.int cs0)) (hcs : ¬ cs0.toInt = 0) (S_sf : Sta Z Z.heap "jdk/internal/util/Preconditions" "SIOOBE_FORMATTER" "Ljava/util/function/BiFunction;" gv) (r_gv : gv.isRef = true) :
    MetN l Z (⟨"java/lang/String", "charAt", "(I)C"⟩ : MethodName) jdk_42_method_56_code 2 (some .char) [] ({ frames := 3, cells := 0, slots := 0, locals := 40 } : Room) #[(.ref a1), (.int (3 : Int32))] h0 (Q40 Z a1 r1 k1 y0 y1 y2 y3 cs0 gv h0 n0) := by
  refine met_n (plainFor_of_name pn_4) (fun m => ef_40 m a1 (3 : Int32)) ?_
  intro p e s m below meth c s₁ X0 hx hby hml hZ hown hnm hret hlk e0
  replace hown : s.vm.findClass "java/lang/String" = some m.cls := hown
  replace hnm : meth.name = "charAt" := hnm
  replace hret : meth.sig.returnType = (some .char) := hret
  have N0 := Fr.nil n0
  have K0 : Keep h0 h0 [] := Keep.refl _ _
  show Ok p e below _ _ s₁ (mkF m 0 #[.val (.ref a1), .val (.int (3 : Int32))] [])
  refine Ok.aloadN (pc' := 1) X0 hx (hb hby d40_0) rfl rfl rfl ?_
  refine Ok.virt (pc' := 4) (W := 0) (a := a1)  (argsL := []) (rest := []) X0 hx hZ hown (rm21 l Z a0 hw a1 r1 k1 y0 y1 y2 y3 cs0 gv h0 n0 Z0 E_a1 Fv Fc V_1 O_0 S_cs hcs S_sf r_gv) (hw _ (List.mem_of_getElem? (i := 119) rfl)) (hw _ (List.mem_of_getElem? (i := 120) rfl)) (notFace_of_selects (args := #[]) (mvT hZ (hw _ (List.mem_of_getElem? (i := 122) rfl)))) (hw _ (List.mem_of_getElem? (i := 122) rfl)) (hw _ (List.mem_of_getElem? (i := 121) rfl)) (hw _ (List.mem_of_getElem? (i := 4) rfl)) (hw _ (List.mem_of_getElem? (i := 123) rfl)) (by decide) e0 E_a1 (by decide) (by decide) (by decide) (by decide) (lenOf pd_19 rfl) rfl rfl (Nat.le_of_eq rfl) (by rw [hml]; rfl) (hb hby d40_1) rfl ?_
  intro v74 T74 L74 X74 hQ74
  obtain ⟨rfl, Nq74, eq74⟩ := hQ74
  have N74 := Fr.app N0 Nq74
  show Ok p e below _ _ T74 (mkF m 4 #[.val (.ref a1), .val (.int (3 : Int32))] [(.int (1 : Int32))])
  refine Ok.ifN (pc' := 7) X74 hx (hb hby d40_4) (bf (i0 .eq (1 : Int32) (ic_eq (1 : Int32) 0).1) (by decide)) rfl ?_
  refine Ok.aloadN (pc' := 8) X74 hx (hb hby d40_7) rfl rfl rfl ?_
  refine Ok.getF (pc' := 11) X74 hx hZ hown (host := "") (Or.inl (hw _ (List.mem_of_getElem? (i := 29) rfl))) Via.refl eq74 Fv (hb hby d40_8) rfl ?_
  intro T75 X75 e75
  refine Ok.iloadN (pc' := 12) X75 hx (hb hby d40_11) rfl rfl ?_
  refine Ok.callS (pc' := 15) (W := 0)  (argsL := [(.ref r1), (.int (3 : Int32))]) (rest := []) X75 hx hZ hown (rm39 l Z a0 hw r1 k1 y0 y1 y2 y3 gv h0 n0 Z0 V_1 O_0 S_sf r_gv) (hw _ (List.mem_of_getElem? (i := 124) rfl)) (hw _ (List.mem_of_getElem? (i := 125) rfl)) (hw _ (List.mem_of_getElem? (i := 36) rfl)) (hw _ (List.mem_of_getElem? (i := 126) rfl)) (by decide) e75 (by decide) (by decide) (by decide) (by decide) (lenOf pd_20 rfl) rfl rfl (Nat.le_of_eq rfl) (by rw [hml]; rfl) (hb hby d40_12) rfl ?_
  intro v76 T76 L76 X76 hQ76
  obtain ⟨rfl, Nq76, eq76⟩ := hQ76
  have N76 := Fr.app N74 Nq76
  show Ok p e below _ _ T76 (mkF m 15 #[.val (.ref a1), .val (.int (3 : Int32))] [(.int (y3 &&& (255 : Int32)))])
  refine Ok.retI X76 hx hret hlk (Or.inr (Or.inr (Or.inr (Or.inl rfl)))) (narrow_char_id (mask255 _).1 (by have := (mask255 y3).2; omega)) (hb hby d40_15) (by decide) (by decide) ?_
  show Q40 Z a1 r1 k1 y0 y1 y2 y3 cs0 gv h0 n0 _ T76.heap _
  rw [eq76]
  exact ⟨rfl, N76, rfl⟩
theorem d45_0 : decode jdk_31_method_11_code 0 = .ok (.aload_n 0, 1) := by decide +kernel
theorem d45_1 : decode jdk_31_method_11_code 1 = .ok (.ifnonnull 12, 3) := by decide +kernel
theorem d45_4 : decode jdk_31_method_11_code 4 = .ok (.new 84, 3) := by decide +kernel
theorem d45_7 : decode jdk_31_method_11_code 7 = .ok (.dup, 1) := by decide +kernel
theorem d45_8 : decode jdk_31_method_11_code 8 = .ok (.aload_n 1, 1) := by decide +kernel
theorem d45_9 : decode jdk_31_method_11_code 9 = .ok (.invokespecial 87, 3) := by decide +kernel
theorem d45_13 : decode jdk_31_method_11_code 13 = .ok (.aload_n 0, 1) := by decide +kernel
theorem d45_14 : decode jdk_31_method_11_code 14 = .ok (.areturn, 1) := by decide +kernel
theorem pn_7 : plainName "java/util/Objects" = true := by first | (simp [plainName, overriddenIn]; done) | decide +kernel
theorem ef_45 (m : MethodId) (x0 : Addr) (x1 : Addr) : entryFrame m #[(.ref x0), (.ref x1)] 2 = mkF m 0 #[.val (.ref x0), .val (.ref x1)] [] := by first | (simp [entryFrame, mkF, argsToLocals, Value.category]; done) | rfl
def Q45 (Z : State) (a1 : Addr) (a2 : Addr) (h0 : Heap) (n0 : Nat) (v : Option Value) (h : Heap) (L : List Loc) : Prop := v = some (.ref a1) ∧ Fr n0 L ∧ h = h0
set_option maxRecDepth 65536 in
set_option maxHeartbeats 40000000 in
theorem rm45 (l : Launch) (Z : State) (a0 : Array Value) (hw : ∀ d ∈ tables_1, d.before a0 Z = true) (a1 : Addr) (a2 : Addr) (h0 : Heap) (n0 : Nat) (Z0 : n0 ≤ h0.size)  :
    MetN l Z (⟨"java/util/Objects", "requireNonNull", "(Ljava/lang/Object;Ljava/lang/String;)Ljava/lang/Object;"⟩ : MethodName) jdk_31_method_11_code 2 (some (.object "java/lang/Object")) [] ({ frames := 0, cells := 0, slots := 0, locals := 0 } : Room) #[(.ref a1), (.ref a2)] h0 (Q45 Z a1 a2 h0 n0) := by
  refine met_n (plainFor_of_name pn_7) (fun m => ef_45 m a1 a2) ?_
  intro p e s m below meth c s₁ X0 hx hby hml hZ hown hnm hret hlk e0
  replace hown : s.vm.findClass "java/util/Objects" = some m.cls := hown
  replace hnm : meth.name = "requireNonNull" := hnm
  replace hret : meth.sig.returnType = (some (.object "java/lang/Object")) := hret
  have N0 := Fr.nil n0
  have K0 : Keep h0 h0 [] := Keep.refl _ _
  show Ok p e below _ _ s₁ (mkF m 0 #[.val (.ref a1), .val (.ref a2)] [])
  refine Ok.aloadN (pc' := 1) X0 hx (hb hby d45_0) rfl rfl rfl ?_
  refine Ok.nonnullY (pc' := 13) X0 hx (hb hby d45_1) (by decide) (by decide) ?_
  refine Ok.aloadN (pc' := 14) X0 hx (hb hby d45_13) rfl rfl rfl ?_
  refine Ok.retA X0 hx hret hlk rfl rfl rfl (hb hby d45_14) (by decide) (by decide) ?_
  show Q45 Z a1 a2 h0 n0 _ s₁.heap _
  rw [e0]
  exact ⟨rfl, N0, rfl⟩
theorem d46_0 : decode prog_34_method_4_code 0 = .ok (.iload_n 1, 1) := by decide +kernel
theorem d46_1 : decode prog_34_method_4_code 1 = .ok (.iconst 4, 1) := by decide +kernel
theorem d46_2 : decode prog_34_method_4_code 2 = .ok (.iadd, 1) := by decide +kernel
theorem d46_3 : decode prog_34_method_4_code 3 = .ok (.aload_n 0, 1) := by decide +kernel
theorem d46_4 : decode prog_34_method_4_code 4 = .ok (.invokevirtual 49, 3) := by decide +kernel
theorem d46_7 : decode prog_34_method_4_code 7 = .ok (.if_icmp .le 5, 3) := by decide +kernel
theorem d46_10 : decode prog_34_method_4_code 10 = .ok (.iconst (-1), 1) := by decide +kernel
theorem d46_11 : decode prog_34_method_4_code 11 = .ok (.ireturn, 1) := by decide +kernel
theorem d46_12 : decode prog_34_method_4_code 12 = .ok (.aload_n 0, 1) := by decide +kernel
theorem d46_13 : decode prog_34_method_4_code 13 = .ok (.iload_n 1, 1) := by decide +kernel
theorem d46_14 : decode prog_34_method_4_code 14 = .ok (.invokevirtual 55, 3) := by decide +kernel
theorem d46_17 : decode prog_34_method_4_code 17 = .ok (.istore_n 2, 1) := by decide +kernel
theorem d46_18 : decode prog_34_method_4_code 18 = .ok (.aload_n 0, 1) := by decide +kernel
theorem d46_19 : decode prog_34_method_4_code 19 = .ok (.iload_n 1, 1) := by decide +kernel
theorem d46_20 : decode prog_34_method_4_code 20 = .ok (.iconst 1, 1) := by decide +kernel
theorem d46_21 : decode prog_34_method_4_code 21 = .ok (.iadd, 1) := by decide +kernel
theorem d46_22 : decode prog_34_method_4_code 22 = .ok (.invokevirtual 55, 3) := by decide +kernel
theorem d46_25 : decode prog_34_method_4_code 25 = .ok (.istore_n 3, 1) := by decide +kernel
theorem d46_26 : decode prog_34_method_4_code 26 = .ok (.aload_n 0, 1) := by decide +kernel
theorem d46_27 : decode prog_34_method_4_code 27 = .ok (.iload_n 1, 1) := by decide +kernel
theorem d46_28 : decode prog_34_method_4_code 28 = .ok (.iconst 2, 1) := by decide +kernel
theorem d46_29 : decode prog_34_method_4_code 29 = .ok (.iadd, 1) := by decide +kernel
theorem d46_30 : decode prog_34_method_4_code 30 = .ok (.invokevirtual 55, 3) := by decide +kernel
theorem d46_33 : decode prog_34_method_4_code 33 = .ok (.istore 4, 2) := by decide +kernel
theorem d46_35 : decode prog_34_method_4_code 35 = .ok (.aload_n 0, 1) := by decide +kernel
theorem d46_36 : decode prog_34_method_4_code 36 = .ok (.iload_n 1, 1) := by decide +kernel
theorem d46_37 : decode prog_34_method_4_code 37 = .ok (.iconst 3, 1) := by decide +kernel
theorem d46_38 : decode prog_34_method_4_code 38 = .ok (.iadd, 1) := by decide +kernel
theorem d46_39 : decode prog_34_method_4_code 39 = .ok (.invokevirtual 55, 3) := by decide +kernel
theorem d46_42 : decode prog_34_method_4_code 42 = .ok (.istore 5, 2) := by decide +kernel
theorem d46_44 : decode prog_34_method_4_code 44 = .ok (.iconst (-1), 1) := by decide +kernel
theorem d46_45 : decode prog_34_method_4_code 45 = .ok (.istore 6, 2) := by decide +kernel
theorem d46_47 : decode prog_34_method_4_code 47 = .ok (.iload_n 2, 1) := by decide +kernel
theorem d46_48 : decode prog_34_method_4_code 48 = .ok (.iload_n 3, 1) := by decide +kernel
theorem d46_49 : decode prog_34_method_4_code 49 = .ok (.ior, 1) := by decide +kernel
theorem d46_50 : decode prog_34_method_4_code 50 = .ok (.iload 4, 2) := by decide +kernel
theorem d46_52 : decode prog_34_method_4_code 52 = .ok (.ior, 1) := by decide +kernel
theorem d46_53 : decode prog_34_method_4_code 53 = .ok (.iload 5, 2) := by decide +kernel
theorem d46_55 : decode prog_34_method_4_code 55 = .ok (.ior, 1) := by decide +kernel
theorem d46_56 : decode prog_34_method_4_code 56 = .ok (.sipush 128, 3) := by decide +kernel
theorem d46_59 : decode prog_34_method_4_code 59 = .ok (.if_icmp .ge 23, 3) := by decide +kernel
theorem d46_62 : decode prog_34_method_4_code 62 = .ok (.iload_n 2, 1) := by decide +kernel
theorem d46_63 : decode prog_34_method_4_code 63 = .ok (.iload_n 3, 1) := by decide +kernel
theorem d46_64 : decode prog_34_method_4_code 64 = .ok (.bipush 8, 2) := by decide +kernel
theorem d46_66 : decode prog_34_method_4_code 66 = .ok (.ishl, 1) := by decide +kernel
theorem d46_67 : decode prog_34_method_4_code 67 = .ok (.ior, 1) := by decide +kernel
theorem d46_68 : decode prog_34_method_4_code 68 = .ok (.iload 4, 2) := by decide +kernel
theorem d46_70 : decode prog_34_method_4_code 70 = .ok (.bipush 16, 2) := by decide +kernel
theorem d46_72 : decode prog_34_method_4_code 72 = .ok (.ishl, 1) := by decide +kernel
theorem d46_73 : decode prog_34_method_4_code 73 = .ok (.ior, 1) := by decide +kernel
theorem d46_74 : decode prog_34_method_4_code 74 = .ok (.iload 5, 2) := by decide +kernel
theorem d46_76 : decode prog_34_method_4_code 76 = .ok (.bipush 24, 2) := by decide +kernel
theorem d46_78 : decode prog_34_method_4_code 78 = .ok (.ishl, 1) := by decide +kernel
theorem d46_79 : decode prog_34_method_4_code 79 = .ok (.ior, 1) := by decide +kernel
theorem d46_80 : decode prog_34_method_4_code 80 = .ok (.istore 6, 2) := by decide +kernel
theorem d46_82 : decode prog_34_method_4_code 82 = .ok (.iload 6, 2) := by decide +kernel
theorem d46_84 : decode prog_34_method_4_code 84 = .ok (.ireturn, 1) := by decide +kernel
theorem ef_46 (m : MethodId) (x0 : Addr) (x1 : Int32) : entryFrame m #[(.ref x0), (.int x1)] 7 = mkF m 0 #[.val (.ref x0), .val (.int x1), .unset, .unset, .unset, .unset, .unset] [] := by first | (simp [entryFrame, mkF, argsToLocals, Value.category]; done) | rfl
def Q46 (Z : State) (a1 : Addr) (r1 : Addr) (k1 : ClassId) (c0 : Int32) (c1 : Int32) (c2 : Int32) (c3 : Int32) (cs0 : Int32) (gv : Value) (h0 : Heap) (n0 : Nat) (v : Option Value) (h : Heap) (L : List Loc) : Prop := v = some (.int (aw c0 c1 c2 c3)) ∧ Fr n0 L ∧ h = h0
set_option maxRecDepth 65536 in
set_option maxHeartbeats 40000000 in
theorem rm46 (l : Launch) (Z : State) (a0 : Array Value) (hw : ∀ d ∈ tables_1, d.before a0 Z = true) (a1 : Addr) (r1 : Addr) (k1 : ClassId) (c0 : Int32) (c1 : Int32) (c2 : Int32) (c3 : Int32) (cs0 : Int32) (gv : Value) (h0 : Heap) (n0 : Nat) (Z0 : n0 ≤ h0.size) (E_a1 : Exa Z h0 a1 "java/lang/String") (Fv : Fld Z h0 a1 "java/lang/String" "value" "[B" (.ref r1)) (Fc : Fld Z h0 a1 "java/lang/String" "coder" "B" (.int (0 : Int32))) (V_1 : Arv Z h0 r1 k1 .byte (4 : Int32) [(.int c0.toInt8.toInt32.toInt8.toInt32), (.int c1.toInt8.toInt32.toInt8.toInt32), (.int c2.toInt8.toInt32.toInt8.toInt32), (.int c3.toInt8.toInt32.toInt8.toInt32)] (.int (0 : Int32))) (hc0 : 0 ≤ c0.toInt ∧ c0.toInt ≤ 255) (hc1 : 0 ≤ c1.toInt ∧ c1.toInt ≤ 255) (hc2 : 0 ≤ c2.toInt ∧ c2.toInt ≤ 255) (hc3 : 0 ≤ c3.toInt ∧ c3.toInt ≤ 255) (O_0 : Old Z n0 h0) (S_cs : Sta Z Z.heap "java/lang/String" "COMPACT_STRINGS" "Z" (.int cs0)) (hcs : ¬ cs0.toInt = 0) (S_sf : Sta Z Z.heap "jdk/internal/util/Preconditions" "SIOOBE_FORMATTER" "Ljava/util/function/BiFunction;" gv) (r_gv : gv.isRef = true) :
    MetN l Z (⟨"com/example/ringward/ringward/hash/MurmurHash3", "asciiWord", "(Ljava/lang/String;I)I"⟩ : MethodName) prog_34_method_4_code 7 (some .int) [] ({ frames := 4, cells := 0, slots := 0, locals := 53 } : Room) #[(.ref a1), (.int (0 : Int32))] h0 (Q46 Z a1 r1 k1 c0 c1 c2 c3 cs0 gv h0 n0) := by
  refine met_n (plainFor_of_name pn_2) (fun m => ef_46 m a1 (0 : Int32)) ?_
  intro p e s m below meth c s₁ X0 hx hby hml hZ hown hnm hret hlk e0
  replace hown : s.vm.findClass "com/example/ringward/ringward/hash/MurmurHash3" = some m.cls := hown
  replace hnm : meth.name = "asciiWord" := hnm
  replace hret : meth.sig.returnType = (some .int) := hret
  have N0 := Fr.nil n0
  have K0 : Keep h0 h0 [] := Keep.refl _ _
  show Ok p e below _ _ s₁ (mkF m 0 #[.val (.ref a1), .val (.int (0 : Int32)), .unset, .unset, .unset, .unset, .unset] [])
  refine Ok.iloadN (pc' := 1) X0 hx (hb hby d46_0) rfl rfl ?_
  refine Ok.iconst (z := (4 : Int32)) (pc' := 2) X0 hx (hb hby d46_1) rfl rfl ?_
  refine Ok.iadd (pc' := 3) X0 hx (hb hby d46_2) rfl ?_
  show Ok p e below _ _ s₁ (mkF m 3 #[.val (.ref a1), .val (.int (0 : Int32)), .unset, .unset, .unset, .unset, .unset] [(.int (4 : Int32))])
  refine Ok.aloadN (pc' := 4) X0 hx (hb hby d46_3) rfl rfl rfl ?_
  refine Ok.virt (pc' := 7) (W := 1) (a := a1)  (argsL := []) (rest := [(.int (4 : Int32))]) X0 hx hZ hown (rm20 l Z a0 hw a1 r1 k1 c0.toInt8.toInt32.toInt8.toInt32 c1.toInt8.toInt32.toInt8.toInt32 c2.toInt8.toInt32.toInt8.toInt32 c3.toInt8.toInt32.toInt8.toInt32 cs0 h0 n0 Z0 E_a1 Fv Fc V_1 O_0 S_cs hcs) (hw _ (List.mem_of_getElem? (i := 104) rfl)) (hw _ (List.mem_of_getElem? (i := 105) rfl)) (notFace_of_selects (args := #[]) (mvT hZ (hw _ (List.mem_of_getElem? (i := 107) rfl)))) (hw _ (List.mem_of_getElem? (i := 107) rfl)) (hw _ (List.mem_of_getElem? (i := 106) rfl)) (hw _ (List.mem_of_getElem? (i := 4) rfl)) (hw _ (List.mem_of_getElem? (i := 108) rfl)) (by decide) e0 E_a1 (by decide) (by decide) (by decide) (by decide) (lenOf pd_16 rfl) rfl rfl (Nat.le_of_eq rfl) (by rw [hml]; rfl) (hb hby d46_4) rfl ?_
  intro v77 T77 L77 X77 hQ77
  obtain ⟨rfl, Nq77, eq77⟩ := hQ77
  have N77 := Fr.app N0 Nq77
  show Ok p e below _ _ T77 (mkF m 7 #[.val (.ref a1), .val (.int (0 : Int32)), .unset, .unset, .unset, .unset, .unset] [(.int (4 : Int32)), (.int (4 : Int32))])
  refine Ok.icY (pc' := 12) X77 hx (hb hby d46_7) (bt (ic_eq (4 : Int32) (4 : Int32)).2.2.2.2.2 (by decide)) (by decide) (by decide) ?_
  refine Ok.aloadN (pc' := 13) X77 hx (hb hby d46_12) rfl rfl rfl ?_
  refine Ok.iloadN (pc' := 14) X77 hx (hb hby d46_13) rfl rfl ?_
  refine Ok.virt (pc' := 17) (W := 0) (a := a1)  (argsL := [(.int (0 : Int32))]) (rest := []) X77 hx hZ hown (rm25 l Z a0 hw a1 r1 k1 c0.toInt8.toInt32.toInt8.toInt32 c1.toInt8.toInt32.toInt8.toInt32 c2.toInt8.toInt32.toInt8.toInt32 c3.toInt8.toInt32.toInt8.toInt32 cs0 gv h0 n0 Z0 E_a1 Fv Fc V_1 O_0 S_cs hcs S_sf r_gv) (hw _ (List.mem_of_getElem? (i := 114) rfl)) (hw _ (List.mem_of_getElem? (i := 115) rfl)) (notFace_of_selects (args := #[]) (mvT hZ (hw _ (List.mem_of_getElem? (i := 117) rfl)))) (hw _ (List.mem_of_getElem? (i := 117) rfl)) (hw _ (List.mem_of_getElem? (i := 116) rfl)) (hw _ (List.mem_of_getElem? (i := 4) rfl)) (hw _ (List.mem_of_getElem? (i := 118) rfl)) (by decide) eq77 E_a1 (by decide) (by decide) (by decide) (by decide) (lenOf pd_18 rfl) rfl rfl (Nat.le_of_eq rfl) (by rw [hml]; rfl) (hb hby d46_14) rfl ?_
  intro v78 T78 L78 X78 hQ78
  obtain ⟨rfl, Nq78, eq78⟩ := hQ78
  have N78 := Fr.app N77 Nq78
  show Ok p e below _ _ T78 (mkF m 17 #[.val (.ref a1), .val (.int (0 : Int32)), .unset, .unset, .unset, .unset, .unset] [(.int (c0.toInt8.toInt32.toInt8.toInt32 &&& (255 : Int32)))])
  rw [byte_back hc0.1 hc0.2]
  refine Ok.istoreN (l' := #[.val (.ref a1), .val (.int (0 : Int32)), .val (.int c0), .unset, .unset, .unset, .unset]) (pc' := 18) X78 hx (hb hby d46_17) rfl rfl ?_
  refine Ok.aloadN (pc' := 19) X78 hx (hb hby d46_18) rfl rfl rfl ?_
  refine Ok.iloadN (pc' := 20) X78 hx (hb hby d46_19) rfl rfl ?_
  refine Ok.iconst (z := (1 : Int32)) (pc' := 21) X78 hx (hb hby d46_20) rfl rfl ?_
  refine Ok.iadd (pc' := 22) X78 hx (hb hby d46_21) rfl ?_
  show Ok p e below _ _ T78 (mkF m 22 #[.val (.ref a1), .val (.int (0 : Int32)), .val (.int c0), .unset, .unset, .unset, .unset] [(.int (1 : Int32)), (.ref a1)])
  refine Ok.virt (pc' := 25) (W := 0) (a := a1)  (argsL := [(.int (1 : Int32))]) (rest := []) X78 hx hZ hown (rm30 l Z a0 hw a1 r1 k1 c0.toInt8.toInt32.toInt8.toInt32 c1.toInt8.toInt32.toInt8.toInt32 c2.toInt8.toInt32.toInt8.toInt32 c3.toInt8.toInt32.toInt8.toInt32 cs0 gv h0 n0 Z0 E_a1 Fv Fc V_1 O_0 S_cs hcs S_sf r_gv) (hw _ (List.mem_of_getElem? (i := 114) rfl)) (hw _ (List.mem_of_getElem? (i := 115) rfl)) (notFace_of_selects (args := #[]) (mvT hZ (hw _ (List.mem_of_getElem? (i := 117) rfl)))) (hw _ (List.mem_of_getElem? (i := 117) rfl)) (hw _ (List.mem_of_getElem? (i := 116) rfl)) (hw _ (List.mem_of_getElem? (i := 4) rfl)) (hw _ (List.mem_of_getElem? (i := 118) rfl)) (by decide) eq78 E_a1 (by decide) (by decide) (by decide) (by decide) (lenOf pd_18 rfl) rfl rfl (Nat.le_of_eq rfl) (by rw [hml]; rfl) (hb hby d46_22) rfl ?_
  intro v79 T79 L79 X79 hQ79
  obtain ⟨rfl, Nq79, eq79⟩ := hQ79
  have N79 := Fr.app N78 Nq79
  show Ok p e below _ _ T79 (mkF m 25 #[.val (.ref a1), .val (.int (0 : Int32)), .val (.int c0), .unset, .unset, .unset, .unset] [(.int (c1.toInt8.toInt32.toInt8.toInt32 &&& (255 : Int32)))])
  rw [byte_back hc1.1 hc1.2]
  refine Ok.istoreN (l' := #[.val (.ref a1), .val (.int (0 : Int32)), .val (.int c0), .val (.int c1), .unset, .unset, .unset]) (pc' := 26) X79 hx (hb hby d46_25) rfl rfl ?_
  refine Ok.aloadN (pc' := 27) X79 hx (hb hby d46_26) rfl rfl rfl ?_
  refine Ok.iloadN (pc' := 28) X79 hx (hb hby d46_27) rfl rfl ?_
  refine Ok.iconst (z := (2 : Int32)) (pc' := 29) X79 hx (hb hby d46_28) rfl rfl ?_
  refine Ok.iadd (pc' := 30) X79 hx (hb hby d46_29) rfl ?_
  show Ok p e below _ _ T79 (mkF m 30 #[.val (.ref a1), .val (.int (0 : Int32)), .val (.int c0), .val (.int c1), .unset, .unset, .unset] [(.int (2 : Int32)), (.ref a1)])
  refine Ok.virt (pc' := 33) (W := 0) (a := a1)  (argsL := [(.int (2 : Int32))]) (rest := []) X79 hx hZ hown (rm35 l Z a0 hw a1 r1 k1 c0.toInt8.toInt32.toInt8.toInt32 c1.toInt8.toInt32.toInt8.toInt32 c2.toInt8.toInt32.toInt8.toInt32 c3.toInt8.toInt32.toInt8.toInt32 cs0 gv h0 n0 Z0 E_a1 Fv Fc V_1 O_0 S_cs hcs S_sf r_gv) (hw _ (List.mem_of_getElem? (i := 114) rfl)) (hw _ (List.mem_of_getElem? (i := 115) rfl)) (notFace_of_selects (args := #[]) (mvT hZ (hw _ (List.mem_of_getElem? (i := 117) rfl)))) (hw _ (List.mem_of_getElem? (i := 117) rfl)) (hw _ (List.mem_of_getElem? (i := 116) rfl)) (hw _ (List.mem_of_getElem? (i := 4) rfl)) (hw _ (List.mem_of_getElem? (i := 118) rfl)) (by decide) eq79 E_a1 (by decide) (by decide) (by decide) (by decide) (lenOf pd_18 rfl) rfl rfl (Nat.le_of_eq rfl) (by rw [hml]; rfl) (hb hby d46_30) rfl ?_
  intro v80 T80 L80 X80 hQ80
  obtain ⟨rfl, Nq80, eq80⟩ := hQ80
  have N80 := Fr.app N79 Nq80
  show Ok p e below _ _ T80 (mkF m 33 #[.val (.ref a1), .val (.int (0 : Int32)), .val (.int c0), .val (.int c1), .unset, .unset, .unset] [(.int (c2.toInt8.toInt32.toInt8.toInt32 &&& (255 : Int32)))])
  rw [byte_back hc2.1 hc2.2]
  refine Ok.istore (l' := #[.val (.ref a1), .val (.int (0 : Int32)), .val (.int c0), .val (.int c1), .val (.int c2), .unset, .unset]) (pc' := 35) X80 hx (hb hby d46_33) rfl rfl ?_
  refine Ok.aloadN (pc' := 36) X80 hx (hb hby d46_35) rfl rfl rfl ?_
  refine Ok.iloadN (pc' := 37) X80 hx (hb hby d46_36) rfl rfl ?_
  refine Ok.iconst (z := (3 : Int32)) (pc' := 38) X80 hx (hb hby d46_37) rfl rfl ?_
  refine Ok.iadd (pc' := 39) X80 hx (hb hby d46_38) rfl ?_
  show Ok p e below _ _ T80 (mkF m 39 #[.val (.ref a1), .val (.int (0 : Int32)), .val (.int c0), .val (.int c1), .val (.int c2), .unset, .unset] [(.int (3 : Int32)), (.ref a1)])
  refine Ok.virt (pc' := 42) (W := 0) (a := a1)  (argsL := [(.int (3 : Int32))]) (rest := []) X80 hx hZ hown (rm40 l Z a0 hw a1 r1 k1 c0.toInt8.toInt32.toInt8.toInt32 c1.toInt8.toInt32.toInt8.toInt32 c2.toInt8.toInt32.toInt8.toInt32 c3.toInt8.toInt32.toInt8.toInt32 cs0 gv h0 n0 Z0 E_a1 Fv Fc V_1 O_0 S_cs hcs S_sf r_gv) (hw _ (List.mem_of_getElem? (i := 114) rfl)) (hw _ (List.mem_of_getElem? (i := 115) rfl)) (notFace_of_selects (args := #[]) (mvT hZ (hw _ (List.mem_of_getElem? (i := 117) rfl)))) (hw _ (List.mem_of_getElem? (i := 117) rfl)) (hw _ (List.mem_of_getElem? (i := 116) rfl)) (hw _ (List.mem_of_getElem? (i := 4) rfl)) (hw _ (List.mem_of_getElem? (i := 118) rfl)) (by decide) eq80 E_a1 (by decide) (by decide) (by decide) (by decide) (lenOf pd_18 rfl) rfl rfl (Nat.le_of_eq rfl) (by rw [hml]; rfl) (hb hby d46_39) rfl ?_
  intro v81 T81 L81 X81 hQ81
  obtain ⟨rfl, Nq81, eq81⟩ := hQ81
  have N81 := Fr.app N80 Nq81
  show Ok p e below _ _ T81 (mkF m 42 #[.val (.ref a1), .val (.int (0 : Int32)), .val (.int c0), .val (.int c1), .val (.int c2), .unset, .unset] [(.int (c3.toInt8.toInt32.toInt8.toInt32 &&& (255 : Int32)))])
  rw [byte_back hc3.1 hc3.2]
  refine Ok.istore (l' := #[.val (.ref a1), .val (.int (0 : Int32)), .val (.int c0), .val (.int c1), .val (.int c2), .val (.int c3), .unset]) (pc' := 44) X81 hx (hb hby d46_42) rfl rfl ?_
  refine Ok.iconst (z := (-1 : Int32)) (pc' := 45) X81 hx (hb hby d46_44) rfl rfl ?_
  refine Ok.istore (l' := #[.val (.ref a1), .val (.int (0 : Int32)), .val (.int c0), .val (.int c1), .val (.int c2), .val (.int c3), .val (.int (-1 : Int32))]) (pc' := 47) X81 hx (hb hby d46_45) rfl rfl ?_
  refine Ok.iloadN (pc' := 48) X81 hx (hb hby d46_47) rfl rfl ?_
  refine Ok.iloadN (pc' := 49) X81 hx (hb hby d46_48) rfl rfl ?_
  refine Ok.ior (pc' := 50) X81 hx (hb hby d46_49) rfl ?_
  refine Ok.iload (pc' := 52) X81 hx (hb hby d46_50) rfl rfl ?_
  refine Ok.ior (pc' := 53) X81 hx (hb hby d46_52) rfl ?_
  refine Ok.iload (pc' := 55) X81 hx (hb hby d46_53) rfl rfl ?_
  refine Ok.ior (pc' := 56) X81 hx (hb hby d46_55) rfl ?_
  refine Ok.sipush (z := (128 : Int32)) (pc' := 59) X81 hx (hb hby d46_56) rfl rfl ?_
  by_cases hc59 : 128 ≤ (((c0 ||| c1) ||| c2) ||| c3).toInt
  · refine Ok.icY (pc' := 82) X81 hx (hb hby d46_59) (bt (ic_eq (((c0 ||| c1) ||| c2) ||| c3) (128 : Int32)).2.2.2.1 hc59) (by decide) (by decide) ?_
    refine Ok.iload (pc' := 84) X81 hx (hb hby d46_82) rfl rfl ?_
    refine Ok.retI X81 hx hret hlk (Or.inl rfl) rfl (hb hby d46_84) (by decide) (by decide) ?_
    show Q46 Z a1 r1 k1 c0 c1 c2 c3 cs0 gv h0 n0 _ T81.heap _
    rw [eq81]
    exact ⟨by unfold aw; rw [if_neg (by omega)], N81, rfl⟩
  · refine Ok.icN (pc' := 62) X81 hx (hb hby d46_59) (bf (ic_eq (((c0 ||| c1) ||| c2) ||| c3) (128 : Int32)).2.2.2.1 hc59) rfl ?_
    refine Ok.iloadN (pc' := 63) X81 hx (hb hby d46_62) rfl rfl ?_
    refine Ok.iloadN (pc' := 64) X81 hx (hb hby d46_63) rfl rfl ?_
    refine Ok.bipush (z := (8 : Int32)) (pc' := 66) X81 hx (hb hby d46_64) rfl rfl ?_
    refine Ok.ishl (pc' := 67) X81 hx (hb hby d46_66) rfl ?_
    refine Ok.ior (pc' := 68) X81 hx (hb hby d46_67) rfl ?_
    refine Ok.iload (pc' := 70) X81 hx (hb hby d46_68) rfl rfl ?_
    refine Ok.bipush (z := (16 : Int32)) (pc' := 72) X81 hx (hb hby d46_70) rfl rfl ?_
    refine Ok.ishl (pc' := 73) X81 hx (hb hby d46_72) rfl ?_
    refine Ok.ior (pc' := 74) X81 hx (hb hby d46_73) rfl ?_
    refine Ok.iload (pc' := 76) X81 hx (hb hby d46_74) rfl rfl ?_
    refine Ok.bipush (z := (24 : Int32)) (pc' := 78) X81 hx (hb hby d46_76) rfl rfl ?_
    refine Ok.ishl (pc' := 79) X81 hx (hb hby d46_78) rfl ?_
    refine Ok.ior (pc' := 80) X81 hx (hb hby d46_79) rfl ?_
    refine Ok.istore (l' := #[.val (.ref a1), .val (.int (0 : Int32)), .val (.int c0), .val (.int c1), .val (.int c2), .val (.int c3), .val (.int (((c0 ||| (c1 <<< ((8 : Int32) &&& 31))) ||| (c2 <<< ((16 : Int32) &&& 31))) ||| (c3 <<< ((24 : Int32) &&& 31))))]) (pc' := 82) X81 hx (hb hby d46_80) rfl rfl ?_
    refine Ok.iload (pc' := 84) X81 hx (hb hby d46_82) rfl rfl ?_
    refine Ok.retI X81 hx hret hlk (Or.inl rfl) rfl (hb hby d46_84) (by decide) (by decide) ?_
    show Q46 Z a1 r1 k1 c0 c1 c2 c3 cs0 gv h0 n0 _ T81.heap _
    rw [eq81]
    exact ⟨by unfold aw; rw [if_pos (by omega)], N81, rfl⟩
theorem d47_0 : decode prog_34_method_4_code 0 = .ok (.iload_n 1, 1) := by decide +kernel
theorem d47_1 : decode prog_34_method_4_code 1 = .ok (.iconst 4, 1) := by decide +kernel
theorem d47_2 : decode prog_34_method_4_code 2 = .ok (.iadd, 1) := by decide +kernel
theorem d47_3 : decode prog_34_method_4_code 3 = .ok (.aload_n 0, 1) := by decide +kernel
theorem d47_4 : decode prog_34_method_4_code 4 = .ok (.invokevirtual 49, 3) := by decide +kernel
theorem d47_7 : decode prog_34_method_4_code 7 = .ok (.if_icmp .le 5, 3) := by decide +kernel
theorem d47_10 : decode prog_34_method_4_code 10 = .ok (.iconst (-1), 1) := by decide +kernel
theorem d47_11 : decode prog_34_method_4_code 11 = .ok (.ireturn, 1) := by decide +kernel
theorem d47_12 : decode prog_34_method_4_code 12 = .ok (.aload_n 0, 1) := by decide +kernel
theorem d47_13 : decode prog_34_method_4_code 13 = .ok (.iload_n 1, 1) := by decide +kernel
theorem d47_14 : decode prog_34_method_4_code 14 = .ok (.invokevirtual 55, 3) := by decide +kernel
theorem d47_17 : decode prog_34_method_4_code 17 = .ok (.istore_n 2, 1) := by decide +kernel
theorem d47_18 : decode prog_34_method_4_code 18 = .ok (.aload_n 0, 1) := by decide +kernel
theorem d47_19 : decode prog_34_method_4_code 19 = .ok (.iload_n 1, 1) := by decide +kernel
theorem d47_20 : decode prog_34_method_4_code 20 = .ok (.iconst 1, 1) := by decide +kernel
theorem d47_21 : decode prog_34_method_4_code 21 = .ok (.iadd, 1) := by decide +kernel
theorem d47_22 : decode prog_34_method_4_code 22 = .ok (.invokevirtual 55, 3) := by decide +kernel
theorem d47_25 : decode prog_34_method_4_code 25 = .ok (.istore_n 3, 1) := by decide +kernel
theorem d47_26 : decode prog_34_method_4_code 26 = .ok (.aload_n 0, 1) := by decide +kernel
theorem d47_27 : decode prog_34_method_4_code 27 = .ok (.iload_n 1, 1) := by decide +kernel
theorem d47_28 : decode prog_34_method_4_code 28 = .ok (.iconst 2, 1) := by decide +kernel
theorem d47_29 : decode prog_34_method_4_code 29 = .ok (.iadd, 1) := by decide +kernel
theorem d47_30 : decode prog_34_method_4_code 30 = .ok (.invokevirtual 55, 3) := by decide +kernel
theorem d47_33 : decode prog_34_method_4_code 33 = .ok (.istore 4, 2) := by decide +kernel
theorem d47_35 : decode prog_34_method_4_code 35 = .ok (.aload_n 0, 1) := by decide +kernel
theorem d47_36 : decode prog_34_method_4_code 36 = .ok (.iload_n 1, 1) := by decide +kernel
theorem d47_37 : decode prog_34_method_4_code 37 = .ok (.iconst 3, 1) := by decide +kernel
theorem d47_38 : decode prog_34_method_4_code 38 = .ok (.iadd, 1) := by decide +kernel
theorem d47_39 : decode prog_34_method_4_code 39 = .ok (.invokevirtual 55, 3) := by decide +kernel
theorem d47_42 : decode prog_34_method_4_code 42 = .ok (.istore 5, 2) := by decide +kernel
theorem d47_44 : decode prog_34_method_4_code 44 = .ok (.iconst (-1), 1) := by decide +kernel
theorem d47_45 : decode prog_34_method_4_code 45 = .ok (.istore 6, 2) := by decide +kernel
theorem d47_47 : decode prog_34_method_4_code 47 = .ok (.iload_n 2, 1) := by decide +kernel
theorem d47_48 : decode prog_34_method_4_code 48 = .ok (.iload_n 3, 1) := by decide +kernel
theorem d47_49 : decode prog_34_method_4_code 49 = .ok (.ior, 1) := by decide +kernel
theorem d47_50 : decode prog_34_method_4_code 50 = .ok (.iload 4, 2) := by decide +kernel
theorem d47_52 : decode prog_34_method_4_code 52 = .ok (.ior, 1) := by decide +kernel
theorem d47_53 : decode prog_34_method_4_code 53 = .ok (.iload 5, 2) := by decide +kernel
theorem d47_55 : decode prog_34_method_4_code 55 = .ok (.ior, 1) := by decide +kernel
theorem d47_56 : decode prog_34_method_4_code 56 = .ok (.sipush 128, 3) := by decide +kernel
theorem d47_59 : decode prog_34_method_4_code 59 = .ok (.if_icmp .ge 23, 3) := by decide +kernel
theorem d47_62 : decode prog_34_method_4_code 62 = .ok (.iload_n 2, 1) := by decide +kernel
theorem d47_63 : decode prog_34_method_4_code 63 = .ok (.iload_n 3, 1) := by decide +kernel
theorem d47_64 : decode prog_34_method_4_code 64 = .ok (.bipush 8, 2) := by decide +kernel
theorem d47_66 : decode prog_34_method_4_code 66 = .ok (.ishl, 1) := by decide +kernel
theorem d47_67 : decode prog_34_method_4_code 67 = .ok (.ior, 1) := by decide +kernel
theorem d47_68 : decode prog_34_method_4_code 68 = .ok (.iload 4, 2) := by decide +kernel
theorem d47_70 : decode prog_34_method_4_code 70 = .ok (.bipush 16, 2) := by decide +kernel
theorem d47_72 : decode prog_34_method_4_code 72 = .ok (.ishl, 1) := by decide +kernel
theorem d47_73 : decode prog_34_method_4_code 73 = .ok (.ior, 1) := by decide +kernel
theorem d47_74 : decode prog_34_method_4_code 74 = .ok (.iload 5, 2) := by decide +kernel
theorem d47_76 : decode prog_34_method_4_code 76 = .ok (.bipush 24, 2) := by decide +kernel
theorem d47_78 : decode prog_34_method_4_code 78 = .ok (.ishl, 1) := by decide +kernel
theorem d47_79 : decode prog_34_method_4_code 79 = .ok (.ior, 1) := by decide +kernel
theorem d47_80 : decode prog_34_method_4_code 80 = .ok (.istore 6, 2) := by decide +kernel
theorem d47_82 : decode prog_34_method_4_code 82 = .ok (.iload 6, 2) := by decide +kernel
theorem d47_84 : decode prog_34_method_4_code 84 = .ok (.ireturn, 1) := by decide +kernel
theorem ef_47 (m : MethodId) (x0 : Addr) (x1 : Int32) : entryFrame m #[(.ref x0), (.int x1)] 7 = mkF m 0 #[.val (.ref x0), .val (.int x1), .unset, .unset, .unset, .unset, .unset] [] := by first | (simp [entryFrame, mkF, argsToLocals, Value.category]; done) | rfl
def Q47 (Z : State) (a1 : Addr) (r1 : Addr) (k1 : ClassId) (c0 : Int32) (c1 : Int32) (c2 : Int32) (c3 : Int32) (cs0 : Int32) (gv : Value) (h0 : Heap) (n0 : Nat) (v : Option Value) (h : Heap) (L : List Loc) : Prop := v = some (.int (-1 : Int32)) ∧ Fr n0 L ∧ h = h0
set_option maxRecDepth 65536 in
set_option maxHeartbeats 40000000 in
theorem rm47 (l : Launch) (Z : State) (a0 : Array Value) (hw : ∀ d ∈ tables_1, d.before a0 Z = true) (a1 : Addr) (r1 : Addr) (k1 : ClassId) (c0 : Int32) (c1 : Int32) (c2 : Int32) (c3 : Int32) (cs0 : Int32) (gv : Value) (h0 : Heap) (n0 : Nat) (Z0 : n0 ≤ h0.size) (E_a1 : Exa Z h0 a1 "java/lang/String") (Fv : Fld Z h0 a1 "java/lang/String" "value" "[B" (.ref r1)) (Fc : Fld Z h0 a1 "java/lang/String" "coder" "B" (.int (0 : Int32))) (V_1 : Arv Z h0 r1 k1 .byte (4 : Int32) [(.int c0.toInt8.toInt32.toInt8.toInt32), (.int c1.toInt8.toInt32.toInt8.toInt32), (.int c2.toInt8.toInt32.toInt8.toInt32), (.int c3.toInt8.toInt32.toInt8.toInt32)] (.int (0 : Int32))) (hc0 : 0 ≤ c0.toInt ∧ c0.toInt ≤ 255) (hc1 : 0 ≤ c1.toInt ∧ c1.toInt ≤ 255) (hc2 : 0 ≤ c2.toInt ∧ c2.toInt ≤ 255) (hc3 : 0 ≤ c3.toInt ∧ c3.toInt ≤ 255) (O_0 : Old Z n0 h0) (S_cs : Sta Z Z.heap "java/lang/String" "COMPACT_STRINGS" "Z" (.int cs0)) (hcs : ¬ cs0.toInt = 0) (S_sf : Sta Z Z.heap "jdk/internal/util/Preconditions" "SIOOBE_FORMATTER" "Ljava/util/function/BiFunction;" gv) (r_gv : gv.isRef = true) :
    MetN l Z (⟨"com/example/ringward/ringward/hash/MurmurHash3", "asciiWord", "(Ljava/lang/String;I)I"⟩ : MethodName) prog_34_method_4_code 7 (some .int) [] ({ frames := 2, cells := 0, slots := 0, locals := 26 } : Room) #[(.ref a1), (.int (4 : Int32))] h0 (Q47 Z a1 r1 k1 c0 c1 c2 c3 cs0 gv h0 n0) := by
  refine met_n (plainFor_of_name pn_2) (fun m => ef_47 m a1 (4 : Int32)) ?_
  intro p e s m below meth c s₁ X0 hx hby hml hZ hown hnm hret hlk e0
  replace hown : s.vm.findClass "com/example/ringward/ringward/hash/MurmurHash3" = some m.cls := hown
  replace hnm : meth.name = "asciiWord" := hnm
  replace hret : meth.sig.returnType = (some .int) := hret
  have N0 := Fr.nil n0
  have K0 : Keep h0 h0 [] := Keep.refl _ _
  show Ok p e below _ _ s₁ (mkF m 0 #[.val (.ref a1), .val (.int (4 : Int32)), .unset, .unset, .unset, .unset, .unset] [])
  refine Ok.iloadN (pc' := 1) X0 hx (hb hby d47_0) rfl rfl ?_
  refine Ok.iconst (z := (4 : Int32)) (pc' := 2) X0 hx (hb hby d47_1) rfl rfl ?_
  refine Ok.iadd (pc' := 3) X0 hx (hb hby d47_2) rfl ?_
  show Ok p e below _ _ s₁ (mkF m 3 #[.val (.ref a1), .val (.int (4 : Int32)), .unset, .unset, .unset, .unset, .unset] [(.int (8 : Int32))])
  refine Ok.aloadN (pc' := 4) X0 hx (hb hby d47_3) rfl rfl rfl ?_
  refine Ok.virt (pc' := 7) (W := 1) (a := a1)  (argsL := []) (rest := [(.int (8 : Int32))]) X0 hx hZ hown (rm20 l Z a0 hw a1 r1 k1 c0.toInt8.toInt32.toInt8.toInt32 c1.toInt8.toInt32.toInt8.toInt32 c2.toInt8.toInt32.toInt8.toInt32 c3.toInt8.toInt32.toInt8.toInt32 cs0 h0 n0 Z0 E_a1 Fv Fc V_1 O_0 S_cs hcs) (hw _ (List.mem_of_getElem? (i := 104) rfl)) (hw _ (List.mem_of_getElem? (i := 105) rfl)) (notFace_of_selects (args := #[]) (mvT hZ (hw _ (List.mem_of_getElem? (i := 107) rfl)))) (hw _ (List.mem_of_getElem? (i := 107) rfl)) (hw _ (List.mem_of_getElem? (i := 106) rfl)) (hw _ (List.mem_of_getElem? (i := 4) rfl)) (hw _ (List.mem_of_getElem? (i := 108) rfl)) (by decide) e0 E_a1 (by decide) (by decide) (by decide) (by decide) (lenOf pd_16 rfl) rfl rfl (Nat.le_of_eq rfl) (by rw [hml]; rfl) (hb hby d47_4) rfl ?_
  intro v82 T82 L82 X82 hQ82
  obtain ⟨rfl, Nq82, eq82⟩ := hQ82
  have N82 := Fr.app N0 Nq82
  show Ok p e below _ _ T82 (mkF m 7 #[.val (.ref a1), .val (.int (4 : Int32)), .unset, .unset, .unset, .unset, .unset] [(.int (4 : Int32)), (.int (8 : Int32))])
  refine Ok.icN (pc' := 10) X82 hx (hb hby d47_7) (bf (ic_eq (8 : Int32) (4 : Int32)).2.2.2.2.2 (by decide)) rfl ?_
  refine Ok.iconst (z := (-1 : Int32)) (pc' := 11) X82 hx (hb hby d47_10) rfl rfl ?_
  refine Ok.retI X82 hx hret hlk (Or.inl rfl) rfl (hb hby d47_11) (by decide) (by decide) ?_
  show Q47 Z a1 r1 k1 c0 c1 c2 c3 cs0 gv h0 n0 _ T82.heap _
  rw [eq82]
  exact ⟨rfl, N82, rfl⟩
theorem d48_0 : decode prog_34_method_3_code 0 = .ok (.aload_n 0, 1) := by decide +kernel
theorem d48_1 : decode prog_34_method_3_code 1 = .ok (.ldc 43, 2) := by decide +kernel
theorem d48_3 : decode prog_34_method_3_code 3 = .ok (.invokestatic 9, 3) := by decide +kernel
theorem d48_6 : decode prog_34_method_3_code 6 = .ok (.pop, 1) := by decide +kernel
theorem d48_7 : decode prog_34_method_3_code 7 = .ok (.iconst 0, 1) := by decide +kernel
theorem d48_8 : decode prog_34_method_3_code 8 = .ok (.istore_n 1, 1) := by decide +kernel
theorem d48_9 : decode prog_34_method_3_code 9 = .ok (.iconst 0, 1) := by decide +kernel
theorem d48_10 : decode prog_34_method_3_code 10 = .ok (.istore_n 2, 1) := by decide +kernel
theorem d48_11 : decode prog_34_method_3_code 11 = .ok (.aload_n 0, 1) := by decide +kernel
theorem d48_12 : decode prog_34_method_3_code 12 = .ok (.iload_n 2, 1) := by decide +kernel
theorem d48_13 : decode prog_34_method_3_code 13 = .ok (.invokestatic 45, 3) := by decide +kernel
theorem d48_16 : decode prog_34_method_3_code 16 = .ok (.istore_n 3, 1) := by decide +kernel
theorem d48_17 : decode prog_34_method_3_code 17 = .ok (.iload_n 3, 1) := by decide +kernel
theorem d48_18 : decode prog_34_method_3_code 18 = .ok (.iconst (-1), 1) := by decide +kernel
theorem d48_19 : decode prog_34_method_3_code 19 = .ok (.if_icmp .eq 21, 3) := by decide +kernel
theorem d48_22 : decode prog_34_method_3_code 22 = .ok (.iload_n 1, 1) := by decide +kernel
theorem d48_23 : decode prog_34_method_3_code 23 = .ok (.iload_n 3, 1) := by decide +kernel
theorem d48_24 : decode prog_34_method_3_code 24 = .ok (.invokestatic 29, 3) := by decide +kernel
theorem d48_27 : decode prog_34_method_3_code 27 = .ok (.istore_n 1, 1) := by decide +kernel
theorem d48_28 : decode prog_34_method_3_code 28 = .ok (.iinc 2 4, 3) := by decide +kernel
theorem d48_31 : decode prog_34_method_3_code 31 = .ok (.aload_n 0, 1) := by decide +kernel
theorem d48_32 : decode prog_34_method_3_code 32 = .ok (.iload_n 2, 1) := by decide +kernel
theorem d48_33 : decode prog_34_method_3_code 33 = .ok (.invokestatic 45, 3) := by decide +kernel
theorem d48_36 : decode prog_34_method_3_code 36 = .ok (.istore_n 3, 1) := by decide +kernel
theorem d48_37 : decode prog_34_method_3_code 37 = .ok (.goto (-20), 3) := by decide +kernel
theorem d48_40 : decode prog_34_method_3_code 40 = .ok (.lconst 0, 1) := by decide +kernel
theorem d48_41 : decode prog_34_method_3_code 41 = .ok (.lstore_n 3, 1) := by decide +kernel
theorem d48_42 : decode prog_34_method_3_code 42 = .ok (.iconst 0, 1) := by decide +kernel
theorem d48_43 : decode prog_34_method_3_code 43 = .ok (.istore 5, 2) := by decide +kernel
theorem d48_45 : decode prog_34_method_3_code 45 = .ok (.iload_n 2, 1) := by decide +kernel
theorem d48_46 : decode prog_34_method_3_code 46 = .ok (.istore 6, 2) := by decide +kernel
theorem d48_48 : decode prog_34_method_3_code 48 = .ok (.iload_n 2, 1) := by decide +kernel
theorem d48_49 : decode prog_34_method_3_code 49 = .ok (.aload_n 0, 1) := by decide +kernel
theorem d48_50 : decode prog_34_method_3_code 50 = .ok (.invokevirtual 49, 3) := by decide +kernel
theorem d48_53 : decode prog_34_method_3_code 53 = .ok (.if_icmp .ge 282, 3) := by decide +kernel
theorem d48_56 : decode prog_34_method_3_code 56 = .ok (.aload_n 0, 1) := by decide +kernel
theorem d48_57 : decode prog_34_method_3_code 57 = .ok (.iload_n 2, 1) := by decide +kernel
theorem d48_58 : decode prog_34_method_3_code 58 = .ok (.invokevirtual 55, 3) := by decide +kernel
theorem d48_61 : decode prog_34_method_3_code 61 = .ok (.istore 7, 2) := by decide +kernel
theorem d48_63 : decode prog_34_method_3_code 63 = .ok (.iconst 1, 1) := by decide +kernel
theorem d48_64 : decode prog_34_method_3_code 64 = .ok (.istore 11, 2) := by decide +kernel
theorem d48_66 : decode prog_34_method_3_code 66 = .ok (.iload 7, 2) := by decide +kernel
theorem d48_68 : decode prog_34_method_3_code 68 = .ok (.sipush 128, 3) := by decide +kernel
theorem d48_71 : decode prog_34_method_3_code 71 = .ok (.if_icmp .ge 15, 3) := by decide +kernel
theorem d48_74 : decode prog_34_method_3_code 74 = .ok (.iload 7, 2) := by decide +kernel
theorem d48_76 : decode prog_34_method_3_code 76 = .ok (.i2l, 1) := by decide +kernel
theorem d48_77 : decode prog_34_method_3_code 77 = .ok (.lstore 8, 2) := by decide +kernel
theorem d48_79 : decode prog_34_method_3_code 79 = .ok (.bipush 8, 2) := by decide +kernel
theorem d48_81 : decode prog_34_method_3_code 81 = .ok (.istore 10, 2) := by decide +kernel
theorem d48_83 : decode prog_34_method_3_code 83 = .ok (.goto 197, 3) := by decide +kernel
theorem d48_86 : decode prog_34_method_3_code 86 = .ok (.iload 7, 2) := by decide +kernel
theorem d48_88 : decode prog_34_method_3_code 88 = .ok (.sipush 2048, 3) := by decide +kernel
theorem d48_91 : decode prog_34_method_3_code 91 = .ok (.if_icmp .ge 31, 3) := by decide +kernel
theorem d48_94 : decode prog_34_method_3_code 94 = .ok (.sipush 192, 3) := by decide +kernel
theorem d48_97 : decode prog_34_method_3_code 97 = .ok (.iload 7, 2) := by decide +kernel
theorem d48_99 : decode prog_34_method_3_code 99 = .ok (.bipush 6, 2) := by decide +kernel
theorem d48_101 : decode prog_34_method_3_code 101 = .ok (.iushr, 1) := by decide +kernel
theorem d48_102 : decode prog_34_method_3_code 102 = .ok (.ior, 1) := by decide +kernel
theorem d48_103 : decode prog_34_method_3_code 103 = .ok (.iload 7, 2) := by decide +kernel
theorem d48_105 : decode prog_34_method_3_code 105 = .ok (.invokestatic 59, 3) := by decide +kernel
theorem d48_108 : decode prog_34_method_3_code 108 = .ok (.bipush 8, 2) := by decide +kernel
theorem d48_110 : decode prog_34_method_3_code 110 = .ok (.ishl, 1) := by decide +kernel
theorem d48_111 : decode prog_34_method_3_code 111 = .ok (.ior, 1) := by decide +kernel
theorem d48_112 : decode prog_34_method_3_code 112 = .ok (.i2l, 1) := by decide +kernel
theorem d48_113 : decode prog_34_method_3_code 113 = .ok (.lstore 8, 2) := by decide +kernel
theorem d48_115 : decode prog_34_method_3_code 115 = .ok (.bipush 16, 2) := by decide +kernel
theorem d48_117 : decode prog_34_method_3_code 117 = .ok (.istore 10, 2) := by decide +kernel
theorem d48_119 : decode prog_34_method_3_code 119 = .ok (.goto 161, 3) := by decide +kernel
theorem d48_122 : decode prog_34_method_3_code 122 = .ok (.iload 7, 2) := by decide +kernel
theorem d48_124 : decode prog_34_method_3_code 124 = .ok (.invokestatic 63, 3) := by decide +kernel
theorem d48_127 : decode prog_34_method_3_code 127 = .ok (.ifCond .ne 43, 3) := by decide +kernel
theorem d48_130 : decode prog_34_method_3_code 130 = .ok (.sipush 224, 3) := by decide +kernel
theorem d48_133 : decode prog_34_method_3_code 133 = .ok (.iload 7, 2) := by decide +kernel
theorem d48_135 : decode prog_34_method_3_code 135 = .ok (.bipush 12, 2) := by decide +kernel
theorem d48_137 : decode prog_34_method_3_code 137 = .ok (.iushr, 1) := by decide +kernel
theorem d48_138 : decode prog_34_method_3_code 138 = .ok (.ior, 1) := by decide +kernel
theorem d48_139 : decode prog_34_method_3_code 139 = .ok (.iload 7, 2) := by decide +kernel
theorem d48_141 : decode prog_34_method_3_code 141 = .ok (.bipush 6, 2) := by decide +kernel
theorem d48_143 : decode prog_34_method_3_code 143 = .ok (.iushr, 1) := by decide +kernel
theorem d48_144 : decode prog_34_method_3_code 144 = .ok (.invokestatic 59, 3) := by decide +kernel
theorem d48_147 : decode prog_34_method_3_code 147 = .ok (.bipush 8, 2) := by decide +kernel
theorem d48_149 : decode prog_34_method_3_code 149 = .ok (.ishl, 1) := by decide +kernel
theorem d48_150 : decode prog_34_method_3_code 150 = .ok (.ior, 1) := by decide +kernel
theorem d48_151 : decode prog_34_method_3_code 151 = .ok (.iload 7, 2) := by decide +kernel
theorem d48_153 : decode prog_34_method_3_code 153 = .ok (.invokestatic 59, 3) := by decide +kernel
theorem d48_156 : decode prog_34_method_3_code 156 = .ok (.bipush 16, 2) := by decide +kernel
theorem d48_158 : decode prog_34_method_3_code 158 = .ok (.ishl, 1) := by decide +kernel
theorem d48_159 : decode prog_34_method_3_code 159 = .ok (.ior, 1) := by decide +kernel
theorem d48_160 : decode prog_34_method_3_code 160 = .ok (.i2l, 1) := by decide +kernel
theorem d48_161 : decode prog_34_method_3_code 161 = .ok (.lstore 8, 2) := by decide +kernel
theorem d48_163 : decode prog_34_method_3_code 163 = .ok (.bipush 24, 2) := by decide +kernel
theorem d48_165 : decode prog_34_method_3_code 165 = .ok (.istore 10, 2) := by decide +kernel
theorem d48_167 : decode prog_34_method_3_code 167 = .ok (.goto 113, 3) := by decide +kernel
theorem d48_170 : decode prog_34_method_3_code 170 = .ok (.iload 7, 2) := by decide +kernel
theorem d48_172 : decode prog_34_method_3_code 172 = .ok (.invokestatic 69, 3) := by decide +kernel
theorem d48_175 : decode prog_34_method_3_code 175 = .ok (.ifCond .eq 96, 3) := by decide +kernel
theorem d48_178 : decode prog_34_method_3_code 178 = .ok (.iload_n 2, 1) := by decide +kernel
theorem d48_179 : decode prog_34_method_3_code 179 = .ok (.iconst 1, 1) := by decide +kernel
theorem d48_180 : decode prog_34_method_3_code 180 = .ok (.iadd, 1) := by decide +kernel
theorem d48_181 : decode prog_34_method_3_code 181 = .ok (.aload_n 0, 1) := by decide +kernel
theorem d48_182 : decode prog_34_method_3_code 182 = .ok (.invokevirtual 49, 3) := by decide +kernel
theorem d48_185 : decode prog_34_method_3_code 185 = .ok (.if_icmp .ge 86, 3) := by decide +kernel
theorem d48_188 : decode prog_34_method_3_code 188 = .ok (.aload_n 0, 1) := by decide +kernel
theorem d48_189 : decode prog_34_method_3_code 189 = .ok (.iload_n 2, 1) := by decide +kernel
theorem d48_190 : decode prog_34_method_3_code 190 = .ok (.iconst 1, 1) := by decide +kernel
theorem d48_191 : decode prog_34_method_3_code 191 = .ok (.iadd, 1) := by decide +kernel
theorem d48_192 : decode prog_34_method_3_code 192 = .ok (.invokevirtual 55, 3) := by decide +kernel
theorem d48_195 : decode prog_34_method_3_code 195 = .ok (.invokestatic 72, 3) := by decide +kernel
theorem d48_198 : decode prog_34_method_3_code 198 = .ok (.ifCond .eq 73, 3) := by decide +kernel
theorem d48_201 : decode prog_34_method_3_code 201 = .ok (.iload 7, 2) := by decide +kernel
theorem d48_203 : decode prog_34_method_3_code 203 = .ok (.aload_n 0, 1) := by decide +kernel
theorem d48_204 : decode prog_34_method_3_code 204 = .ok (.iload_n 2, 1) := by decide +kernel
theorem d48_205 : decode prog_34_method_3_code 205 = .ok (.iconst 1, 1) := by decide +kernel
theorem d48_206 : decode prog_34_method_3_code 206 = .ok (.iadd, 1) := by decide +kernel
theorem d48_207 : decode prog_34_method_3_code 207 = .ok (.invokevirtual 55, 3) := by decide +kernel
theorem d48_210 : decode prog_34_method_3_code 210 = .ok (.invokestatic 75, 3) := by decide +kernel
theorem d48_213 : decode prog_34_method_3_code 213 = .ok (.istore 12, 2) := by decide +kernel
theorem d48_215 : decode prog_34_method_3_code 215 = .ok (.sipush 240, 3) := by decide +kernel
theorem d48_218 : decode prog_34_method_3_code 218 = .ok (.iload 12, 2) := by decide +kernel
theorem d48_220 : decode prog_34_method_3_code 220 = .ok (.bipush 18, 2) := by decide +kernel
theorem d48_222 : decode prog_34_method_3_code 222 = .ok (.iushr, 1) := by decide +kernel
theorem d48_223 : decode prog_34_method_3_code 223 = .ok (.ior, 1) := by decide +kernel
theorem d48_224 : decode prog_34_method_3_code 224 = .ok (.iload 12, 2) := by decide +kernel
theorem d48_226 : decode prog_34_method_3_code 226 = .ok (.bipush 12, 2) := by decide +kernel
theorem d48_228 : decode prog_34_method_3_code 228 = .ok (.iushr, 1) := by decide +kernel
theorem d48_229 : decode prog_34_method_3_code 229 = .ok (.invokestatic 59, 3) := by decide +kernel
theorem d48_232 : decode prog_34_method_3_code 232 = .ok (.bipush 8, 2) := by decide +kernel
theorem d48_234 : decode prog_34_method_3_code 234 = .ok (.ishl, 1) := by decide +kernel
theorem d48_235 : decode prog_34_method_3_code 235 = .ok (.ior, 1) := by decide +kernel
theorem d48_236 : decode prog_34_method_3_code 236 = .ok (.iload 12, 2) := by decide +kernel
theorem d48_238 : decode prog_34_method_3_code 238 = .ok (.bipush 6, 2) := by decide +kernel
theorem d48_240 : decode prog_34_method_3_code 240 = .ok (.iushr, 1) := by decide +kernel
theorem d48_241 : decode prog_34_method_3_code 241 = .ok (.invokestatic 59, 3) := by decide +kernel
theorem d48_244 : decode prog_34_method_3_code 244 = .ok (.bipush 16, 2) := by decide +kernel
theorem d48_246 : decode prog_34_method_3_code 246 = .ok (.ishl, 1) := by decide +kernel
theorem d48_247 : decode prog_34_method_3_code 247 = .ok (.ior, 1) := by decide +kernel
theorem d48_248 : decode prog_34_method_3_code 248 = .ok (.i2l, 1) := by decide +kernel
theorem d48_249 : decode prog_34_method_3_code 249 = .ok (.iload 12, 2) := by decide +kernel
theorem d48_251 : decode prog_34_method_3_code 251 = .ok (.invokestatic 59, 3) := by decide +kernel
theorem d48_254 : decode prog_34_method_3_code 254 = .ok (.i2l, 1) := by decide +kernel
theorem d48_255 : decode prog_34_method_3_code 255 = .ok (.bipush 24, 2) := by decide +kernel
theorem d48_257 : decode prog_34_method_3_code 257 = .ok (.lshl, 1) := by decide +kernel
theorem d48_258 : decode prog_34_method_3_code 258 = .ok (.lor, 1) := by decide +kernel
theorem d48_259 : decode prog_34_method_3_code 259 = .ok (.lstore 8, 2) := by decide +kernel
theorem d48_261 : decode prog_34_method_3_code 261 = .ok (.bipush 32, 2) := by decide +kernel
theorem d48_263 : decode prog_34_method_3_code 263 = .ok (.istore 10, 2) := by decide +kernel
theorem d48_265 : decode prog_34_method_3_code 265 = .ok (.iconst 2, 1) := by decide +kernel
theorem d48_266 : decode prog_34_method_3_code 266 = .ok (.istore 11, 2) := by decide +kernel
theorem d48_268 : decode prog_34_method_3_code 268 = .ok (.goto 12, 3) := by decide +kernel
theorem d48_271 : decode prog_34_method_3_code 271 = .ok (.ldc2_w 79, 3) := by decide +kernel
theorem d48_274 : decode prog_34_method_3_code 274 = .ok (.lstore 8, 2) := by decide +kernel
theorem d48_276 : decode prog_34_method_3_code 276 = .ok (.bipush 8, 2) := by decide +kernel
theorem d48_278 : decode prog_34_method_3_code 278 = .ok (.istore 10, 2) := by decide +kernel
theorem d48_280 : decode prog_34_method_3_code 280 = .ok (.iload_n 2, 1) := by decide +kernel
theorem d48_281 : decode prog_34_method_3_code 281 = .ok (.iload 11, 2) := by decide +kernel
theorem d48_283 : decode prog_34_method_3_code 283 = .ok (.iadd, 1) := by decide +kernel
theorem d48_284 : decode prog_34_method_3_code 284 = .ok (.istore_n 2, 1) := by decide +kernel
theorem d48_285 : decode prog_34_method_3_code 285 = .ok (.lload_n 3, 1) := by decide +kernel
theorem d48_286 : decode prog_34_method_3_code 286 = .ok (.lload 8, 2) := by decide +kernel
theorem d48_288 : decode prog_34_method_3_code 288 = .ok (.iload 5, 2) := by decide +kernel
theorem d48_290 : decode prog_34_method_3_code 290 = .ok (.lshl, 1) := by decide +kernel
theorem d48_291 : decode prog_34_method_3_code 291 = .ok (.lor, 1) := by decide +kernel
theorem d48_292 : decode prog_34_method_3_code 292 = .ok (.lstore_n 3, 1) := by decide +kernel
theorem d48_293 : decode prog_34_method_3_code 293 = .ok (.iload 5, 2) := by decide +kernel
theorem d48_295 : decode prog_34_method_3_code 295 = .ok (.iload 10, 2) := by decide +kernel
theorem d48_297 : decode prog_34_method_3_code 297 = .ok (.iadd, 1) := by decide +kernel
theorem d48_298 : decode prog_34_method_3_code 298 = .ok (.istore 5, 2) := by decide +kernel
theorem d48_300 : decode prog_34_method_3_code 300 = .ok (.iload 6, 2) := by decide +kernel
theorem d48_302 : decode prog_34_method_3_code 302 = .ok (.iload 10, 2) := by decide +kernel
theorem d48_304 : decode prog_34_method_3_code 304 = .ok (.bipush 8, 2) := by decide +kernel
theorem d48_306 : decode prog_34_method_3_code 306 = .ok (.idiv, 1) := by decide +kernel
theorem d48_307 : decode prog_34_method_3_code 307 = .ok (.iadd, 1) := by decide +kernel
theorem d48_308 : decode prog_34_method_3_code 308 = .ok (.istore 6, 2) := by decide +kernel
theorem d48_310 : decode prog_34_method_3_code 310 = .ok (.iload 5, 2) := by decide +kernel
theorem d48_312 : decode prog_34_method_3_code 312 = .ok (.bipush 32, 2) := by decide +kernel
theorem d48_314 : decode prog_34_method_3_code 314 = .ok (.if_icmp .lt 18, 3) := by decide +kernel
theorem d48_317 : decode prog_34_method_3_code 317 = .ok (.iload_n 1, 1) := by decide +kernel
theorem d48_318 : decode prog_34_method_3_code 318 = .ok (.lload_n 3, 1) := by decide +kernel
theorem d48_319 : decode prog_34_method_3_code 319 = .ok (.l2i, 1) := by decide +kernel
theorem d48_320 : decode prog_34_method_3_code 320 = .ok (.invokestatic 29, 3) := by decide +kernel
theorem d48_323 : decode prog_34_method_3_code 323 = .ok (.istore_n 1, 1) := by decide +kernel
theorem d48_324 : decode prog_34_method_3_code 324 = .ok (.lload_n 3, 1) := by decide +kernel
theorem d48_325 : decode prog_34_method_3_code 325 = .ok (.bipush 32, 2) := by decide +kernel
theorem d48_327 : decode prog_34_method_3_code 327 = .ok (.lushr, 1) := by decide +kernel
theorem d48_328 : decode prog_34_method_3_code 328 = .ok (.lstore_n 3, 1) := by decide +kernel
theorem d48_329 : decode prog_34_method_3_code 329 = .ok (.iinc 5 (-32), 3) := by decide +kernel
theorem d48_332 : decode prog_34_method_3_code 332 = .ok (.goto (-284), 3) := by decide +kernel
theorem d48_335 : decode prog_34_method_3_code 335 = .ok (.iload_n 1, 1) := by decide +kernel
theorem d48_336 : decode prog_34_method_3_code 336 = .ok (.lload_n 3, 1) := by decide +kernel
theorem d48_337 : decode prog_34_method_3_code 337 = .ok (.l2i, 1) := by decide +kernel
theorem d48_338 : decode prog_34_method_3_code 338 = .ok (.iload 6, 2) := by decide +kernel
theorem d48_340 : decode prog_34_method_3_code 340 = .ok (.invokestatic 39, 3) := by decide +kernel
theorem d48_343 : decode prog_34_method_3_code 343 = .ok (.lreturn, 1) := by decide +kernel
theorem ef_48 (m : MethodId) (x0 : Addr) : entryFrame m #[(.ref x0)] 13 = mkF m 0 #[.val (.ref x0), .unset, .unset, .unset, .unset, .unset, .unset, .unset, .unset, .unset, .unset, .unset, .unset] [] := by first | (simp [entryFrame, mkF, argsToLocals, Value.category]; done) | rfl
def Q48 (Z : State) (a1 : Addr) (r1 : Addr) (k1 : ClassId) (c0 : Int32) (c1 : Int32) (c2 : Int32) (c3 : Int32) (cs0 : Int32) (gv : Value) (h0 : Heap) (n0 : Nat) (v : Option Value) (h : Heap) (L : List Loc) : Prop := v = some (.long (hval c0 c1 c2 c3)) ∧ Fr n0 L ∧ Keep h0 h []
set_option maxRecDepth 65536 in
set_option maxHeartbeats 40000000 in
theorem rm48 (l : Launch) (Z : State) (a0 : Array Value) (hw : ∀ d ∈ tables_1, d.before a0 Z = true) (a1 : Addr) (r1 : Addr) (k1 : ClassId) (c0 : Int32) (c1 : Int32) (c2 : Int32) (c3 : Int32) (cs0 : Int32) (gv : Value) (h0 : Heap) (n0 : Nat) (Z0 : n0 ≤ h0.size) (E_a1 : Exa Z h0 a1 "java/lang/String") (Fv : Fld Z h0 a1 "java/lang/String" "value" "[B" (.ref r1)) (Fc : Fld Z h0 a1 "java/lang/String" "coder" "B" (.int (0 : Int32))) (V_1 : Arv Z h0 r1 k1 .byte (4 : Int32) [(.int c0.toInt8.toInt32.toInt8.toInt32), (.int c1.toInt8.toInt32.toInt8.toInt32), (.int c2.toInt8.toInt32.toInt8.toInt32), (.int c3.toInt8.toInt32.toInt8.toInt32)] (.int (0 : Int32))) (hc0 : 0 ≤ c0.toInt ∧ c0.toInt ≤ 255) (hc1 : 0 ≤ c1.toInt ∧ c1.toInt ≤ 255) (hc2 : 0 ≤ c2.toInt ∧ c2.toInt ≤ 255) (hc3 : 0 ≤ c3.toInt ∧ c3.toInt ≤ 255) (O_0 : Old Z n0 h0) (S_cs : Sta Z Z.heap "java/lang/String" "COMPACT_STRINGS" "Z" (.int cs0)) (hcs : ¬ cs0.toInt = 0) (S_sf : Sta Z Z.heap "jdk/internal/util/Preconditions" "SIOOBE_FORMATTER" "Ljava/util/function/BiFunction;" gv) (r_gv : gv.isRef = true) :
    MetW l Z (⟨"com/example/ringward/ringward/hash/MurmurHash3", "x86Hash32", "(Ljava/lang/String;)J"⟩ : MethodName) prog_34_method_3_code 13 (some .long) [] ({ frames := 5, cells := 2, slots := 20, locals := 71 } : Room) #[(.ref a1)] h0 (Q48 Z a1 r1 k1 c0 c1 c2 c3 cs0 gv h0 n0) := by
  refine met_w (plainFor_of_name pn_2) (fun m => ef_48 m a1) ?_
  intro p e s m below meth c s₁ V0 nS0 X0 hx hby hml hZ0 hown0 hnm hret hlk e0 hS0 hSn0
  replace hown0 : V0.findClass "com/example/ringward/ringward/hash/MurmurHash3" = some m.cls := hown0
  replace hnm : meth.name = "x86Hash32" := hnm
  replace hret : meth.sig.returnType = (some .long) := hret
  have N0 := Fr.nil n0
  have K0 : Keep h0 h0 [] := Keep.refl _ _
  show Ok p e below _ _ s₁ (mkF m 0 #[.val (.ref a1), .unset, .unset, .unset, .unset, .unset, .unset, .unset, .unset, .unset, .unset, .unset, .unset] [])
  refine Ok.aloadN (pc' := 1) X0 hx (hb hby d48_0) rfl rfl rfl ?_
  refine Ok.ldcS (pc' := 3) (N := 16) X0 hx hZ0 hown0 hS0 hSn0 (hw _ (List.mem_of_getElem? (i := 94) rfl)) (wStr hw) e0 (by decide) (by decide) (by decide) (by decide) (hb hby d48_1) rfl ?_
  intro lc83 T83 h83 nS83 X83 hZ83 hown83 hS83 hSn83 e83 E83
  replace E_a1 := E_a1.ext E83
  replace Fv := Fv.ext E83
  replace Fc := Fc.ext E83
  replace V_1 := V_1.ext E83
  replace O_0 := O_0.ext E83
  have K83 : Keep h0 h83 [] := K0.ext E83
  have Z84 : n0 ≤ h83.size := Nat.le_trans Z0 E83.1
  show Ok p e below _ _ T83 (mkF m 3 #[.val (.ref a1), .unset, .unset, .unset, .unset, .unset, .unset, .unset, .unset, .unset, .unset, .unset, .unset] [(.ref lc83), (.ref a1)])
  refine Ok.callS (pc' := 6) (W := 0)  (argsL := [(.ref a1), (.ref lc83)]) (rest := []) X83 hx hZ83 hown83 (rm45 l Z a0 hw a1 lc83 h83 n0 Z84 ) (hw _ (List.mem_of_getElem? (i := 97) rfl)) (hw _ (List.mem_of_getElem? (i := 98) rfl)) (hw _ (List.mem_of_getElem? (i := 99) rfl)) (hw _ (List.mem_of_getElem? (i := 100) rfl)) (by decide) e83 (by decide) (by decide) (by decide) (by decide) (lenOf pd_14 rfl) rfl rfl (Nat.le_of_eq rfl) (by rw [hml]; rfl) (hb hby d48_3) rfl ?_
  intro v85 T85 L85 X85 hQ85
  obtain ⟨rfl, Nq85, eq85⟩ := hQ85
  have N85 := Fr.app N0 Nq85
  show Ok p e below _ _ T85 (mkF m 6 #[.val (.ref a1), .unset, .unset, .unset, .unset, .unset, .unset, .unset, .unset, .unset, .unset, .unset, .unset] [(.ref a1)])
  refine Ok.pop (pc' := 7) X85 hx (hb hby d48_6) rfl rfl ?_
  refine Ok.iconst (z := (0 : Int32)) (pc' := 8) X85 hx (hb hby d48_7) rfl rfl ?_
  refine Ok.istoreN (l' := #[.val (.ref a1), .val (.int (0 : Int32)), .unset, .unset, .unset, .unset, .unset, .unset, .unset, .unset, .unset, .unset, .unset]) (pc' := 9) X85 hx (hb hby d48_8) rfl rfl ?_
  refine Ok.iconst (z := (0 : Int32)) (pc' := 10) X85 hx (hb hby d48_9) rfl rfl ?_
  refine Ok.istoreN (l' := #[.val (.ref a1), .val (.int (0 : Int32)), .val (.int (0 : Int32)), .unset, .unset, .unset, .unset, .unset, .unset, .unset, .unset, .unset, .unset]) (pc' := 11) X85 hx (hb hby d48_10) rfl rfl ?_
  refine Ok.aloadN (pc' := 12) X85 hx (hb hby d48_11) rfl rfl rfl ?_
  refine Ok.iloadN (pc' := 13) X85 hx (hb hby d48_12) rfl rfl ?_
  refine Ok.callS (pc' := 16) (W := 0)  (argsL := [(.ref a1), (.int (0 : Int32))]) (rest := []) X85 hx hZ83 hown83 (rm46 l Z a0 hw a1 r1 k1 c0 c1 c2 c3 cs0 gv h83 n0 Z84 E_a1 Fv Fc V_1 hc0 hc1 hc2 hc3 O_0 S_cs hcs S_sf r_gv) (hw _ (List.mem_of_getElem? (i := 101) rfl)) (hw _ (List.mem_of_getElem? (i := 102) rfl)) (hw _ (List.mem_of_getElem? (i := 92) rfl)) (hw _ (List.mem_of_getElem? (i := 103) rfl)) (by decide) eq85 (by decide) (by decide) (by decide) (by decide) (lenOf pd_15 rfl) rfl rfl (Nat.le_of_eq rfl) (by rw [hml]; rfl) (hb hby d48_13) rfl ?_
  intro v86 T86 L86 X86 hQ86
  obtain ⟨rfl, Nq86, eq86⟩ := hQ86
  have N86 := Fr.app N85 Nq86
  show Ok p e below _ _ T86 (mkF m 16 #[.val (.ref a1), .val (.int (0 : Int32)), .val (.int (0 : Int32)), .unset, .unset, .unset, .unset, .unset, .unset, .unset, .unset, .unset, .unset] [(.int (aw c0 c1 c2 c3))])
  refine Ok.istoreN (l' := #[.val (.ref a1), .val (.int (0 : Int32)), .val (.int (0 : Int32)), .val (.int (aw c0 c1 c2 c3)), .unset, .unset, .unset, .unset, .unset, .unset, .unset, .unset, .unset]) (pc' := 17) X86 hx (hb hby d48_16) rfl rfl ?_
  refine Ok.iloadN (pc' := 18) X86 hx (hb hby d48_17) rfl rfl ?_
  refine Ok.iconst (z := (-1 : Int32)) (pc' := 19) X86 hx (hb hby d48_18) rfl rfl ?_
  by_cases hc19 : (aw c0 c1 c2 c3).toInt = (-1)
  · refine Ok.icY (pc' := 40) X86 hx (hb hby d48_19) (bt (ic_eq (aw c0 c1 c2 c3) (-1 : Int32)).1 hc19) (by decide) (by decide) ?_
    refine Ok.lconst (z := (0 : Int64)) (pc' := 41) X86 hx (hb hby d48_40) rfl rfl ?_
    refine Ok.lstoreN (l' := #[.val (.ref a1), .val (.int (0 : Int32)), .val (.int (0 : Int32)), .val (.long (0 : Int64)), .second, .unset, .unset, .unset, .unset, .unset, .unset, .unset, .unset]) (pc' := 42) X86 hx (hb hby d48_41) rfl rfl ?_
    refine Ok.iconst (z := (0 : Int32)) (pc' := 43) X86 hx (hb hby d48_42) rfl rfl ?_
    refine Ok.istore (l' := #[.val (.ref a1), .val (.int (0 : Int32)), .val (.int (0 : Int32)), .val (.long (0 : Int64)), .second, .val (.int (0 : Int32)), .unset, .unset, .unset, .unset, .unset, .unset, .unset]) (pc' := 45) X86 hx (hb hby d48_43) rfl rfl ?_
    refine Ok.iloadN (pc' := 46) X86 hx (hb hby d48_45) rfl rfl ?_
    refine Ok.istore (l' := #[.val (.ref a1), .val (.int (0 : Int32)), .val (.int (0 : Int32)), .val (.long (0 : Int64)), .second, .val (.int (0 : Int32)), .val (.int (0 : Int32)), .unset, .unset, .unset, .unset, .unset, .unset]) (pc' := 48) X86 hx (hb hby d48_46) rfl rfl ?_
    have hsl : hend (hstep (hstep (hstep (hstep ((0 : Int32), (0 : Int64), (0 : Int32), (0 : Int32)) c0) c1) c2) c3) = hval c0 c1 c2 c3 := by unfold hval; rw [if_pos hc19]
    have kt4 : ∀ (Tj : State) (Lj : List Loc) (Xj : Stand p l e ({ frames := 5, cells := 2, slots := 20, locals := 71 } : Room) (s.setVm T83.vm) m #[(.ref a1)] below meth c Tj Lj 2 20) (ej : Tj.heap = h83) (Nj : Fr n0 Lj) (hh : Int32) (acc : Int64) (bits nb x7 : Int32) (x8 : Int64) (x10 x11 : Int32), hend (hh, acc, bits, nb) = hval c0 c1 c2 c3 → Ok p e below (WE s ({ frames := 5, cells := 2, slots := 20, locals := 71 } : Room).cells ({ frames := 5, cells := 2, slots := 20, locals := 71 } : Room).slots) (Q48 Z a1 r1 k1 c0 c1 c2 c3 cs0 gv h0 n0) Tj (mkF m 48 #[.val (.ref a1), .val (.int hh), .val (.int (4 : Int32)), .val (.long acc), .second, .val (.int bits), .val (.int nb), .val (.int x7), .val (.long x8), .second, .val (.int x10), .val (.int x11), .unset] []) := by
      intro Tj Lj Xj ej Nj hh acc bits nb x7 x8 x10 x11 hH
      refine Ok.iloadN (pc' := 49) Xj hx (hb hby d48_48) rfl rfl ?_
      refine Ok.aloadN (pc' := 50) Xj hx (hb hby d48_49) rfl rfl rfl ?_
      refine Ok.virt (pc' := 53) (W := 1) (a := a1)  (argsL := []) (rest := [(.int (4 : Int32))]) Xj hx hZ83 hown83 (rm20 l Z a0 hw a1 r1 k1 c0.toInt8.toInt32.toInt8.toInt32 c1.toInt8.toInt32.toInt8.toInt32 c2.toInt8.toInt32.toInt8.toInt32 c3.toInt8.toInt32.toInt8.toInt32 cs0 h83 n0 Z84 E_a1 Fv Fc V_1 O_0 S_cs hcs) (hw _ (List.mem_of_getElem? (i := 104) rfl)) (hw _ (List.mem_of_getElem? (i := 105) rfl)) (notFace_of_selects (args := #[]) (mvT (s := s.setVm _) hZ83 (hw _ (List.mem_of_getElem? (i := 107) rfl)))) (hw _ (List.mem_of_getElem? (i := 107) rfl)) (hw _ (List.mem_of_getElem? (i := 106) rfl)) (hw _ (List.mem_of_getElem? (i := 4) rfl)) (hw _ (List.mem_of_getElem? (i := 108) rfl)) (by decide) ej E_a1 (by decide) (by decide) (by decide) (by decide) (lenOf pd_16 rfl) rfl rfl (Nat.le_of_eq rfl) (by rw [hml]; rfl) (hb hby d48_50) rfl ?_
      intro v87 T87 L87 X87 hQ87
      obtain ⟨rfl, Nq87, eq87⟩ := hQ87
      have N87 := Fr.app Nj Nq87
      show Ok p e below _ _ T87 (mkF m 53 #[.val (.ref a1), .val (.int hh), .val (.int (4 : Int32)), .val (.long acc), .second, .val (.int bits), .val (.int nb), .val (.int x7), .val (.long x8), .second, .val (.int x10), .val (.int x11), .unset] [(.int (4 : Int32)), (.int (4 : Int32))])
      refine Ok.icY (pc' := 335) X87 hx (hb hby d48_53) (bt (ic_eq (4 : Int32) (4 : Int32)).2.2.2.1 (by decide)) (by decide) (by decide) ?_
      refine Ok.iloadN (pc' := 336) X87 hx (hb hby d48_335) rfl rfl ?_
      refine Ok.lloadN (pc' := 337) X87 hx (hb hby d48_336) rfl rfl ?_
      refine Ok.l2i (pc' := 338) X87 hx (hb hby d48_337) rfl ?_
      refine Ok.iload (pc' := 340) X87 hx (hb hby d48_338) rfl rfl ?_
      refine Ok.callS (pc' := 343) (W := 0)  (argsL := [(.int hh), (.int acc.toInt32), (.int nb)]) (rest := []) X87 hx hZ83 hown83 (rm7 l Z a0 hw hh acc.toInt32 nb h83 n0 Z84 ) (hw _ (List.mem_of_getElem? (i := 148) rfl)) (hw _ (List.mem_of_getElem? (i := 149) rfl)) (hw _ (List.mem_of_getElem? (i := 92) rfl)) (hw _ (List.mem_of_getElem? (i := 150) rfl)) (by decide) eq87 (by decide) (by decide) (by decide) (by decide) (lenOf pd_25 rfl) rfl rfl (Nat.le_of_eq rfl) (by rw [hml]; rfl) (hb hby d48_340) rfl ?_
      intro v88 T88 L88 X88 hQ88
      obtain ⟨rfl, Nq88, eq88⟩ := hQ88
      have N88 := Fr.app N87 Nq88
      show Ok p e below _ _ T88 (mkF m 343 #[.val (.ref a1), .val (.int hh), .val (.int (4 : Int32)), .val (.long acc), .second, .val (.int bits), .val (.int nb), .val (.int x7), .val (.long x8), .second, .val (.int x10), .val (.int x11), .unset] [(.long (finv hh acc.toInt32 nb))])
      refine Ok.retJW X88 hx hS83 (by rw [eq88]; exact hSn83) hret hlk (hb hby d48_343) (by decide) (by decide) ?_
      show Q48 Z a1 r1 k1 c0 c1 c2 c3 cs0 gv h0 n0 _ T88.heap _
      rw [eq88]
      exact ⟨by rw [← hH]; rfl, N88, K83⟩
    have kt3 : ∀ (Tj : State) (Lj : List Loc) (Xj : Stand p l e ({ frames := 5, cells := 2, slots := 20, locals := 71 } : Room) (s.setVm T83.vm) m #[(.ref a1)] below meth c Tj Lj 2 20) (ej : Tj.heap = h83) (Nj : Fr n0 Lj) (hh : Int32) (acc : Int64) (bits nb x7 : Int32) (x8 : Int64) (x10 x11 : Int32), hend (hstep (hh, acc, bits, nb) c3) = hval c0 c1 c2 c3 → Ok p e below (WE s ({ frames := 5, cells := 2, slots := 20, locals := 71 } : Room).cells ({ frames := 5, cells := 2, slots := 20, locals := 71 } : Room).slots) (Q48 Z a1 r1 k1 c0 c1 c2 c3 cs0 gv h0 n0) Tj (mkF m 48 #[.val (.ref a1), .val (.int hh), .val (.int (3 : Int32)), .val (.long acc), .second, .val (.int bits), .val (.int nb), .val (.int x7), .val (.long x8), .second, .val (.int x10), .val (.int x11), .unset] []) := by
      intro Tj Lj Xj ej Nj hh acc bits nb x7 x8 x10 x11 hH
      refine Ok.iloadN (pc' := 49) Xj hx (hb hby d48_48) rfl rfl ?_
      refine Ok.aloadN (pc' := 50) Xj hx (hb hby d48_49) rfl rfl rfl ?_
      refine Ok.virt (pc' := 53) (W := 1) (a := a1)  (argsL := []) (rest := [(.int (3 : Int32))]) Xj hx hZ83 hown83 (rm20 l Z a0 hw a1 r1 k1 c0.toInt8.toInt32.toInt8.toInt32 c1.toInt8.toInt32.toInt8.toInt32 c2.toInt8.toInt32.toInt8.toInt32 c3.toInt8.toInt32.toInt8.toInt32 cs0 h83 n0 Z84 E_a1 Fv Fc V_1 O_0 S_cs hcs) (hw _ (List.mem_of_getElem? (i := 104) rfl)) (hw _ (List.mem_of_getElem? (i := 105) rfl)) (notFace_of_selects (args := #[]) (mvT (s := s.setVm _) hZ83 (hw _ (List.mem_of_getElem? (i := 107) rfl)))) (hw _ (List.mem_of_getElem? (i := 107) rfl)) (hw _ (List.mem_of_getElem? (i := 106) rfl)) (hw _ (List.mem_of_getElem? (i := 4) rfl)) (hw _ (List.mem_of_getElem? (i := 108) rfl)) (by decide) ej E_a1 (by decide) (by decide) (by decide) (by decide) (lenOf pd_16 rfl) rfl rfl (Nat.le_of_eq rfl) (by rw [hml]; rfl) (hb hby d48_50) rfl ?_
      intro v89 T89 L89 X89 hQ89
      obtain ⟨rfl, Nq89, eq89⟩ := hQ89
      have N89 := Fr.app Nj Nq89
      show Ok p e below _ _ T89 (mkF m 53 #[.val (.ref a1), .val (.int hh), .val (.int (3 : Int32)), .val (.long acc), .second, .val (.int bits), .val (.int nb), .val (.int x7), .val (.long x8), .second, .val (.int x10), .val (.int x11), .unset] [(.int (4 : Int32)), (.int (3 : Int32))])
      refine Ok.icN (pc' := 56) X89 hx (hb hby d48_53) (bf (ic_eq (3 : Int32) (4 : Int32)).2.2.2.1 (by decide)) rfl ?_
      refine Ok.aloadN (pc' := 57) X89 hx (hb hby d48_56) rfl rfl rfl ?_
      refine Ok.iloadN (pc' := 58) X89 hx (hb hby d48_57) rfl rfl ?_
      refine Ok.virt (pc' := 61) (W := 0) (a := a1)  (argsL := [(.int (3 : Int32))]) (rest := []) X89 hx hZ83 hown83 (rm40 l Z a0 hw a1 r1 k1 c0.toInt8.toInt32.toInt8.toInt32 c1.toInt8.toInt32.toInt8.toInt32 c2.toInt8.toInt32.toInt8.toInt32 c3.toInt8.toInt32.toInt8.toInt32 cs0 gv h83 n0 Z84 E_a1 Fv Fc V_1 O_0 S_cs hcs S_sf r_gv) (hw _ (List.mem_of_getElem? (i := 114) rfl)) (hw _ (List.mem_of_getElem? (i := 115) rfl)) (notFace_of_selects (args := #[]) (mvT (s := s.setVm _) hZ83 (hw _ (List.mem_of_getElem? (i := 117) rfl)))) (hw _ (List.mem_of_getElem? (i := 117) rfl)) (hw _ (List.mem_of_getElem? (i := 116) rfl)) (hw _ (List.mem_of_getElem? (i := 4) rfl)) (hw _ (List.mem_of_getElem? (i := 118) rfl)) (by decide) eq89 E_a1 (by decide) (by decide) (by decide) (by decide) (lenOf pd_18 rfl) rfl rfl (Nat.le_of_eq rfl) (by rw [hml]; rfl) (hb hby d48_58) rfl ?_
      intro v90 T90 L90 X90 hQ90
      obtain ⟨rfl, Nq90, eq90⟩ := hQ90
      have N90 := Fr.app N89 Nq90
      show Ok p e below _ _ T90 (mkF m 61 #[.val (.ref a1), .val (.int hh), .val (.int (3 : Int32)), .val (.long acc), .second, .val (.int bits), .val (.int nb), .val (.int x7), .val (.long x8), .second, .val (.int x10), .val (.int x11), .unset] [(.int (c3.toInt8.toInt32.toInt8.toInt32 &&& (255 : Int32)))])
      rw [byte_back hc3.1 hc3.2]
      refine Ok.istore (l' := #[.val (.ref a1), .val (.int hh), .val (.int (3 : Int32)), .val (.long acc), .second, .val (.int bits), .val (.int nb), .val (.int c3), .val (.long x8), .second, .val (.int x10), .val (.int x11), .unset]) (pc' := 63) X90 hx (hb hby d48_61) rfl rfl ?_
      refine Ok.iconst (z := (1 : Int32)) (pc' := 64) X90 hx (hb hby d48_63) rfl rfl ?_
      refine Ok.istore (l' := #[.val (.ref a1), .val (.int hh), .val (.int (3 : Int32)), .val (.long acc), .second, .val (.int bits), .val (.int nb), .val (.int c3), .val (.long x8), .second, .val (.int x10), .val (.int (1 : Int32)), .unset]) (pc' := 66) X90 hx (hb hby d48_64) rfl rfl ?_
      refine Ok.iload (pc' := 68) X90 hx (hb hby d48_66) rfl rfl ?_
      refine Ok.sipush (z := (128 : Int32)) (pc' := 71) X90 hx (hb hby d48_68) rfl rfl ?_
      by_cases hc71 : 128 ≤ c3.toInt
      · refine Ok.icY (pc' := 86) X90 hx (hb hby d48_71) (bt (ic_eq c3 (128 : Int32)).2.2.2.1 hc71) (by decide) (by decide) ?_
        refine Ok.iload (pc' := 88) X90 hx (hb hby d48_86) rfl rfl ?_
        refine Ok.sipush (z := (2048 : Int32)) (pc' := 91) X90 hx (hb hby d48_88) rfl rfl ?_
        by_cases hc91 : 2048 ≤ c3.toInt
        · refine Ok.icY (pc' := 122) X90 hx (hb hby d48_91) (bt (ic_eq c3 (2048 : Int32)).2.2.2.1 hc91) (by decide) (by decide) ?_
          exfalso; omega
        · refine Ok.icN (pc' := 94) X90 hx (hb hby d48_91) (bf (ic_eq c3 (2048 : Int32)).2.2.2.1 hc91) rfl ?_
          refine Ok.sipush (z := (192 : Int32)) (pc' := 97) X90 hx (hb hby d48_94) rfl rfl ?_
          refine Ok.iload (pc' := 99) X90 hx (hb hby d48_97) rfl rfl ?_
          refine Ok.bipush (z := (6 : Int32)) (pc' := 101) X90 hx (hb hby d48_99) rfl rfl ?_
          refine Ok.iushr (pc' := 102) X90 hx (hb hby d48_101) rfl ?_
          refine Ok.ior (pc' := 103) X90 hx (hb hby d48_102) rfl ?_
          refine Ok.iload (pc' := 105) X90 hx (hb hby d48_103) rfl rfl ?_
          refine Ok.callS (pc' := 108) (W := 1)  (argsL := [(.int c3)]) (rest := [(.int ((192 : Int32) ||| ((c3.toUInt32 >>> ((6 : Int32) &&& 31).toUInt32).toInt32)))]) X90 hx hZ83 hown83 (rm8 l Z a0 hw c3 h83 n0 Z84 ) (hw _ (List.mem_of_getElem? (i := 172) rfl)) (hw _ (List.mem_of_getElem? (i := 173) rfl)) (hw _ (List.mem_of_getElem? (i := 92) rfl)) (hw _ (List.mem_of_getElem? (i := 174) rfl)) (by decide) eq90 (by decide) (by decide) (by decide) (by decide) (lenOf pd_24 rfl) rfl rfl (Nat.le_of_eq rfl) (by rw [hml]; rfl) (hb hby d48_105) rfl ?_
          intro v91 T91 L91 X91 hQ91
          obtain ⟨rfl, Nq91, eq91⟩ := hQ91
          have N91 := Fr.app N90 Nq91
          show Ok p e below _ _ T91 (mkF m 108 #[.val (.ref a1), .val (.int hh), .val (.int (3 : Int32)), .val (.long acc), .second, .val (.int bits), .val (.int nb), .val (.int c3), .val (.long x8), .second, .val (.int x10), .val (.int (1 : Int32)), .unset] [(.int (cont c3)), (.int ((192 : Int32) ||| ((c3.toUInt32 >>> ((6 : Int32) &&& 31).toUInt32).toInt32)))])
          refine Ok.bipush (z := (8 : Int32)) (pc' := 110) X91 hx (hb hby d48_108) rfl rfl ?_
          refine Ok.ishl (pc' := 111) X91 hx (hb hby d48_110) rfl ?_
          refine Ok.ior (pc' := 112) X91 hx (hb hby d48_111) rfl ?_
          refine Ok.i2l (pc' := 113) X91 hx (hb hby d48_112) rfl ?_
          refine Ok.lstore (l' := #[.val (.ref a1), .val (.int hh), .val (.int (3 : Int32)), .val (.long acc), .second, .val (.int bits), .val (.int nb), .val (.int c3), .val (.long (((192 : Int32) ||| ((c3.toUInt32 >>> ((6 : Int32) &&& 31).toUInt32).toInt32)) ||| ((cont c3) <<< ((8 : Int32) &&& 31))).toInt64), .second, .val (.int x10), .val (.int (1 : Int32)), .unset]) (pc' := 115) X91 hx (hb hby d48_113) rfl rfl ?_
          refine Ok.bipush (z := (16 : Int32)) (pc' := 117) X91 hx (hb hby d48_115) rfl rfl ?_
          refine Ok.istore (l' := #[.val (.ref a1), .val (.int hh), .val (.int (3 : Int32)), .val (.long acc), .second, .val (.int bits), .val (.int nb), .val (.int c3), .val (.long (((192 : Int32) ||| ((c3.toUInt32 >>> ((6 : Int32) &&& 31).toUInt32).toInt32)) ||| ((cont c3) <<< ((8 : Int32) &&& 31))).toInt64), .second, .val (.int (16 : Int32)), .val (.int (1 : Int32)), .unset]) (pc' := 119) X91 hx (hb hby d48_117) rfl rfl ?_
          refine Ok.goto (pc' := 280) X91 hx (hb hby d48_119) (by decide) (by decide) ?_
          refine Ok.iloadN (pc' := 281) X91 hx (hb hby d48_280) rfl rfl ?_
          refine Ok.iload (pc' := 283) X91 hx (hb hby d48_281) rfl rfl ?_
          refine Ok.iadd (pc' := 284) X91 hx (hb hby d48_283) rfl ?_
          show Ok p e below _ _ T91 (mkF m 284 #[.val (.ref a1), .val (.int hh), .val (.int (3 : Int32)), .val (.long acc), .second, .val (.int bits), .val (.int nb), .val (.int c3), .val (.long (((192 : Int32) ||| ((c3.toUInt32 >>> ((6 : Int32) &&& 31).toUInt32).toInt32)) ||| ((cont c3) <<< ((8 : Int32) &&& 31))).toInt64), .second, .val (.int (16 : Int32)), .val (.int (1 : Int32)), .unset] [(.int (4 : Int32))])
          refine Ok.istoreN (l' := #[.val (.ref a1), .val (.int hh), .val (.int (4 : Int32)), .val (.long acc), .second, .val (.int bits), .val (.int nb), .val (.int c3), .val (.long (((192 : Int32) ||| ((c3.toUInt32 >>> ((6 : Int32) &&& 31).toUInt32).toInt32)) ||| ((cont c3) <<< ((8 : Int32) &&& 31))).toInt64), .second, .val (.int (16 : Int32)), .val (.int (1 : Int32)), .unset]) (pc' := 285) X91 hx (hb hby d48_284) rfl rfl ?_
          refine Ok.lloadN (pc' := 286) X91 hx (hb hby d48_285) rfl rfl ?_
          refine Ok.lload (pc' := 288) X91 hx (hb hby d48_286) rfl rfl ?_
          refine Ok.iload (pc' := 290) X91 hx (hb hby d48_288) rfl rfl ?_
          refine Ok.lshl (pc' := 291) X91 hx (hb hby d48_290) rfl ?_
          refine Ok.lor (pc' := 292) X91 hx (hb hby d48_291) rfl ?_
          refine Ok.lstoreN (l' := #[.val (.ref a1), .val (.int hh), .val (.int (4 : Int32)), .val (.long (acc ||| ((((192 : Int32) ||| ((c3.toUInt32 >>> ((6 : Int32) &&& 31).toUInt32).toInt32)) ||| ((cont c3) <<< ((8 : Int32) &&& 31))).toInt64 <<< (bits &&& 0x3f).toInt64))), .second, .val (.int bits), .val (.int nb), .val (.int c3), .val (.long (((192 : Int32) ||| ((c3.toUInt32 >>> ((6 : Int32) &&& 31).toUInt32).toInt32)) ||| ((cont c3) <<< ((8 : Int32) &&& 31))).toInt64), .second, .val (.int (16 : Int32)), .val (.int (1 : Int32)), .unset]) (pc' := 293) X91 hx (hb hby d48_292) rfl rfl ?_
          refine Ok.iload (pc' := 295) X91 hx (hb hby d48_293) rfl rfl ?_
          refine Ok.iload (pc' := 297) X91 hx (hb hby d48_295) rfl rfl ?_
          refine Ok.iadd (pc' := 298) X91 hx (hb hby d48_297) rfl ?_
          refine Ok.istore (l' := #[.val (.ref a1), .val (.int hh), .val (.int (4 : Int32)), .val (.long (acc ||| ((((192 : Int32) ||| ((c3.toUInt32 >>> ((6 : Int32) &&& 31).toUInt32).toInt32)) ||| ((cont c3) <<< ((8 : Int32) &&& 31))).toInt64 <<< (bits &&& 0x3f).toInt64))), .second, .val (.int (bits + (16 : Int32))), .val (.int nb), .val (.int c3), .val (.long (((192 : Int32) ||| ((c3.toUInt32 >>> ((6 : Int32) &&& 31).toUInt32).toInt32)) ||| ((cont c3) <<< ((8 : Int32) &&& 31))).toInt64), .second, .val (.int (16 : Int32)), .val (.int (1 : Int32)), .unset]) (pc' := 300) X91 hx (hb hby d48_298) rfl rfl ?_
          refine Ok.iload (pc' := 302) X91 hx (hb hby d48_300) rfl rfl ?_
          refine Ok.iload (pc' := 304) X91 hx (hb hby d48_302) rfl rfl ?_
          refine Ok.bipush (z := (8 : Int32)) (pc' := 306) X91 hx (hb hby d48_304) rfl rfl ?_
          refine Ok.idiv (pc' := 307) X91 hx (hb hby d48_306) rfl (by decide) ?_
          refine Ok.iadd (pc' := 308) X91 hx (hb hby d48_307) rfl ?_
          refine Ok.istore (l' := #[.val (.ref a1), .val (.int hh), .val (.int (4 : Int32)), .val (.long (acc ||| ((((192 : Int32) ||| ((c3.toUInt32 >>> ((6 : Int32) &&& 31).toUInt32).toInt32)) ||| ((cont c3) <<< ((8 : Int32) &&& 31))).toInt64 <<< (bits &&& 0x3f).toInt64))), .second, .val (.int (bits + (16 : Int32))), .val (.int (nb + ((16 : Int32) / (8 : Int32)))), .val (.int c3), .val (.long (((192 : Int32) ||| ((c3.toUInt32 >>> ((6 : Int32) &&& 31).toUInt32).toInt32)) ||| ((cont c3) <<< ((8 : Int32) &&& 31))).toInt64), .second, .val (.int (16 : Int32)), .val (.int (1 : Int32)), .unset]) (pc' := 310) X91 hx (hb hby d48_308) rfl rfl ?_
          refine Ok.iload (pc' := 312) X91 hx (hb hby d48_310) rfl rfl ?_
          refine Ok.bipush (z := (32 : Int32)) (pc' := 314) X91 hx (hb hby d48_312) rfl rfl ?_
          by_cases hc314 : (bits + (16 : Int32)).toInt < 32
          · refine Ok.icY (pc' := 332) X91 hx (hb hby d48_314) (bt (ic_eq (bits + (16 : Int32)) (32 : Int32)).2.2.1 hc314) (by decide) (by decide) ?_
            refine Ok.goto (pc' := 48) X91 hx (hb hby d48_332) (by decide) (by decide) ?_
            have es : hstep (hh, acc, bits, nb) c3 = (hh, (acc ||| ((((192 : Int32) ||| ((c3.toUInt32 >>> ((6 : Int32) &&& 31).toUInt32).toInt32)) ||| ((cont c3) <<< ((8 : Int32) &&& 31))).toInt64 <<< (bits &&& 0x3f).toInt64)), (bits + (16 : Int32)), (nb + ((16 : Int32) / (8 : Int32)))) := by unfold hstep; rw [if_neg (by omega)]; unfold hst; rw [if_pos hc314]
            rw [es] at hH
            exact kt4 T91 _ X91 eq91 N91 _ _ _ _ _ _ _ _ hH
          · refine Ok.icN (pc' := 317) X91 hx (hb hby d48_314) (bf (ic_eq (bits + (16 : Int32)) (32 : Int32)).2.2.1 hc314) rfl ?_
            refine Ok.iloadN (pc' := 318) X91 hx (hb hby d48_317) rfl rfl ?_
            refine Ok.lloadN (pc' := 319) X91 hx (hb hby d48_318) rfl rfl ?_
            refine Ok.l2i (pc' := 320) X91 hx (hb hby d48_319) rfl ?_
            refine Ok.callS (pc' := 323) (W := 0)  (argsL := [(.int hh), (.int (acc ||| ((((192 : Int32) ||| ((c3.toUInt32 >>> ((6 : Int32) &&& 31).toUInt32).toInt32)) ||| ((cont c3) <<< ((8 : Int32) &&& 31))).toInt64 <<< (bits &&& 0x3f).toInt64)).toInt32)]) (rest := []) X91 hx hZ83 hown83 (rm4 l Z a0 hw hh (acc ||| ((((192 : Int32) ||| ((c3.toUInt32 >>> ((6 : Int32) &&& 31).toUInt32).toInt32)) ||| ((cont c3) <<< ((8 : Int32) &&& 31))).toInt64 <<< (bits &&& 0x3f).toInt64)).toInt32 h83 n0 Z84 ) (hw _ (List.mem_of_getElem? (i := 135) rfl)) (hw _ (List.mem_of_getElem? (i := 136) rfl)) (hw _ (List.mem_of_getElem? (i := 92) rfl)) (hw _ (List.mem_of_getElem? (i := 137) rfl)) (by decide) eq91 (by decide) (by decide) (by decide) (by decide) (lenOf pd_23 rfl) rfl rfl (Nat.le_of_eq rfl) (by rw [hml]; rfl) (hb hby d48_320) rfl ?_
            intro v92 T92 L92 X92 hQ92
            obtain ⟨rfl, Nq92, eq92⟩ := hQ92
            have N92 := Fr.app N91 Nq92
            show Ok p e below _ _ T92 (mkF m 323 #[.val (.ref a1), .val (.int hh), .val (.int (4 : Int32)), .val (.long (acc ||| ((((192 : Int32) ||| ((c3.toUInt32 >>> ((6 : Int32) &&& 31).toUInt32).toInt32)) ||| ((cont c3) <<< ((8 : Int32) &&& 31))).toInt64 <<< (bits &&& 0x3f).toInt64))), .second, .val (.int (bits + (16 : Int32))), .val (.int (nb + ((16 : Int32) / (8 : Int32)))), .val (.int c3), .val (.long (((192 : Int32) ||| ((c3.toUInt32 >>> ((6 : Int32) &&& 31).toUInt32).toInt32)) ||| ((cont c3) <<< ((8 : Int32) &&& 31))).toInt64), .second, .val (.int (16 : Int32)), .val (.int (1 : Int32)), .unset] [(.int (wwv hh (acc ||| ((((192 : Int32) ||| ((c3.toUInt32 >>> ((6 : Int32) &&& 31).toUInt32).toInt32)) ||| ((cont c3) <<< ((8 : Int32) &&& 31))).toInt64 <<< (bits &&& 0x3f).toInt64)).toInt32))])
            refine Ok.istoreN (l' := #[.val (.ref a1), .val (.int (wwv hh (acc ||| ((((192 : Int32) ||| ((c3.toUInt32 >>> ((6 : Int32) &&& 31).toUInt32).toInt32)) ||| ((cont c3) <<< ((8 : Int32) &&& 31))).toInt64 <<< (bits &&& 0x3f).toInt64)).toInt32)), .val (.int (4 : Int32)), .val (.long (acc ||| ((((192 : Int32) ||| ((c3.toUInt32 >>> ((6 : Int32) &&& 31).toUInt32).toInt32)) ||| ((cont c3) <<< ((8 : Int32) &&& 31))).toInt64 <<< (bits &&& 0x3f).toInt64))), .second, .val (.int (bits + (16 : Int32))), .val (.int (nb + ((16 : Int32) / (8 : Int32)))), .val (.int c3), .val (.long (((192 : Int32) ||| ((c3.toUInt32 >>> ((6 : Int32) &&& 31).toUInt32).toInt32)) ||| ((cont c3) <<< ((8 : Int32) &&& 31))).toInt64), .second, .val (.int (16 : Int32)), .val (.int (1 : Int32)), .unset]) (pc' := 324) X92 hx (hb hby d48_323) rfl rfl ?_
            refine Ok.lloadN (pc' := 325) X92 hx (hb hby d48_324) rfl rfl ?_
            refine Ok.bipush (z := (32 : Int32)) (pc' := 327) X92 hx (hb hby d48_325) rfl rfl ?_
            refine Ok.lushr (pc' := 328) X92 hx (hb hby d48_327) rfl ?_
            refine Ok.lstoreN (l' := #[.val (.ref a1), .val (.int (wwv hh (acc ||| ((((192 : Int32) ||| ((c3.toUInt32 >>> ((6 : Int32) &&& 31).toUInt32).toInt32)) ||| ((cont c3) <<< ((8 : Int32) &&& 31))).toInt64 <<< (bits &&& 0x3f).toInt64)).toInt32)), .val (.int (4 : Int32)), .val (.long (((acc ||| ((((192 : Int32) ||| ((c3.toUInt32 >>> ((6 : Int32) &&& 31).toUInt32).toInt32)) ||| ((cont c3) <<< ((8 : Int32) &&& 31))).toInt64 <<< (bits &&& 0x3f).toInt64)).toUInt64 >>> ((32 : Int32) &&& 0x3f).toInt64.toUInt64).toInt64)), .second, .val (.int (bits + (16 : Int32))), .val (.int (nb + ((16 : Int32) / (8 : Int32)))), .val (.int c3), .val (.long (((192 : Int32) ||| ((c3.toUInt32 >>> ((6 : Int32) &&& 31).toUInt32).toInt32)) ||| ((cont c3) <<< ((8 : Int32) &&& 31))).toInt64), .second, .val (.int (16 : Int32)), .val (.int (1 : Int32)), .unset]) (pc' := 329) X92 hx (hb hby d48_328) rfl rfl ?_
            refine Ok.iinc (z := ((bits + (16 : Int32)) + (-32 : Int32))) (l' := #[.val (.ref a1), .val (.int (wwv hh (acc ||| ((((192 : Int32) ||| ((c3.toUInt32 >>> ((6 : Int32) &&& 31).toUInt32).toInt32)) ||| ((cont c3) <<< ((8 : Int32) &&& 31))).toInt64 <<< (bits &&& 0x3f).toInt64)).toInt32)), .val (.int (4 : Int32)), .val (.long (((acc ||| ((((192 : Int32) ||| ((c3.toUInt32 >>> ((6 : Int32) &&& 31).toUInt32).toInt32)) ||| ((cont c3) <<< ((8 : Int32) &&& 31))).toInt64 <<< (bits &&& 0x3f).toInt64)).toUInt64 >>> ((32 : Int32) &&& 0x3f).toInt64.toUInt64).toInt64)), .second, .val (.int ((bits + (16 : Int32)) + (-32 : Int32))), .val (.int (nb + ((16 : Int32) / (8 : Int32)))), .val (.int c3), .val (.long (((192 : Int32) ||| ((c3.toUInt32 >>> ((6 : Int32) &&& 31).toUInt32).toInt32)) ||| ((cont c3) <<< ((8 : Int32) &&& 31))).toInt64), .second, .val (.int (16 : Int32)), .val (.int (1 : Int32)), .unset]) (pc' := 332) X92 hx (hb hby d48_329) rfl rfl rfl rfl ?_
            refine Ok.goto (pc' := 48) X92 hx (hb hby d48_332) (by decide) (by decide) ?_
            have es : hstep (hh, acc, bits, nb) c3 = ((wwv hh (acc ||| ((((192 : Int32) ||| ((c3.toUInt32 >>> ((6 : Int32) &&& 31).toUInt32).toInt32)) ||| ((cont c3) <<< ((8 : Int32) &&& 31))).toInt64 <<< (bits &&& 0x3f).toInt64)).toInt32), (((acc ||| ((((192 : Int32) ||| ((c3.toUInt32 >>> ((6 : Int32) &&& 31).toUInt32).toInt32)) ||| ((cont c3) <<< ((8 : Int32) &&& 31))).toInt64 <<< (bits &&& 0x3f).toInt64)).toUInt64 >>> ((32 : Int32) &&& 0x3f).toInt64.toUInt64).toInt64), ((bits + (16 : Int32)) + (-32 : Int32)), (nb + ((16 : Int32) / (8 : Int32)))) := by unfold hstep; rw [if_neg (by omega)]; unfold hst; rw [if_neg hc314]
            rw [es] at hH
            exact kt4 T92 _ X92 eq92 N92 _ _ _ _ _ _ _ _ hH
      · refine Ok.icN (pc' := 74) X90 hx (hb hby d48_71) (bf (ic_eq c3 (128 : Int32)).2.2.2.1 hc71) rfl ?_
        refine Ok.iload (pc' := 76) X90 hx (hb hby d48_74) rfl rfl ?_
        refine Ok.i2l (pc' := 77) X90 hx (hb hby d48_76) rfl ?_
        refine Ok.lstore (l' := #[.val (.ref a1), .val (.int hh), .val (.int (3 : Int32)), .val (.long acc), .second, .val (.int bits), .val (.int nb), .val (.int c3), .val (.long c3.toInt64), .second, .val (.int x10), .val (.int (1 : Int32)), .unset]) (pc' := 79) X90 hx (hb hby d48_77) rfl rfl ?_
        refine Ok.bipush (z := (8 : Int32)) (pc' := 81) X90 hx (hb hby d48_79) rfl rfl ?_
        refine Ok.istore (l' := #[.val (.ref a1), .val (.int hh), .val (.int (3 : Int32)), .val (.long acc), .second, .val (.int bits), .val (.int nb), .val (.int c3), .val (.long c3.toInt64), .second, .val (.int (8 : Int32)), .val (.int (1 : Int32)), .unset]) (pc' := 83) X90 hx (hb hby d48_81) rfl rfl ?_
        refine Ok.goto (pc' := 280) X90 hx (hb hby d48_83) (by decide) (by decide) ?_
        refine Ok.iloadN (pc' := 281) X90 hx (hb hby d48_280) rfl rfl ?_
        refine Ok.iload (pc' := 283) X90 hx (hb hby d48_281) rfl rfl ?_
        refine Ok.iadd (pc' := 284) X90 hx (hb hby d48_283) rfl ?_
        show Ok p e below _ _ T90 (mkF m 284 #[.val (.ref a1), .val (.int hh), .val (.int (3 : Int32)), .val (.long acc), .second, .val (.int bits), .val (.int nb), .val (.int c3), .val (.long c3.toInt64), .second, .val (.int (8 : Int32)), .val (.int (1 : Int32)), .unset] [(.int (4 : Int32))])
        refine Ok.istoreN (l' := #[.val (.ref a1), .val (.int hh), .val (.int (4 : Int32)), .val (.long acc), .second, .val (.int bits), .val (.int nb), .val (.int c3), .val (.long c3.toInt64), .second, .val (.int (8 : Int32)), .val (.int (1 : Int32)), .unset]) (pc' := 285) X90 hx (hb hby d48_284) rfl rfl ?_
        refine Ok.lloadN (pc' := 286) X90 hx (hb hby d48_285) rfl rfl ?_
        refine Ok.lload (pc' := 288) X90 hx (hb hby d48_286) rfl rfl ?_
        refine Ok.iload (pc' := 290) X90 hx (hb hby d48_288) rfl rfl ?_
        refine Ok.lshl (pc' := 291) X90 hx (hb hby d48_290) rfl ?_
        refine Ok.lor (pc' := 292) X90 hx (hb hby d48_291) rfl ?_
        refine Ok.lstoreN (l' := #[.val (.ref a1), .val (.int hh), .val (.int (4 : Int32)), .val (.long (acc ||| (c3.toInt64 <<< (bits &&& 0x3f).toInt64))), .second, .val (.int bits), .val (.int nb), .val (.int c3), .val (.long c3.toInt64), .second, .val (.int (8 : Int32)), .val (.int (1 : Int32)), .unset]) (pc' := 293) X90 hx (hb hby d48_292) rfl rfl ?_
        refine Ok.iload (pc' := 295) X90 hx (hb hby d48_293) rfl rfl ?_
        refine Ok.iload (pc' := 297) X90 hx (hb hby d48_295) rfl rfl ?_
        refine Ok.iadd (pc' := 298) X90 hx (hb hby d48_297) rfl ?_
        refine Ok.istore (l' := #[.val (.ref a1), .val (.int hh), .val (.int (4 : Int32)), .val (.long (acc ||| (c3.toInt64 <<< (bits &&& 0x3f).toInt64))), .second, .val (.int (bits + (8 : Int32))), .val (.int nb), .val (.int c3), .val (.long c3.toInt64), .second, .val (.int (8 : Int32)), .val (.int (1 : Int32)), .unset]) (pc' := 300) X90 hx (hb hby d48_298) rfl rfl ?_
        refine Ok.iload (pc' := 302) X90 hx (hb hby d48_300) rfl rfl ?_
        refine Ok.iload (pc' := 304) X90 hx (hb hby d48_302) rfl rfl ?_
        refine Ok.bipush (z := (8 : Int32)) (pc' := 306) X90 hx (hb hby d48_304) rfl rfl ?_
        refine Ok.idiv (pc' := 307) X90 hx (hb hby d48_306) rfl (by decide) ?_
        refine Ok.iadd (pc' := 308) X90 hx (hb hby d48_307) rfl ?_
        refine Ok.istore (l' := #[.val (.ref a1), .val (.int hh), .val (.int (4 : Int32)), .val (.long (acc ||| (c3.toInt64 <<< (bits &&& 0x3f).toInt64))), .second, .val (.int (bits + (8 : Int32))), .val (.int (nb + ((8 : Int32) / (8 : Int32)))), .val (.int c3), .val (.long c3.toInt64), .second, .val (.int (8 : Int32)), .val (.int (1 : Int32)), .unset]) (pc' := 310) X90 hx (hb hby d48_308) rfl rfl ?_
        refine Ok.iload (pc' := 312) X90 hx (hb hby d48_310) rfl rfl ?_
        refine Ok.bipush (z := (32 : Int32)) (pc' := 314) X90 hx (hb hby d48_312) rfl rfl ?_
        by_cases hc314 : (bits + (8 : Int32)).toInt < 32
        · refine Ok.icY (pc' := 332) X90 hx (hb hby d48_314) (bt (ic_eq (bits + (8 : Int32)) (32 : Int32)).2.2.1 hc314) (by decide) (by decide) ?_
          refine Ok.goto (pc' := 48) X90 hx (hb hby d48_332) (by decide) (by decide) ?_
          have es : hstep (hh, acc, bits, nb) c3 = (hh, (acc ||| (c3.toInt64 <<< (bits &&& 0x3f).toInt64)), (bits + (8 : Int32)), (nb + ((8 : Int32) / (8 : Int32)))) := by unfold hstep; rw [if_pos (by omega)]; unfold hst; rw [if_pos hc314]
          rw [es] at hH
          exact kt4 T90 _ X90 eq90 N90 _ _ _ _ _ _ _ _ hH
        · refine Ok.icN (pc' := 317) X90 hx (hb hby d48_314) (bf (ic_eq (bits + (8 : Int32)) (32 : Int32)).2.2.1 hc314) rfl ?_
          refine Ok.iloadN (pc' := 318) X90 hx (hb hby d48_317) rfl rfl ?_
          refine Ok.lloadN (pc' := 319) X90 hx (hb hby d48_318) rfl rfl ?_
          refine Ok.l2i (pc' := 320) X90 hx (hb hby d48_319) rfl ?_
          refine Ok.callS (pc' := 323) (W := 0)  (argsL := [(.int hh), (.int (acc ||| (c3.toInt64 <<< (bits &&& 0x3f).toInt64)).toInt32)]) (rest := []) X90 hx hZ83 hown83 (rm4 l Z a0 hw hh (acc ||| (c3.toInt64 <<< (bits &&& 0x3f).toInt64)).toInt32 h83 n0 Z84 ) (hw _ (List.mem_of_getElem? (i := 135) rfl)) (hw _ (List.mem_of_getElem? (i := 136) rfl)) (hw _ (List.mem_of_getElem? (i := 92) rfl)) (hw _ (List.mem_of_getElem? (i := 137) rfl)) (by decide) eq90 (by decide) (by decide) (by decide) (by decide) (lenOf pd_23 rfl) rfl rfl (Nat.le_of_eq rfl) (by rw [hml]; rfl) (hb hby d48_320) rfl ?_
          intro v93 T93 L93 X93 hQ93
          obtain ⟨rfl, Nq93, eq93⟩ := hQ93
          have N93 := Fr.app N90 Nq93
          show Ok p e below _ _ T93 (mkF m 323 #[.val (.ref a1), .val (.int hh), .val (.int (4 : Int32)), .val (.long (acc ||| (c3.toInt64 <<< (bits &&& 0x3f).toInt64))), .second, .val (.int (bits + (8 : Int32))), .val (.int (nb + ((8 : Int32) / (8 : Int32)))), .val (.int c3), .val (.long c3.toInt64), .second, .val (.int (8 : Int32)), .val (.int (1 : Int32)), .unset] [(.int (wwv hh (acc ||| (c3.toInt64 <<< (bits &&& 0x3f).toInt64)).toInt32))])
          refine Ok.istoreN (l' := #[.val (.ref a1), .val (.int (wwv hh (acc ||| (c3.toInt64 <<< (bits &&& 0x3f).toInt64)).toInt32)), .val (.int (4 : Int32)), .val (.long (acc ||| (c3.toInt64 <<< (bits &&& 0x3f).toInt64))), .second, .val (.int (bits + (8 : Int32))), .val (.int (nb + ((8 : Int32) / (8 : Int32)))), .val (.int c3), .val (.long c3.toInt64), .second, .val (.int (8 : Int32)), .val (.int (1 : Int32)), .unset]) (pc' := 324) X93 hx (hb hby d48_323) rfl rfl ?_
          refine Ok.lloadN (pc' := 325) X93 hx (hb hby d48_324) rfl rfl ?_
          refine Ok.bipush (z := (32 : Int32)) (pc' := 327) X93 hx (hb hby d48_325) rfl rfl ?_
          refine Ok.lushr (pc' := 328) X93 hx (hb hby d48_327) rfl ?_
          refine Ok.lstoreN (l' := #[.val (.ref a1), .val (.int (wwv hh (acc ||| (c3.toInt64 <<< (bits &&& 0x3f).toInt64)).toInt32)), .val (.int (4 : Int32)), .val (.long (((acc ||| (c3.toInt64 <<< (bits &&& 0x3f).toInt64)).toUInt64 >>> ((32 : Int32) &&& 0x3f).toInt64.toUInt64).toInt64)), .second, .val (.int (bits + (8 : Int32))), .val (.int (nb + ((8 : Int32) / (8 : Int32)))), .val (.int c3), .val (.long c3.toInt64), .second, .val (.int (8 : Int32)), .val (.int (1 : Int32)), .unset]) (pc' := 329) X93 hx (hb hby d48_328) rfl rfl ?_
          refine Ok.iinc (z := ((bits + (8 : Int32)) + (-32 : Int32))) (l' := #[.val (.ref a1), .val (.int (wwv hh (acc ||| (c3.toInt64 <<< (bits &&& 0x3f).toInt64)).toInt32)), .val (.int (4 : Int32)), .val (.long (((acc ||| (c3.toInt64 <<< (bits &&& 0x3f).toInt64)).toUInt64 >>> ((32 : Int32) &&& 0x3f).toInt64.toUInt64).toInt64)), .second, .val (.int ((bits + (8 : Int32)) + (-32 : Int32))), .val (.int (nb + ((8 : Int32) / (8 : Int32)))), .val (.int c3), .val (.long c3.toInt64), .second, .val (.int (8 : Int32)), .val (.int (1 : Int32)), .unset]) (pc' := 332) X93 hx (hb hby d48_329) rfl rfl rfl rfl ?_
          refine Ok.goto (pc' := 48) X93 hx (hb hby d48_332) (by decide) (by decide) ?_
          have es : hstep (hh, acc, bits, nb) c3 = ((wwv hh (acc ||| (c3.toInt64 <<< (bits &&& 0x3f).toInt64)).toInt32), (((acc ||| (c3.toInt64 <<< (bits &&& 0x3f).toInt64)).toUInt64 >>> ((32 : Int32) &&& 0x3f).toInt64.toUInt64).toInt64), ((bits + (8 : Int32)) + (-32 : Int32)), (nb + ((8 : Int32) / (8 : Int32)))) := by unfold hstep; rw [if_pos (by omega)]; unfold hst; rw [if_neg hc314]
          rw [es] at hH
          exact kt4 T93 _ X93 eq93 N93 _ _ _ _ _ _ _ _ hH
    have kt2 : ∀ (Tj : State) (Lj : List Loc) (Xj : Stand p l e ({ frames := 5, cells := 2, slots := 20, locals := 71 } : Room) (s.setVm T83.vm) m #[(.ref a1)] below meth c Tj Lj 2 20) (ej : Tj.heap = h83) (Nj : Fr n0 Lj) (hh : Int32) (acc : Int64) (bits nb x7 : Int32) (x8 : Int64) (x10 x11 : Int32), hend (hstep (hstep (hh, acc, bits, nb) c2) c3) = hval c0 c1 c2 c3 → Ok p e below (WE s ({ frames := 5, cells := 2, slots := 20, locals := 71 } : Room).cells ({ frames := 5, cells := 2, slots := 20, locals := 71 } : Room).slots) (Q48 Z a1 r1 k1 c0 c1 c2 c3 cs0 gv h0 n0) Tj (mkF m 48 #[.val (.ref a1), .val (.int hh), .val (.int (2 : Int32)), .val (.long acc), .second, .val (.int bits), .val (.int nb), .val (.int x7), .val (.long x8), .second, .val (.int x10), .val (.int x11), .unset] []) := by
      intro Tj Lj Xj ej Nj hh acc bits nb x7 x8 x10 x11 hH
      refine Ok.iloadN (pc' := 49) Xj hx (hb hby d48_48) rfl rfl ?_
      refine Ok.aloadN (pc' := 50) Xj hx (hb hby d48_49) rfl rfl rfl ?_
      refine Ok.virt (pc' := 53) (W := 1) (a := a1)  (argsL := []) (rest := [(.int (2 : Int32))]) Xj hx hZ83 hown83 (rm20 l Z a0 hw a1 r1 k1 c0.toInt8.toInt32.toInt8.toInt32 c1.toInt8.toInt32.toInt8.toInt32 c2.toInt8.toInt32.toInt8.toInt32 c3.toInt8.toInt32.toInt8.toInt32 cs0 h83 n0 Z84 E_a1 Fv Fc V_1 O_0 S_cs hcs) (hw _ (List.mem_of_getElem? (i := 104) rfl)) (hw _ (List.mem_of_getElem? (i := 105) rfl)) (notFace_of_selects (args := #[]) (mvT (s := s.setVm _) hZ83 (hw _ (List.mem_of_getElem? (i := 107) rfl)))) (hw _ (List.mem_of_getElem? (i := 107) rfl)) (hw _ (List.mem_of_getElem? (i := 106) rfl)) (hw _ (List.mem_of_getElem? (i := 4) rfl)) (hw _ (List.mem_of_getElem? (i := 108) rfl)) (by decide) ej E_a1 (by decide) (by decide) (by decide) (by decide) (lenOf pd_16 rfl) rfl rfl (Nat.le_of_eq rfl) (by rw [hml]; rfl) (hb hby d48_50) rfl ?_
      intro v94 T94 L94 X94 hQ94
      obtain ⟨rfl, Nq94, eq94⟩ := hQ94
      have N94 := Fr.app Nj Nq94
      show Ok p e below _ _ T94 (mkF m 53 #[.val (.ref a1), .val (.int hh), .val (.int (2 : Int32)), .val (.long acc), .second, .val (.int bits), .val (.int nb), .val (.int x7), .val (.long x8), .second, .val (.int x10), .val (.int x11), .unset] [(.int (4 : Int32)), (.int (2 : Int32))])
      refine Ok.icN (pc' := 56) X94 hx (hb hby d48_53) (bf (ic_eq (2 : Int32) (4 : Int32)).2.2.2.1 (by decide)) rfl ?_
      refine Ok.aloadN (pc' := 57) X94 hx (hb hby d48_56) rfl rfl rfl ?_
      refine Ok.iloadN (pc' := 58) X94 hx (hb hby d48_57) rfl rfl ?_
      refine Ok.virt (pc' := 61) (W := 0) (a := a1)  (argsL := [(.int (2 : Int32))]) (rest := []) X94 hx hZ83 hown83 (rm35 l Z a0 hw a1 r1 k1 c0.toInt8.toInt32.toInt8.toInt32 c1.toInt8.toInt32.toInt8.toInt32 c2.toInt8.toInt32.toInt8.toInt32 c3.toInt8.toInt32.toInt8.toInt32 cs0 gv h83 n0 Z84 E_a1 Fv Fc V_1 O_0 S_cs hcs S_sf r_gv) (hw _ (List.mem_of_getElem? (i := 114) rfl)) (hw _ (List.mem_of_getElem? (i := 115) rfl)) (notFace_of_selects (args := #[]) (mvT (s := s.setVm _) hZ83 (hw _ (List.mem_of_getElem? (i := 117) rfl)))) (hw _ (List.mem_of_getElem? (i := 117) rfl)) (hw _ (List.mem_of_getElem? (i := 116) rfl)) (hw _ (List.mem_of_getElem? (i := 4) rfl)) (hw _ (List.mem_of_getElem? (i := 118) rfl)) (by decide) eq94 E_a1 (by decide) (by decide) (by decide) (by decide) (lenOf pd_18 rfl) rfl rfl (Nat.le_of_eq rfl) (by rw [hml]; rfl) (hb hby d48_58) rfl ?_
      intro v95 T95 L95 X95 hQ95
      obtain ⟨rfl, Nq95, eq95⟩ := hQ95
      have N95 := Fr.app N94 Nq95
      show Ok p e below _ _ T95 (mkF m 61 #[.val (.ref a1), .val (.int hh), .val (.int (2 : Int32)), .val (.long acc), .second, .val (.int bits), .val (.int nb), .val (.int x7), .val (.long x8), .second, .val (.int x10), .val (.int x11), .unset] [(.int (c2.toInt8.toInt32.toInt8.toInt32 &&& (255 : Int32)))])
      rw [byte_back hc2.1 hc2.2]
      refine Ok.istore (l' := #[.val (.ref a1), .val (.int hh), .val (.int (2 : Int32)), .val (.long acc), .second, .val (.int bits), .val (.int nb), .val (.int c2), .val (.long x8), .second, .val (.int x10), .val (.int x11), .unset]) (pc' := 63) X95 hx (hb hby d48_61) rfl rfl ?_
      refine Ok.iconst (z := (1 : Int32)) (pc' := 64) X95 hx (hb hby d48_63) rfl rfl ?_
      refine Ok.istore (l' := #[.val (.ref a1), .val (.int hh), .val (.int (2 : Int32)), .val (.long acc), .second, .val (.int bits), .val (.int nb), .val (.int c2), .val (.long x8), .second, .val (.int x10), .val (.int (1 : Int32)), .unset]) (pc' := 66) X95 hx (hb hby d48_64) rfl rfl ?_
      refine Ok.iload (pc' := 68) X95 hx (hb hby d48_66) rfl rfl ?_
      refine Ok.sipush (z := (128 : Int32)) (pc' := 71) X95 hx (hb hby d48_68) rfl rfl ?_
      by_cases hc71 : 128 ≤ c2.toInt
      · refine Ok.icY (pc' := 86) X95 hx (hb hby d48_71) (bt (ic_eq c2 (128 : Int32)).2.2.2.1 hc71) (by decide) (by decide) ?_
        refine Ok.iload (pc' := 88) X95 hx (hb hby d48_86) rfl rfl ?_
        refine Ok.sipush (z := (2048 : Int32)) (pc' := 91) X95 hx (hb hby d48_88) rfl rfl ?_
        by_cases hc91 : 2048 ≤ c2.toInt
        · refine Ok.icY (pc' := 122) X95 hx (hb hby d48_91) (bt (ic_eq c2 (2048 : Int32)).2.2.2.1 hc91) (by decide) (by decide) ?_
          exfalso; omega
        · refine Ok.icN (pc' := 94) X95 hx (hb hby d48_91) (bf (ic_eq c2 (2048 : Int32)).2.2.2.1 hc91) rfl ?_
          refine Ok.sipush (z := (192 : Int32)) (pc' := 97) X95 hx (hb hby d48_94) rfl rfl ?_
          refine Ok.iload (pc' := 99) X95 hx (hb hby d48_97) rfl rfl ?_
          refine Ok.bipush (z := (6 : Int32)) (pc' := 101) X95 hx (hb hby d48_99) rfl rfl ?_
          refine Ok.iushr (pc' := 102) X95 hx (hb hby d48_101) rfl ?_
          refine Ok.ior (pc' := 103) X95 hx (hb hby d48_102) rfl ?_
          refine Ok.iload (pc' := 105) X95 hx (hb hby d48_103) rfl rfl ?_
          refine Ok.callS (pc' := 108) (W := 1)  (argsL := [(.int c2)]) (rest := [(.int ((192 : Int32) ||| ((c2.toUInt32 >>> ((6 : Int32) &&& 31).toUInt32).toInt32)))]) X95 hx hZ83 hown83 (rm8 l Z a0 hw c2 h83 n0 Z84 ) (hw _ (List.mem_of_getElem? (i := 172) rfl)) (hw _ (List.mem_of_getElem? (i := 173) rfl)) (hw _ (List.mem_of_getElem? (i := 92) rfl)) (hw _ (List.mem_of_getElem? (i := 174) rfl)) (by decide) eq95 (by decide) (by decide) (by decide) (by decide) (lenOf pd_24 rfl) rfl rfl (Nat.le_of_eq rfl) (by rw [hml]; rfl) (hb hby d48_105) rfl ?_
          intro v96 T96 L96 X96 hQ96
          obtain ⟨rfl, Nq96, eq96⟩ := hQ96
          have N96 := Fr.app N95 Nq96
          show Ok p e below _ _ T96 (mkF m 108 #[.val (.ref a1), .val (.int hh), .val (.int (2 : Int32)), .val (.long acc), .second, .val (.int bits), .val (.int nb), .val (.int c2), .val (.long x8), .second, .val (.int x10), .val (.int (1 : Int32)), .unset] [(.int (cont c2)), (.int ((192 : Int32) ||| ((c2.toUInt32 >>> ((6 : Int32) &&& 31).toUInt32).toInt32)))])
          refine Ok.bipush (z := (8 : Int32)) (pc' := 110) X96 hx (hb hby d48_108) rfl rfl ?_
          refine Ok.ishl (pc' := 111) X96 hx (hb hby d48_110) rfl ?_
          refine Ok.ior (pc' := 112) X96 hx (hb hby d48_111) rfl ?_
          refine Ok.i2l (pc' := 113) X96 hx (hb hby d48_112) rfl ?_
          refine Ok.lstore (l' := #[.val (.ref a1), .val (.int hh), .val (.int (2 : Int32)), .val (.long acc), .second, .val (.int bits), .val (.int nb), .val (.int c2), .val (.long (((192 : Int32) ||| ((c2.toUInt32 >>> ((6 : Int32) &&& 31).toUInt32).toInt32)) ||| ((cont c2) <<< ((8 : Int32) &&& 31))).toInt64), .second, .val (.int x10), .val (.int (1 : Int32)), .unset]) (pc' := 115) X96 hx (hb hby d48_113) rfl rfl ?_
          refine Ok.bipush (z := (16 : Int32)) (pc' := 117) X96 hx (hb hby d48_115) rfl rfl ?_
          refine Ok.istore (l' := #[.val (.ref a1), .val (.int hh), .val (.int (2 : Int32)), .val (.long acc), .second, .val (.int bits), .val (.int nb), .val (.int c2), .val (.long (((192 : Int32) ||| ((c2.toUInt32 >>> ((6 : Int32) &&& 31).toUInt32).toInt32)) ||| ((cont c2) <<< ((8 : Int32) &&& 31))).toInt64), .second, .val (.int (16 : Int32)), .val (.int (1 : Int32)), .unset]) (pc' := 119) X96 hx (hb hby d48_117) rfl rfl ?_
          refine Ok.goto (pc' := 280) X96 hx (hb hby d48_119) (by decide) (by decide) ?_
          refine Ok.iloadN (pc' := 281) X96 hx (hb hby d48_280) rfl rfl ?_
          refine Ok.iload (pc' := 283) X96 hx (hb hby d48_281) rfl rfl ?_
          refine Ok.iadd (pc' := 284) X96 hx (hb hby d48_283) rfl ?_
          show Ok p e below _ _ T96 (mkF m 284 #[.val (.ref a1), .val (.int hh), .val (.int (2 : Int32)), .val (.long acc), .second, .val (.int bits), .val (.int nb), .val (.int c2), .val (.long (((192 : Int32) ||| ((c2.toUInt32 >>> ((6 : Int32) &&& 31).toUInt32).toInt32)) ||| ((cont c2) <<< ((8 : Int32) &&& 31))).toInt64), .second, .val (.int (16 : Int32)), .val (.int (1 : Int32)), .unset] [(.int (3 : Int32))])
          refine Ok.istoreN (l' := #[.val (.ref a1), .val (.int hh), .val (.int (3 : Int32)), .val (.long acc), .second, .val (.int bits), .val (.int nb), .val (.int c2), .val (.long (((192 : Int32) ||| ((c2.toUInt32 >>> ((6 : Int32) &&& 31).toUInt32).toInt32)) ||| ((cont c2) <<< ((8 : Int32) &&& 31))).toInt64), .second, .val (.int (16 : Int32)), .val (.int (1 : Int32)), .unset]) (pc' := 285) X96 hx (hb hby d48_284) rfl rfl ?_
          refine Ok.lloadN (pc' := 286) X96 hx (hb hby d48_285) rfl rfl ?_
          refine Ok.lload (pc' := 288) X96 hx (hb hby d48_286) rfl rfl ?_
          refine Ok.iload (pc' := 290) X96 hx (hb hby d48_288) rfl rfl ?_
          refine Ok.lshl (pc' := 291) X96 hx (hb hby d48_290) rfl ?_
          refine Ok.lor (pc' := 292) X96 hx (hb hby d48_291) rfl ?_
          refine Ok.lstoreN (l' := #[.val (.ref a1), .val (.int hh), .val (.int (3 : Int32)), .val (.long (acc ||| ((((192 : Int32) ||| ((c2.toUInt32 >>> ((6 : Int32) &&& 31).toUInt32).toInt32)) ||| ((cont c2) <<< ((8 : Int32) &&& 31))).toInt64 <<< (bits &&& 0x3f).toInt64))), .second, .val (.int bits), .val (.int nb), .val (.int c2), .val (.long (((192 : Int32) ||| ((c2.toUInt32 >>> ((6 : Int32) &&& 31).toUInt32).toInt32)) ||| ((cont c2) <<< ((8 : Int32) &&& 31))).toInt64), .second, .val (.int (16 : Int32)), .val (.int (1 : Int32)), .unset]) (pc' := 293) X96 hx (hb hby d48_292) rfl rfl ?_
          refine Ok.iload (pc' := 295) X96 hx (hb hby d48_293) rfl rfl ?_
          refine Ok.iload (pc' := 297) X96 hx (hb hby d48_295) rfl rfl ?_
          refine Ok.iadd (pc' := 298) X96 hx (hb hby d48_297) rfl ?_
          refine Ok.istore (l' := #[.val (.ref a1), .val (.int hh), .val (.int (3 : Int32)), .val (.long (acc ||| ((((192 : Int32) ||| ((c2.toUInt32 >>> ((6 : Int32) &&& 31).toUInt32).toInt32)) ||| ((cont c2) <<< ((8 : Int32) &&& 31))).toInt64 <<< (bits &&& 0x3f).toInt64))), .second, .val (.int (bits + (16 : Int32))), .val (.int nb), .val (.int c2), .val (.long (((192 : Int32) ||| ((c2.toUInt32 >>> ((6 : Int32) &&& 31).toUInt32).toInt32)) ||| ((cont c2) <<< ((8 : Int32) &&& 31))).toInt64), .second, .val (.int (16 : Int32)), .val (.int (1 : Int32)), .unset]) (pc' := 300) X96 hx (hb hby d48_298) rfl rfl ?_
          refine Ok.iload (pc' := 302) X96 hx (hb hby d48_300) rfl rfl ?_
          refine Ok.iload (pc' := 304) X96 hx (hb hby d48_302) rfl rfl ?_
          refine Ok.bipush (z := (8 : Int32)) (pc' := 306) X96 hx (hb hby d48_304) rfl rfl ?_
          refine Ok.idiv (pc' := 307) X96 hx (hb hby d48_306) rfl (by decide) ?_
          refine Ok.iadd (pc' := 308) X96 hx (hb hby d48_307) rfl ?_
          refine Ok.istore (l' := #[.val (.ref a1), .val (.int hh), .val (.int (3 : Int32)), .val (.long (acc ||| ((((192 : Int32) ||| ((c2.toUInt32 >>> ((6 : Int32) &&& 31).toUInt32).toInt32)) ||| ((cont c2) <<< ((8 : Int32) &&& 31))).toInt64 <<< (bits &&& 0x3f).toInt64))), .second, .val (.int (bits + (16 : Int32))), .val (.int (nb + ((16 : Int32) / (8 : Int32)))), .val (.int c2), .val (.long (((192 : Int32) ||| ((c2.toUInt32 >>> ((6 : Int32) &&& 31).toUInt32).toInt32)) ||| ((cont c2) <<< ((8 : Int32) &&& 31))).toInt64), .second, .val (.int (16 : Int32)), .val (.int (1 : Int32)), .unset]) (pc' := 310) X96 hx (hb hby d48_308) rfl rfl ?_
          refine Ok.iload (pc' := 312) X96 hx (hb hby d48_310) rfl rfl ?_
          refine Ok.bipush (z := (32 : Int32)) (pc' := 314) X96 hx (hb hby d48_312) rfl rfl ?_
          by_cases hc314 : (bits + (16 : Int32)).toInt < 32
          · refine Ok.icY (pc' := 332) X96 hx (hb hby d48_314) (bt (ic_eq (bits + (16 : Int32)) (32 : Int32)).2.2.1 hc314) (by decide) (by decide) ?_
            refine Ok.goto (pc' := 48) X96 hx (hb hby d48_332) (by decide) (by decide) ?_
            have es : hstep (hh, acc, bits, nb) c2 = (hh, (acc ||| ((((192 : Int32) ||| ((c2.toUInt32 >>> ((6 : Int32) &&& 31).toUInt32).toInt32)) ||| ((cont c2) <<< ((8 : Int32) &&& 31))).toInt64 <<< (bits &&& 0x3f).toInt64)), (bits + (16 : Int32)), (nb + ((16 : Int32) / (8 : Int32)))) := by unfold hstep; rw [if_neg (by omega)]; unfold hst; rw [if_pos hc314]
            rw [es] at hH
            exact kt3 T96 _ X96 eq96 N96 _ _ _ _ _ _ _ _ hH
          · refine Ok.icN (pc' := 317) X96 hx (hb hby d48_314) (bf (ic_eq (bits + (16 : Int32)) (32 : Int32)).2.2.1 hc314) rfl ?_
            refine Ok.iloadN (pc' := 318) X96 hx (hb hby d48_317) rfl rfl ?_
            refine Ok.lloadN (pc' := 319) X96 hx (hb hby d48_318) rfl rfl ?_
            refine Ok.l2i (pc' := 320) X96 hx (hb hby d48_319) rfl ?_
            refine Ok.callS (pc' := 323) (W := 0)  (argsL := [(.int hh), (.int (acc ||| ((((192 : Int32) ||| ((c2.toUInt32 >>> ((6 : Int32) &&& 31).toUInt32).toInt32)) ||| ((cont c2) <<< ((8 : Int32) &&& 31))).toInt64 <<< (bits &&& 0x3f).toInt64)).toInt32)]) (rest := []) X96 hx hZ83 hown83 (rm4 l Z a0 hw hh (acc ||| ((((192 : Int32) ||| ((c2.toUInt32 >>> ((6 : Int32) &&& 31).toUInt32).toInt32)) ||| ((cont c2) <<< ((8 : Int32) &&& 31))).toInt64 <<< (bits &&& 0x3f).toInt64)).toInt32 h83 n0 Z84 ) (hw _ (List.mem_of_getElem? (i := 135) rfl)) (hw _ (List.mem_of_getElem? (i := 136) rfl)) (hw _ (List.mem_of_getElem? (i := 92) rfl)) (hw _ (List.mem_of_getElem? (i := 137) rfl)) (by decide) eq96 (by decide) (by decide) (by decide) (by decide) (lenOf pd_23 rfl) rfl rfl (Nat.le_of_eq rfl) (by rw [hml]; rfl) (hb hby d48_320) rfl ?_
            intro v97 T97 L97 X97 hQ97
            obtain ⟨rfl, Nq97, eq97⟩ := hQ97
            have N97 := Fr.app N96 Nq97
            show Ok p e below _ _ T97 (mkF m 323 #[.val (.ref a1), .val (.int hh), .val (.int (3 : Int32)), .val (.long (acc ||| ((((192 : Int32) ||| ((c2.toUInt32 >>> ((6 : Int32) &&& 31).toUInt32).toInt32)) ||| ((cont c2) <<< ((8 : Int32) &&& 31))).toInt64 <<< (bits &&& 0x3f).toInt64))), .second, .val (.int (bits + (16 : Int32))), .val (.int (nb + ((16 : Int32) / (8 : Int32)))), .val (.int c2), .val (.long (((192 : Int32) ||| ((c2.toUInt32 >>> ((6 : Int32) &&& 31).toUInt32).toInt32)) ||| ((cont c2) <<< ((8 : Int32) &&& 31))).toInt64), .second, .val (.int (16 : Int32)), .val (.int (1 : Int32)), .unset] [(.int (wwv hh (acc ||| ((((192 : Int32) ||| ((c2.toUInt32 >>> ((6 : Int32) &&& 31).toUInt32).toInt32)) ||| ((cont c2) <<< ((8 : Int32) &&& 31))).toInt64 <<< (bits &&& 0x3f).toInt64)).toInt32))])
            refine Ok.istoreN (l' := #[.val (.ref a1), .val (.int (wwv hh (acc ||| ((((192 : Int32) ||| ((c2.toUInt32 >>> ((6 : Int32) &&& 31).toUInt32).toInt32)) ||| ((cont c2) <<< ((8 : Int32) &&& 31))).toInt64 <<< (bits &&& 0x3f).toInt64)).toInt32)), .val (.int (3 : Int32)), .val (.long (acc ||| ((((192 : Int32) ||| ((c2.toUInt32 >>> ((6 : Int32) &&& 31).toUInt32).toInt32)) ||| ((cont c2) <<< ((8 : Int32) &&& 31))).toInt64 <<< (bits &&& 0x3f).toInt64))), .second, .val (.int (bits + (16 : Int32))), .val (.int (nb + ((16 : Int32) / (8 : Int32)))), .val (.int c2), .val (.long (((192 : Int32) ||| ((c2.toUInt32 >>> ((6 : Int32) &&& 31).toUInt32).toInt32)) ||| ((cont c2) <<< ((8 : Int32) &&& 31))).toInt64), .second, .val (.int (16 : Int32)), .val (.int (1 : Int32)), .unset]) (pc' := 324) X97 hx (hb hby d48_323) rfl rfl ?_
            refine Ok.lloadN (pc' := 325) X97 hx (hb hby d48_324) rfl rfl ?_
            refine Ok.bipush (z := (32 : Int32)) (pc' := 327) X97 hx (hb hby d48_325) rfl rfl ?_
            refine Ok.lushr (pc' := 328) X97 hx (hb hby d48_327) rfl ?_
            refine Ok.lstoreN (l' := #[.val (.ref a1), .val (.int (wwv hh (acc ||| ((((192 : Int32) ||| ((c2.toUInt32 >>> ((6 : Int32) &&& 31).toUInt32).toInt32)) ||| ((cont c2) <<< ((8 : Int32) &&& 31))).toInt64 <<< (bits &&& 0x3f).toInt64)).toInt32)), .val (.int (3 : Int32)), .val (.long (((acc ||| ((((192 : Int32) ||| ((c2.toUInt32 >>> ((6 : Int32) &&& 31).toUInt32).toInt32)) ||| ((cont c2) <<< ((8 : Int32) &&& 31))).toInt64 <<< (bits &&& 0x3f).toInt64)).toUInt64 >>> ((32 : Int32) &&& 0x3f).toInt64.toUInt64).toInt64)), .second, .val (.int (bits + (16 : Int32))), .val (.int (nb + ((16 : Int32) / (8 : Int32)))), .val (.int c2), .val (.long (((192 : Int32) ||| ((c2.toUInt32 >>> ((6 : Int32) &&& 31).toUInt32).toInt32)) ||| ((cont c2) <<< ((8 : Int32) &&& 31))).toInt64), .second, .val (.int (16 : Int32)), .val (.int (1 : Int32)), .unset]) (pc' := 329) X97 hx (hb hby d48_328) rfl rfl ?_
            refine Ok.iinc (z := ((bits + (16 : Int32)) + (-32 : Int32))) (l' := #[.val (.ref a1), .val (.int (wwv hh (acc ||| ((((192 : Int32) ||| ((c2.toUInt32 >>> ((6 : Int32) &&& 31).toUInt32).toInt32)) ||| ((cont c2) <<< ((8 : Int32) &&& 31))).toInt64 <<< (bits &&& 0x3f).toInt64)).toInt32)), .val (.int (3 : Int32)), .val (.long (((acc ||| ((((192 : Int32) ||| ((c2.toUInt32 >>> ((6 : Int32) &&& 31).toUInt32).toInt32)) ||| ((cont c2) <<< ((8 : Int32) &&& 31))).toInt64 <<< (bits &&& 0x3f).toInt64)).toUInt64 >>> ((32 : Int32) &&& 0x3f).toInt64.toUInt64).toInt64)), .second, .val (.int ((bits + (16 : Int32)) + (-32 : Int32))), .val (.int (nb + ((16 : Int32) / (8 : Int32)))), .val (.int c2), .val (.long (((192 : Int32) ||| ((c2.toUInt32 >>> ((6 : Int32) &&& 31).toUInt32).toInt32)) ||| ((cont c2) <<< ((8 : Int32) &&& 31))).toInt64), .second, .val (.int (16 : Int32)), .val (.int (1 : Int32)), .unset]) (pc' := 332) X97 hx (hb hby d48_329) rfl rfl rfl rfl ?_
            refine Ok.goto (pc' := 48) X97 hx (hb hby d48_332) (by decide) (by decide) ?_
            have es : hstep (hh, acc, bits, nb) c2 = ((wwv hh (acc ||| ((((192 : Int32) ||| ((c2.toUInt32 >>> ((6 : Int32) &&& 31).toUInt32).toInt32)) ||| ((cont c2) <<< ((8 : Int32) &&& 31))).toInt64 <<< (bits &&& 0x3f).toInt64)).toInt32), (((acc ||| ((((192 : Int32) ||| ((c2.toUInt32 >>> ((6 : Int32) &&& 31).toUInt32).toInt32)) ||| ((cont c2) <<< ((8 : Int32) &&& 31))).toInt64 <<< (bits &&& 0x3f).toInt64)).toUInt64 >>> ((32 : Int32) &&& 0x3f).toInt64.toUInt64).toInt64), ((bits + (16 : Int32)) + (-32 : Int32)), (nb + ((16 : Int32) / (8 : Int32)))) := by unfold hstep; rw [if_neg (by omega)]; unfold hst; rw [if_neg hc314]
            rw [es] at hH
            exact kt3 T97 _ X97 eq97 N97 _ _ _ _ _ _ _ _ hH
      · refine Ok.icN (pc' := 74) X95 hx (hb hby d48_71) (bf (ic_eq c2 (128 : Int32)).2.2.2.1 hc71) rfl ?_
        refine Ok.iload (pc' := 76) X95 hx (hb hby d48_74) rfl rfl ?_
        refine Ok.i2l (pc' := 77) X95 hx (hb hby d48_76) rfl ?_
        refine Ok.lstore (l' := #[.val (.ref a1), .val (.int hh), .val (.int (2 : Int32)), .val (.long acc), .second, .val (.int bits), .val (.int nb), .val (.int c2), .val (.long c2.toInt64), .second, .val (.int x10), .val (.int (1 : Int32)), .unset]) (pc' := 79) X95 hx (hb hby d48_77) rfl rfl ?_
        refine Ok.bipush (z := (8 : Int32)) (pc' := 81) X95 hx (hb hby d48_79) rfl rfl ?_
        refine Ok.istore (l' := #[.val (.ref a1), .val (.int hh), .val (.int (2 : Int32)), .val (.long acc), .second, .val (.int bits), .val (.int nb), .val (.int c2), .val (.long c2.toInt64), .second, .val (.int (8 : Int32)), .val (.int (1 : Int32)), .unset]) (pc' := 83) X95 hx (hb hby d48_81) rfl rfl ?_
        refine Ok.goto (pc' := 280) X95 hx (hb hby d48_83) (by decide) (by decide) ?_
        refine Ok.iloadN (pc' := 281) X95 hx (hb hby d48_280) rfl rfl ?_
        refine Ok.iload (pc' := 283) X95 hx (hb hby d48_281) rfl rfl ?_
        refine Ok.iadd (pc' := 284) X95 hx (hb hby d48_283) rfl ?_
        show Ok p e below _ _ T95 (mkF m 284 #[.val (.ref a1), .val (.int hh), .val (.int (2 : Int32)), .val (.long acc), .second, .val (.int bits), .val (.int nb), .val (.int c2), .val (.long c2.toInt64), .second, .val (.int (8 : Int32)), .val (.int (1 : Int32)), .unset] [(.int (3 : Int32))])
        refine Ok.istoreN (l' := #[.val (.ref a1), .val (.int hh), .val (.int (3 : Int32)), .val (.long acc), .second, .val (.int bits), .val (.int nb), .val (.int c2), .val (.long c2.toInt64), .second, .val (.int (8 : Int32)), .val (.int (1 : Int32)), .unset]) (pc' := 285) X95 hx (hb hby d48_284) rfl rfl ?_
        refine Ok.lloadN (pc' := 286) X95 hx (hb hby d48_285) rfl rfl ?_
        refine Ok.lload (pc' := 288) X95 hx (hb hby d48_286) rfl rfl ?_
        refine Ok.iload (pc' := 290) X95 hx (hb hby d48_288) rfl rfl ?_
        refine Ok.lshl (pc' := 291) X95 hx (hb hby d48_290) rfl ?_
        refine Ok.lor (pc' := 292) X95 hx (hb hby d48_291) rfl ?_
        refine Ok.lstoreN (l' := #[.val (.ref a1), .val (.int hh), .val (.int (3 : Int32)), .val (.long (acc ||| (c2.toInt64 <<< (bits &&& 0x3f).toInt64))), .second, .val (.int bits), .val (.int nb), .val (.int c2), .val (.long c2.toInt64), .second, .val (.int (8 : Int32)), .val (.int (1 : Int32)), .unset]) (pc' := 293) X95 hx (hb hby d48_292) rfl rfl ?_
        refine Ok.iload (pc' := 295) X95 hx (hb hby d48_293) rfl rfl ?_
        refine Ok.iload (pc' := 297) X95 hx (hb hby d48_295) rfl rfl ?_
        refine Ok.iadd (pc' := 298) X95 hx (hb hby d48_297) rfl ?_
        refine Ok.istore (l' := #[.val (.ref a1), .val (.int hh), .val (.int (3 : Int32)), .val (.long (acc ||| (c2.toInt64 <<< (bits &&& 0x3f).toInt64))), .second, .val (.int (bits + (8 : Int32))), .val (.int nb), .val (.int c2), .val (.long c2.toInt64), .second, .val (.int (8 : Int32)), .val (.int (1 : Int32)), .unset]) (pc' := 300) X95 hx (hb hby d48_298) rfl rfl ?_
        refine Ok.iload (pc' := 302) X95 hx (hb hby d48_300) rfl rfl ?_
        refine Ok.iload (pc' := 304) X95 hx (hb hby d48_302) rfl rfl ?_
        refine Ok.bipush (z := (8 : Int32)) (pc' := 306) X95 hx (hb hby d48_304) rfl rfl ?_
        refine Ok.idiv (pc' := 307) X95 hx (hb hby d48_306) rfl (by decide) ?_
        refine Ok.iadd (pc' := 308) X95 hx (hb hby d48_307) rfl ?_
        refine Ok.istore (l' := #[.val (.ref a1), .val (.int hh), .val (.int (3 : Int32)), .val (.long (acc ||| (c2.toInt64 <<< (bits &&& 0x3f).toInt64))), .second, .val (.int (bits + (8 : Int32))), .val (.int (nb + ((8 : Int32) / (8 : Int32)))), .val (.int c2), .val (.long c2.toInt64), .second, .val (.int (8 : Int32)), .val (.int (1 : Int32)), .unset]) (pc' := 310) X95 hx (hb hby d48_308) rfl rfl ?_
        refine Ok.iload (pc' := 312) X95 hx (hb hby d48_310) rfl rfl ?_
        refine Ok.bipush (z := (32 : Int32)) (pc' := 314) X95 hx (hb hby d48_312) rfl rfl ?_
        by_cases hc314 : (bits + (8 : Int32)).toInt < 32
        · refine Ok.icY (pc' := 332) X95 hx (hb hby d48_314) (bt (ic_eq (bits + (8 : Int32)) (32 : Int32)).2.2.1 hc314) (by decide) (by decide) ?_
          refine Ok.goto (pc' := 48) X95 hx (hb hby d48_332) (by decide) (by decide) ?_
          have es : hstep (hh, acc, bits, nb) c2 = (hh, (acc ||| (c2.toInt64 <<< (bits &&& 0x3f).toInt64)), (bits + (8 : Int32)), (nb + ((8 : Int32) / (8 : Int32)))) := by unfold hstep; rw [if_pos (by omega)]; unfold hst; rw [if_pos hc314]
          rw [es] at hH
          exact kt3 T95 _ X95 eq95 N95 _ _ _ _ _ _ _ _ hH
        · refine Ok.icN (pc' := 317) X95 hx (hb hby d48_314) (bf (ic_eq (bits + (8 : Int32)) (32 : Int32)).2.2.1 hc314) rfl ?_
          refine Ok.iloadN (pc' := 318) X95 hx (hb hby d48_317) rfl rfl ?_
          refine Ok.lloadN (pc' := 319) X95 hx (hb hby d48_318) rfl rfl ?_
          refine Ok.l2i (pc' := 320) X95 hx (hb hby d48_319) rfl ?_
          refine Ok.callS (pc' := 323) (W := 0)  (argsL := [(.int hh), (.int (acc ||| (c2.toInt64 <<< (bits &&& 0x3f).toInt64)).toInt32)]) (rest := []) X95 hx hZ83 hown83 (rm4 l Z a0 hw hh (acc ||| (c2.toInt64 <<< (bits &&& 0x3f).toInt64)).toInt32 h83 n0 Z84 ) (hw _ (List.mem_of_getElem? (i := 135) rfl)) (hw _ (List.mem_of_getElem? (i := 136) rfl)) (hw _ (List.mem_of_getElem? (i := 92) rfl)) (hw _ (List.mem_of_getElem? (i := 137) rfl)) (by decide) eq95 (by decide) (by decide) (by decide) (by decide) (lenOf pd_23 rfl) rfl rfl (Nat.le_of_eq rfl) (by rw [hml]; rfl) (hb hby d48_320) rfl ?_
          intro v98 T98 L98 X98 hQ98
          obtain ⟨rfl, Nq98, eq98⟩ := hQ98
          have N98 := Fr.app N95 Nq98
          show Ok p e below _ _ T98 (mkF m 323 #[.val (.ref a1), .val (.int hh), .val (.int (3 : Int32)), .val (.long (acc ||| (c2.toInt64 <<< (bits &&& 0x3f).toInt64))), .second, .val (.int (bits + (8 : Int32))), .val (.int (nb + ((8 : Int32) / (8 : Int32)))), .val (.int c2), .val (.long c2.toInt64), .second, .val (.int (8 : Int32)), .val (.int (1 : Int32)), .unset] [(.int (wwv hh (acc ||| (c2.toInt64 <<< (bits &&& 0x3f).toInt64)).toInt32))])
          refine Ok.istoreN (l' := #[.val (.ref a1), .val (.int (wwv hh (acc ||| (c2.toInt64 <<< (bits &&& 0x3f).toInt64)).toInt32)), .val (.int (3 : Int32)), .val (.long (acc ||| (c2.toInt64 <<< (bits &&& 0x3f).toInt64))), .second, .val (.int (bits + (8 : Int32))), .val (.int (nb + ((8 : Int32) / (8 : Int32)))), .val (.int c2), .val (.long c2.toInt64), .second, .val (.int (8 : Int32)), .val (.int (1 : Int32)), .unset]) (pc' := 324) X98 hx (hb hby d48_323) rfl rfl ?_
          refine Ok.lloadN (pc' := 325) X98 hx (hb hby d48_324) rfl rfl ?_
          refine Ok.bipush (z := (32 : Int32)) (pc' := 327) X98 hx (hb hby d48_325) rfl rfl ?_
          refine Ok.lushr (pc' := 328) X98 hx (hb hby d48_327) rfl ?_
          refine Ok.lstoreN (l' := #[.val (.ref a1), .val (.int (wwv hh (acc ||| (c2.toInt64 <<< (bits &&& 0x3f).toInt64)).toInt32)), .val (.int (3 : Int32)), .val (.long (((acc ||| (c2.toInt64 <<< (bits &&& 0x3f).toInt64)).toUInt64 >>> ((32 : Int32) &&& 0x3f).toInt64.toUInt64).toInt64)), .second, .val (.int (bits + (8 : Int32))), .val (.int (nb + ((8 : Int32) / (8 : Int32)))), .val (.int c2), .val (.long c2.toInt64), .second, .val (.int (8 : Int32)), .val (.int (1 : Int32)), .unset]) (pc' := 329) X98 hx (hb hby d48_328) rfl rfl ?_
          refine Ok.iinc (z := ((bits + (8 : Int32)) + (-32 : Int32))) (l' := #[.val (.ref a1), .val (.int (wwv hh (acc ||| (c2.toInt64 <<< (bits &&& 0x3f).toInt64)).toInt32)), .val (.int (3 : Int32)), .val (.long (((acc ||| (c2.toInt64 <<< (bits &&& 0x3f).toInt64)).toUInt64 >>> ((32 : Int32) &&& 0x3f).toInt64.toUInt64).toInt64)), .second, .val (.int ((bits + (8 : Int32)) + (-32 : Int32))), .val (.int (nb + ((8 : Int32) / (8 : Int32)))), .val (.int c2), .val (.long c2.toInt64), .second, .val (.int (8 : Int32)), .val (.int (1 : Int32)), .unset]) (pc' := 332) X98 hx (hb hby d48_329) rfl rfl rfl rfl ?_
          refine Ok.goto (pc' := 48) X98 hx (hb hby d48_332) (by decide) (by decide) ?_
          have es : hstep (hh, acc, bits, nb) c2 = ((wwv hh (acc ||| (c2.toInt64 <<< (bits &&& 0x3f).toInt64)).toInt32), (((acc ||| (c2.toInt64 <<< (bits &&& 0x3f).toInt64)).toUInt64 >>> ((32 : Int32) &&& 0x3f).toInt64.toUInt64).toInt64), ((bits + (8 : Int32)) + (-32 : Int32)), (nb + ((8 : Int32) / (8 : Int32)))) := by unfold hstep; rw [if_pos (by omega)]; unfold hst; rw [if_neg hc314]
          rw [es] at hH
          exact kt3 T98 _ X98 eq98 N98 _ _ _ _ _ _ _ _ hH
    have kt1 : ∀ (Tj : State) (Lj : List Loc) (Xj : Stand p l e ({ frames := 5, cells := 2, slots := 20, locals := 71 } : Room) (s.setVm T83.vm) m #[(.ref a1)] below meth c Tj Lj 2 20) (ej : Tj.heap = h83) (Nj : Fr n0 Lj) (hh : Int32) (acc : Int64) (bits nb x7 : Int32) (x8 : Int64) (x10 x11 : Int32), hend (hstep (hstep (hstep (hh, acc, bits, nb) c1) c2) c3) = hval c0 c1 c2 c3 → Ok p e below (WE s ({ frames := 5, cells := 2, slots := 20, locals := 71 } : Room).cells ({ frames := 5, cells := 2, slots := 20, locals := 71 } : Room).slots) (Q48 Z a1 r1 k1 c0 c1 c2 c3 cs0 gv h0 n0) Tj (mkF m 48 #[.val (.ref a1), .val (.int hh), .val (.int (1 : Int32)), .val (.long acc), .second, .val (.int bits), .val (.int nb), .val (.int x7), .val (.long x8), .second, .val (.int x10), .val (.int x11), .unset] []) := by
      intro Tj Lj Xj ej Nj hh acc bits nb x7 x8 x10 x11 hH
      refine Ok.iloadN (pc' := 49) Xj hx (hb hby d48_48) rfl rfl ?_
      refine Ok.aloadN (pc' := 50) Xj hx (hb hby d48_49) rfl rfl rfl ?_
      refine Ok.virt (pc' := 53) (W := 1) (a := a1)  (argsL := []) (rest := [(.int (1 : Int32))]) Xj hx hZ83 hown83 (rm20 l Z a0 hw a1 r1 k1 c0.toInt8.toInt32.toInt8.toInt32 c1.toInt8.toInt32.toInt8.toInt32 c2.toInt8.toInt32.toInt8.toInt32 c3.toInt8.toInt32.toInt8.toInt32 cs0 h83 n0 Z84 E_a1 Fv Fc V_1 O_0 S_cs hcs) (hw _ (List.mem_of_getElem? (i := 104) rfl)) (hw _ (List.mem_of_getElem? (i := 105) rfl)) (notFace_of_selects (args := #[]) (mvT (s := s.setVm _) hZ83 (hw _ (List.mem_of_getElem? (i := 107) rfl)))) (hw _ (List.mem_of_getElem? (i := 107) rfl)) (hw _ (List.mem_of_getElem? (i := 106) rfl)) (hw _ (List.mem_of_getElem? (i := 4) rfl)) (hw _ (List.mem_of_getElem? (i := 108) rfl)) (by decide) ej E_a1 (by decide) (by decide) (by decide) (by decide) (lenOf pd_16 rfl) rfl rfl (Nat.le_of_eq rfl) (by rw [hml]; rfl) (hb hby d48_50) rfl ?_
      intro v99 T99 L99 X99 hQ99
      obtain ⟨rfl, Nq99, eq99⟩ := hQ99
      have N99 := Fr.app Nj Nq99
      show Ok p e below _ _ T99 (mkF m 53 #[.val (.ref a1), .val (.int hh), .val (.int (1 : Int32)), .val (.long acc), .second, .val (.int bits), .val (.int nb), .val (.int x7), .val (.long x8), .second, .val (.int x10), .val (.int x11), .unset] [(.int (4 : Int32)), (.int (1 : Int32))])
      refine Ok.icN (pc' := 56) X99 hx (hb hby d48_53) (bf (ic_eq (1 : Int32) (4 : Int32)).2.2.2.1 (by decide)) rfl ?_
      refine Ok.aloadN (pc' := 57) X99 hx (hb hby d48_56) rfl rfl rfl ?_
      refine Ok.iloadN (pc' := 58) X99 hx (hb hby d48_57) rfl rfl ?_
      refine Ok.virt (pc' := 61) (W := 0) (a := a1)  (argsL := [(.int (1 : Int32))]) (rest := []) X99 hx hZ83 hown83 (rm30 l Z a0 hw a1 r1 k1 c0.toInt8.toInt32.toInt8.toInt32 c1.toInt8.toInt32.toInt8.toInt32 c2.toInt8.toInt32.toInt8.toInt32 c3.toInt8.toInt32.toInt8.toInt32 cs0 gv h83 n0 Z84 E_a1 Fv Fc V_1 O_0 S_cs hcs S_sf r_gv) (hw _ (List.mem_of_getElem? (i := 114) rfl)) (hw _ (List.mem_of_getElem? (i := 115) rfl)) (notFace_of_selects (args := #[]) (mvT (s := s.setVm _) hZ83 (hw _ (List.mem_of_getElem? (i := 117) rfl)))) (hw _ (List.mem_of_getElem? (i := 117) rfl)) (hw _ (List.mem_of_getElem? (i := 116) rfl)) (hw _ (List.mem_of_getElem? (i := 4) rfl)) (hw _ (List.mem_of_getElem? (i := 118) rfl)) (by decide) eq99 E_a1 (by decide) (by decide) (by decide) (by decide) (lenOf pd_18 rfl) rfl rfl (Nat.le_of_eq rfl) (by rw [hml]; rfl) (hb hby d48_58) rfl ?_
      intro v100 T100 L100 X100 hQ100
      obtain ⟨rfl, Nq100, eq100⟩ := hQ100
      have N100 := Fr.app N99 Nq100
      show Ok p e below _ _ T100 (mkF m 61 #[.val (.ref a1), .val (.int hh), .val (.int (1 : Int32)), .val (.long acc), .second, .val (.int bits), .val (.int nb), .val (.int x7), .val (.long x8), .second, .val (.int x10), .val (.int x11), .unset] [(.int (c1.toInt8.toInt32.toInt8.toInt32 &&& (255 : Int32)))])
      rw [byte_back hc1.1 hc1.2]
      refine Ok.istore (l' := #[.val (.ref a1), .val (.int hh), .val (.int (1 : Int32)), .val (.long acc), .second, .val (.int bits), .val (.int nb), .val (.int c1), .val (.long x8), .second, .val (.int x10), .val (.int x11), .unset]) (pc' := 63) X100 hx (hb hby d48_61) rfl rfl ?_
      refine Ok.iconst (z := (1 : Int32)) (pc' := 64) X100 hx (hb hby d48_63) rfl rfl ?_
      refine Ok.istore (l' := #[.val (.ref a1), .val (.int hh), .val (.int (1 : Int32)), .val (.long acc), .second, .val (.int bits), .val (.int nb), .val (.int c1), .val (.long x8), .second, .val (.int x10), .val (.int (1 : Int32)), .unset]) (pc' := 66) X100 hx (hb hby d48_64) rfl rfl ?_
      refine Ok.iload (pc' := 68) X100 hx (hb hby d48_66) rfl rfl ?_
      refine Ok.sipush (z := (128 : Int32)) (pc' := 71) X100 hx (hb hby d48_68) rfl rfl ?_
      by_cases hc71 : 128 ≤ c1.toInt
      · refine Ok.icY (pc' := 86) X100 hx (hb hby d48_71) (bt (ic_eq c1 (128 : Int32)).2.2.2.1 hc71) (by decide) (by decide) ?_
        refine Ok.iload (pc' := 88) X100 hx (hb hby d48_86) rfl rfl ?_
        refine Ok.sipush (z := (2048 : Int32)) (pc' := 91) X100 hx (hb hby d48_88) rfl rfl ?_
        by_cases hc91 : 2048 ≤ c1.toInt
        · refine Ok.icY (pc' := 122) X100 hx (hb hby d48_91) (bt (ic_eq c1 (2048 : Int32)).2.2.2.1 hc91) (by decide) (by decide) ?_
          exfalso; omega
        · refine Ok.icN (pc' := 94) X100 hx (hb hby d48_91) (bf (ic_eq c1 (2048 : Int32)).2.2.2.1 hc91) rfl ?_
          refine Ok.sipush (z := (192 : Int32)) (pc' := 97) X100 hx (hb hby d48_94) rfl rfl ?_
          refine Ok.iload (pc' := 99) X100 hx (hb hby d48_97) rfl rfl ?_
          refine Ok.bipush (z := (6 : Int32)) (pc' := 101) X100 hx (hb hby d48_99) rfl rfl ?_
          refine Ok.iushr (pc' := 102) X100 hx (hb hby d48_101) rfl ?_
          refine Ok.ior (pc' := 103) X100 hx (hb hby d48_102) rfl ?_
          refine Ok.iload (pc' := 105) X100 hx (hb hby d48_103) rfl rfl ?_
          refine Ok.callS (pc' := 108) (W := 1)  (argsL := [(.int c1)]) (rest := [(.int ((192 : Int32) ||| ((c1.toUInt32 >>> ((6 : Int32) &&& 31).toUInt32).toInt32)))]) X100 hx hZ83 hown83 (rm8 l Z a0 hw c1 h83 n0 Z84 ) (hw _ (List.mem_of_getElem? (i := 172) rfl)) (hw _ (List.mem_of_getElem? (i := 173) rfl)) (hw _ (List.mem_of_getElem? (i := 92) rfl)) (hw _ (List.mem_of_getElem? (i := 174) rfl)) (by decide) eq100 (by decide) (by decide) (by decide) (by decide) (lenOf pd_24 rfl) rfl rfl (Nat.le_of_eq rfl) (by rw [hml]; rfl) (hb hby d48_105) rfl ?_
          intro v101 T101 L101 X101 hQ101
          obtain ⟨rfl, Nq101, eq101⟩ := hQ101
          have N101 := Fr.app N100 Nq101
          show Ok p e below _ _ T101 (mkF m 108 #[.val (.ref a1), .val (.int hh), .val (.int (1 : Int32)), .val (.long acc), .second, .val (.int bits), .val (.int nb), .val (.int c1), .val (.long x8), .second, .val (.int x10), .val (.int (1 : Int32)), .unset] [(.int (cont c1)), (.int ((192 : Int32) ||| ((c1.toUInt32 >>> ((6 : Int32) &&& 31).toUInt32).toInt32)))])
          refine Ok.bipush (z := (8 : Int32)) (pc' := 110) X101 hx (hb hby d48_108) rfl rfl ?_
          refine Ok.ishl (pc' := 111) X101 hx (hb hby d48_110) rfl ?_
          refine Ok.ior (pc' := 112) X101 hx (hb hby d48_111) rfl ?_
          refine Ok.i2l (pc' := 113) X101 hx (hb hby d48_112) rfl ?_
          refine Ok.lstore (l' := #[.val (.ref a1), .val (.int hh), .val (.int (1 : Int32)), .val (.long acc), .second, .val (.int bits), .val (.int nb), .val (.int c1), .val (.long (((192 : Int32) ||| ((c1.toUInt32 >>> ((6 : Int32) &&& 31).toUInt32).toInt32)) ||| ((cont c1) <<< ((8 : Int32) &&& 31))).toInt64), .second, .val (.int x10), .val (.int (1 : Int32)), .unset]) (pc' := 115) X101 hx (hb hby d48_113) rfl rfl ?_
          refine Ok.bipush (z := (16 : Int32)) (pc' := 117) X101 hx (hb hby d48_115) rfl rfl ?_
          refine Ok.istore (l' := #[.val (.ref a1), .val (.int hh), .val (.int (1 : Int32)), .val (.long acc), .second, .val (.int bits), .val (.int nb), .val (.int c1), .val (.long (((192 : Int32) ||| ((c1.toUInt32 >>> ((6 : Int32) &&& 31).toUInt32).toInt32)) ||| ((cont c1) <<< ((8 : Int32) &&& 31))).toInt64), .second, .val (.int (16 : Int32)), .val (.int (1 : Int32)), .unset]) (pc' := 119) X101 hx (hb hby d48_117) rfl rfl ?_
          refine Ok.goto (pc' := 280) X101 hx (hb hby d48_119) (by decide) (by decide) ?_
          refine Ok.iloadN (pc' := 281) X101 hx (hb hby d48_280) rfl rfl ?_
          refine Ok.iload (pc' := 283) X101 hx (hb hby d48_281) rfl rfl ?_
          refine Ok.iadd (pc' := 284) X101 hx (hb hby d48_283) rfl ?_
          show Ok p e below _ _ T101 (mkF m 284 #[.val (.ref a1), .val (.int hh), .val (.int (1 : Int32)), .val (.long acc), .second, .val (.int bits), .val (.int nb), .val (.int c1), .val (.long (((192 : Int32) ||| ((c1.toUInt32 >>> ((6 : Int32) &&& 31).toUInt32).toInt32)) ||| ((cont c1) <<< ((8 : Int32) &&& 31))).toInt64), .second, .val (.int (16 : Int32)), .val (.int (1 : Int32)), .unset] [(.int (2 : Int32))])
          refine Ok.istoreN (l' := #[.val (.ref a1), .val (.int hh), .val (.int (2 : Int32)), .val (.long acc), .second, .val (.int bits), .val (.int nb), .val (.int c1), .val (.long (((192 : Int32) ||| ((c1.toUInt32 >>> ((6 : Int32) &&& 31).toUInt32).toInt32)) ||| ((cont c1) <<< ((8 : Int32) &&& 31))).toInt64), .second, .val (.int (16 : Int32)), .val (.int (1 : Int32)), .unset]) (pc' := 285) X101 hx (hb hby d48_284) rfl rfl ?_
          refine Ok.lloadN (pc' := 286) X101 hx (hb hby d48_285) rfl rfl ?_
          refine Ok.lload (pc' := 288) X101 hx (hb hby d48_286) rfl rfl ?_
          refine Ok.iload (pc' := 290) X101 hx (hb hby d48_288) rfl rfl ?_
          refine Ok.lshl (pc' := 291) X101 hx (hb hby d48_290) rfl ?_
          refine Ok.lor (pc' := 292) X101 hx (hb hby d48_291) rfl ?_
          refine Ok.lstoreN (l' := #[.val (.ref a1), .val (.int hh), .val (.int (2 : Int32)), .val (.long (acc ||| ((((192 : Int32) ||| ((c1.toUInt32 >>> ((6 : Int32) &&& 31).toUInt32).toInt32)) ||| ((cont c1) <<< ((8 : Int32) &&& 31))).toInt64 <<< (bits &&& 0x3f).toInt64))), .second, .val (.int bits), .val (.int nb), .val (.int c1), .val (.long (((192 : Int32) ||| ((c1.toUInt32 >>> ((6 : Int32) &&& 31).toUInt32).toInt32)) ||| ((cont c1) <<< ((8 : Int32) &&& 31))).toInt64), .second, .val (.int (16 : Int32)), .val (.int (1 : Int32)), .unset]) (pc' := 293) X101 hx (hb hby d48_292) rfl rfl ?_
          refine Ok.iload (pc' := 295) X101 hx (hb hby d48_293) rfl rfl ?_
          refine Ok.iload (pc' := 297) X101 hx (hb hby d48_295) rfl rfl ?_
          refine Ok.iadd (pc' := 298) X101 hx (hb hby d48_297) rfl ?_
          refine Ok.istore (l' := #[.val (.ref a1), .val (.int hh), .val (.int (2 : Int32)), .val (.long (acc ||| ((((192 : Int32) ||| ((c1.toUInt32 >>> ((6 : Int32) &&& 31).toUInt32).toInt32)) ||| ((cont c1) <<< ((8 : Int32) &&& 31))).toInt64 <<< (bits &&& 0x3f).toInt64))), .second, .val (.int (bits + (16 : Int32))), .val (.int nb), .val (.int c1), .val (.long (((192 : Int32) ||| ((c1.toUInt32 >>> ((6 : Int32) &&& 31).toUInt32).toInt32)) ||| ((cont c1) <<< ((8 : Int32) &&& 31))).toInt64), .second, .val (.int (16 : Int32)), .val (.int (1 : Int32)), .unset]) (pc' := 300) X101 hx (hb hby d48_298) rfl rfl ?_
          refine Ok.iload (pc' := 302) X101 hx (hb hby d48_300) rfl rfl ?_
          refine Ok.iload (pc' := 304) X101 hx (hb hby d48_302) rfl rfl ?_
          refine Ok.bipush (z := (8 : Int32)) (pc' := 306) X101 hx (hb hby d48_304) rfl rfl ?_
          refine Ok.idiv (pc' := 307) X101 hx (hb hby d48_306) rfl (by decide) ?_
          refine Ok.iadd (pc' := 308) X101 hx (hb hby d48_307) rfl ?_
          refine Ok.istore (l' := #[.val (.ref a1), .val (.int hh), .val (.int (2 : Int32)), .val (.long (acc ||| ((((192 : Int32) ||| ((c1.toUInt32 >>> ((6 : Int32) &&& 31).toUInt32).toInt32)) ||| ((cont c1) <<< ((8 : Int32) &&& 31))).toInt64 <<< (bits &&& 0x3f).toInt64))), .second, .val (.int (bits + (16 : Int32))), .val (.int (nb + ((16 : Int32) / (8 : Int32)))), .val (.int c1), .val (.long (((192 : Int32) ||| ((c1.toUInt32 >>> ((6 : Int32) &&& 31).toUInt32).toInt32)) ||| ((cont c1) <<< ((8 : Int32) &&& 31))).toInt64), .second, .val (.int (16 : Int32)), .val (.int (1 : Int32)), .unset]) (pc' := 310) X101 hx (hb hby d48_308) rfl rfl ?_
          refine Ok.iload (pc' := 312) X101 hx (hb hby d48_310) rfl rfl ?_
          refine Ok.bipush (z := (32 : Int32)) (pc' := 314) X101 hx (hb hby d48_312) rfl rfl ?_
          by_cases hc314 : (bits + (16 : Int32)).toInt < 32
          · refine Ok.icY (pc' := 332) X101 hx (hb hby d48_314) (bt (ic_eq (bits + (16 : Int32)) (32 : Int32)).2.2.1 hc314) (by decide) (by decide) ?_
            refine Ok.goto (pc' := 48) X101 hx (hb hby d48_332) (by decide) (by decide) ?_
            have es : hstep (hh, acc, bits, nb) c1 = (hh, (acc ||| ((((192 : Int32) ||| ((c1.toUInt32 >>> ((6 : Int32) &&& 31).toUInt32).toInt32)) ||| ((cont c1) <<< ((8 : Int32) &&& 31))).toInt64 <<< (bits &&& 0x3f).toInt64)), (bits + (16 : Int32)), (nb + ((16 : Int32) / (8 : Int32)))) := by unfold hstep; rw [if_neg (by omega)]; unfold hst; rw [if_pos hc314]
            rw [es] at hH
            exact kt2 T101 _ X101 eq101 N101 _ _ _ _ _ _ _ _ hH
          · refine Ok.icN (pc' := 317) X101 hx (hb hby d48_314) (bf (ic_eq (bits + (16 : Int32)) (32 : Int32)).2.2.1 hc314) rfl ?_
            refine Ok.iloadN (pc' := 318) X101 hx (hb hby d48_317) rfl rfl ?_
            refine Ok.lloadN (pc' := 319) X101 hx (hb hby d48_318) rfl rfl ?_
            refine Ok.l2i (pc' := 320) X101 hx (hb hby d48_319) rfl ?_
            refine Ok.callS (pc' := 323) (W := 0)  (argsL := [(.int hh), (.int (acc ||| ((((192 : Int32) ||| ((c1.toUInt32 >>> ((6 : Int32) &&& 31).toUInt32).toInt32)) ||| ((cont c1) <<< ((8 : Int32) &&& 31))).toInt64 <<< (bits &&& 0x3f).toInt64)).toInt32)]) (rest := []) X101 hx hZ83 hown83 (rm4 l Z a0 hw hh (acc ||| ((((192 : Int32) ||| ((c1.toUInt32 >>> ((6 : Int32) &&& 31).toUInt32).toInt32)) ||| ((cont c1) <<< ((8 : Int32) &&& 31))).toInt64 <<< (bits &&& 0x3f).toInt64)).toInt32 h83 n0 Z84 ) (hw _ (List.mem_of_getElem? (i := 135) rfl)) (hw _ (List.mem_of_getElem? (i := 136) rfl)) (hw _ (List.mem_of_getElem? (i := 92) rfl)) (hw _ (List.mem_of_getElem? (i := 137) rfl)) (by decide) eq101 (by decide) (by decide) (by decide) (by decide) (lenOf pd_23 rfl) rfl rfl (Nat.le_of_eq rfl) (by rw [hml]; rfl) (hb hby d48_320) rfl ?_
            intro v102 T102 L102 X102 hQ102
            obtain ⟨rfl, Nq102, eq102⟩ := hQ102
            have N102 := Fr.app N101 Nq102
            show Ok p e below _ _ T102 (mkF m 323 #[.val (.ref a1), .val (.int hh), .val (.int (2 : Int32)), .val (.long (acc ||| ((((192 : Int32) ||| ((c1.toUInt32 >>> ((6 : Int32) &&& 31).toUInt32).toInt32)) ||| ((cont c1) <<< ((8 : Int32) &&& 31))).toInt64 <<< (bits &&& 0x3f).toInt64))), .second, .val (.int (bits + (16 : Int32))), .val (.int (nb + ((16 : Int32) / (8 : Int32)))), .val (.int c1), .val (.long (((192 : Int32) ||| ((c1.toUInt32 >>> ((6 : Int32) &&& 31).toUInt32).toInt32)) ||| ((cont c1) <<< ((8 : Int32) &&& 31))).toInt64), .second, .val (.int (16 : Int32)), .val (.int (1 : Int32)), .unset] [(.int (wwv hh (acc ||| ((((192 : Int32) ||| ((c1.toUInt32 >>> ((6 : Int32) &&& 31).toUInt32).toInt32)) ||| ((cont c1) <<< ((8 : Int32) &&& 31))).toInt64 <<< (bits &&& 0x3f).toInt64)).toInt32))])
            refine Ok.istoreN (l' := #[.val (.ref a1), .val (.int (wwv hh (acc ||| ((((192 : Int32) ||| ((c1.toUInt32 >>> ((6 : Int32) &&& 31).toUInt32).toInt32)) ||| ((cont c1) <<< ((8 : Int32) &&& 31))).toInt64 <<< (bits &&& 0x3f).toInt64)).toInt32)), .val (.int (2 : Int32)), .val (.long (acc ||| ((((192 : Int32) ||| ((c1.toUInt32 >>> ((6 : Int32) &&& 31).toUInt32).toInt32)) ||| ((cont c1) <<< ((8 : Int32) &&& 31))).toInt64 <<< (bits &&& 0x3f).toInt64))), .second, .val (.int (bits + (16 : Int32))), .val (.int (nb + ((16 : Int32) / (8 : Int32)))), .val (.int c1), .val (.long (((192 : Int32) ||| ((c1.toUInt32 >>> ((6 : Int32) &&& 31).toUInt32).toInt32)) ||| ((cont c1) <<< ((8 : Int32) &&& 31))).toInt64), .second, .val (.int (16 : Int32)), .val (.int (1 : Int32)), .unset]) (pc' := 324) X102 hx (hb hby d48_323) rfl rfl ?_
            refine Ok.lloadN (pc' := 325) X102 hx (hb hby d48_324) rfl rfl ?_
            refine Ok.bipush (z := (32 : Int32)) (pc' := 327) X102 hx (hb hby d48_325) rfl rfl ?_
            refine Ok.lushr (pc' := 328) X102 hx (hb hby d48_327) rfl ?_
            refine Ok.lstoreN (l' := #[.val (.ref a1), .val (.int (wwv hh (acc ||| ((((192 : Int32) ||| ((c1.toUInt32 >>> ((6 : Int32) &&& 31).toUInt32).toInt32)) ||| ((cont c1) <<< ((8 : Int32) &&& 31))).toInt64 <<< (bits &&& 0x3f).toInt64)).toInt32)), .val (.int (2 : Int32)), .val (.long (((acc ||| ((((192 : Int32) ||| ((c1.toUInt32 >>> ((6 : Int32) &&& 31).toUInt32).toInt32)) ||| ((cont c1) <<< ((8 : Int32) &&& 31))).toInt64 <<< (bits &&& 0x3f).toInt64)).toUInt64 >>> ((32 : Int32) &&& 0x3f).toInt64.toUInt64).toInt64)), .second, .val (.int (bits + (16 : Int32))), .val (.int (nb + ((16 : Int32) / (8 : Int32)))), .val (.int c1), .val (.long (((192 : Int32) ||| ((c1.toUInt32 >>> ((6 : Int32) &&& 31).toUInt32).toInt32)) ||| ((cont c1) <<< ((8 : Int32) &&& 31))).toInt64), .second, .val (.int (16 : Int32)), .val (.int (1 : Int32)), .unset]) (pc' := 329) X102 hx (hb hby d48_328) rfl rfl ?_
            refine Ok.iinc (z := ((bits + (16 : Int32)) + (-32 : Int32))) (l' := #[.val (.ref a1), .val (.int (wwv hh (acc ||| ((((192 : Int32) ||| ((c1.toUInt32 >>> ((6 : Int32) &&& 31).toUInt32).toInt32)) ||| ((cont c1) <<< ((8 : Int32) &&& 31))).toInt64 <<< (bits &&& 0x3f).toInt64)).toInt32)), .val (.int (2 : Int32)), .val (.long (((acc ||| ((((192 : Int32) ||| ((c1.toUInt32 >>> ((6 : Int32) &&& 31).toUInt32).toInt32)) ||| ((cont c1) <<< ((8 : Int32) &&& 31))).toInt64 <<< (bits &&& 0x3f).toInt64)).toUInt64 >>> ((32 : Int32) &&& 0x3f).toInt64.toUInt64).toInt64)), .second, .val (.int ((bits + (16 : Int32)) + (-32 : Int32))), .val (.int (nb + ((16 : Int32) / (8 : Int32)))), .val (.int c1), .val (.long (((192 : Int32) ||| ((c1.toUInt32 >>> ((6 : Int32) &&& 31).toUInt32).toInt32)) ||| ((cont c1) <<< ((8 : Int32) &&& 31))).toInt64), .second, .val (.int (16 : Int32)), .val (.int (1 : Int32)), .unset]) (pc' := 332) X102 hx (hb hby d48_329) rfl rfl rfl rfl ?_
            refine Ok.goto (pc' := 48) X102 hx (hb hby d48_332) (by decide) (by decide) ?_
            have es : hstep (hh, acc, bits, nb) c1 = ((wwv hh (acc ||| ((((192 : Int32) ||| ((c1.toUInt32 >>> ((6 : Int32) &&& 31).toUInt32).toInt32)) ||| ((cont c1) <<< ((8 : Int32) &&& 31))).toInt64 <<< (bits &&& 0x3f).toInt64)).toInt32), (((acc ||| ((((192 : Int32) ||| ((c1.toUInt32 >>> ((6 : Int32) &&& 31).toUInt32).toInt32)) ||| ((cont c1) <<< ((8 : Int32) &&& 31))).toInt64 <<< (bits &&& 0x3f).toInt64)).toUInt64 >>> ((32 : Int32) &&& 0x3f).toInt64.toUInt64).toInt64), ((bits + (16 : Int32)) + (-32 : Int32)), (nb + ((16 : Int32) / (8 : Int32)))) := by unfold hstep; rw [if_neg (by omega)]; unfold hst; rw [if_neg hc314]
            rw [es] at hH
            exact kt2 T102 _ X102 eq102 N102 _ _ _ _ _ _ _ _ hH
      · refine Ok.icN (pc' := 74) X100 hx (hb hby d48_71) (bf (ic_eq c1 (128 : Int32)).2.2.2.1 hc71) rfl ?_
        refine Ok.iload (pc' := 76) X100 hx (hb hby d48_74) rfl rfl ?_
        refine Ok.i2l (pc' := 77) X100 hx (hb hby d48_76) rfl ?_
        refine Ok.lstore (l' := #[.val (.ref a1), .val (.int hh), .val (.int (1 : Int32)), .val (.long acc), .second, .val (.int bits), .val (.int nb), .val (.int c1), .val (.long c1.toInt64), .second, .val (.int x10), .val (.int (1 : Int32)), .unset]) (pc' := 79) X100 hx (hb hby d48_77) rfl rfl ?_
        refine Ok.bipush (z := (8 : Int32)) (pc' := 81) X100 hx (hb hby d48_79) rfl rfl ?_
        refine Ok.istore (l' := #[.val (.ref a1), .val (.int hh), .val (.int (1 : Int32)), .val (.long acc), .second, .val (.int bits), .val (.int nb), .val (.int c1), .val (.long c1.toInt64), .second, .val (.int (8 : Int32)), .val (.int (1 : Int32)), .unset]) (pc' := 83) X100 hx (hb hby d48_81) rfl rfl ?_
        refine Ok.goto (pc' := 280) X100 hx (hb hby d48_83) (by decide) (by decide) ?_
        refine Ok.iloadN (pc' := 281) X100 hx (hb hby d48_280) rfl rfl ?_
        refine Ok.iload (pc' := 283) X100 hx (hb hby d48_281) rfl rfl ?_
        refine Ok.iadd (pc' := 284) X100 hx (hb hby d48_283) rfl ?_
        show Ok p e below _ _ T100 (mkF m 284 #[.val (.ref a1), .val (.int hh), .val (.int (1 : Int32)), .val (.long acc), .second, .val (.int bits), .val (.int nb), .val (.int c1), .val (.long c1.toInt64), .second, .val (.int (8 : Int32)), .val (.int (1 : Int32)), .unset] [(.int (2 : Int32))])
        refine Ok.istoreN (l' := #[.val (.ref a1), .val (.int hh), .val (.int (2 : Int32)), .val (.long acc), .second, .val (.int bits), .val (.int nb), .val (.int c1), .val (.long c1.toInt64), .second, .val (.int (8 : Int32)), .val (.int (1 : Int32)), .unset]) (pc' := 285) X100 hx (hb hby d48_284) rfl rfl ?_
        refine Ok.lloadN (pc' := 286) X100 hx (hb hby d48_285) rfl rfl ?_
        refine Ok.lload (pc' := 288) X100 hx (hb hby d48_286) rfl rfl ?_
        refine Ok.iload (pc' := 290) X100 hx (hb hby d48_288) rfl rfl ?_
        refine Ok.lshl (pc' := 291) X100 hx (hb hby d48_290) rfl ?_
        refine Ok.lor (pc' := 292) X100 hx (hb hby d48_291) rfl ?_
        refine Ok.lstoreN (l' := #[.val (.ref a1), .val (.int hh), .val (.int (2 : Int32)), .val (.long (acc ||| (c1.toInt64 <<< (bits &&& 0x3f).toInt64))), .second, .val (.int bits), .val (.int nb), .val (.int c1), .val (.long c1.toInt64), .second, .val (.int (8 : Int32)), .val (.int (1 : Int32)), .unset]) (pc' := 293) X100 hx (hb hby d48_292) rfl rfl ?_
        refine Ok.iload (pc' := 295) X100 hx (hb hby d48_293) rfl rfl ?_
        refine Ok.iload (pc' := 297) X100 hx (hb hby d48_295) rfl rfl ?_
        refine Ok.iadd (pc' := 298) X100 hx (hb hby d48_297) rfl ?_
        refine Ok.istore (l' := #[.val (.ref a1), .val (.int hh), .val (.int (2 : Int32)), .val (.long (acc ||| (c1.toInt64 <<< (bits &&& 0x3f).toInt64))), .second, .val (.int (bits + (8 : Int32))), .val (.int nb), .val (.int c1), .val (.long c1.toInt64), .second, .val (.int (8 : Int32)), .val (.int (1 : Int32)), .unset]) (pc' := 300) X100 hx (hb hby d48_298) rfl rfl ?_
        refine Ok.iload (pc' := 302) X100 hx (hb hby d48_300) rfl rfl ?_
        refine Ok.iload (pc' := 304) X100 hx (hb hby d48_302) rfl rfl ?_
        refine Ok.bipush (z := (8 : Int32)) (pc' := 306) X100 hx (hb hby d48_304) rfl rfl ?_
        refine Ok.idiv (pc' := 307) X100 hx (hb hby d48_306) rfl (by decide) ?_
        refine Ok.iadd (pc' := 308) X100 hx (hb hby d48_307) rfl ?_
        refine Ok.istore (l' := #[.val (.ref a1), .val (.int hh), .val (.int (2 : Int32)), .val (.long (acc ||| (c1.toInt64 <<< (bits &&& 0x3f).toInt64))), .second, .val (.int (bits + (8 : Int32))), .val (.int (nb + ((8 : Int32) / (8 : Int32)))), .val (.int c1), .val (.long c1.toInt64), .second, .val (.int (8 : Int32)), .val (.int (1 : Int32)), .unset]) (pc' := 310) X100 hx (hb hby d48_308) rfl rfl ?_
        refine Ok.iload (pc' := 312) X100 hx (hb hby d48_310) rfl rfl ?_
        refine Ok.bipush (z := (32 : Int32)) (pc' := 314) X100 hx (hb hby d48_312) rfl rfl ?_
        by_cases hc314 : (bits + (8 : Int32)).toInt < 32
        · refine Ok.icY (pc' := 332) X100 hx (hb hby d48_314) (bt (ic_eq (bits + (8 : Int32)) (32 : Int32)).2.2.1 hc314) (by decide) (by decide) ?_
          refine Ok.goto (pc' := 48) X100 hx (hb hby d48_332) (by decide) (by decide) ?_
          have es : hstep (hh, acc, bits, nb) c1 = (hh, (acc ||| (c1.toInt64 <<< (bits &&& 0x3f).toInt64)), (bits + (8 : Int32)), (nb + ((8 : Int32) / (8 : Int32)))) := by unfold hstep; rw [if_pos (by omega)]; unfold hst; rw [if_pos hc314]
          rw [es] at hH
          exact kt2 T100 _ X100 eq100 N100 _ _ _ _ _ _ _ _ hH
        · refine Ok.icN (pc' := 317) X100 hx (hb hby d48_314) (bf (ic_eq (bits + (8 : Int32)) (32 : Int32)).2.2.1 hc314) rfl ?_
          refine Ok.iloadN (pc' := 318) X100 hx (hb hby d48_317) rfl rfl ?_
          refine Ok.lloadN (pc' := 319) X100 hx (hb hby d48_318) rfl rfl ?_
          refine Ok.l2i (pc' := 320) X100 hx (hb hby d48_319) rfl ?_
          refine Ok.callS (pc' := 323) (W := 0)  (argsL := [(.int hh), (.int (acc ||| (c1.toInt64 <<< (bits &&& 0x3f).toInt64)).toInt32)]) (rest := []) X100 hx hZ83 hown83 (rm4 l Z a0 hw hh (acc ||| (c1.toInt64 <<< (bits &&& 0x3f).toInt64)).toInt32 h83 n0 Z84 ) (hw _ (List.mem_of_getElem? (i := 135) rfl)) (hw _ (List.mem_of_getElem? (i := 136) rfl)) (hw _ (List.mem_of_getElem? (i := 92) rfl)) (hw _ (List.mem_of_getElem? (i := 137) rfl)) (by decide) eq100 (by decide) (by decide) (by decide) (by decide) (lenOf pd_23 rfl) rfl rfl (Nat.le_of_eq rfl) (by rw [hml]; rfl) (hb hby d48_320) rfl ?_
          intro v103 T103 L103 X103 hQ103
          obtain ⟨rfl, Nq103, eq103⟩ := hQ103
          have N103 := Fr.app N100 Nq103
          show Ok p e below _ _ T103 (mkF m 323 #[.val (.ref a1), .val (.int hh), .val (.int (2 : Int32)), .val (.long (acc ||| (c1.toInt64 <<< (bits &&& 0x3f).toInt64))), .second, .val (.int (bits + (8 : Int32))), .val (.int (nb + ((8 : Int32) / (8 : Int32)))), .val (.int c1), .val (.long c1.toInt64), .second, .val (.int (8 : Int32)), .val (.int (1 : Int32)), .unset] [(.int (wwv hh (acc ||| (c1.toInt64 <<< (bits &&& 0x3f).toInt64)).toInt32))])
          refine Ok.istoreN (l' := #[.val (.ref a1), .val (.int (wwv hh (acc ||| (c1.toInt64 <<< (bits &&& 0x3f).toInt64)).toInt32)), .val (.int (2 : Int32)), .val (.long (acc ||| (c1.toInt64 <<< (bits &&& 0x3f).toInt64))), .second, .val (.int (bits + (8 : Int32))), .val (.int (nb + ((8 : Int32) / (8 : Int32)))), .val (.int c1), .val (.long c1.toInt64), .second, .val (.int (8 : Int32)), .val (.int (1 : Int32)), .unset]) (pc' := 324) X103 hx (hb hby d48_323) rfl rfl ?_
          refine Ok.lloadN (pc' := 325) X103 hx (hb hby d48_324) rfl rfl ?_
          refine Ok.bipush (z := (32 : Int32)) (pc' := 327) X103 hx (hb hby d48_325) rfl rfl ?_
          refine Ok.lushr (pc' := 328) X103 hx (hb hby d48_327) rfl ?_
          refine Ok.lstoreN (l' := #[.val (.ref a1), .val (.int (wwv hh (acc ||| (c1.toInt64 <<< (bits &&& 0x3f).toInt64)).toInt32)), .val (.int (2 : Int32)), .val (.long (((acc ||| (c1.toInt64 <<< (bits &&& 0x3f).toInt64)).toUInt64 >>> ((32 : Int32) &&& 0x3f).toInt64.toUInt64).toInt64)), .second, .val (.int (bits + (8 : Int32))), .val (.int (nb + ((8 : Int32) / (8 : Int32)))), .val (.int c1), .val (.long c1.toInt64), .second, .val (.int (8 : Int32)), .val (.int (1 : Int32)), .unset]) (pc' := 329) X103 hx (hb hby d48_328) rfl rfl ?_
          refine Ok.iinc (z := ((bits + (8 : Int32)) + (-32 : Int32))) (l' := #[.val (.ref a1), .val (.int (wwv hh (acc ||| (c1.toInt64 <<< (bits &&& 0x3f).toInt64)).toInt32)), .val (.int (2 : Int32)), .val (.long (((acc ||| (c1.toInt64 <<< (bits &&& 0x3f).toInt64)).toUInt64 >>> ((32 : Int32) &&& 0x3f).toInt64.toUInt64).toInt64)), .second, .val (.int ((bits + (8 : Int32)) + (-32 : Int32))), .val (.int (nb + ((8 : Int32) / (8 : Int32)))), .val (.int c1), .val (.long c1.toInt64), .second, .val (.int (8 : Int32)), .val (.int (1 : Int32)), .unset]) (pc' := 332) X103 hx (hb hby d48_329) rfl rfl rfl rfl ?_
          refine Ok.goto (pc' := 48) X103 hx (hb hby d48_332) (by decide) (by decide) ?_
          have es : hstep (hh, acc, bits, nb) c1 = ((wwv hh (acc ||| (c1.toInt64 <<< (bits &&& 0x3f).toInt64)).toInt32), (((acc ||| (c1.toInt64 <<< (bits &&& 0x3f).toInt64)).toUInt64 >>> ((32 : Int32) &&& 0x3f).toInt64.toUInt64).toInt64), ((bits + (8 : Int32)) + (-32 : Int32)), (nb + ((8 : Int32) / (8 : Int32)))) := by unfold hstep; rw [if_pos (by omega)]; unfold hst; rw [if_neg hc314]
          rw [es] at hH
          exact kt2 T103 _ X103 eq103 N103 _ _ _ _ _ _ _ _ hH
    refine Ok.iloadN (pc' := 49) X86 hx (hb hby d48_48) rfl rfl ?_
    refine Ok.aloadN (pc' := 50) X86 hx (hb hby d48_49) rfl rfl rfl ?_
    refine Ok.virt (pc' := 53) (W := 1) (a := a1)  (argsL := []) (rest := [(.int (0 : Int32))]) X86 hx hZ83 hown83 (rm20 l Z a0 hw a1 r1 k1 c0.toInt8.toInt32.toInt8.toInt32 c1.toInt8.toInt32.toInt8.toInt32 c2.toInt8.toInt32.toInt8.toInt32 c3.toInt8.toInt32.toInt8.toInt32 cs0 h83 n0 Z84 E_a1 Fv Fc V_1 O_0 S_cs hcs) (hw _ (List.mem_of_getElem? (i := 104) rfl)) (hw _ (List.mem_of_getElem? (i := 105) rfl)) (notFace_of_selects (args := #[]) (mvT (s := s.setVm _) hZ83 (hw _ (List.mem_of_getElem? (i := 107) rfl)))) (hw _ (List.mem_of_getElem? (i := 107) rfl)) (hw _ (List.mem_of_getElem? (i := 106) rfl)) (hw _ (List.mem_of_getElem? (i := 4) rfl)) (hw _ (List.mem_of_getElem? (i := 108) rfl)) (by decide) eq86 E_a1 (by decide) (by decide) (by decide) (by decide) (lenOf pd_16 rfl) rfl rfl (Nat.le_of_eq rfl) (by rw [hml]; rfl) (hb hby d48_50) rfl ?_
    intro v104 T104 L104 X104 hQ104
    obtain ⟨rfl, Nq104, eq104⟩ := hQ104
    have N104 := Fr.app N86 Nq104
    show Ok p e below _ _ T104 (mkF m 53 #[.val (.ref a1), .val (.int (0 : Int32)), .val (.int (0 : Int32)), .val (.long (0 : Int64)), .second, .val (.int (0 : Int32)), .val (.int (0 : Int32)), .unset, .unset, .unset, .unset, .unset, .unset] [(.int (4 : Int32)), (.int (0 : Int32))])
    refine Ok.icN (pc' := 56) X104 hx (hb hby d48_53) (bf (ic_eq (0 : Int32) (4 : Int32)).2.2.2.1 (by decide)) rfl ?_
    refine Ok.aloadN (pc' := 57) X104 hx (hb hby d48_56) rfl rfl rfl ?_
    refine Ok.iloadN (pc' := 58) X104 hx (hb hby d48_57) rfl rfl ?_
    refine Ok.virt (pc' := 61) (W := 0) (a := a1)  (argsL := [(.int (0 : Int32))]) (rest := []) X104 hx hZ83 hown83 (rm25 l Z a0 hw a1 r1 k1 c0.toInt8.toInt32.toInt8.toInt32 c1.toInt8.toInt32.toInt8.toInt32 c2.toInt8.toInt32.toInt8.toInt32 c3.toInt8.toInt32.toInt8.toInt32 cs0 gv h83 n0 Z84 E_a1 Fv Fc V_1 O_0 S_cs hcs S_sf r_gv) (hw _ (List.mem_of_getElem? (i := 114) rfl)) (hw _ (List.mem_of_getElem? (i := 115) rfl)) (notFace_of_selects (args := #[]) (mvT (s := s.setVm _) hZ83 (hw _ (List.mem_of_getElem? (i := 117) rfl)))) (hw _ (List.mem_of_getElem? (i := 117) rfl)) (hw _ (List.mem_of_getElem? (i := 116) rfl)) (hw _ (List.mem_of_getElem? (i := 4) rfl)) (hw _ (List.mem_of_getElem? (i := 118) rfl)) (by decide) eq104 E_a1 (by decide) (by decide) (by decide) (by decide) (lenOf pd_18 rfl) rfl rfl (Nat.le_of_eq rfl) (by rw [hml]; rfl) (hb hby d48_58) rfl ?_
    intro v105 T105 L105 X105 hQ105
    obtain ⟨rfl, Nq105, eq105⟩ := hQ105
    have N105 := Fr.app N104 Nq105
    show Ok p e below _ _ T105 (mkF m 61 #[.val (.ref a1), .val (.int (0 : Int32)), .val (.int (0 : Int32)), .val (.long (0 : Int64)), .second, .val (.int (0 : Int32)), .val (.int (0 : Int32)), .unset, .unset, .unset, .unset, .unset, .unset] [(.int (c0.toInt8.toInt32.toInt8.toInt32 &&& (255 : Int32)))])
    rw [byte_back hc0.1 hc0.2]
    refine Ok.istore (l' := #[.val (.ref a1), .val (.int (0 : Int32)), .val (.int (0 : Int32)), .val (.long (0 : Int64)), .second, .val (.int (0 : Int32)), .val (.int (0 : Int32)), .val (.int c0), .unset, .unset, .unset, .unset, .unset]) (pc' := 63) X105 hx (hb hby d48_61) rfl rfl ?_
    refine Ok.iconst (z := (1 : Int32)) (pc' := 64) X105 hx (hb hby d48_63) rfl rfl ?_
    refine Ok.istore (l' := #[.val (.ref a1), .val (.int (0 : Int32)), .val (.int (0 : Int32)), .val (.long (0 : Int64)), .second, .val (.int (0 : Int32)), .val (.int (0 : Int32)), .val (.int c0), .unset, .unset, .unset, .val (.int (1 : Int32)), .unset]) (pc' := 66) X105 hx (hb hby d48_64) rfl rfl ?_
    refine Ok.iload (pc' := 68) X105 hx (hb hby d48_66) rfl rfl ?_
    refine Ok.sipush (z := (128 : Int32)) (pc' := 71) X105 hx (hb hby d48_68) rfl rfl ?_
    by_cases hc71 : 128 ≤ c0.toInt
    · refine Ok.icY (pc' := 86) X105 hx (hb hby d48_71) (bt (ic_eq c0 (128 : Int32)).2.2.2.1 hc71) (by decide) (by decide) ?_
      refine Ok.iload (pc' := 88) X105 hx (hb hby d48_86) rfl rfl ?_
      refine Ok.sipush (z := (2048 : Int32)) (pc' := 91) X105 hx (hb hby d48_88) rfl rfl ?_
      by_cases hc91 : 2048 ≤ c0.toInt
      · refine Ok.icY (pc' := 122) X105 hx (hb hby d48_91) (bt (ic_eq c0 (2048 : Int32)).2.2.2.1 hc91) (by decide) (by decide) ?_
        exfalso; omega
      · refine Ok.icN (pc' := 94) X105 hx (hb hby d48_91) (bf (ic_eq c0 (2048 : Int32)).2.2.2.1 hc91) rfl ?_
        refine Ok.sipush (z := (192 : Int32)) (pc' := 97) X105 hx (hb hby d48_94) rfl rfl ?_
        refine Ok.iload (pc' := 99) X105 hx (hb hby d48_97) rfl rfl ?_
        refine Ok.bipush (z := (6 : Int32)) (pc' := 101) X105 hx (hb hby d48_99) rfl rfl ?_
        refine Ok.iushr (pc' := 102) X105 hx (hb hby d48_101) rfl ?_
        refine Ok.ior (pc' := 103) X105 hx (hb hby d48_102) rfl ?_
        refine Ok.iload (pc' := 105) X105 hx (hb hby d48_103) rfl rfl ?_
        refine Ok.callS (pc' := 108) (W := 1)  (argsL := [(.int c0)]) (rest := [(.int ((192 : Int32) ||| ((c0.toUInt32 >>> ((6 : Int32) &&& 31).toUInt32).toInt32)))]) X105 hx hZ83 hown83 (rm8 l Z a0 hw c0 h83 n0 Z84 ) (hw _ (List.mem_of_getElem? (i := 172) rfl)) (hw _ (List.mem_of_getElem? (i := 173) rfl)) (hw _ (List.mem_of_getElem? (i := 92) rfl)) (hw _ (List.mem_of_getElem? (i := 174) rfl)) (by decide) eq105 (by decide) (by decide) (by decide) (by decide) (lenOf pd_24 rfl) rfl rfl (Nat.le_of_eq rfl) (by rw [hml]; rfl) (hb hby d48_105) rfl ?_
        intro v106 T106 L106 X106 hQ106
        obtain ⟨rfl, Nq106, eq106⟩ := hQ106
        have N106 := Fr.app N105 Nq106
        show Ok p e below _ _ T106 (mkF m 108 #[.val (.ref a1), .val (.int (0 : Int32)), .val (.int (0 : Int32)), .val (.long (0 : Int64)), .second, .val (.int (0 : Int32)), .val (.int (0 : Int32)), .val (.int c0), .unset, .unset, .unset, .val (.int (1 : Int32)), .unset] [(.int (cont c0)), (.int ((192 : Int32) ||| ((c0.toUInt32 >>> ((6 : Int32) &&& 31).toUInt32).toInt32)))])
        refine Ok.bipush (z := (8 : Int32)) (pc' := 110) X106 hx (hb hby d48_108) rfl rfl ?_
        refine Ok.ishl (pc' := 111) X106 hx (hb hby d48_110) rfl ?_
        refine Ok.ior (pc' := 112) X106 hx (hb hby d48_111) rfl ?_
        refine Ok.i2l (pc' := 113) X106 hx (hb hby d48_112) rfl ?_
        refine Ok.lstore (l' := #[.val (.ref a1), .val (.int (0 : Int32)), .val (.int (0 : Int32)), .val (.long (0 : Int64)), .second, .val (.int (0 : Int32)), .val (.int (0 : Int32)), .val (.int c0), .val (.long (((192 : Int32) ||| ((c0.toUInt32 >>> ((6 : Int32) &&& 31).toUInt32).toInt32)) ||| ((cont c0) <<< ((8 : Int32) &&& 31))).toInt64), .second, .unset, .val (.int (1 : Int32)), .unset]) (pc' := 115) X106 hx (hb hby d48_113) rfl rfl ?_
        refine Ok.bipush (z := (16 : Int32)) (pc' := 117) X106 hx (hb hby d48_115) rfl rfl ?_
        refine Ok.istore (l' := #[.val (.ref a1), .val (.int (0 : Int32)), .val (.int (0 : Int32)), .val (.long (0 : Int64)), .second, .val (.int (0 : Int32)), .val (.int (0 : Int32)), .val (.int c0), .val (.long (((192 : Int32) ||| ((c0.toUInt32 >>> ((6 : Int32) &&& 31).toUInt32).toInt32)) ||| ((cont c0) <<< ((8 : Int32) &&& 31))).toInt64), .second, .val (.int (16 : Int32)), .val (.int (1 : Int32)), .unset]) (pc' := 119) X106 hx (hb hby d48_117) rfl rfl ?_
        refine Ok.goto (pc' := 280) X106 hx (hb hby d48_119) (by decide) (by decide) ?_
        refine Ok.iloadN (pc' := 281) X106 hx (hb hby d48_280) rfl rfl ?_
        refine Ok.iload (pc' := 283) X106 hx (hb hby d48_281) rfl rfl ?_
        refine Ok.iadd (pc' := 284) X106 hx (hb hby d48_283) rfl ?_
        show Ok p e below _ _ T106 (mkF m 284 #[.val (.ref a1), .val (.int (0 : Int32)), .val (.int (0 : Int32)), .val (.long (0 : Int64)), .second, .val (.int (0 : Int32)), .val (.int (0 : Int32)), .val (.int c0), .val (.long (((192 : Int32) ||| ((c0.toUInt32 >>> ((6 : Int32) &&& 31).toUInt32).toInt32)) ||| ((cont c0) <<< ((8 : Int32) &&& 31))).toInt64), .second, .val (.int (16 : Int32)), .val (.int (1 : Int32)), .unset] [(.int (1 : Int32))])
        refine Ok.istoreN (l' := #[.val (.ref a1), .val (.int (0 : Int32)), .val (.int (1 : Int32)), .val (.long (0 : Int64)), .second, .val (.int (0 : Int32)), .val (.int (0 : Int32)), .val (.int c0), .val (.long (((192 : Int32) ||| ((c0.toUInt32 >>> ((6 : Int32) &&& 31).toUInt32).toInt32)) ||| ((cont c0) <<< ((8 : Int32) &&& 31))).toInt64), .second, .val (.int (16 : Int32)), .val (.int (1 : Int32)), .unset]) (pc' := 285) X106 hx (hb hby d48_284) rfl rfl ?_
        refine Ok.lloadN (pc' := 286) X106 hx (hb hby d48_285) rfl rfl ?_
        refine Ok.lload (pc' := 288) X106 hx (hb hby d48_286) rfl rfl ?_
        refine Ok.iload (pc' := 290) X106 hx (hb hby d48_288) rfl rfl ?_
        refine Ok.lshl (pc' := 291) X106 hx (hb hby d48_290) rfl ?_
        refine Ok.lor (pc' := 292) X106 hx (hb hby d48_291) rfl ?_
        refine Ok.lstoreN (l' := #[.val (.ref a1), .val (.int (0 : Int32)), .val (.int (1 : Int32)), .val (.long ((0 : Int64) ||| ((((192 : Int32) ||| ((c0.toUInt32 >>> ((6 : Int32) &&& 31).toUInt32).toInt32)) ||| ((cont c0) <<< ((8 : Int32) &&& 31))).toInt64 <<< ((0 : Int32) &&& 0x3f).toInt64))), .second, .val (.int (0 : Int32)), .val (.int (0 : Int32)), .val (.int c0), .val (.long (((192 : Int32) ||| ((c0.toUInt32 >>> ((6 : Int32) &&& 31).toUInt32).toInt32)) ||| ((cont c0) <<< ((8 : Int32) &&& 31))).toInt64), .second, .val (.int (16 : Int32)), .val (.int (1 : Int32)), .unset]) (pc' := 293) X106 hx (hb hby d48_292) rfl rfl ?_
        refine Ok.iload (pc' := 295) X106 hx (hb hby d48_293) rfl rfl ?_
        refine Ok.iload (pc' := 297) X106 hx (hb hby d48_295) rfl rfl ?_
        refine Ok.iadd (pc' := 298) X106 hx (hb hby d48_297) rfl ?_
        show Ok p e below _ _ T106 (mkF m 298 #[.val (.ref a1), .val (.int (0 : Int32)), .val (.int (1 : Int32)), .val (.long ((0 : Int64) ||| ((((192 : Int32) ||| ((c0.toUInt32 >>> ((6 : Int32) &&& 31).toUInt32).toInt32)) ||| ((cont c0) <<< ((8 : Int32) &&& 31))).toInt64 <<< ((0 : Int32) &&& 0x3f).toInt64))), .second, .val (.int (0 : Int32)), .val (.int (0 : Int32)), .val (.int c0), .val (.long (((192 : Int32) ||| ((c0.toUInt32 >>> ((6 : Int32) &&& 31).toUInt32).toInt32)) ||| ((cont c0) <<< ((8 : Int32) &&& 31))).toInt64), .second, .val (.int (16 : Int32)), .val (.int (1 : Int32)), .unset] [(.int (16 : Int32))])
        refine Ok.istore (l' := #[.val (.ref a1), .val (.int (0 : Int32)), .val (.int (1 : Int32)), .val (.long ((0 : Int64) ||| ((((192 : Int32) ||| ((c0.toUInt32 >>> ((6 : Int32) &&& 31).toUInt32).toInt32)) ||| ((cont c0) <<< ((8 : Int32) &&& 31))).toInt64 <<< ((0 : Int32) &&& 0x3f).toInt64))), .second, .val (.int (16 : Int32)), .val (.int (0 : Int32)), .val (.int c0), .val (.long (((192 : Int32) ||| ((c0.toUInt32 >>> ((6 : Int32) &&& 31).toUInt32).toInt32)) ||| ((cont c0) <<< ((8 : Int32) &&& 31))).toInt64), .second, .val (.int (16 : Int32)), .val (.int (1 : Int32)), .unset]) (pc' := 300) X106 hx (hb hby d48_298) rfl rfl ?_
        refine Ok.iload (pc' := 302) X106 hx (hb hby d48_300) rfl rfl ?_
        refine Ok.iload (pc' := 304) X106 hx (hb hby d48_302) rfl rfl ?_
        refine Ok.bipush (z := (8 : Int32)) (pc' := 306) X106 hx (hb hby d48_304) rfl rfl ?_
        refine Ok.idiv (pc' := 307) X106 hx (hb hby d48_306) rfl (by decide) ?_
        refine Ok.iadd (pc' := 308) X106 hx (hb hby d48_307) rfl ?_
        refine Ok.istore (l' := #[.val (.ref a1), .val (.int (0 : Int32)), .val (.int (1 : Int32)), .val (.long ((0 : Int64) ||| ((((192 : Int32) ||| ((c0.toUInt32 >>> ((6 : Int32) &&& 31).toUInt32).toInt32)) ||| ((cont c0) <<< ((8 : Int32) &&& 31))).toInt64 <<< ((0 : Int32) &&& 0x3f).toInt64))), .second, .val (.int (16 : Int32)), .val (.int ((0 : Int32) + ((16 : Int32) / (8 : Int32)))), .val (.int c0), .val (.long (((192 : Int32) ||| ((c0.toUInt32 >>> ((6 : Int32) &&& 31).toUInt32).toInt32)) ||| ((cont c0) <<< ((8 : Int32) &&& 31))).toInt64), .second, .val (.int (16 : Int32)), .val (.int (1 : Int32)), .unset]) (pc' := 310) X106 hx (hb hby d48_308) rfl rfl ?_
        refine Ok.iload (pc' := 312) X106 hx (hb hby d48_310) rfl rfl ?_
        refine Ok.bipush (z := (32 : Int32)) (pc' := 314) X106 hx (hb hby d48_312) rfl rfl ?_
        refine Ok.icY (pc' := 332) X106 hx (hb hby d48_314) (bt (ic_eq (16 : Int32) (32 : Int32)).2.2.1 (by decide)) (by decide) (by decide) ?_
        refine Ok.goto (pc' := 48) X106 hx (hb hby d48_332) (by decide) (by decide) ?_
        have es : hstep ((0 : Int32), (0 : Int64), (0 : Int32), (0 : Int32)) c0 = ((0 : Int32), ((0 : Int64) ||| ((((192 : Int32) ||| ((c0.toUInt32 >>> ((6 : Int32) &&& 31).toUInt32).toInt32)) ||| ((cont c0) <<< ((8 : Int32) &&& 31))).toInt64 <<< ((0 : Int32) &&& 0x3f).toInt64)), (16 : Int32), ((0 : Int32) + ((16 : Int32) / (8 : Int32)))) := by
          unfold hstep
          rw [if_neg (by omega)]
          unfold hst
          exact if_pos (by decide)
        rw [es] at hsl
        exact kt1 T106 _ X106 eq106 N106 _ _ _ _ _ _ _ _ hsl
    · refine Ok.icN (pc' := 74) X105 hx (hb hby d48_71) (bf (ic_eq c0 (128 : Int32)).2.2.2.1 hc71) rfl ?_
      refine Ok.iload (pc' := 76) X105 hx (hb hby d48_74) rfl rfl ?_
      refine Ok.i2l (pc' := 77) X105 hx (hb hby d48_76) rfl ?_
      refine Ok.lstore (l' := #[.val (.ref a1), .val (.int (0 : Int32)), .val (.int (0 : Int32)), .val (.long (0 : Int64)), .second, .val (.int (0 : Int32)), .val (.int (0 : Int32)), .val (.int c0), .val (.long c0.toInt64), .second, .unset, .val (.int (1 : Int32)), .unset]) (pc' := 79) X105 hx (hb hby d48_77) rfl rfl ?_
      refine Ok.bipush (z := (8 : Int32)) (pc' := 81) X105 hx (hb hby d48_79) rfl rfl ?_
      refine Ok.istore (l' := #[.val (.ref a1), .val (.int (0 : Int32)), .val (.int (0 : Int32)), .val (.long (0 : Int64)), .second, .val (.int (0 : Int32)), .val (.int (0 : Int32)), .val (.int c0), .val (.long c0.toInt64), .second, .val (.int (8 : Int32)), .val (.int (1 : Int32)), .unset]) (pc' := 83) X105 hx (hb hby d48_81) rfl rfl ?_
      refine Ok.goto (pc' := 280) X105 hx (hb hby d48_83) (by decide) (by decide) ?_
      refine Ok.iloadN (pc' := 281) X105 hx (hb hby d48_280) rfl rfl ?_
      refine Ok.iload (pc' := 283) X105 hx (hb hby d48_281) rfl rfl ?_
      refine Ok.iadd (pc' := 284) X105 hx (hb hby d48_283) rfl ?_
      show Ok p e below _ _ T105 (mkF m 284 #[.val (.ref a1), .val (.int (0 : Int32)), .val (.int (0 : Int32)), .val (.long (0 : Int64)), .second, .val (.int (0 : Int32)), .val (.int (0 : Int32)), .val (.int c0), .val (.long c0.toInt64), .second, .val (.int (8 : Int32)), .val (.int (1 : Int32)), .unset] [(.int (1 : Int32))])
      refine Ok.istoreN (l' := #[.val (.ref a1), .val (.int (0 : Int32)), .val (.int (1 : Int32)), .val (.long (0 : Int64)), .second, .val (.int (0 : Int32)), .val (.int (0 : Int32)), .val (.int c0), .val (.long c0.toInt64), .second, .val (.int (8 : Int32)), .val (.int (1 : Int32)), .unset]) (pc' := 285) X105 hx (hb hby d48_284) rfl rfl ?_
      refine Ok.lloadN (pc' := 286) X105 hx (hb hby d48_285) rfl rfl ?_
      refine Ok.lload (pc' := 288) X105 hx (hb hby d48_286) rfl rfl ?_
      refine Ok.iload (pc' := 290) X105 hx (hb hby d48_288) rfl rfl ?_
      refine Ok.lshl (pc' := 291) X105 hx (hb hby d48_290) rfl ?_
      refine Ok.lor (pc' := 292) X105 hx (hb hby d48_291) rfl ?_
      refine Ok.lstoreN (l' := #[.val (.ref a1), .val (.int (0 : Int32)), .val (.int (1 : Int32)), .val (.long ((0 : Int64) ||| (c0.toInt64 <<< ((0 : Int32) &&& 0x3f).toInt64))), .second, .val (.int (0 : Int32)), .val (.int (0 : Int32)), .val (.int c0), .val (.long c0.toInt64), .second, .val (.int (8 : Int32)), .val (.int (1 : Int32)), .unset]) (pc' := 293) X105 hx (hb hby d48_292) rfl rfl ?_
      refine Ok.iload (pc' := 295) X105 hx (hb hby d48_293) rfl rfl ?_
      refine Ok.iload (pc' := 297) X105 hx (hb hby d48_295) rfl rfl ?_
      refine Ok.iadd (pc' := 298) X105 hx (hb hby d48_297) rfl ?_
      show Ok p e below _ _ T105 (mkF m 298 #[.val (.ref a1), .val (.int (0 : Int32)), .val (.int (1 : Int32)), .val (.long ((0 : Int64) ||| (c0.toInt64 <<< ((0 : Int32) &&& 0x3f).toInt64))), .second, .val (.int (0 : Int32)), .val (.int (0 : Int32)), .val (.int c0), .val (.long c0.toInt64), .second, .val (.int (8 : Int32)), .val (.int (1 : Int32)), .unset] [(.int (8 : Int32))])
      refine Ok.istore (l' := #[.val (.ref a1), .val (.int (0 : Int32)), .val (.int (1 : Int32)), .val (.long ((0 : Int64) ||| (c0.toInt64 <<< ((0 : Int32) &&& 0x3f).toInt64))), .second, .val (.int (8 : Int32)), .val (.int (0 : Int32)), .val (.int c0), .val (.long c0.toInt64), .second, .val (.int (8 : Int32)), .val (.int (1 : Int32)), .unset]) (pc' := 300) X105 hx (hb hby d48_298) rfl rfl ?_
      refine Ok.iload (pc' := 302) X105 hx (hb hby d48_300) rfl rfl ?_
      refine Ok.iload (pc' := 304) X105 hx (hb hby d48_302) rfl rfl ?_
      refine Ok.bipush (z := (8 : Int32)) (pc' := 306) X105 hx (hb hby d48_304) rfl rfl ?_
      refine Ok.idiv (pc' := 307) X105 hx (hb hby d48_306) rfl (by decide) ?_
      refine Ok.iadd (pc' := 308) X105 hx (hb hby d48_307) rfl ?_
      refine Ok.istore (l' := #[.val (.ref a1), .val (.int (0 : Int32)), .val (.int (1 : Int32)), .val (.long ((0 : Int64) ||| (c0.toInt64 <<< ((0 : Int32) &&& 0x3f).toInt64))), .second, .val (.int (8 : Int32)), .val (.int ((0 : Int32) + ((8 : Int32) / (8 : Int32)))), .val (.int c0), .val (.long c0.toInt64), .second, .val (.int (8 : Int32)), .val (.int (1 : Int32)), .unset]) (pc' := 310) X105 hx (hb hby d48_308) rfl rfl ?_
      refine Ok.iload (pc' := 312) X105 hx (hb hby d48_310) rfl rfl ?_
      refine Ok.bipush (z := (32 : Int32)) (pc' := 314) X105 hx (hb hby d48_312) rfl rfl ?_
      refine Ok.icY (pc' := 332) X105 hx (hb hby d48_314) (bt (ic_eq (8 : Int32) (32 : Int32)).2.2.1 (by decide)) (by decide) (by decide) ?_
      refine Ok.goto (pc' := 48) X105 hx (hb hby d48_332) (by decide) (by decide) ?_
      have es : hstep ((0 : Int32), (0 : Int64), (0 : Int32), (0 : Int32)) c0 = ((0 : Int32), ((0 : Int64) ||| (c0.toInt64 <<< ((0 : Int32) &&& 0x3f).toInt64)), (8 : Int32), ((0 : Int32) + ((8 : Int32) / (8 : Int32)))) := by
        unfold hstep
        rw [if_pos (by omega)]
        unfold hst
        exact if_pos (by decide)
      rw [es] at hsl
      exact kt1 T105 _ X105 eq105 N105 _ _ _ _ _ _ _ _ hsl
  · refine Ok.icN (pc' := 22) X86 hx (hb hby d48_19) (bf (ic_eq (aw c0 c1 c2 c3) (-1 : Int32)).1 hc19) rfl ?_
    refine Ok.iloadN (pc' := 23) X86 hx (hb hby d48_22) rfl rfl ?_
    refine Ok.iloadN (pc' := 24) X86 hx (hb hby d48_23) rfl rfl ?_
    refine Ok.callS (pc' := 27) (W := 0)  (argsL := [(.int (0 : Int32)), (.int (aw c0 c1 c2 c3))]) (rest := []) X86 hx hZ83 hown83 (rm4 l Z a0 hw (0 : Int32) (aw c0 c1 c2 c3) h83 n0 Z84 ) (hw _ (List.mem_of_getElem? (i := 135) rfl)) (hw _ (List.mem_of_getElem? (i := 136) rfl)) (hw _ (List.mem_of_getElem? (i := 92) rfl)) (hw _ (List.mem_of_getElem? (i := 137) rfl)) (by decide) eq86 (by decide) (by decide) (by decide) (by decide) (lenOf pd_23 rfl) rfl rfl (Nat.le_of_eq rfl) (by rw [hml]; rfl) (hb hby d48_24) rfl ?_
    intro v107 T107 L107 X107 hQ107
    obtain ⟨rfl, Nq107, eq107⟩ := hQ107
    have N107 := Fr.app N86 Nq107
    show Ok p e below _ _ T107 (mkF m 27 #[.val (.ref a1), .val (.int (0 : Int32)), .val (.int (0 : Int32)), .val (.int (aw c0 c1 c2 c3)), .unset, .unset, .unset, .unset, .unset, .unset, .unset, .unset, .unset] [(.int (wwv (0 : Int32) (aw c0 c1 c2 c3)))])
    refine Ok.istoreN (l' := #[.val (.ref a1), .val (.int (wwv (0 : Int32) (aw c0 c1 c2 c3))), .val (.int (0 : Int32)), .val (.int (aw c0 c1 c2 c3)), .unset, .unset, .unset, .unset, .unset, .unset, .unset, .unset, .unset]) (pc' := 28) X107 hx (hb hby d48_27) rfl rfl ?_
    refine Ok.iinc (z := (4 : Int32)) (l' := #[.val (.ref a1), .val (.int (wwv (0 : Int32) (aw c0 c1 c2 c3))), .val (.int (4 : Int32)), .val (.int (aw c0 c1 c2 c3)), .unset, .unset, .unset, .unset, .unset, .unset, .unset, .unset, .unset]) (pc' := 31) X107 hx (hb hby d48_28) rfl rfl rfl rfl ?_
    refine Ok.aloadN (pc' := 32) X107 hx (hb hby d48_31) rfl rfl rfl ?_
    refine Ok.iloadN (pc' := 33) X107 hx (hb hby d48_32) rfl rfl ?_
    refine Ok.callS (pc' := 36) (W := 0)  (argsL := [(.ref a1), (.int (4 : Int32))]) (rest := []) X107 hx hZ83 hown83 (rm47 l Z a0 hw a1 r1 k1 c0 c1 c2 c3 cs0 gv h83 n0 Z84 E_a1 Fv Fc V_1 hc0 hc1 hc2 hc3 O_0 S_cs hcs S_sf r_gv) (hw _ (List.mem_of_getElem? (i := 101) rfl)) (hw _ (List.mem_of_getElem? (i := 102) rfl)) (hw _ (List.mem_of_getElem? (i := 92) rfl)) (hw _ (List.mem_of_getElem? (i := 103) rfl)) (by decide) eq107 (by decide) (by decide) (by decide) (by decide) (lenOf pd_15 rfl) rfl rfl (Nat.le_of_eq rfl) (by rw [hml]; rfl) (hb hby d48_33) rfl ?_
    intro v108 T108 L108 X108 hQ108
    obtain ⟨rfl, Nq108, eq108⟩ := hQ108
    have N108 := Fr.app N107 Nq108
    show Ok p e below _ _ T108 (mkF m 36 #[.val (.ref a1), .val (.int (wwv (0 : Int32) (aw c0 c1 c2 c3))), .val (.int (4 : Int32)), .val (.int (aw c0 c1 c2 c3)), .unset, .unset, .unset, .unset, .unset, .unset, .unset, .unset, .unset] [(.int (-1 : Int32))])
    refine Ok.istoreN (l' := #[.val (.ref a1), .val (.int (wwv (0 : Int32) (aw c0 c1 c2 c3))), .val (.int (4 : Int32)), .val (.int (-1 : Int32)), .unset, .unset, .unset, .unset, .unset, .unset, .unset, .unset, .unset]) (pc' := 37) X108 hx (hb hby d48_36) rfl rfl ?_
    refine Ok.goto (pc' := 17) X108 hx (hb hby d48_37) (by decide) (by decide) ?_
    refine Ok.iloadN (pc' := 18) X108 hx (hb hby d48_17) rfl rfl ?_
    refine Ok.iconst (z := (-1 : Int32)) (pc' := 19) X108 hx (hb hby d48_18) rfl rfl ?_
    refine Ok.icY (pc' := 40) X108 hx (hb hby d48_19) (bt (ic_eq (-1 : Int32) (-1 : Int32)).1 (by decide)) (by decide) (by decide) ?_
    refine Ok.lconst (z := (0 : Int64)) (pc' := 41) X108 hx (hb hby d48_40) rfl rfl ?_
    refine Ok.lstoreN (l' := #[.val (.ref a1), .val (.int (wwv (0 : Int32) (aw c0 c1 c2 c3))), .val (.int (4 : Int32)), .val (.long (0 : Int64)), .second, .unset, .unset, .unset, .unset, .unset, .unset, .unset, .unset]) (pc' := 42) X108 hx (hb hby d48_41) rfl rfl ?_
    refine Ok.iconst (z := (0 : Int32)) (pc' := 43) X108 hx (hb hby d48_42) rfl rfl ?_
    refine Ok.istore (l' := #[.val (.ref a1), .val (.int (wwv (0 : Int32) (aw c0 c1 c2 c3))), .val (.int (4 : Int32)), .val (.long (0 : Int64)), .second, .val (.int (0 : Int32)), .unset, .unset, .unset, .unset, .unset, .unset, .unset]) (pc' := 45) X108 hx (hb hby d48_43) rfl rfl ?_
    refine Ok.iloadN (pc' := 46) X108 hx (hb hby d48_45) rfl rfl ?_
    refine Ok.istore (l' := #[.val (.ref a1), .val (.int (wwv (0 : Int32) (aw c0 c1 c2 c3))), .val (.int (4 : Int32)), .val (.long (0 : Int64)), .second, .val (.int (0 : Int32)), .val (.int (4 : Int32)), .unset, .unset, .unset, .unset, .unset, .unset]) (pc' := 48) X108 hx (hb hby d48_46) rfl rfl ?_
    refine Ok.iloadN (pc' := 49) X108 hx (hb hby d48_48) rfl rfl ?_
    refine Ok.aloadN (pc' := 50) X108 hx (hb hby d48_49) rfl rfl rfl ?_
    refine Ok.virt (pc' := 53) (W := 1) (a := a1)  (argsL := []) (rest := [(.int (4 : Int32))]) X108 hx hZ83 hown83 (rm20 l Z a0 hw a1 r1 k1 c0.toInt8.toInt32.toInt8.toInt32 c1.toInt8.toInt32.toInt8.toInt32 c2.toInt8.toInt32.toInt8.toInt32 c3.toInt8.toInt32.toInt8.toInt32 cs0 h83 n0 Z84 E_a1 Fv Fc V_1 O_0 S_cs hcs) (hw _ (List.mem_of_getElem? (i := 104) rfl)) (hw _ (List.mem_of_getElem? (i := 105) rfl)) (notFace_of_selects (args := #[]) (mvT (s := s.setVm _) hZ83 (hw _ (List.mem_of_getElem? (i := 107) rfl)))) (hw _ (List.mem_of_getElem? (i := 107) rfl)) (hw _ (List.mem_of_getElem? (i := 106) rfl)) (hw _ (List.mem_of_getElem? (i := 4) rfl)) (hw _ (List.mem_of_getElem? (i := 108) rfl)) (by decide) eq108 E_a1 (by decide) (by decide) (by decide) (by decide) (lenOf pd_16 rfl) rfl rfl (Nat.le_of_eq rfl) (by rw [hml]; rfl) (hb hby d48_50) rfl ?_
    intro v109 T109 L109 X109 hQ109
    obtain ⟨rfl, Nq109, eq109⟩ := hQ109
    have N109 := Fr.app N108 Nq109
    show Ok p e below _ _ T109 (mkF m 53 #[.val (.ref a1), .val (.int (wwv (0 : Int32) (aw c0 c1 c2 c3))), .val (.int (4 : Int32)), .val (.long (0 : Int64)), .second, .val (.int (0 : Int32)), .val (.int (4 : Int32)), .unset, .unset, .unset, .unset, .unset, .unset] [(.int (4 : Int32)), (.int (4 : Int32))])
    refine Ok.icY (pc' := 335) X109 hx (hb hby d48_53) (bt (ic_eq (4 : Int32) (4 : Int32)).2.2.2.1 (by decide)) (by decide) (by decide) ?_
    refine Ok.iloadN (pc' := 336) X109 hx (hb hby d48_335) rfl rfl ?_
    refine Ok.lloadN (pc' := 337) X109 hx (hb hby d48_336) rfl rfl ?_
    refine Ok.l2i (pc' := 338) X109 hx (hb hby d48_337) rfl ?_
    refine Ok.iload (pc' := 340) X109 hx (hb hby d48_338) rfl rfl ?_
    refine Ok.callS (pc' := 343) (W := 0)  (argsL := [(.int (wwv (0 : Int32) (aw c0 c1 c2 c3))), (.int (0 : Int64).toInt32), (.int (4 : Int32))]) (rest := []) X109 hx hZ83 hown83 (rm7 l Z a0 hw (wwv (0 : Int32) (aw c0 c1 c2 c3)) (0 : Int64).toInt32 (4 : Int32) h83 n0 Z84 ) (hw _ (List.mem_of_getElem? (i := 148) rfl)) (hw _ (List.mem_of_getElem? (i := 149) rfl)) (hw _ (List.mem_of_getElem? (i := 92) rfl)) (hw _ (List.mem_of_getElem? (i := 150) rfl)) (by decide) eq109 (by decide) (by decide) (by decide) (by decide) (lenOf pd_25 rfl) rfl rfl (Nat.le_of_eq rfl) (by rw [hml]; rfl) (hb hby d48_340) rfl ?_
    intro v110 T110 L110 X110 hQ110
    obtain ⟨rfl, Nq110, eq110⟩ := hQ110
    have N110 := Fr.app N109 Nq110
    show Ok p e below _ _ T110 (mkF m 343 #[.val (.ref a1), .val (.int (wwv (0 : Int32) (aw c0 c1 c2 c3))), .val (.int (4 : Int32)), .val (.long (0 : Int64)), .second, .val (.int (0 : Int32)), .val (.int (4 : Int32)), .unset, .unset, .unset, .unset, .unset, .unset] [(.long (finv (wwv (0 : Int32) (aw c0 c1 c2 c3)) (0 : Int64).toInt32 (4 : Int32)))])
    refine Ok.retJW X110 hx hS83 (by rw [eq110]; exact hSn83) hret hlk (hb hby d48_343) (by decide) (by decide) ?_
    show Q48 Z a1 r1 k1 c0 c1 c2 c3 cs0 gv h0 n0 _ T110.heap _
    rw [eq110]
    exact ⟨by unfold hval; rw [if_neg hc19], N110, K83⟩
theorem d50_0 : decode prog_4_method_1_code 0 = .ok (.aload_n 0, 1) := by decide +kernel
theorem d50_1 : decode prog_4_method_1_code 1 = .ok (.invokespecial 1, 3) := by decide +kernel
theorem d50_4 : decode prog_4_method_1_code 4 = .ok (.aload_n 0, 1) := by decide +kernel
theorem d50_5 : decode prog_4_method_1_code 5 = .ok (.iload_n 1, 1) := by decide +kernel
theorem d50_6 : decode prog_4_method_1_code 6 = .ok (.putfield 7, 3) := by decide +kernel
theorem d50_9 : decode prog_4_method_1_code 9 = .ok (.return_, 1) := by decide +kernel
theorem ef_50 (m : MethodId) (x0 : Addr) (x1 : Int32) : entryFrame m #[(.ref x0), (.int x1)] 2 = mkF m 0 #[.val (.ref x0), .val (.int x1)] [] := by first | (simp [entryFrame, mkF, argsToLocals, Value.category]; done) | rfl
def Q50 (Z : State) (a1 : Addr) (q2 : Int32) (u_buckets : Value) (h0 : Heap) (n0 : Nat) (v : Option Value) (h : Heap) (L : List Loc) : Prop := v = none ∧ Fr n0 L ∧ Keep h0 h [a1] ∧ Exa Z h a1 "com/example/ringward/ringward/JumpPlacement" ∧ Fld Z h a1 "com/example/ringward/ringward/JumpPlacement" "buckets" "I" (.int q2)
set_option maxRecDepth 65536 in
set_option maxHeartbeats 40000000 in
theorem rm50 (l : Launch) (Z : State) (a0 : Array Value) (hw : ∀ d ∈ tables_1, d.before a0 Z = true) (a1 : Addr) (q2 : Int32) (u_buckets : Value) (h0 : Heap) (n0 : Nat) (Z0 : n0 ≤ h0.size) (E_a1 : Exa Z h0 a1 "com/example/ringward/ringward/JumpPlacement") (g_a1 : n0 ≤ a1) (F_buckets : Fld Z h0 a1 "com/example/ringward/ringward/JumpPlacement" "buckets" "I" u_buckets) :
    MetN l Z (⟨"com/example/ringward/ringward/JumpPlacement", "<init>", "(I)V"⟩ : MethodName) prog_4_method_1_code 2 none [] ({ frames := 1, cells := 0, slots := 0, locals := 12 } : Room) #[(.ref a1), (.int q2)] h0 (Q50 Z a1 q2 u_buckets h0 n0) := by
  refine met_n (plainFor_of_name pn_0) (fun m => ef_50 m a1 q2) ?_
  intro p e s m below meth c s₁ X0 hx hby hml hZ hown hnm hret hlk e0
  replace hown : s.vm.findClass "com/example/ringward/ringward/JumpPlacement" = some m.cls := hown
  replace hnm : meth.name = "<init>" := hnm
  replace hret : meth.sig.returnType = none := hret
  have N0 := Fr.nil n0
  have K0 : Keep h0 h0 [a1] := Keep.refl _ _
  show Ok p e below _ _ s₁ (mkF m 0 #[.val (.ref a1), .val (.int q2)] [])
  refine Ok.aloadN (pc' := 1) X0 hx (hb hby d50_0) rfl rfl rfl ?_
  refine Ok.initO (pc' := 4) (W := 0) X0 hx hZ hown (hw _ (List.mem_of_getElem? (i := 75) rfl)) (hw _ (List.mem_of_getElem? (i := 13) rfl)) (hw _ (List.mem_of_getElem? (i := 14) rfl)) e0 (by rw [hml]; rfl) (hb hby d50_1) rfl (by decide) (Nat.le_of_eq rfl) (by decide) ?_
  intro T111 X111 e111
  refine Ok.aloadN (pc' := 5) X111 hx (hb hby d50_4) rfl rfl rfl ?_
  refine Ok.iloadN (pc' := 6) X111 hx (hb hby d50_5) rfl rfl ?_
  refine Ok.putF (pc' := 9) (ty := .int) X111 hx hZ hown (host := "") (Or.inl (hw _ (List.mem_of_getElem? (i := 76) rfl))) Via.refl e111 F_buckets E_a1 (Or.inr ⟨(hw _ (List.mem_of_getElem? (i := 77) rfl)), rfl, hnm⟩) (hw _ (List.mem_of_getElem? (i := 70) rfl)) (by decide) rfl rfl (hb hby d50_6) rfl ?_
  intro T112 h112 X112 e112 W112
  replace F_buckets := F_buckets.same W112
  replace E_a1 := E_a1.wr W112
  have N112 := Fr.snoc X112 N0 g_a1
  have K112 : Keep h0 h112 [a1] := K0.wr W112 (Or.inl (List.mem_of_getElem? (i := 0) rfl))
  have Z113 : n0 ≤ h112.size := Nat.le_trans Z0 (Keep.of_wr W112).1
  refine Ok.retV X112 hx hret hlk (hb hby d50_9) (by decide) (by decide) ?_
  show Q50 Z a1 q2 u_buckets h0 n0 _ T112.heap _
  rw [e112]
  exact ⟨rfl, N112, K112, E_a1, F_buckets⟩
theorem d51_0 : decode prog_4_method_3_code 0 = .ok (.aload_n 1, 1) := by decide +kernel
theorem d51_1 : decode prog_4_method_3_code 1 = .ok (.invokestatic 23, 3) := by decide +kernel
theorem d51_4 : decode prog_4_method_3_code 4 = .ok (.aload_n 0, 1) := by decide +kernel
theorem d51_5 : decode prog_4_method_3_code 5 = .ok (.getfield 7, 3) := by decide +kernel
theorem d51_8 : decode prog_4_method_3_code 8 = .ok (.invokestatic 19, 3) := by decide +kernel
theorem d51_11 : decode prog_4_method_3_code 11 = .ok (.ireturn, 1) := by decide +kernel
theorem ef_51 (m : MethodId) (x0 : Addr) (x1 : Addr) : entryFrame m #[(.ref x0), (.ref x1)] 2 = mkF m 0 #[.val (.ref x0), .val (.ref x1)] [] := by first | (simp [entryFrame, mkF, argsToLocals, Value.category]; done) | rfl
def Q51 (Z : State) (j1 : Addr) (bk : Int32) (fu : Nat) (a1 : Addr) (r1 : Addr) (k1 : ClassId) (c0 : Int32) (c1 : Int32) (c2 : Int32) (c3 : Int32) (cs0 : Int32) (gv : Value) (h0 : Heap) (n0 : Nat) (v : Option Value) (h : Heap) (L : List Loc) : Prop := ∃ r : Int32, v = some (.int r) ∧ r.toInt = lp fu (hval c0 c1 c2 c3) 0 0 bk.toInt ∧ Fr n0 L ∧ Keep h0 h []
set_option maxRecDepth 65536 in
set_option maxHeartbeats 40000000 in
theorem rm51 (l : Launch) (Z : State) (a0 : Array Value) (hw : ∀ d ∈ tables_1, d.before a0 Z = true) (j1 : Addr) (bk : Int32) (fu : Nat) (a1 : Addr) (r1 : Addr) (k1 : ClassId) (c0 : Int32) (c1 : Int32) (c2 : Int32) (c3 : Int32) (cs0 : Int32) (gv : Value) (h0 : Heap) (n0 : Nat) (Z0 : n0 ≤ h0.size) (F_b : Fld Z h0 j1 "com/example/ringward/ringward/JumpPlacement" "buckets" "I" (.int bk)) (hbk : 1 ≤ bk.toInt) (hfu : bk.toInt ≤ (fu : Int)) (E_a1 : Exa Z h0 a1 "java/lang/String") (Fv : Fld Z h0 a1 "java/lang/String" "value" "[B" (.ref r1)) (Fc : Fld Z h0 a1 "java/lang/String" "coder" "B" (.int (0 : Int32))) (V_1 : Arv Z h0 r1 k1 .byte (4 : Int32) [(.int c0.toInt8.toInt32.toInt8.toInt32), (.int c1.toInt8.toInt32.toInt8.toInt32), (.int c2.toInt8.toInt32.toInt8.toInt32), (.int c3.toInt8.toInt32.toInt8.toInt32)] (.int (0 : Int32))) (hc0 : 0 ≤ c0.toInt ∧ c0.toInt ≤ 255) (hc1 : 0 ≤ c1.toInt ∧ c1.toInt ≤ 255) (hc2 : 0 ≤ c2.toInt ∧ c2.toInt ≤ 255) (hc3 : 0 ≤ c3.toInt ∧ c3.toInt ≤ 255) (O_0 : Old Z n0 h0) (S_cs : Sta Z Z.heap "java/lang/String" "COMPACT_STRINGS" "Z" (.int cs0)) (hcs : ¬ cs0.toInt = 0) (S_sf : Sta Z Z.heap "jdk/internal/util/Preconditions" "SIOOBE_FORMATTER" "Ljava/util/function/BiFunction;" gv) (r_gv : gv.isRef = true) :
    MetW l Z (⟨"com/example/ringward/ringward/JumpPlacement", "nodeIndexFor", "(Ljava/lang/String;)I"⟩ : MethodName) prog_4_method_3_code 2 (some .int) [] ({ frames := 6, cells := 2, slots := 20, locals := 95 } : Room) #[(.ref j1), (.ref a1)] h0 (Q51 Z j1 bk fu a1 r1 k1 c0 c1 c2 c3 cs0 gv h0 n0) := by
  refine met_w (plainFor_of_name pn_0) (fun m => ef_51 m j1 a1) ?_
  intro p e s m below meth c s₁ V0 nS0 X0 hx hby hml hZ0 hown0 hnm hret hlk e0 hS0 hSn0
  replace hown0 : V0.findClass "com/example/ringward/ringward/JumpPlacement" = some m.cls := hown0
  replace hnm : meth.name = "nodeIndexFor" := hnm
  replace hret : meth.sig.returnType = (some .int) := hret
  have N0 := Fr.nil n0
  have K0 : Keep h0 h0 [] := Keep.refl _ _
  show Ok p e below _ _ s₁ (mkF m 0 #[.val (.ref j1), .val (.ref a1)] [])
  refine Ok.aloadN (pc' := 1) X0 hx (hb hby d51_0) rfl rfl rfl ?_
  refine Ok.callSW (pc' := 4) (W := 0)  (argsL := [(.ref a1)]) (rest := []) X0 hx hZ0 hown0 hS0 hSn0 (rm48 l Z a0 hw a1 r1 k1 c0 c1 c2 c3 cs0 gv h0 n0 Z0 E_a1 Fv Fc V_1 hc0 hc1 hc2 hc3 O_0 S_cs hcs S_sf r_gv) (hw _ (List.mem_of_getElem? (i := 90) rfl)) (hw _ (List.mem_of_getElem? (i := 91) rfl)) (hw _ (List.mem_of_getElem? (i := 92) rfl)) (hw _ (List.mem_of_getElem? (i := 93) rfl)) (by decide) e0 (by decide) (by decide) (by decide) (by decide) (lenOf pd_13 rfl) rfl rfl (Nat.le_of_eq rfl) (by rw [hml]; rfl) (hb hby d51_1) rfl ?_
  intro v114 T114 L114 X114 hZ114 hown114 hS114 hQ114
  obtain ⟨rfl, Nq114, Kq114⟩ := hQ114
  have N114 := Fr.app N0 Nq114
  replace E_a1 := E_a1.keep Kq114
  replace Fv := Fv.keep Kq114 nin0
  replace Fc := Fc.keep Kq114 nin0
  replace V_1 := V_1.keep Kq114 nin0
  replace O_0 := O_0.keep Kq114 all0
  replace F_b := F_b.keep Kq114 nin0
  have K114' : Keep h0 T114.heap [] := K0.trans Kq114 all0
  have Z115 : n0 ≤ T114.heap.size := Nat.le_trans Z0 Kq114.1
  show Ok p e below _ _ T114 (mkF m 4 #[.val (.ref j1), .val (.ref a1)] [(.long (hval c0 c1 c2 c3))])
  refine Ok.aloadN (pc' := 5) X114 hx (hb hby d51_4) rfl rfl rfl ?_
  refine Ok.getF (pc' := 8) X114 hx hZ114 hown114 (host := "") (Or.inl (hw _ (List.mem_of_getElem? (i := 76) rfl))) Via.refl rfl F_b (hb hby d51_5) rfl ?_
  intro T116 X116 e116
  refine Ok.callS (pc' := 11) (W := 0)  (argsL := [(.long (hval c0 c1 c2 c3)), (.int bk)]) (rest := []) X116 hx hZ114 hown114 (rm1 l Z a0 hw (hval c0 c1 c2 c3) bk fu T114.heap n0 Z115 hbk hfu) (hw _ (List.mem_of_getElem? (i := 160) rfl)) (hw _ (List.mem_of_getElem? (i := 161) rfl)) (hw _ (List.mem_of_getElem? (i := 71) rfl)) (hw _ (List.mem_of_getElem? (i := 162) rfl)) (by decide) e116 (by decide) (by decide) (by decide) (by decide) (lenOf pd_27 rfl) rfl rfl (Nat.le_of_eq rfl) (by rw [hml]; rfl) (hb hby d51_8) rfl ?_
  intro v117 T117 L117 X117 hQ117
  obtain ⟨r117, rfl, hr117, Nq117, eq117⟩ := hQ117
  have N117 := Fr.app N114 Nq117
  show Ok p e below _ _ T117 (mkF m 11 #[.val (.ref j1), .val (.ref a1)] [(.int r117)])
  refine Ok.retIW X117 hx hS114 (by rw [eq117]; exact (Nat.le_refl _)) hret hlk (Or.inl rfl) rfl (hb hby d51_11) (by decide) (by decide) ?_
  show Q51 Z j1 bk fu a1 r1 k1 c0 c1 c2 c3 cs0 gv h0 n0 _ T117.heap _
  rw [eq117]
  exact ⟨_, rfl, hr117, N117, K114'⟩
theorem d52_0 : decode prog_4_method_6_code 0 = .ok (.iload_n 2, 1) := by decide +kernel
theorem d52_1 : decode prog_4_method_6_code 1 = .ok (.aload_n 0, 1) := by decide +kernel
theorem d52_2 : decode prog_4_method_6_code 2 = .ok (.getfield 7, 3) := by decide +kernel
theorem d52_5 : decode prog_4_method_6_code 5 = .ok (.iconst 1, 1) := by decide +kernel
theorem d52_6 : decode prog_4_method_6_code 6 = .ok (.isub, 1) := by decide +kernel
theorem d52_7 : decode prog_4_method_6_code 7 = .ok (.if_icmp .eq 22, 3) := by decide +kernel
theorem d52_10 : decode prog_4_method_6_code 10 = .ok (.new 58, 3) := by decide +kernel
theorem d52_13 : decode prog_4_method_6_code 13 = .ok (.dup, 1) := by decide +kernel
theorem d52_14 : decode prog_4_method_6_code 14 = .ok (.aload_n 1, 1) := by decide +kernel
theorem d52_15 : decode prog_4_method_6_code 15 = .ok (.iload_n 2, 1) := by decide +kernel
theorem d52_16 : decode prog_4_method_6_code 16 = .ok (.aload_n 0, 1) := by decide +kernel
theorem d52_17 : decode prog_4_method_6_code 17 = .ok (.getfield 7, 3) := by decide +kernel
theorem d52_25 : decode prog_4_method_6_code 25 = .ok (.invokespecial 64, 3) := by decide +kernel
theorem d52_29 : decode prog_4_method_6_code 29 = .ok (.new 8, 3) := by decide +kernel
theorem d52_32 : decode prog_4_method_6_code 32 = .ok (.dup, 1) := by decide +kernel
theorem d52_33 : decode prog_4_method_6_code 33 = .ok (.aload_n 0, 1) := by decide +kernel
theorem d52_34 : decode prog_4_method_6_code 34 = .ok (.getfield 7, 3) := by decide +kernel
theorem d52_37 : decode prog_4_method_6_code 37 = .ok (.iconst 1, 1) := by decide +kernel
theorem d52_38 : decode prog_4_method_6_code 38 = .ok (.isub, 1) := by decide +kernel
theorem d52_39 : decode prog_4_method_6_code 39 = .ok (.invokespecial 55, 3) := by decide +kernel
theorem d52_42 : decode prog_4_method_6_code 42 = .ok (.areturn, 1) := by decide +kernel
theorem ef_52 (m : MethodId) (x0 : Addr) (x1 : Addr) (x2 : Int32) (x3 : Addr) (x4 : Addr) : entryFrame m #[(.ref x0), (.ref x1), (.int x2), (.ref x3), (.ref x4)] 5 = mkF m 0 #[.val (.ref x0), .val (.ref x1), .val (.int x2), .val (.ref x3), .val (.ref x4)] [] := by first | (simp [entryFrame, mkF, argsToLocals, Value.category]; done) | rfl
def Q52 (Z : State) (j1 : Addr) (a2 : Addr) (p3 : Int32) (a4 : Addr) (a5 : Addr) (bk : Int32) (h0 : Heap) (n0 : Nat) (v : Option Value) (h : Heap) (L : List Loc) : Prop := ∃ b : Addr, v = some (.ref b) ∧ Fr n0 L ∧ Keep h0 h [] ∧ Exa Z h b "com/example/ringward/ringward/JumpPlacement" ∧ Fld Z h b "com/example/ringward/ringward/JumpPlacement" "buckets" "I" (.int (bk - (1 : Int32)))
set_option maxRecDepth 65536 in
set_option maxHeartbeats 40000000 in
theorem rm52 (l : Launch) (Z : State) (a0 : Array Value) (hw : ∀ d ∈ tables_1, d.before a0 Z = true) (j1 : Addr) (a2 : Addr) (p3 : Int32) (a4 : Addr) (a5 : Addr) (bk : Int32) (h0 : Heap) (n0 : Nat) (Z0 : n0 ≤ h0.size) (F_b : Fld Z h0 j1 "com/example/ringward/ringward/JumpPlacement" "buckets" "I" (.int bk)) (hp3 : p3.toInt = (bk - (1 : Int32)).toInt) :
    MetN l Z (⟨"com/example/ringward/ringward/JumpPlacement", "withoutNode", "(Ljava/lang/String;ILjava/util/List;Ljava/util/List;)Lcom/example/ringward/ringward/Placement;"⟩ : MethodName) prog_4_method_6_code 5 (some (.object "com/example/ringward/ringward/Placement")) [] ({ frames := 2, cells := 1, slots := 1, locals := 26 } : Room) #[(.ref j1), (.ref a2), (.int p3), (.ref a4), (.ref a5)] h0 (Q52 Z j1 a2 p3 a4 a5 bk h0 n0) := by
  refine met_n (plainFor_of_name pn_0) (fun m => ef_52 m j1 a2 p3 a4 a5) ?_
  intro p e s m below meth c s₁ X0 hx hby hml hZ hown hnm hret hlk e0
  replace hown : s.vm.findClass "com/example/ringward/ringward/JumpPlacement" = some m.cls := hown
  replace hnm : meth.name = "withoutNode" := hnm
  replace hret : meth.sig.returnType = (some (.object "com/example/ringward/ringward/Placement")) := hret
  have N0 := Fr.nil n0
  have K0 : Keep h0 h0 [] := Keep.refl _ _
  show Ok p e below _ _ s₁ (mkF m 0 #[.val (.ref j1), .val (.ref a2), .val (.int p3), .val (.ref a4), .val (.ref a5)] [])
  refine Ok.iloadN (pc' := 1) X0 hx (hb hby d52_0) rfl rfl ?_
  refine Ok.aloadN (pc' := 2) X0 hx (hb hby d52_1) rfl rfl rfl ?_
  refine Ok.getF (pc' := 5) X0 hx hZ hown (host := "") (Or.inl (hw _ (List.mem_of_getElem? (i := 76) rfl))) Via.refl e0 F_b (hb hby d52_2) rfl ?_
  intro T118 X118 e118
  refine Ok.iconst (z := (1 : Int32)) (pc' := 6) X118 hx (hb hby d52_5) rfl rfl ?_
  refine Ok.isub (pc' := 7) X118 hx (hb hby d52_6) rfl ?_
  refine Ok.icY (pc' := 29) X118 hx (hb hby d52_7) (bt (ic_eq p3 (bk - (1 : Int32))).1 (show p3.toInt = (bk - (1 : Int32)).toInt from hp3)) (by decide) (by decide) ?_
  refine Ok.new (pc' := 32) X118 hx hZ hown (hw _ (List.mem_of_getElem? (i := 83) rfl)) (hw _ (List.mem_of_getElem? (i := 70) rfl)) (hw _ (List.mem_of_getElem? (i := 71) rfl)) e118 (hb hby d52_29) rfl (by decide) (by decide) ?_
  intro T119 h119 b119 g119 X119 e119 E119 A119 D119
  have ne_j1_b119 : Nq j1 b119 := Nat.ne_of_lt (Nat.lt_of_lt_of_eq F_b.lt g119.symm)
  replace F_b := F_b.ext E119
  have ge_b119 : n0 ≤ b119 := Nat.le_trans Z0 (Nat.le_of_eq g119.symm)
  have sz_b119 : h0.size ≤ b119 := Nat.le_trans K0.1 (Nat.le_of_eq g119.symm)
  have K119 : Keep h0 h119 [] := K0.ext E119
  have Z120 : n0 ≤ h119.size := Nat.le_trans Z0 E119.1
  have F119_buckets : Fld Z h119 b119 "com/example/ringward/ringward/JumpPlacement" "buckets" "I" (.int (0 : Int32)) := D119 (Or.inr (hw _ (List.mem_of_getElem? (i := 77) rfl))) (ty := .int) (by decide)
  show Ok p e below _ _ T119 (mkF m 32 #[.val (.ref j1), .val (.ref a2), .val (.int p3), .val (.ref a4), .val (.ref a5)] [(.ref b119)])
  refine Ok.dup (pc' := 33) X119 hx (hb hby d52_32) rfl rfl ?_
  refine Ok.aloadN (pc' := 34) X119 hx (hb hby d52_33) rfl rfl rfl ?_
  refine Ok.getF (pc' := 37) X119 hx hZ hown (host := "") (Or.inl (hw _ (List.mem_of_getElem? (i := 76) rfl))) Via.refl e119 F_b (hb hby d52_34) rfl ?_
  intro T121 X121 e121
  refine Ok.iconst (z := (1 : Int32)) (pc' := 38) X121 hx (hb hby d52_37) rfl rfl ?_
  refine Ok.isub (pc' := 39) X121 hx (hb hby d52_38) rfl ?_
  refine Ok.init (pc' := 42) (W := 1) (a := b119)  (argsL := [(.int (bk - (1 : Int32)))]) (rest := [(.ref b119)]) X121 hx hZ hown (rm50 l Z a0 hw b119 (bk - (1 : Int32)) (.int (0 : Int32)) h119 n0 Z120 A119 ge_b119 F119_buckets) rfl (hw _ (List.mem_of_getElem? (i := 84) rfl)) (hw _ (List.mem_of_getElem? (i := 73) rfl)) (hw _ (List.mem_of_getElem? (i := 71) rfl)) (hw _ (List.mem_of_getElem? (i := 74) rfl)) (by decide) e121 (by decide) (by decide) (by decide) (by decide) (lenOf pd_10 rfl) rfl rfl (Nat.le_of_eq rfl) (by rw [hml]; rfl) (hb hby d52_39) rfl ?_
  intro v122 T122 L122 X122 hQ122
  obtain ⟨rfl, Nq122, Kq122, Aq122, Fq122_buckets⟩ := hQ122
  have N122 := Fr.app N0 Nq122
  replace F_b := F_b.keep Kq122 (ninS ne_j1_b119 nin0)
  replace A119 := A119.keep Kq122
  have K122' : Keep h0 T122.heap [] := K119.trans Kq122 (allS (Or.inr sz_b119) all0)
  have Z123 : n0 ≤ T122.heap.size := Nat.le_trans Z120 Kq122.1
  show Ok p e below _ _ T122 (mkF m 42 #[.val (.ref j1), .val (.ref a2), .val (.int p3), .val (.ref a4), .val (.ref a5)] [(.ref b119)])
  refine Ok.retA X122 hx hret hlk rfl rfl rfl (hb hby d52_42) (by decide) (by decide) ?_
  show Q52 Z j1 a2 p3 a4 a5 bk h0 n0 _ T122.heap _
  exact ⟨_, rfl, N122, K122', A119, Fq122_buckets⟩
theorem d53_0 : decode jdk_22_method_1_code 0 = .ok (.aload_n 0, 1) := by decide +kernel
theorem d53_1 : decode jdk_22_method_1_code 1 = .ok (.invokespecial 1, 3) := by decide +kernel
theorem d53_4 : decode jdk_22_method_1_code 4 = .ok (.return_, 1) := by decide +kernel
theorem pn_8 : plainName "java/util/AbstractCollection" = true := by first | (simp [plainName, overriddenIn]; done) | decide +kernel
theorem ef_53 (m : MethodId) (x0 : Addr) : entryFrame m #[(.ref x0)] 1 = mkF m 0 #[.val (.ref x0)] [] := by first | (simp [entryFrame, mkF, argsToLocals, Value.category]; done) | rfl
def Q53 (Z : State) (a1 : Addr) (h0 : Heap) (n0 : Nat) (v : Option Value) (h : Heap) (L : List Loc) : Prop := v = none ∧ Fr n0 L ∧ h = h0
set_option maxRecDepth 65536 in
set_option maxHeartbeats 40000000 in
theorem rm53 (l : Launch) (Z : State) (a0 : Array Value) (hw : ∀ d ∈ tables_1, d.before a0 Z = true) (a1 : Addr) (h0 : Heap) (n0 : Nat) (Z0 : n0 ≤ h0.size)  :
    MetN l Z (⟨"java/util/AbstractCollection", "<init>", "()V"⟩ : MethodName) jdk_22_method_1_code 1 none [] ({ frames := 1, cells := 0, slots := 0, locals := 12 } : Room) #[(.ref a1)] h0 (Q53 Z a1 h0 n0) := by
  refine met_n (plainFor_of_name pn_8) (fun m => ef_53 m a1) ?_
  intro p e s m below meth c s₁ X0 hx hby hml hZ hown hnm hret hlk e0
  replace hown : s.vm.findClass "java/util/AbstractCollection" = some m.cls := hown
  replace hnm : meth.name = "<init>" := hnm
  replace hret : meth.sig.returnType = none := hret
  have N0 := Fr.nil n0
  have K0 : Keep h0 h0 [] := Keep.refl _ _
  show Ok p e below _ _ s₁ (mkF m 0 #[.val (.ref a1)] [])
  refine Ok.aloadN (pc' := 1) X0 hx (hb hby d53_0) rfl rfl rfl ?_
  refine Ok.initO (pc' := 4) (W := 0) X0 hx hZ hown (hw _ (List.mem_of_getElem? (i := 63) rfl)) (hw _ (List.mem_of_getElem? (i := 13) rfl)) (hw _ (List.mem_of_getElem? (i := 14) rfl)) e0 (by rw [hml]; rfl) (hb hby d53_1) rfl (by decide) (Nat.le_of_eq rfl) (by decide) ?_
  intro T124 X124 e124
  refine Ok.retV X124 hx hret hlk (hb hby d53_4) (by decide) (by decide) ?_
  show Q53 Z a1 h0 n0 _ T124.heap _
  rw [e124]
  exact ⟨rfl, N0, rfl⟩
theorem d54_0 : decode jdk_39_method_1_code 0 = .ok (.aload_n 0, 1) := by decide +kernel
theorem d54_1 : decode jdk_39_method_1_code 1 = .ok (.invokespecial 1, 3) := by decide +kernel
theorem d54_4 : decode jdk_39_method_1_code 4 = .ok (.aload_n 0, 1) := by decide +kernel
theorem d54_5 : decode jdk_39_method_1_code 5 = .ok (.iconst 0, 1) := by decide +kernel
theorem d54_6 : decode jdk_39_method_1_code 6 = .ok (.putfield 7, 3) := by decide +kernel
theorem d54_9 : decode jdk_39_method_1_code 9 = .ok (.return_, 1) := by decide +kernel
theorem pn_9 : plainName "java/util/AbstractList" = true := by first | (simp [plainName, overriddenIn]; done) | decide +kernel
theorem ef_54 (m : MethodId) (x0 : Addr) : entryFrame m #[(.ref x0)] 1 = mkF m 0 #[.val (.ref x0)] [] := by first | (simp [entryFrame, mkF, argsToLocals, Value.category]; done) | rfl
def Q54 (Z : State) (a1 : Addr) (u1 : Value) (u2 : Value) (h0 : Heap) (n0 : Nat) (v : Option Value) (h : Heap) (L : List Loc) : Prop := v = none ∧ Fr n0 L ∧ Keep h0 h [a1] ∧ Exa Z h a1 "java/util/ArrayList" ∧ Fld Z h a1 "java/util/ArrayList" "elementData" "[Ljava/lang/Object;" u2
set_option maxRecDepth 65536 in
set_option maxHeartbeats 40000000 in
theorem rm54 (l : Launch) (Z : State) (a0 : Array Value) (hw : ∀ d ∈ tables_1, d.before a0 Z = true) (a1 : Addr) (u1 : Value) (u2 : Value) (h0 : Heap) (n0 : Nat) (Z0 : n0 ≤ h0.size) (E_a1 : Exa Z h0 a1 "java/util/ArrayList") (g_a1 : n0 ≤ a1) (F_1 : Fld Z h0 a1 "java/util/AbstractList" "modCount" "I" u1) (F_2 : Fld Z h0 a1 "java/util/ArrayList" "elementData" "[Ljava/lang/Object;" u2) :
    MetN l Z (⟨"java/util/AbstractList", "<init>", "()V"⟩ : MethodName) jdk_39_method_1_code 1 none [] ({ frames := 2, cells := 0, slots := 0, locals := 24 } : Room) #[(.ref a1)] h0 (Q54 Z a1 u1 u2 h0 n0) := by
  refine met_n (plainFor_of_name pn_9) (fun m => ef_54 m a1) ?_
  intro p e s m below meth c s₁ X0 hx hby hml hZ hown hnm hret hlk e0
  replace hown : s.vm.findClass "java/util/AbstractList" = some m.cls := hown
  replace hnm : meth.name = "<init>" := hnm
  replace hret : meth.sig.returnType = none := hret
  have N0 := Fr.nil n0
  have K0 : Keep h0 h0 [a1] := Keep.refl _ _
  show Ok p e below _ _ s₁ (mkF m 0 #[.val (.ref a1)] [])
  refine Ok.aloadN (pc' := 1) X0 hx (hb hby d54_0) rfl rfl rfl ?_
  refine Ok.init (pc' := 4) (W := 0) (a := a1)  (argsL := []) (rest := []) X0 hx hZ hown (rm53 l Z a0 hw a1 h0 n0 Z0 ) rfl (hw _ (List.mem_of_getElem? (i := 57) rfl)) (hw _ (List.mem_of_getElem? (i := 58) rfl)) (hw _ (List.mem_of_getElem? (i := 61) rfl)) (hw _ (List.mem_of_getElem? (i := 62) rfl)) (by decide) e0 (by decide) (by decide) (by decide) (by decide) (lenOf pd_2 rfl) rfl rfl (Nat.le_of_eq rfl) (by rw [hml]; rfl) (hb hby d54_1) rfl ?_
  intro v125 T125 L125 X125 hQ125
  obtain ⟨rfl, Nq125, eq125⟩ := hQ125
  have N125 := Fr.app N0 Nq125
  show Ok p e below _ _ T125 (mkF m 4 #[.val (.ref a1)] [])
  refine Ok.aloadN (pc' := 5) X125 hx (hb hby d54_4) rfl rfl rfl ?_
  refine Ok.iconst (z := (0 : Int32)) (pc' := 6) X125 hx (hb hby d54_5) rfl rfl ?_
  refine Ok.putF (pc' := 9) (ty := .int) X125 hx hZ hown (host := "") (Or.inl (hw _ (List.mem_of_getElem? (i := 64) rfl))) Via.refl eq125 F_1 E_a1 (Or.inl (hw _ (List.mem_of_getElem? (i := 65) rfl))) (hw _ (List.mem_of_getElem? (i := 46) rfl)) (by decide) rfl rfl (hb hby d54_6) rfl ?_
  intro T126 h126 X126 e126 W126
  replace F_1 := F_1.same W126
  replace E_a1 := E_a1.wr W126
  replace F_2 := F_2.other W126 (Or.inr (slot_ne (Or.inl (hw _ (List.mem_of_getElem? (i := 68) rfl))) (Or.inl (hw _ (List.mem_of_getElem? (i := 65) rfl))) (by decide) (t := (.array (.object "java/lang/Object"))) (t' := .int) (by decide) (by decide)))
  have N126 := Fr.snoc X126 N125 g_a1
  have K126 : Keep h0 h126 [a1] := K0.wr W126 (Or.inl (List.mem_of_getElem? (i := 0) rfl))
  have Z127 : n0 ≤ h126.size := Nat.le_trans Z0 (Keep.of_wr W126).1
  refine Ok.retV X126 hx hret hlk (hb hby d54_9) (by decide) (by decide) ?_
  show Q54 Z a1 u1 u2 h0 n0 _ T126.heap _
  rw [e126]
  exact ⟨rfl, N126, K126, E_a1, F_2⟩
theorem d55_0 : decode jdk_38_method_2_code 0 = .ok (.aload_n 0, 1) := by decide +kernel
theorem d55_1 : decode jdk_38_method_2_code 1 = .ok (.invokespecial 1, 3) := by decide +kernel
theorem d55_4 : decode jdk_38_method_2_code 4 = .ok (.aload_n 0, 1) := by decide +kernel
theorem d55_5 : decode jdk_38_method_2_code 5 = .ok (.getstatic 39, 3) := by decide +kernel
theorem d55_8 : decode jdk_38_method_2_code 8 = .ok (.putfield 9, 3) := by decide +kernel
theorem d55_11 : decode jdk_38_method_2_code 11 = .ok (.return_, 1) := by decide +kernel
theorem pn_10 : plainName "java/util/ArrayList" = true := by first | (simp [plainName, overriddenIn]; done) | decide +kernel
theorem ef_55 (m : MethodId) (x0 : Addr) : entryFrame m #[(.ref x0)] 1 = mkF m 0 #[.val (.ref x0)] [] := by first | (simp [entryFrame, mkF, argsToLocals, Value.category]; done) | rfl
def Q55 (Z : State) (a1 : Addr) (u1 : Value) (u2 : Value) (ed : Addr) (h0 : Heap) (n0 : Nat) (v : Option Value) (h : Heap) (L : List Loc) : Prop := v = none ∧ Fr n0 L ∧ Keep h0 h [a1] ∧ Exa Z h a1 "java/util/ArrayList"
set_option maxRecDepth 65536 in
set_option maxHeartbeats 40000000 in
theorem rm55 (l : Launch) (Z : State) (a0 : Array Value) (hw : ∀ d ∈ tables_1, d.before a0 Z = true) (a1 : Addr) (u1 : Value) (u2 : Value) (ed : Addr) (h0 : Heap) (n0 : Nat) (Z0 : n0 ≤ h0.size) (E_a1 : Exa Z h0 a1 "java/util/ArrayList") (g_a1 : n0 ≤ a1) (F_1 : Fld Z h0 a1 "java/util/AbstractList" "modCount" "I" u1) (F_2 : Fld Z h0 a1 "java/util/ArrayList" "elementData" "[Ljava/lang/Object;" u2) (O_0 : Old Z n0 h0) (S_ed : Sta Z Z.heap "java/util/ArrayList" "DEFAULTCAPACITY_EMPTY_ELEMENTDATA" "[Ljava/lang/Object;" (.ref ed)) :
    MetN l Z (⟨"java/util/ArrayList", "<init>", "()V"⟩ : MethodName) jdk_38_method_2_code 1 none [] ({ frames := 3, cells := 0, slots := 0, locals := 36 } : Room) #[(.ref a1)] h0 (Q55 Z a1 u1 u2 ed h0 n0) := by
  refine met_n (plainFor_of_name pn_10) (fun m => ef_55 m a1) ?_
  intro p e s m below meth c s₁ X0 hx hby hml hZ hown hnm hret hlk e0
  replace hown : s.vm.findClass "java/util/ArrayList" = some m.cls := hown
  replace hnm : meth.name = "<init>" := hnm
  replace hret : meth.sig.returnType = none := hret
  have N0 := Fr.nil n0
  have K0 : Keep h0 h0 [a1] := Keep.refl _ _
  show Ok p e below _ _ s₁ (mkF m 0 #[.val (.ref a1)] [])
  refine Ok.aloadN (pc' := 1) X0 hx (hb hby d55_0) rfl rfl rfl ?_
  refine Ok.init (pc' := 4) (W := 0) (a := a1)  (argsL := []) (rest := []) X0 hx hZ hown (rm54 l Z a0 hw a1 u1 u2 h0 n0 Z0 E_a1 g_a1 F_1 F_2) rfl (hw _ (List.mem_of_getElem? (i := 51) rfl)) (hw _ (List.mem_of_getElem? (i := 52) rfl)) (hw _ (List.mem_of_getElem? (i := 55) rfl)) (hw _ (List.mem_of_getElem? (i := 56) rfl)) (by decide) e0 (by decide) (by decide) (by decide) (by decide) (lenOf pd_2 rfl) rfl rfl (Nat.le_of_eq rfl) (by rw [hml]; rfl) (hb hby d55_1) rfl ?_
  intro v128 T128 L128 X128 hQ128
  obtain ⟨rfl, Nq128, Kq128, Aq128, Fq128_2⟩ := hQ128
  have N128 := Fr.app N0 Nq128
  replace E_a1 := E_a1.keep Kq128
  replace O_0 := O_0.keep Kq128 (allS g_a1 all0)
  have K128' : Keep h0 T128.heap [a1] := K0.trans Kq128 (allS (Or.inl (List.mem_of_getElem? (i := 0) rfl)) all0)
  have Z129 : n0 ≤ T128.heap.size := Nat.le_trans Z0 Kq128.1
  show Ok p e below _ _ T128 (mkF m 4 #[.val (.ref a1)] [])
  refine Ok.aloadN (pc' := 5) X128 hx (hb hby d55_4) rfl rfl rfl ?_
  refine Ok.getS (pc' := 8) X128 hx hZ hown (host := "") (Or.inl (hw _ (List.mem_of_getElem? (i := 66) rfl))) Via.refl rfl (S_ed.ext O_0.2) (hb hby d55_5) rfl ?_
  intro T130 X130 e130
  refine Ok.putF (pc' := 11) (ty := (.array (.object "java/lang/Object"))) X130 hx hZ hown (host := "") (Or.inl (hw _ (List.mem_of_getElem? (i := 67) rfl))) Via.refl e130 Fq128_2 E_a1 (Or.inl (hw _ (List.mem_of_getElem? (i := 68) rfl))) (hw _ (List.mem_of_getElem? (i := 46) rfl)) (by decide) rfl rfl (hb hby d55_8) rfl ?_
  intro T131 h131 X131 e131 W131
  replace Fq128_2 := Fq128_2.same W131
  replace E_a1 := E_a1.wr W131
  replace O_0 := O_0.wr W131 g_a1
  have N131 := Fr.snoc X131 N128 g_a1
  have K131 : Keep h0 h131 [a1] := K128'.wr W131 (Or.inl (List.mem_of_getElem? (i := 0) rfl))
  have Z132 : n0 ≤ h131.size := Nat.le_trans Z129 (Keep.of_wr W131).1
  refine Ok.retV X131 hx hret hlk (hb hby d55_11) (by decide) (by decide) ?_
  show Q55 Z a1 u1 u2 ed h0 n0 _ T131.heap _
  rw [e131]
  exact ⟨rfl, N131, K131, E_a1⟩
theorem pn_11 : plainName "com/example/ringward/ringward/JumpPlacementWithoutNodePinLaw" = true := by first | (simp [plainName, overriddenIn]; done) | decide +kernel
theorem ef_0 (m : MethodId) (x0 : Int32) (x1 : Int32) (x2 : Int32) : entryFrame m #[(.int x0), (.int x1), (.int x2)] maxLocals = mkF m 0 #[.val (.int x0), .val (.int x1), .val (.int x2), .unset, .unset, .unset, .unset, .unset, .unset, .unset, .unset, .unset, .unset, .unset, .unset, .unset, .unset] [] := by first | (simp [entryFrame, mkF, argsToLocals, Value.category, maxLocals]; done) | rfl
def Q0 (Z : State) (p1 : Int32) (p2 : Int32) (p3 : Int32) (cs0 : Int32) (gv : Value) (ed : Addr) (h0 : Heap) (n0 : Nat) (v : Option Value) (h : Heap) (L : List Loc) : Prop := v = some (.int (1 : Int32)) ∧ Fr n0 L
set_option maxRecDepth 65536 in
set_option maxHeartbeats 40000000 in
theorem rm0 (l : Launch) (Z : State) (a0 : Array Value) (hw : ∀ d ∈ tables_1, d.before a0 Z = true) (ws : List Jvm.Cond) (p1 : Int32) (p2 : Int32) (p3 : Int32) (cs0 : Int32) (gv : Value) (ed : Addr) (h0 : Heap) (n0 : Nat) (Z0 : n0 ≤ h0.size) (O_0 : Old Z n0 h0) (S_cs : Sta Z Z.heap "java/lang/String" "COMPACT_STRINGS" "Z" (.int cs0)) (hcs : ¬ cs0.toInt = 0) (S_sf : Sta Z Z.heap "jdk/internal/util/Preconditions" "SIOOBE_FORMATTER" "Ljava/util/function/BiFunction;" gv) (r_gv : gv.isRef = true) (S_ed : Sta Z Z.heap "java/util/ArrayList" "DEFAULTCAPACITY_EMPTY_ELEMENTDATA" "[Ljava/lang/Object;" (.ref ed)) :
    MetW l Z x code maxLocals ret ws room_1 #[(.int p1), (.int p2), (.int p3)] h0 (Q0 Z p1 p2 p3 cs0 gv ed h0 n0) := by
  refine met_w (plainFor_of_name pn_11) (fun m => ef_0 m p1 p2 p3) ?_
  intro p e s m below meth c s₁ V0 nS0 X0 hx hby hml hZ0 hown0 hnm hret hlk e0 hS0 hSn0
  replace hown0 : V0.findClass "com/example/ringward/ringward/JumpPlacementWithoutNodePinLaw" = some m.cls := hown0
  replace hnm : meth.name = "law" := hnm
  replace hret : meth.sig.returnType = (some .boolean) := hret
  have N0 := Fr.nil n0
  have K0 : Keep h0 h0 [] := Keep.refl _ _
  show Ok p e below _ _ s₁ (mkF m 0 #[.val (.int p1), .val (.int p2), .val (.int p3), .unset, .unset, .unset, .unset, .unset, .unset, .unset, .unset, .unset, .unset, .unset, .unset, .unset, .unset] [])
  obtain ⟨nn, enn, hn1, hn2⟩ : ∃ nn : Int32, ((2 : Int32) + ((p1 &&& (2147483647 : Int32)) % (9999 : Int32))) = nn ∧ 2 ≤ nn.toInt ∧ nn.toInt ≤ 10000 := ⟨_, rfl, (n_in p1).1, (n_in p1).2⟩
  obtain ⟨fz, hfz⟩ : ∃ fz : Nat, 10001 ≤ (fz : Int) := ⟨10001, by decide⟩
  have e1 : ((1 : Int32)).toInt = 1 := rfl
  have e2 : ((2 : Int32)).toInt = 2 := rfl
  have hs1 := Jvm.Kit.i32_sub (p := nn) (q := 1) (by rw [e1]; omega) (by rw [e1]; omega)
  have hs2 := Jvm.Kit.i32_sub (p := nn) (q := 2) (by rw [e2]; omega) (by rw [e2]; omega)
  rw [e1] at hs1
  rw [e2] at hs2
  obtain ⟨c0, ec0, hc0⟩ : ∃ z : Int32, (p2 &&& (255 : Int32)) = z ∧ 0 ≤ z.toInt ∧ z.toInt ≤ 255 := ⟨_, rfl, mask255 _⟩
  obtain ⟨c1, ec1, hc1⟩ : ∃ z : Int32, (((p2.toUInt32 >>> ((8 : Int32) &&& 31).toUInt32).toInt32) &&& (255 : Int32)) = z ∧ 0 ≤ z.toInt ∧ z.toInt ≤ 255 := ⟨_, rfl, mask255 _⟩
  obtain ⟨c2, ec2, hc2⟩ : ∃ z : Int32, (((p2.toUInt32 >>> ((16 : Int32) &&& 31).toUInt32).toInt32) &&& (255 : Int32)) = z ∧ 0 ≤ z.toInt ∧ z.toInt ≤ 255 := ⟨_, rfl, mask255 _⟩
  obtain ⟨c3, ec3, hc3⟩ : ∃ z : Int32, (((p2.toUInt32 >>> ((24 : Int32) &&& 31).toUInt32).toInt32) &&& (255 : Int32)) = z ∧ 0 ≤ z.toInt ∧ z.toInt ≤ 255 := ⟨_, rfl, mask255 _⟩
  show Ok p e below _ _ s₁ (mkF m 0 #[.val (.int p1), .val (.int p2), .val (.int p3), .unset, .unset, .unset, .unset, .unset, .unset, .unset, .unset, .unset, .unset, .unset, .unset, .unset, .unset] [])
  refine Ok.iconst (z := (2 : Int32)) (pc' := 1) X0 hx (hb hby at_0) rfl rfl ?_
  refine Ok.iloadN (pc' := 2) X0 hx (hb hby at_1) rfl rfl ?_
  refine Ok.ldcI (pc' := 4) (v := (2147483647 : Int32)) X0 hx hZ0 hown0 (hw _ (List.mem_of_getElem? (i := 0) rfl)) (hb hby at_2) rfl ?_
  refine Ok.iand (pc' := 5) X0 hx (hb hby at_4) rfl ?_
  refine Ok.sipush (z := (9999 : Int32)) (pc' := 8) X0 hx (hb hby at_5) rfl rfl ?_
  refine Ok.irem (pc' := 9) X0 hx (hb hby at_8) rfl (by decide) ?_
  refine Ok.iadd (pc' := 10) X0 hx (hb hby at_9) rfl ?_
  rw [enn]
  refine Ok.istoreN (l' := #[.val (.int p1), .val (.int p2), .val (.int p3), .val (.int nn), .unset, .unset, .unset, .unset, .unset, .unset, .unset, .unset, .unset, .unset, .unset, .unset, .unset]) (pc' := 11) X0 hx (hb hby at_10) rfl rfl ?_
  refine Ok.iconst (z := (4 : Int32)) (pc' := 12) X0 hx (hb hby at_11) rfl rfl ?_
  refine Ok.newP (pc' := 14) (cap := 4) X0 hx hZ0 (hw _ (List.mem_of_getElem? (i := 1) rfl)) rfl e0 (hb hby at_12) rfl (by decide) (by decide) (by decide) (by decide) (by decide) ?_
  intro T133 h133 b133 kc133 g133 X133 e133 E133 V133
  replace O_0 := O_0.ext E133
  have ge_b133 : n0 ≤ b133 := Nat.le_trans Z0 (Nat.le_of_eq g133.symm)
  have sz_b133 : h0.size ≤ b133 := Nat.le_trans K0.1 (Nat.le_of_eq g133.symm)
  have K133 : Keep h0 h133 [] := K0.ext E133
  have Z134 : n0 ≤ h133.size := Nat.le_trans Z0 E133.1
  have hSn134 : _ ≤ h133.size := Nat.le_trans hSn0 E133.1
  replace V133 : Arv Z h133 b133 kc133 .char (4 : Int32) [(.int (0 : Int32)), (.int (0 : Int32)), (.int (0 : Int32)), (.int (0 : Int32))] (.int (0 : Int32)) := V133.pad (pad_rep [] (.int (0 : Int32)) 4)
  show Ok p e below _ _ T133 (mkF m 14 #[.val (.int p1), .val (.int p2), .val (.int p3), .val (.int nn), .unset, .unset, .unset, .unset, .unset, .unset, .unset, .unset, .unset, .unset, .unset, .unset, .unset] [(.ref b133)])
  refine Ok.astore (l' := #[.val (.int p1), .val (.int p2), .val (.int p3), .val (.int nn), .val (.ref b133), .unset, .unset, .unset, .unset, .unset, .unset, .unset, .unset, .unset, .unset, .unset, .unset]) (pc' := 16) X133 hx (hb hby at_14) rfl rfl rfl ?_
  refine Ok.aload (pc' := 18) X133 hx (hb hby at_16) rfl rfl rfl ?_
  refine Ok.iconst (z := (0 : Int32)) (pc' := 19) X133 hx (hb hby at_18) rfl rfl ?_
  refine Ok.iloadN (pc' := 20) X133 hx (hb hby at_19) rfl rfl ?_
  refine Ok.sipush (z := (255 : Int32)) (pc' := 23) X133 hx (hb hby at_20) rfl rfl ?_
  refine Ok.iand (pc' := 24) X133 hx (hb hby at_23) rfl ?_
  refine Ok.i2c (pc' := 25) X133 hx (hb hby at_24) rfl ?_
  rw [char255, ec0]
  refine Ok.stC (pc' := 26) (i := 0) X133 hx hZ0 e133 V133 ⟨by decide, by decide⟩ rfl (Nat.le_of_ble_eq_true rfl) (hb hby at_25) rfl ?_
  intro T135 h135 X135 e135 W135 V135
  rw [nar_char_id hc0.1 (by omega)] at W135 V135
  replace O_0 := O_0.wr W135 ge_b133
  replace V135 : Arv Z h135 b133 kc133 .char (4 : Int32) [(.int c0), (.int (0 : Int32)), (.int (0 : Int32)), (.int (0 : Int32))] (.int (0 : Int32)) := V135
  have N135 := Fr.snoc X135 N0 ge_b133
  have K135 : Keep h0 h135 [] := K133.wr W135 (Or.inr sz_b133)
  have Z136 : n0 ≤ h135.size := Nat.le_trans Z134 (Keep.of_wr W135).1
  have hSn136 : _ ≤ h135.size := Nat.le_trans hSn134 (Keep.of_wr W135).1
  refine Ok.aload (pc' := 28) X135 hx (hb hby at_26) rfl rfl rfl ?_
  refine Ok.iconst (z := (1 : Int32)) (pc' := 29) X135 hx (hb hby at_28) rfl rfl ?_
  refine Ok.iloadN (pc' := 30) X135 hx (hb hby at_29) rfl rfl ?_
  refine Ok.bipush (z := (8 : Int32)) (pc' := 32) X135 hx (hb hby at_30) rfl rfl ?_
  refine Ok.iushr (pc' := 33) X135 hx (hb hby at_32) rfl ?_
  refine Ok.sipush (z := (255 : Int32)) (pc' := 36) X135 hx (hb hby at_33) rfl rfl ?_
  refine Ok.iand (pc' := 37) X135 hx (hb hby at_36) rfl ?_
  refine Ok.i2c (pc' := 38) X135 hx (hb hby at_37) rfl ?_
  rw [char255, ec1]
  refine Ok.stC (pc' := 39) (i := 1) X135 hx hZ0 e135 V135 ⟨by decide, by decide⟩ rfl (Nat.le_of_ble_eq_true rfl) (hb hby at_38) rfl ?_
  intro T137 h137 X137 e137 W137 V137
  rw [nar_char_id hc1.1 (by omega)] at W137 V137
  replace O_0 := O_0.wr W137 ge_b133
  replace V137 : Arv Z h137 b133 kc133 .char (4 : Int32) [(.int c0), (.int c1), (.int (0 : Int32)), (.int (0 : Int32))] (.int (0 : Int32)) := V137
  have N137 := Fr.snoc X137 N135 ge_b133
  have K137 : Keep h0 h137 [] := K135.wr W137 (Or.inr sz_b133)
  have Z138 : n0 ≤ h137.size := Nat.le_trans Z136 (Keep.of_wr W137).1
  have hSn138 : _ ≤ h137.size := Nat.le_trans hSn136 (Keep.of_wr W137).1
  refine Ok.aload (pc' := 41) X137 hx (hb hby at_39) rfl rfl rfl ?_
  refine Ok.iconst (z := (2 : Int32)) (pc' := 42) X137 hx (hb hby at_41) rfl rfl ?_
  refine Ok.iloadN (pc' := 43) X137 hx (hb hby at_42) rfl rfl ?_
  refine Ok.bipush (z := (16 : Int32)) (pc' := 45) X137 hx (hb hby at_43) rfl rfl ?_
  refine Ok.iushr (pc' := 46) X137 hx (hb hby at_45) rfl ?_
  refine Ok.sipush (z := (255 : Int32)) (pc' := 49) X137 hx (hb hby at_46) rfl rfl ?_
  refine Ok.iand (pc' := 50) X137 hx (hb hby at_49) rfl ?_
  refine Ok.i2c (pc' := 51) X137 hx (hb hby at_50) rfl ?_
  rw [char255, ec2]
  refine Ok.stC (pc' := 52) (i := 2) X137 hx hZ0 e137 V137 ⟨by decide, by decide⟩ rfl (Nat.le_of_ble_eq_true rfl) (hb hby at_51) rfl ?_
  intro T139 h139 X139 e139 W139 V139
  rw [nar_char_id hc2.1 (by omega)] at W139 V139
  replace O_0 := O_0.wr W139 ge_b133
  replace V139 : Arv Z h139 b133 kc133 .char (4 : Int32) [(.int c0), (.int c1), (.int c2), (.int (0 : Int32))] (.int (0 : Int32)) := V139
  have N139 := Fr.snoc X139 N137 ge_b133
  have K139 : Keep h0 h139 [] := K137.wr W139 (Or.inr sz_b133)
  have Z140 : n0 ≤ h139.size := Nat.le_trans Z138 (Keep.of_wr W139).1
  have hSn140 : _ ≤ h139.size := Nat.le_trans hSn138 (Keep.of_wr W139).1
  refine Ok.aload (pc' := 54) X139 hx (hb hby at_52) rfl rfl rfl ?_
  refine Ok.iconst (z := (3 : Int32)) (pc' := 55) X139 hx (hb hby at_54) rfl rfl ?_
  refine Ok.iloadN (pc' := 56) X139 hx (hb hby at_55) rfl rfl ?_
  refine Ok.bipush (z := (24 : Int32)) (pc' := 58) X139 hx (hb hby at_56) rfl rfl ?_
  refine Ok.iushr (pc' := 59) X139 hx (hb hby at_58) rfl ?_
  refine Ok.sipush (z := (255 : Int32)) (pc' := 62) X139 hx (hb hby at_59) rfl rfl ?_
  refine Ok.iand (pc' := 63) X139 hx (hb hby at_62) rfl ?_
  refine Ok.i2c (pc' := 64) X139 hx (hb hby at_63) rfl ?_
  rw [char255, ec3]
  refine Ok.stC (pc' := 65) (i := 3) X139 hx hZ0 e139 V139 ⟨by decide, by decide⟩ rfl (Nat.le_of_ble_eq_true rfl) (hb hby at_64) rfl ?_
  intro T141 h141 X141 e141 W141 V141
  rw [nar_char_id hc3.1 (by omega)] at W141 V141
  replace O_0 := O_0.wr W141 ge_b133
  replace V141 : Arv Z h141 b133 kc133 .char (4 : Int32) [(.int c0), (.int c1), (.int c2), (.int c3)] (.int (0 : Int32)) := V141
  have N141 := Fr.snoc X141 N139 ge_b133
  have K141 : Keep h0 h141 [] := K139.wr W141 (Or.inr sz_b133)
  have Z142 : n0 ≤ h141.size := Nat.le_trans Z140 (Keep.of_wr W141).1
  have hSn142 : _ ≤ h141.size := Nat.le_trans hSn140 (Keep.of_wr W141).1
  refine Ok.new (pc' := 68) X141 hx hZ0 hown0 (hw _ (List.mem_of_getElem? (i := 2) rfl)) (hw _ (List.mem_of_getElem? (i := 3) rfl)) (hw _ (List.mem_of_getElem? (i := 4) rfl)) e141 (hb hby at_65) rfl (by decide) (by decide) ?_
  intro T143 h143 b143 g143 X143 e143 E143 A143 D143
  have ne_b133_b143 : Nq b133 b143 := Nat.ne_of_lt (Nat.lt_of_lt_of_eq V141.lt g143.symm)
  replace O_0 := O_0.ext E143
  replace V141 := V141.ext E143
  have ge_b143 : n0 ≤ b143 := Nat.le_trans Z142 (Nat.le_of_eq g143.symm)
  have sz_b143 : h0.size ≤ b143 := Nat.le_trans K141.1 (Nat.le_of_eq g143.symm)
  have K143 : Keep h0 h143 [] := K141.ext E143
  have Z144 : n0 ≤ h143.size := Nat.le_trans Z142 E143.1
  have hSn144 : _ ≤ h143.size := Nat.le_trans hSn142 E143.1
  have F143_coder : Fld Z h143 b143 "java/lang/String" "coder" "B" (.int (0 : Int32)) := D143 (Or.inr (hw _ (List.mem_of_getElem? (i := 28) rfl))) (ty := .byte) (by decide)
  have F143_value : Fld Z h143 b143 "java/lang/String" "value" "[B" .null := D143 (Or.inr (hw _ (List.mem_of_getElem? (i := 30) rfl))) (ty := (.array .byte)) (by decide)
  show Ok p e below _ _ T143 (mkF m 68 #[.val (.int p1), .val (.int p2), .val (.int p3), .val (.int nn), .val (.ref b133), .unset, .unset, .unset, .unset, .unset, .unset, .unset, .unset, .unset, .unset, .unset, .unset] [(.ref b143)])
  refine Ok.dup (pc' := 69) X143 hx (hb hby at_68) rfl rfl ?_
  refine Ok.aload (pc' := 71) X143 hx (hb hby at_69) rfl rfl rfl ?_
  refine Ok.init (pc' := 74) (W := 1) (a := b143)  (argsL := [(.ref b133)]) (rest := [(.ref b143)]) X143 hx hZ0 hown0 (rm14 l Z a0 hw b143 b133 kc133 c0 c1 c2 c3 .null (.int (0 : Int32)) cs0 h143 n0 Z144 A143 ge_b143 F143_value F143_coder V141 hc0 hc1 hc2 hc3 O_0 S_cs hcs) rfl (hw _ (List.mem_of_getElem? (i := 5) rfl)) (hw _ (List.mem_of_getElem? (i := 6) rfl)) (hw _ (List.mem_of_getElem? (i := 4) rfl)) (hw _ (List.mem_of_getElem? (i := 7) rfl)) (by decide) e143 (by decide) (by decide) (by decide) (by decide) (lenOf pd_0 rfl) rfl rfl (Nat.le_of_eq rfl) (by rw [hml]; rfl) (hb hby at_71) rfl ?_
  intro v145 T145 L145 X145 hQ145
  obtain ⟨rfl, Nq145, Kq145, Aq145, r145, kr145, hr145, Fv145, Fc145, V145⟩ := hQ145
  have ne_b133_r145 : Nq b133 r145 := Nat.ne_of_lt (Nat.lt_of_lt_of_le V141.lt hr145)
  have ne_b143_r145 : Nq b143 r145 := Nat.ne_of_lt (Nat.lt_of_lt_of_le A143.lt hr145)
  have ge_r145 : n0 ≤ r145 := Nat.le_trans Z144 hr145
  have sz_r145 : h0.size ≤ r145 := Nat.le_trans K143.1 hr145
  have N145 := Fr.app N141 Nq145
  replace O_0 := O_0.keep Kq145 (allS ge_b143 all0)
  replace V141 := V141.keep Kq145 (ninS ne_b133_b143 nin0)
  replace A143 := A143.keep Kq145
  have K145' : Keep h0 T145.heap [] := K143.trans Kq145 (allS (Or.inr sz_b143) all0)
  have Z146 : n0 ≤ T145.heap.size := Nat.le_trans Z144 Kq145.1
  have hSn146 : _ ≤ T145.heap.size := Nat.le_trans hSn144 Kq145.1
  show Ok p e below _ _ T145 (mkF m 74 #[.val (.int p1), .val (.int p2), .val (.int p3), .val (.int nn), .val (.ref b133), .unset, .unset, .unset, .unset, .unset, .unset, .unset, .unset, .unset, .unset, .unset, .unset] [(.ref b143)])
  refine Ok.astore (l' := #[.val (.int p1), .val (.int p2), .val (.int p3), .val (.int nn), .val (.ref b133), .val (.ref b143), .unset, .unset, .unset, .unset, .unset, .unset, .unset, .unset, .unset, .unset, .unset]) (pc' := 76) X145 hx (hb hby at_74) rfl rfl rfl ?_
  refine Ok.iloadN (pc' := 77) X145 hx (hb hby at_76) rfl rfl ?_
  refine Ok.sipush (z := (255 : Int32)) (pc' := 80) X145 hx (hb hby at_77) rfl rfl ?_
  refine Ok.iand (pc' := 81) X145 hx (hb hby at_80) rfl ?_
  refine Ok.i2c (pc' := 82) X145 hx (hb hby at_81) rfl ?_
  rw [char255]
  refine Ok.callS (pc' := 85) (W := 0)  (argsL := [(.int (p3 &&& (255 : Int32)))]) (rest := []) X145 hx hZ0 hown0 (rm18 l Z a0 hw (p3 &&& (255 : Int32)) cs0 T145.heap n0 Z146 (mask255 p3) O_0 S_cs hcs) (hw _ (List.mem_of_getElem? (i := 31) rfl)) (hw _ (List.mem_of_getElem? (i := 32) rfl)) (hw _ (List.mem_of_getElem? (i := 4) rfl)) (hw _ (List.mem_of_getElem? (i := 33) rfl)) (by decide) rfl (by decide) (by decide) (by decide) (by decide) (lenOf pd_6 rfl) rfl rfl (Nat.le_of_eq rfl) (by rw [hml]; rfl) (hb hby at_82) rfl ?_
  intro v147 T147 L147 X147 hQ147
  obtain ⟨b147, r147, kr147, rfl, Nq147, Kq147, hbb147, hr147, nbr147, A147, Fv147, Fc147, V147⟩ := hQ147
  replace nbr147 : Nq b147 r147 := nbr147
  have ne_b143_b147 : Nq b143 b147 := Nat.ne_of_lt (Nat.lt_of_lt_of_le A143.lt hbb147)
  have ne_r145_b147 : Nq r145 b147 := Nat.ne_of_lt (Nat.lt_of_lt_of_le V145.lt hbb147)
  have ge_b147 : n0 ≤ b147 := Nat.le_trans Z146 hbb147
  have sz_b147 : h0.size ≤ b147 := Nat.le_trans K145'.1 hbb147
  have ne_b143_r147 : Nq b143 r147 := Nat.ne_of_lt (Nat.lt_of_lt_of_le A143.lt hr147)
  have ne_r145_r147 : Nq r145 r147 := Nat.ne_of_lt (Nat.lt_of_lt_of_le V145.lt hr147)
  have ge_r147 : n0 ≤ r147 := Nat.le_trans Z146 hr147
  have sz_r147 : h0.size ≤ r147 := Nat.le_trans K145'.1 hr147
  have N147 := Fr.app N145 Nq147
  replace O_0 := O_0.keep Kq147 all0
  replace A143 := A143.keep Kq147
  replace Fv145 := Fv145.keep Kq147 nin0
  replace Fc145 := Fc145.keep Kq147 nin0
  replace V145 := V145.keep Kq147 nin0
  have K147' : Keep h0 T147.heap [] := K145'.trans Kq147 all0
  have Z148 : n0 ≤ T147.heap.size := Nat.le_trans Z146 Kq147.1
  have hSn148 : _ ≤ T147.heap.size := Nat.le_trans hSn146 Kq147.1
  show Ok p e below _ _ T147 (mkF m 85 #[.val (.int p1), .val (.int p2), .val (.int p3), .val (.int nn), .val (.ref b133), .val (.ref b143), .unset, .unset, .unset, .unset, .unset, .unset, .unset, .unset, .unset, .unset, .unset] [(.ref b147)])
  refine Ok.astore (l' := #[.val (.int p1), .val (.int p2), .val (.int p3), .val (.int nn), .val (.ref b133), .val (.ref b143), .val (.ref b147), .unset, .unset, .unset, .unset, .unset, .unset, .unset, .unset, .unset, .unset]) (pc' := 87) X147 hx (hb hby at_85) rfl rfl rfl ?_
  refine Ok.new (pc' := 90) X147 hx hZ0 hown0 (hw _ (List.mem_of_getElem? (i := 45) rfl)) (hw _ (List.mem_of_getElem? (i := 46) rfl)) (hw _ (List.mem_of_getElem? (i := 47) rfl)) rfl (hb hby at_87) rfl (by decide) (by decide) ?_
  intro T149 h149 b149 g149 X149 e149 E149 A149 D149
  have ne_b143_b149 : Nq b143 b149 := Nat.ne_of_lt (Nat.lt_of_lt_of_eq A143.lt g149.symm)
  have ne_r145_b149 : Nq r145 b149 := Nat.ne_of_lt (Nat.lt_of_lt_of_eq V145.lt g149.symm)
  replace O_0 := O_0.ext E149
  replace A143 := A143.ext E149
  replace Fv145 := Fv145.ext E149
  replace Fc145 := Fc145.ext E149
  replace V145 := V145.ext E149
  have ge_b149 : n0 ≤ b149 := Nat.le_trans Z148 (Nat.le_of_eq g149.symm)
  have sz_b149 : h0.size ≤ b149 := Nat.le_trans K147'.1 (Nat.le_of_eq g149.symm)
  have K149 : Keep h0 h149 [] := K147'.ext E149
  have Z150 : n0 ≤ h149.size := Nat.le_trans Z148 E149.1
  have hSn150 : _ ≤ h149.size := Nat.le_trans hSn148 E149.1
  have F149_modCount : Fld Z h149 b149 "java/util/AbstractList" "modCount" "I" (.int (0 : Int32)) := D149 (Or.inl (hw _ (List.mem_of_getElem? (i := 65) rfl))) (ty := .int) (by decide)
  have F149_elementData : Fld Z h149 b149 "java/util/ArrayList" "elementData" "[Ljava/lang/Object;" .null := D149 (Or.inl (hw _ (List.mem_of_getElem? (i := 68) rfl))) (ty := (.array (.object "java/lang/Object"))) (by decide)
  show Ok p e below _ _ T149 (mkF m 90 #[.val (.int p1), .val (.int p2), .val (.int p3), .val (.int nn), .val (.ref b133), .val (.ref b143), .val (.ref b147), .unset, .unset, .unset, .unset, .unset, .unset, .unset, .unset, .unset, .unset] [(.ref b149)])
  refine Ok.dup (pc' := 91) X149 hx (hb hby at_90) rfl rfl ?_
  refine Ok.init (pc' := 94) (W := 1) (a := b149)  (argsL := []) (rest := [(.ref b149)]) X149 hx hZ0 hown0 (rm55 l Z a0 hw b149 (.int (0 : Int32)) .null ed h149 n0 Z150 A149 ge_b149 F149_modCount F149_elementData O_0 S_ed) rfl (hw _ (List.mem_of_getElem? (i := 48) rfl)) (hw _ (List.mem_of_getElem? (i := 49) rfl)) (hw _ (List.mem_of_getElem? (i := 47) rfl)) (hw _ (List.mem_of_getElem? (i := 50) rfl)) (by decide) e149 (by decide) (by decide) (by decide) (by decide) (lenOf pd_2 rfl) rfl rfl (Nat.le_of_eq rfl) (by rw [hml]; rfl) (hb hby at_91) rfl ?_
  intro v151 T151 L151 X151 hQ151
  obtain ⟨rfl, Nq151, Kq151, Aq151⟩ := hQ151
  have N151 := Fr.app N147 Nq151
  replace O_0 := O_0.keep Kq151 (allS ge_b149 all0)
  replace A143 := A143.keep Kq151
  replace Fv145 := Fv145.keep Kq151 (ninS ne_b143_b149 nin0)
  replace Fc145 := Fc145.keep Kq151 (ninS ne_b143_b149 nin0)
  replace V145 := V145.keep Kq151 (ninS ne_r145_b149 nin0)
  replace A149 := A149.keep Kq151
  have K151' : Keep h0 T151.heap [] := K149.trans Kq151 (allS (Or.inr sz_b149) all0)
  have Z152 : n0 ≤ T151.heap.size := Nat.le_trans Z150 Kq151.1
  have hSn152 : _ ≤ T151.heap.size := Nat.le_trans hSn150 Kq151.1
  show Ok p e below _ _ T151 (mkF m 94 #[.val (.int p1), .val (.int p2), .val (.int p3), .val (.int nn), .val (.ref b133), .val (.ref b143), .val (.ref b147), .unset, .unset, .unset, .unset, .unset, .unset, .unset, .unset, .unset, .unset] [(.ref b149)])
  refine Ok.astore (l' := #[.val (.int p1), .val (.int p2), .val (.int p3), .val (.int nn), .val (.ref b133), .val (.ref b143), .val (.ref b147), .val (.ref b149), .unset, .unset, .unset, .unset, .unset, .unset, .unset, .unset, .unset]) (pc' := 96) X151 hx (hb hby at_94) rfl rfl rfl ?_
  refine Ok.new (pc' := 99) X151 hx hZ0 hown0 (hw _ (List.mem_of_getElem? (i := 45) rfl)) (hw _ (List.mem_of_getElem? (i := 46) rfl)) (hw _ (List.mem_of_getElem? (i := 47) rfl)) rfl (hb hby at_96) rfl (by decide) (by decide) ?_
  intro T153 h153 b153 g153 X153 e153 E153 A153 D153
  have ne_b143_b153 : Nq b143 b153 := Nat.ne_of_lt (Nat.lt_of_lt_of_eq A143.lt g153.symm)
  have ne_r145_b153 : Nq r145 b153 := Nat.ne_of_lt (Nat.lt_of_lt_of_eq V145.lt g153.symm)
  replace O_0 := O_0.ext E153
  replace A143 := A143.ext E153
  replace Fv145 := Fv145.ext E153
  replace Fc145 := Fc145.ext E153
  replace V145 := V145.ext E153
  have ge_b153 : n0 ≤ b153 := Nat.le_trans Z152 (Nat.le_of_eq g153.symm)
  have sz_b153 : h0.size ≤ b153 := Nat.le_trans K151'.1 (Nat.le_of_eq g153.symm)
  have K153 : Keep h0 h153 [] := K151'.ext E153
  have Z154 : n0 ≤ h153.size := Nat.le_trans Z152 E153.1
  have hSn154 : _ ≤ h153.size := Nat.le_trans hSn152 E153.1
  have F153_modCount : Fld Z h153 b153 "java/util/AbstractList" "modCount" "I" (.int (0 : Int32)) := D153 (Or.inl (hw _ (List.mem_of_getElem? (i := 65) rfl))) (ty := .int) (by decide)
  have F153_elementData : Fld Z h153 b153 "java/util/ArrayList" "elementData" "[Ljava/lang/Object;" .null := D153 (Or.inl (hw _ (List.mem_of_getElem? (i := 68) rfl))) (ty := (.array (.object "java/lang/Object"))) (by decide)
  show Ok p e below _ _ T153 (mkF m 99 #[.val (.int p1), .val (.int p2), .val (.int p3), .val (.int nn), .val (.ref b133), .val (.ref b143), .val (.ref b147), .val (.ref b149), .unset, .unset, .unset, .unset, .unset, .unset, .unset, .unset, .unset] [(.ref b153)])
  refine Ok.dup (pc' := 100) X153 hx (hb hby at_99) rfl rfl ?_
  refine Ok.init (pc' := 103) (W := 1) (a := b153)  (argsL := []) (rest := [(.ref b153)]) X153 hx hZ0 hown0 (rm55 l Z a0 hw b153 (.int (0 : Int32)) .null ed h153 n0 Z154 A153 ge_b153 F153_modCount F153_elementData O_0 S_ed) rfl (hw _ (List.mem_of_getElem? (i := 48) rfl)) (hw _ (List.mem_of_getElem? (i := 49) rfl)) (hw _ (List.mem_of_getElem? (i := 47) rfl)) (hw _ (List.mem_of_getElem? (i := 50) rfl)) (by decide) e153 (by decide) (by decide) (by decide) (by decide) (lenOf pd_2 rfl) rfl rfl (Nat.le_of_eq rfl) (by rw [hml]; rfl) (hb hby at_100) rfl ?_
  intro v155 T155 L155 X155 hQ155
  obtain ⟨rfl, Nq155, Kq155, Aq155⟩ := hQ155
  have N155 := Fr.app N151 Nq155
  replace O_0 := O_0.keep Kq155 (allS ge_b153 all0)
  replace A143 := A143.keep Kq155
  replace Fv145 := Fv145.keep Kq155 (ninS ne_b143_b153 nin0)
  replace Fc145 := Fc145.keep Kq155 (ninS ne_b143_b153 nin0)
  replace V145 := V145.keep Kq155 (ninS ne_r145_b153 nin0)
  replace A153 := A153.keep Kq155
  have K155' : Keep h0 T155.heap [] := K153.trans Kq155 (allS (Or.inr sz_b153) all0)
  have Z156 : n0 ≤ T155.heap.size := Nat.le_trans Z154 Kq155.1
  have hSn156 : _ ≤ T155.heap.size := Nat.le_trans hSn154 Kq155.1
  show Ok p e below _ _ T155 (mkF m 103 #[.val (.int p1), .val (.int p2), .val (.int p3), .val (.int nn), .val (.ref b133), .val (.ref b143), .val (.ref b147), .val (.ref b149), .unset, .unset, .unset, .unset, .unset, .unset, .unset, .unset, .unset] [(.ref b153)])
  refine Ok.astore (l' := #[.val (.int p1), .val (.int p2), .val (.int p3), .val (.int nn), .val (.ref b133), .val (.ref b143), .val (.ref b147), .val (.ref b149), .val (.ref b153), .unset, .unset, .unset, .unset, .unset, .unset, .unset, .unset]) (pc' := 105) X155 hx (hb hby at_103) rfl rfl rfl ?_
  refine Ok.new (pc' := 108) X155 hx hZ0 hown0 (hw _ (List.mem_of_getElem? (i := 69) rfl)) (hw _ (List.mem_of_getElem? (i := 70) rfl)) (hw _ (List.mem_of_getElem? (i := 71) rfl)) rfl (hb hby at_105) rfl (by decide) (by decide) ?_
  intro T157 h157 b157 g157 X157 e157 E157 A157 D157
  have ne_b143_b157 : Nq b143 b157 := Nat.ne_of_lt (Nat.lt_of_lt_of_eq A143.lt g157.symm)
  have ne_r145_b157 : Nq r145 b157 := Nat.ne_of_lt (Nat.lt_of_lt_of_eq V145.lt g157.symm)
  replace O_0 := O_0.ext E157
  replace A143 := A143.ext E157
  replace Fv145 := Fv145.ext E157
  replace Fc145 := Fc145.ext E157
  replace V145 := V145.ext E157
  have ge_b157 : n0 ≤ b157 := Nat.le_trans Z156 (Nat.le_of_eq g157.symm)
  have sz_b157 : h0.size ≤ b157 := Nat.le_trans K155'.1 (Nat.le_of_eq g157.symm)
  have K157 : Keep h0 h157 [] := K155'.ext E157
  have Z158 : n0 ≤ h157.size := Nat.le_trans Z156 E157.1
  have hSn158 : _ ≤ h157.size := Nat.le_trans hSn156 E157.1
  have F157_buckets : Fld Z h157 b157 "com/example/ringward/ringward/JumpPlacement" "buckets" "I" (.int (0 : Int32)) := D157 (Or.inr (hw _ (List.mem_of_getElem? (i := 77) rfl))) (ty := .int) (by decide)
  show Ok p e below _ _ T157 (mkF m 108 #[.val (.int p1), .val (.int p2), .val (.int p3), .val (.int nn), .val (.ref b133), .val (.ref b143), .val (.ref b147), .val (.ref b149), .val (.ref b153), .unset, .unset, .unset, .unset, .unset, .unset, .unset, .unset] [(.ref b157)])
  refine Ok.dup (pc' := 109) X157 hx (hb hby at_108) rfl rfl ?_
  refine Ok.iloadN (pc' := 110) X157 hx (hb hby at_109) rfl rfl ?_
  refine Ok.init (pc' := 113) (W := 1) (a := b157)  (argsL := [(.int nn)]) (rest := [(.ref b157)]) X157 hx hZ0 hown0 (rm50 l Z a0 hw b157 nn (.int (0 : Int32)) h157 n0 Z158 A157 ge_b157 F157_buckets) rfl (hw _ (List.mem_of_getElem? (i := 72) rfl)) (hw _ (List.mem_of_getElem? (i := 73) rfl)) (hw _ (List.mem_of_getElem? (i := 71) rfl)) (hw _ (List.mem_of_getElem? (i := 74) rfl)) (by decide) e157 (by decide) (by decide) (by decide) (by decide) (lenOf pd_10 rfl) rfl rfl (Nat.le_of_eq rfl) (by rw [hml]; rfl) (hb hby at_110) rfl ?_
  intro v159 T159 L159 X159 hQ159
  obtain ⟨rfl, Nq159, Kq159, Aq159, Fq159_buckets⟩ := hQ159
  have N159 := Fr.app N155 Nq159
  replace O_0 := O_0.keep Kq159 (allS ge_b157 all0)
  replace A143 := A143.keep Kq159
  replace Fv145 := Fv145.keep Kq159 (ninS ne_b143_b157 nin0)
  replace Fc145 := Fc145.keep Kq159 (ninS ne_b143_b157 nin0)
  replace V145 := V145.keep Kq159 (ninS ne_r145_b157 nin0)
  replace A157 := A157.keep Kq159
  have K159' : Keep h0 T159.heap [] := K157.trans Kq159 (allS (Or.inr sz_b157) all0)
  have Z160 : n0 ≤ T159.heap.size := Nat.le_trans Z158 Kq159.1
  have hSn160 : _ ≤ T159.heap.size := Nat.le_trans hSn158 Kq159.1
  show Ok p e below _ _ T159 (mkF m 113 #[.val (.int p1), .val (.int p2), .val (.int p3), .val (.int nn), .val (.ref b133), .val (.ref b143), .val (.ref b147), .val (.ref b149), .val (.ref b153), .unset, .unset, .unset, .unset, .unset, .unset, .unset, .unset] [(.ref b157)])
  refine Ok.astore (l' := #[.val (.int p1), .val (.int p2), .val (.int p3), .val (.int nn), .val (.ref b133), .val (.ref b143), .val (.ref b147), .val (.ref b149), .val (.ref b153), .val (.ref b157), .unset, .unset, .unset, .unset, .unset, .unset, .unset]) (pc' := 115) X159 hx (hb hby at_113) rfl rfl rfl ?_
  refine Ok.aload (pc' := 117) X159 hx (hb hby at_115) rfl rfl rfl ?_
  refine Ok.aload (pc' := 119) X159 hx (hb hby at_117) rfl rfl rfl ?_
  refine Ok.iloadN (pc' := 120) X159 hx (hb hby at_119) rfl rfl ?_
  refine Ok.iconst (z := (1 : Int32)) (pc' := 121) X159 hx (hb hby at_120) rfl rfl ?_
  refine Ok.isub (pc' := 122) X159 hx (hb hby at_121) rfl ?_
  refine Ok.aload (pc' := 124) X159 hx (hb hby at_122) rfl rfl rfl ?_
  refine Ok.aload (pc' := 126) X159 hx (hb hby at_124) rfl rfl rfl ?_
  refine Ok.virt (pc' := 129) (W := 0) (a := b157)  (argsL := [(.ref b147), (.int (nn - (1 : Int32))), (.ref b149), (.ref b153)]) (rest := []) X159 hx hZ0 hown0 (rm52 l Z a0 hw b157 b147 (nn - (1 : Int32)) b149 b153 nn T159.heap n0 Z160 Fq159_buckets rfl) (hw _ (List.mem_of_getElem? (i := 78) rfl)) (hw _ (List.mem_of_getElem? (i := 79) rfl)) (notFace_of_selects (args := #[]) (mvT (s := s.setVm _) hZ0 (hw _ (List.mem_of_getElem? (i := 81) rfl)))) (hw _ (List.mem_of_getElem? (i := 81) rfl)) (hw _ (List.mem_of_getElem? (i := 80) rfl)) (hw _ (List.mem_of_getElem? (i := 71) rfl)) (hw _ (List.mem_of_getElem? (i := 82) rfl)) (by decide) rfl A157 (by decide) (by decide) (by decide) (by decide) (lenOf pd_11 rfl) rfl rfl (Nat.le_of_eq rfl) (by rw [hml]; rfl) (hb hby at_126) rfl ?_
  intro v161 T161 L161 X161 hQ161
  obtain ⟨b161, rfl, Nq161, Kq161, A161, F161⟩ := hQ161
  have N161 := Fr.app N159 Nq161
  replace O_0 := O_0.keep Kq161 all0
  replace A143 := A143.keep Kq161
  replace Fv145 := Fv145.keep Kq161 nin0
  replace Fc145 := Fc145.keep Kq161 nin0
  replace V145 := V145.keep Kq161 nin0
  replace A157 := A157.keep Kq161
  replace Fq159_buckets := Fq159_buckets.keep Kq161 nin0
  have K161' : Keep h0 T161.heap [] := K159'.trans Kq161 all0
  have Z162 : n0 ≤ T161.heap.size := Nat.le_trans Z160 Kq161.1
  have hSn162 : _ ≤ T161.heap.size := Nat.le_trans hSn160 Kq161.1
  show Ok p e below _ _ T161 (mkF m 129 #[.val (.int p1), .val (.int p2), .val (.int p3), .val (.int nn), .val (.ref b133), .val (.ref b143), .val (.ref b147), .val (.ref b149), .val (.ref b153), .val (.ref b157), .unset, .unset, .unset, .unset, .unset, .unset, .unset] [(.ref b161)])
  refine Ok.astore (l' := #[.val (.int p1), .val (.int p2), .val (.int p3), .val (.int nn), .val (.ref b133), .val (.ref b143), .val (.ref b147), .val (.ref b149), .val (.ref b153), .val (.ref b157), .val (.ref b161), .unset, .unset, .unset, .unset, .unset, .unset]) (pc' := 131) X161 hx (hb hby at_129) rfl rfl rfl ?_
  refine Ok.aload (pc' := 133) X161 hx (hb hby at_131) rfl rfl rfl ?_
  refine Ok.aload (pc' := 135) X161 hx (hb hby at_133) rfl rfl rfl ?_
  refine Ok.virtW (pc' := 138) (W := 0) (a := b157)  (argsL := [(.ref b143)]) (rest := []) X161 hx hZ0 hown0 hS0 hSn162 (rm51 l Z a0 hw b157 nn fz b143 r145 kr145 c0 c1 c2 c3 cs0 gv T161.heap n0 Z162 Fq159_buckets (by omega) (by omega) A143 Fv145 Fc145 V145 hc0 hc1 hc2 hc3 O_0 S_cs hcs S_sf r_gv) (hw _ (List.mem_of_getElem? (i := 85) rfl)) (hw _ (List.mem_of_getElem? (i := 86) rfl)) (hw _ (List.mem_of_getElem? (i := 88) rfl)) (notFace_of_selects (args := #[]) (mvT (s := s.setVm _) hZ0 (hw _ (List.mem_of_getElem? (i := 88) rfl)))) (hw _ (List.mem_of_getElem? (i := 87) rfl)) (hw _ (List.mem_of_getElem? (i := 71) rfl)) (hw _ (List.mem_of_getElem? (i := 89) rfl)) (by decide) rfl A157 (by decide) (by decide) (by decide) (by decide) (lenOf pd_12 rfl) rfl rfl (Nat.le_of_eq rfl) (by rw [hml]; rfl) (hb hby at_135) rfl ?_
  intro v163 T163 L163 X163 hZ163 hown163 hS163 hQ163
  obtain ⟨r163, rfl, hr163, Nq163, Kq163⟩ := hQ163
  have N163 := Fr.app N161 Nq163
  replace O_0 := O_0.keep Kq163 all0
  replace A143 := A143.keep Kq163
  replace Fv145 := Fv145.keep Kq163 nin0
  replace Fc145 := Fc145.keep Kq163 nin0
  replace V145 := V145.keep Kq163 nin0
  replace A157 := A157.keep Kq163
  replace Fq159_buckets := Fq159_buckets.keep Kq163 nin0
  replace A161 := A161.keep Kq163
  replace F161 := F161.keep Kq163 nin0
  have K163' : Keep h0 T163.heap [] := K161'.trans Kq163 all0
  have Z164 : n0 ≤ T163.heap.size := Nat.le_trans Z162 Kq163.1
  show Ok p e below _ _ T163 (mkF m 138 #[.val (.int p1), .val (.int p2), .val (.int p3), .val (.int nn), .val (.ref b133), .val (.ref b143), .val (.ref b147), .val (.ref b149), .val (.ref b153), .val (.ref b157), .val (.ref b161), .unset, .unset, .unset, .unset, .unset, .unset] [(.int r163)])
  refine Ok.istore (l' := #[.val (.int p1), .val (.int p2), .val (.int p3), .val (.int nn), .val (.ref b133), .val (.ref b143), .val (.ref b147), .val (.ref b149), .val (.ref b153), .val (.ref b157), .val (.ref b161), .val (.int r163), .unset, .unset, .unset, .unset, .unset]) (pc' := 140) X163 hx (hb hby at_138) rfl rfl ?_
  refine Ok.aload (pc' := 142) X163 hx (hb hby at_140) rfl rfl rfl ?_
  refine Ok.aload (pc' := 144) X163 hx (hb hby at_142) rfl rfl rfl ?_
  refine Ok.faceW (pc' := 149) (W := 0) (a := b161)  (argsL := [(.ref b143)]) (rest := []) X163 hx hZ163 hown163 hS163 (Nat.le_refl _) (rm51 l Z a0 hw b161 (nn - (1 : Int32)) fz b143 r145 kr145 c0 c1 c2 c3 cs0 gv T163.heap n0 Z164 F161 (by omega) (by omega) A143 Fv145 Fc145 V145 hc0 hc1 hc2 hc3 O_0 S_cs hcs S_sf r_gv) (hw _ (List.mem_of_getElem? (i := 165) rfl)) (hw _ (List.mem_of_getElem? (i := 166) rfl)) (hw _ (List.mem_of_getElem? (i := 167) rfl)) (by decide) (hw _ (List.mem_of_getElem? (i := 168) rfl)) (hw _ (List.mem_of_getElem? (i := 87) rfl)) (hw _ (List.mem_of_getElem? (i := 169) rfl)) (hw _ (List.mem_of_getElem? (i := 170) rfl)) (hw _ (List.mem_of_getElem? (i := 171) rfl)) (hw _ (List.mem_of_getElem? (i := 71) rfl)) (hw _ (List.mem_of_getElem? (i := 89) rfl)) (by decide) rfl A161 (by decide) (by decide) (by decide) (by decide) (lenOf pd_12 rfl) rfl rfl (Nat.le_of_eq rfl) (by rw [hml]; rfl) (hb hby at_144) rfl ?_
  intro v165 T165 L165 X165 hZ165 hown165 hS165 hQ165
  obtain ⟨r165, rfl, hr165, Nq165, Kq165⟩ := hQ165
  have N165 := Fr.app N163 Nq165
  replace O_0 := O_0.keep Kq165 all0
  replace A143 := A143.keep Kq165
  replace Fv145 := Fv145.keep Kq165 nin0
  replace Fc145 := Fc145.keep Kq165 nin0
  replace V145 := V145.keep Kq165 nin0
  replace A157 := A157.keep Kq165
  replace Fq159_buckets := Fq159_buckets.keep Kq165 nin0
  replace A161 := A161.keep Kq165
  replace F161 := F161.keep Kq165 nin0
  have K165' : Keep h0 T165.heap [] := K163'.trans Kq165 all0
  have Z166 : n0 ≤ T165.heap.size := Nat.le_trans Z164 Kq165.1
  show Ok p e below _ _ T165 (mkF m 149 #[.val (.int p1), .val (.int p2), .val (.int p3), .val (.int nn), .val (.ref b133), .val (.ref b143), .val (.ref b147), .val (.ref b149), .val (.ref b153), .val (.ref b157), .val (.ref b161), .val (.int r163), .unset, .unset, .unset, .unset, .unset] [(.int r165)])
  refine Ok.istore (l' := #[.val (.int p1), .val (.int p2), .val (.int p3), .val (.int nn), .val (.ref b133), .val (.ref b143), .val (.ref b147), .val (.ref b149), .val (.ref b153), .val (.ref b157), .val (.ref b161), .val (.int r163), .val (.int r165), .unset, .unset, .unset, .unset]) (pc' := 151) X165 hx (hb hby at_149) rfl rfl ?_
  refine Ok.new (pc' := 154) X165 hx hZ165 hown165 (hw _ (List.mem_of_getElem? (i := 69) rfl)) (hw _ (List.mem_of_getElem? (i := 70) rfl)) (hw _ (List.mem_of_getElem? (i := 71) rfl)) rfl (hb hby at_151) rfl (by decide) (by decide) ?_
  intro T167 h167 b167 g167 X167 e167 E167 A167 D167
  have ne_b143_b167 : Nq b143 b167 := Nat.ne_of_lt (Nat.lt_of_lt_of_eq A143.lt g167.symm)
  have ne_r145_b167 : Nq r145 b167 := Nat.ne_of_lt (Nat.lt_of_lt_of_eq V145.lt g167.symm)
  have ne_b157_b167 : Nq b157 b167 := Nat.ne_of_lt (Nat.lt_of_lt_of_eq A157.lt g167.symm)
  have ne_b161_b167 : Nq b161 b167 := Nat.ne_of_lt (Nat.lt_of_lt_of_eq A161.lt g167.symm)
  replace O_0 := O_0.ext E167
  replace A143 := A143.ext E167
  replace Fv145 := Fv145.ext E167
  replace Fc145 := Fc145.ext E167
  replace V145 := V145.ext E167
  replace A157 := A157.ext E167
  replace Fq159_buckets := Fq159_buckets.ext E167
  replace A161 := A161.ext E167
  replace F161 := F161.ext E167
  have ge_b167 : n0 ≤ b167 := Nat.le_trans Z166 (Nat.le_of_eq g167.symm)
  have sz_b167 : h0.size ≤ b167 := Nat.le_trans K165'.1 (Nat.le_of_eq g167.symm)
  have K167 : Keep h0 h167 [] := K165'.ext E167
  have Z168 : n0 ≤ h167.size := Nat.le_trans Z166 E167.1
  have hSn168 : _ ≤ h167.size := Nat.le_trans (Nat.le_refl _) E167.1
  have F167_buckets : Fld Z h167 b167 "com/example/ringward/ringward/JumpPlacement" "buckets" "I" (.int (0 : Int32)) := D167 (Or.inr (hw _ (List.mem_of_getElem? (i := 77) rfl))) (ty := .int) (by decide)
  show Ok p e below _ _ T167 (mkF m 154 #[.val (.int p1), .val (.int p2), .val (.int p3), .val (.int nn), .val (.ref b133), .val (.ref b143), .val (.ref b147), .val (.ref b149), .val (.ref b153), .val (.ref b157), .val (.ref b161), .val (.int r163), .val (.int r165), .unset, .unset, .unset, .unset] [(.ref b167)])
  refine Ok.dup (pc' := 155) X167 hx (hb hby at_154) rfl rfl ?_
  refine Ok.iloadN (pc' := 156) X167 hx (hb hby at_155) rfl rfl ?_
  refine Ok.iconst (z := (1 : Int32)) (pc' := 157) X167 hx (hb hby at_156) rfl rfl ?_
  refine Ok.isub (pc' := 158) X167 hx (hb hby at_157) rfl ?_
  refine Ok.init (pc' := 161) (W := 1) (a := b167)  (argsL := [(.int (nn - (1 : Int32)))]) (rest := [(.ref b167)]) X167 hx hZ165 hown165 (rm50 l Z a0 hw b167 (nn - (1 : Int32)) (.int (0 : Int32)) h167 n0 Z168 A167 ge_b167 F167_buckets) rfl (hw _ (List.mem_of_getElem? (i := 72) rfl)) (hw _ (List.mem_of_getElem? (i := 73) rfl)) (hw _ (List.mem_of_getElem? (i := 71) rfl)) (hw _ (List.mem_of_getElem? (i := 74) rfl)) (by decide) e167 (by decide) (by decide) (by decide) (by decide) (lenOf pd_10 rfl) rfl rfl (Nat.le_of_eq rfl) (by rw [hml]; rfl) (hb hby at_158) rfl ?_
  intro v169 T169 L169 X169 hQ169
  obtain ⟨rfl, Nq169, Kq169, Aq169, Fq169_buckets⟩ := hQ169
  have N169 := Fr.app N165 Nq169
  replace O_0 := O_0.keep Kq169 (allS ge_b167 all0)
  replace A143 := A143.keep Kq169
  replace Fv145 := Fv145.keep Kq169 (ninS ne_b143_b167 nin0)
  replace Fc145 := Fc145.keep Kq169 (ninS ne_b143_b167 nin0)
  replace V145 := V145.keep Kq169 (ninS ne_r145_b167 nin0)
  replace A157 := A157.keep Kq169
  replace Fq159_buckets := Fq159_buckets.keep Kq169 (ninS ne_b157_b167 nin0)
  replace A161 := A161.keep Kq169
  replace F161 := F161.keep Kq169 (ninS ne_b161_b167 nin0)
  replace A167 := A167.keep Kq169
  have K169' : Keep h0 T169.heap [] := K167.trans Kq169 (allS (Or.inr sz_b167) all0)
  have Z170 : n0 ≤ T169.heap.size := Nat.le_trans Z168 Kq169.1
  have hSn170 : _ ≤ T169.heap.size := Nat.le_trans hSn168 Kq169.1
  show Ok p e below _ _ T169 (mkF m 161 #[.val (.int p1), .val (.int p2), .val (.int p3), .val (.int nn), .val (.ref b133), .val (.ref b143), .val (.ref b147), .val (.ref b149), .val (.ref b153), .val (.ref b157), .val (.ref b161), .val (.int r163), .val (.int r165), .unset, .unset, .unset, .unset] [(.ref b167)])
  refine Ok.aload (pc' := 163) X169 hx (hb hby at_161) rfl rfl rfl ?_
  refine Ok.virtW (pc' := 166) (W := 0) (a := b167)  (argsL := [(.ref b143)]) (rest := []) X169 hx hZ165 hown165 hS165 hSn170 (rm51 l Z a0 hw b167 (nn - (1 : Int32)) fz b143 r145 kr145 c0 c1 c2 c3 cs0 gv T169.heap n0 Z170 Fq169_buckets (by omega) (by omega) A143 Fv145 Fc145 V145 hc0 hc1 hc2 hc3 O_0 S_cs hcs S_sf r_gv) (hw _ (List.mem_of_getElem? (i := 85) rfl)) (hw _ (List.mem_of_getElem? (i := 86) rfl)) (hw _ (List.mem_of_getElem? (i := 88) rfl)) (notFace_of_selects (args := #[]) (mvT (s := s.setVm _) hZ165 (hw _ (List.mem_of_getElem? (i := 88) rfl)))) (hw _ (List.mem_of_getElem? (i := 87) rfl)) (hw _ (List.mem_of_getElem? (i := 71) rfl)) (hw _ (List.mem_of_getElem? (i := 89) rfl)) (by decide) rfl A167 (by decide) (by decide) (by decide) (by decide) (lenOf pd_12 rfl) rfl rfl (Nat.le_of_eq rfl) (by rw [hml]; rfl) (hb hby at_163) rfl ?_
  intro v171 T171 L171 X171 hZ171 hown171 hS171 hQ171
  obtain ⟨r171, rfl, hr171, Nq171, Kq171⟩ := hQ171
  have N171 := Fr.app N169 Nq171
  replace O_0 := O_0.keep Kq171 all0
  replace A143 := A143.keep Kq171
  replace Fv145 := Fv145.keep Kq171 nin0
  replace Fc145 := Fc145.keep Kq171 nin0
  replace V145 := V145.keep Kq171 nin0
  replace A157 := A157.keep Kq171
  replace Fq159_buckets := Fq159_buckets.keep Kq171 nin0
  replace A161 := A161.keep Kq171
  replace F161 := F161.keep Kq171 nin0
  replace A167 := A167.keep Kq171
  replace Fq169_buckets := Fq169_buckets.keep Kq171 nin0
  have K171' : Keep h0 T171.heap [] := K169'.trans Kq171 all0
  have Z172 : n0 ≤ T171.heap.size := Nat.le_trans Z170 Kq171.1
  show Ok p e below _ _ T171 (mkF m 166 #[.val (.int p1), .val (.int p2), .val (.int p3), .val (.int nn), .val (.ref b133), .val (.ref b143), .val (.ref b147), .val (.ref b149), .val (.ref b153), .val (.ref b157), .val (.ref b161), .val (.int r163), .val (.int r165), .unset, .unset, .unset, .unset] [(.int r171)])
  refine Ok.istore (l' := #[.val (.int p1), .val (.int p2), .val (.int p3), .val (.int nn), .val (.ref b133), .val (.ref b143), .val (.ref b147), .val (.ref b149), .val (.ref b153), .val (.ref b157), .val (.ref b161), .val (.int r163), .val (.int r165), .val (.int r171), .unset, .unset, .unset]) (pc' := 168) X171 hx (hb hby at_166) rfl rfl ?_
  rw [hs1] at hr165 hr171
  have hnx := lp_next fz (hval c0 c1 c2 c3) 0 0 (nn.toInt - 1) (by omega)
  rw [show nn.toInt - 1 + 1 = nn.toInt from by omega] at hnx
  have hi1 := lp_in (f := fz) (k := hval c0 c1 c2 c3) (n := nn.toInt) (by omega)
  have hi2 := lp_in (f := fz) (k := hval c0 c1 c2 c3) (n := nn.toInt - 1) (by omega)
  rw [← hr163, ← hr165] at hnx
  rw [← hr163] at hi1
  rw [← hr165] at hi2
  refine Ok.iconst (z := (0 : Int32)) (pc' := 169) X171 hx (hb hby at_168) rfl rfl ?_
  refine Ok.iload (pc' := 171) X171 hx (hb hby at_169) rfl rfl ?_
  by_cases hc171 : r165.toInt < 0
  · refine Ok.icY (pc' := 186) X171 hx (hb hby at_171) (bt (ic_eq (0 : Int32) r165).2.2.2.2.1 hc171) (by decide) (by decide) ?_
    exfalso; omega
  · refine Ok.icN (pc' := 174) X171 hx (hb hby at_171) (bf (ic_eq (0 : Int32) r165).2.2.2.2.1 hc171) rfl ?_
    refine Ok.iload (pc' := 176) X171 hx (hb hby at_174) rfl rfl ?_
    refine Ok.iloadN (pc' := 177) X171 hx (hb hby at_176) rfl rfl ?_
    refine Ok.iconst (z := (2 : Int32)) (pc' := 178) X171 hx (hb hby at_177) rfl rfl ?_
    refine Ok.isub (pc' := 179) X171 hx (hb hby at_178) rfl ?_
    by_cases hc179 : (nn - (2 : Int32)).toInt < r165.toInt
    · refine Ok.icY (pc' := 186) X171 hx (hb hby at_179) (bt (ic_eq r165 (nn - (2 : Int32))).2.2.2.2.1 hc179) (by decide) (by decide) ?_
      exfalso; omega
    · refine Ok.icN (pc' := 182) X171 hx (hb hby at_179) (bf (ic_eq r165 (nn - (2 : Int32))).2.2.2.2.1 hc179) rfl ?_
      refine Ok.iconst (z := (1 : Int32)) (pc' := 183) X171 hx (hb hby at_182) rfl rfl ?_
      refine Ok.goto (pc' := 187) X171 hx (hb hby at_183) (by decide) (by decide) ?_
      refine Ok.istore (l' := #[.val (.int p1), .val (.int p2), .val (.int p3), .val (.int nn), .val (.ref b133), .val (.ref b143), .val (.ref b147), .val (.ref b149), .val (.ref b153), .val (.ref b157), .val (.ref b161), .val (.int r163), .val (.int r165), .val (.int r171), .val (.int (1 : Int32)), .unset, .unset]) (pc' := 189) X171 hx (hb hby at_187) rfl rfl ?_
      refine Ok.iload (pc' := 191) X171 hx (hb hby at_189) rfl rfl ?_
      refine Ok.iloadN (pc' := 192) X171 hx (hb hby at_191) rfl rfl ?_
      refine Ok.iconst (z := (1 : Int32)) (pc' := 193) X171 hx (hb hby at_192) rfl rfl ?_
      refine Ok.isub (pc' := 194) X171 hx (hb hby at_193) rfl ?_
      by_cases hc194 : r163.toInt = (nn - (1 : Int32)).toInt
      · refine Ok.icY (pc' := 204) X171 hx (hb hby at_194) (bt (ic_eq r163 (nn - (1 : Int32))).1 hc194) (by decide) (by decide) ?_
        refine Ok.iconst (z := (1 : Int32)) (pc' := 205) X171 hx (hb hby at_204) rfl rfl ?_
        refine Ok.goto (pc' := 209) X171 hx (hb hby at_205) (by decide) (by decide) ?_
        refine Ok.istore (l' := #[.val (.int p1), .val (.int p2), .val (.int p3), .val (.int nn), .val (.ref b133), .val (.ref b143), .val (.ref b147), .val (.ref b149), .val (.ref b153), .val (.ref b157), .val (.ref b161), .val (.int r163), .val (.int r165), .val (.int r171), .val (.int (1 : Int32)), .val (.int (1 : Int32)), .unset]) (pc' := 211) X171 hx (hb hby at_209) rfl rfl ?_
        refine Ok.iconst (z := (0 : Int32)) (pc' := 212) X171 hx (hb hby at_211) rfl rfl ?_
        refine Ok.iload (pc' := 214) X171 hx (hb hby at_212) rfl rfl ?_
        by_cases hc214 : r163.toInt < 0
        · refine Ok.icY (pc' := 229) X171 hx (hb hby at_214) (bt (ic_eq (0 : Int32) r163).2.2.2.2.1 hc214) (by decide) (by decide) ?_
          exfalso; omega
        · refine Ok.icN (pc' := 217) X171 hx (hb hby at_214) (bf (ic_eq (0 : Int32) r163).2.2.2.2.1 hc214) rfl ?_
          refine Ok.iload (pc' := 219) X171 hx (hb hby at_217) rfl rfl ?_
          refine Ok.iloadN (pc' := 220) X171 hx (hb hby at_219) rfl rfl ?_
          refine Ok.iconst (z := (1 : Int32)) (pc' := 221) X171 hx (hb hby at_220) rfl rfl ?_
          refine Ok.isub (pc' := 222) X171 hx (hb hby at_221) rfl ?_
          by_cases hc222 : (nn - (1 : Int32)).toInt < r163.toInt
          · refine Ok.icY (pc' := 229) X171 hx (hb hby at_222) (bt (ic_eq r163 (nn - (1 : Int32))).2.2.2.2.1 hc222) (by decide) (by decide) ?_
            exfalso; omega
          · refine Ok.icN (pc' := 225) X171 hx (hb hby at_222) (bf (ic_eq r163 (nn - (1 : Int32))).2.2.2.2.1 hc222) rfl ?_
            refine Ok.iconst (z := (1 : Int32)) (pc' := 226) X171 hx (hb hby at_225) rfl rfl ?_
            refine Ok.goto (pc' := 230) X171 hx (hb hby at_226) (by decide) (by decide) ?_
            refine Ok.istore (l' := #[.val (.int p1), .val (.int p2), .val (.int p3), .val (.int nn), .val (.ref b133), .val (.ref b143), .val (.ref b147), .val (.ref b149), .val (.ref b153), .val (.ref b157), .val (.ref b161), .val (.int r163), .val (.int r165), .val (.int r171), .val (.int (1 : Int32)), .val (.int (1 : Int32)), .val (.int (1 : Int32))]) (pc' := 232) X171 hx (hb hby at_230) rfl rfl ?_
            refine Ok.iload (pc' := 234) X171 hx (hb hby at_232) rfl rfl ?_
            refine Ok.iload (pc' := 236) X171 hx (hb hby at_234) rfl rfl ?_
            by_cases hc236 : ¬ r165.toInt = r171.toInt
            · refine Ok.icY (pc' := 258) X171 hx (hb hby at_236) (bt (ic_eq r165 r171).2.1 hc236) (by decide) (by decide) ?_
              exfalso; omega
            · refine Ok.icN (pc' := 239) X171 hx (hb hby at_236) (bf (ic_eq r165 r171).2.1 hc236) rfl ?_
              refine Ok.iload (pc' := 241) X171 hx (hb hby at_239) rfl rfl ?_
              refine Ok.ifN (pc' := 244) X171 hx (hb hby at_241) (bf (i0 .eq (1 : Int32) (ic_eq (1 : Int32) 0).1) (by decide)) rfl ?_
              refine Ok.iload (pc' := 246) X171 hx (hb hby at_244) rfl rfl ?_
              refine Ok.ifN (pc' := 249) X171 hx (hb hby at_246) (bf (i0 .eq (1 : Int32) (ic_eq (1 : Int32) 0).1) (by decide)) rfl ?_
              refine Ok.iload (pc' := 251) X171 hx (hb hby at_249) rfl rfl ?_
              refine Ok.ifN (pc' := 254) X171 hx (hb hby at_251) (bf (i0 .eq (1 : Int32) (ic_eq (1 : Int32) 0).1) (by decide)) rfl ?_
              refine Ok.iconst (z := (1 : Int32)) (pc' := 255) X171 hx (hb hby at_254) rfl rfl ?_
              refine Ok.goto (pc' := 259) X171 hx (hb hby at_255) (by decide) (by decide) ?_
              refine Ok.retIW X171 hx hS171 ((Nat.le_refl _)) hret hlk (Or.inr (Or.inl rfl)) rfl (hb hby at_259) (by decide) (by decide) ?_
              show Q0 Z p1 p2 p3 cs0 gv ed h0 n0 _ T171.heap _
              exact ⟨rfl, N171⟩
      · refine Ok.icN (pc' := 197) X171 hx (hb hby at_194) (bf (ic_eq r163 (nn - (1 : Int32))).1 hc194) rfl ?_
        refine Ok.iload (pc' := 199) X171 hx (hb hby at_197) rfl rfl ?_
        refine Ok.iload (pc' := 201) X171 hx (hb hby at_199) rfl rfl ?_
        by_cases hc201 : ¬ r165.toInt = r163.toInt
        · refine Ok.icY (pc' := 208) X171 hx (hb hby at_201) (bt (ic_eq r165 r163).2.1 hc201) (by decide) (by decide) ?_
          exfalso; omega
        · refine Ok.icN (pc' := 204) X171 hx (hb hby at_201) (bf (ic_eq r165 r163).2.1 hc201) rfl ?_
          refine Ok.iconst (z := (1 : Int32)) (pc' := 205) X171 hx (hb hby at_204) rfl rfl ?_
          refine Ok.goto (pc' := 209) X171 hx (hb hby at_205) (by decide) (by decide) ?_
          refine Ok.istore (l' := #[.val (.int p1), .val (.int p2), .val (.int p3), .val (.int nn), .val (.ref b133), .val (.ref b143), .val (.ref b147), .val (.ref b149), .val (.ref b153), .val (.ref b157), .val (.ref b161), .val (.int r163), .val (.int r165), .val (.int r171), .val (.int (1 : Int32)), .val (.int (1 : Int32)), .unset]) (pc' := 211) X171 hx (hb hby at_209) rfl rfl ?_
          refine Ok.iconst (z := (0 : Int32)) (pc' := 212) X171 hx (hb hby at_211) rfl rfl ?_
          refine Ok.iload (pc' := 214) X171 hx (hb hby at_212) rfl rfl ?_
          by_cases hc214 : r163.toInt < 0
          · refine Ok.icY (pc' := 229) X171 hx (hb hby at_214) (bt (ic_eq (0 : Int32) r163).2.2.2.2.1 hc214) (by decide) (by decide) ?_
            exfalso; omega
          · refine Ok.icN (pc' := 217) X171 hx (hb hby at_214) (bf (ic_eq (0 : Int32) r163).2.2.2.2.1 hc214) rfl ?_
            refine Ok.iload (pc' := 219) X171 hx (hb hby at_217) rfl rfl ?_
            refine Ok.iloadN (pc' := 220) X171 hx (hb hby at_219) rfl rfl ?_
            refine Ok.iconst (z := (1 : Int32)) (pc' := 221) X171 hx (hb hby at_220) rfl rfl ?_
            refine Ok.isub (pc' := 222) X171 hx (hb hby at_221) rfl ?_
            by_cases hc222 : (nn - (1 : Int32)).toInt < r163.toInt
            · refine Ok.icY (pc' := 229) X171 hx (hb hby at_222) (bt (ic_eq r163 (nn - (1 : Int32))).2.2.2.2.1 hc222) (by decide) (by decide) ?_
              exfalso; omega
            · refine Ok.icN (pc' := 225) X171 hx (hb hby at_222) (bf (ic_eq r163 (nn - (1 : Int32))).2.2.2.2.1 hc222) rfl ?_
              refine Ok.iconst (z := (1 : Int32)) (pc' := 226) X171 hx (hb hby at_225) rfl rfl ?_
              refine Ok.goto (pc' := 230) X171 hx (hb hby at_226) (by decide) (by decide) ?_
              refine Ok.istore (l' := #[.val (.int p1), .val (.int p2), .val (.int p3), .val (.int nn), .val (.ref b133), .val (.ref b143), .val (.ref b147), .val (.ref b149), .val (.ref b153), .val (.ref b157), .val (.ref b161), .val (.int r163), .val (.int r165), .val (.int r171), .val (.int (1 : Int32)), .val (.int (1 : Int32)), .val (.int (1 : Int32))]) (pc' := 232) X171 hx (hb hby at_230) rfl rfl ?_
              refine Ok.iload (pc' := 234) X171 hx (hb hby at_232) rfl rfl ?_
              refine Ok.iload (pc' := 236) X171 hx (hb hby at_234) rfl rfl ?_
              by_cases hc236 : ¬ r165.toInt = r171.toInt
              · refine Ok.icY (pc' := 258) X171 hx (hb hby at_236) (bt (ic_eq r165 r171).2.1 hc236) (by decide) (by decide) ?_
                exfalso; omega
              · refine Ok.icN (pc' := 239) X171 hx (hb hby at_236) (bf (ic_eq r165 r171).2.1 hc236) rfl ?_
                refine Ok.iload (pc' := 241) X171 hx (hb hby at_239) rfl rfl ?_
                refine Ok.ifN (pc' := 244) X171 hx (hb hby at_241) (bf (i0 .eq (1 : Int32) (ic_eq (1 : Int32) 0).1) (by decide)) rfl ?_
                refine Ok.iload (pc' := 246) X171 hx (hb hby at_244) rfl rfl ?_
                refine Ok.ifN (pc' := 249) X171 hx (hb hby at_246) (bf (i0 .eq (1 : Int32) (ic_eq (1 : Int32) 0).1) (by decide)) rfl ?_
                refine Ok.iload (pc' := 251) X171 hx (hb hby at_249) rfl rfl ?_
                refine Ok.ifN (pc' := 254) X171 hx (hb hby at_251) (bf (i0 .eq (1 : Int32) (ic_eq (1 : Int32) 0).1) (by decide)) rfl ?_
                refine Ok.iconst (z := (1 : Int32)) (pc' := 255) X171 hx (hb hby at_254) rfl rfl ?_
                refine Ok.goto (pc' := 259) X171 hx (hb hby at_255) (by decide) (by decide) ?_
                refine Ok.retIW X171 hx hS171 ((Nat.le_refl _)) hret hlk (Or.inr (Or.inl rfl)) rfl (hb hby at_259) (by decide) (by decide) ?_
                show Q0 Z p1 p2 p3 cs0 gv ed h0 n0 _ T171.heap _
                exact ⟨rfl, N171⟩
set_option maxRecDepth 65536 in
set_option maxHeartbeats 40000000 in
theorem comes_1 {Post : Tables → Env → Array Value → State → Outcome → State → Prop} (hpost : ∀ tb e args s v u, (limb_1_1.after args s (.returned v) u = true ∧ limb_1_2.after args s (.returned v) u = true ∧ True) → ReturnedEndW s (.returned v) u (Jvm.fieldLocs frame_1_writes args s ++ Jvm.arrayLocs frame_1_arrays args s ++ Jvm.staticLocs frame_1_statics s) 32 1152 → Post tb e args s (.returned v) u) :
    ArmFor flags0 classFile x code maxLocals ret World_1 tables_1 room_1 Calls_1 rest_1 Pre_1 Post := by
  intro l hfl _ _ p e ha hc hk s m args below hf hA hF happ hP
  obtain ⟨hcalls, hrest, hpre⟩ := hP
  obtain ⟨-, -, -, hnamed, -, -, -, hat⟩ := (Spec.applies_iff hf).mp happ
  obtain ⟨hg, hn⟩ := and_e (Cond.before_iff.mp (show (Jvm.Cond.and given_1 narrow_1).before args s = true from hpre))
  obtain ⟨hcount, hg0⟩ := and_e hg
  obtain ⟨hk0, hg1⟩ := and_e hg0
  obtain ⟨hk1, hg2⟩ := and_e hg1
  have hk2 := hg2
  obtain ⟨w0, w1, w2, rfl⟩ : ∃ w0 w1 w2 : Value, args = #[w0, w1, w2] := by
    have hs : args.size = 3 := by simpa [Cond.value, given_1] using hcount
    obtain ⟨L⟩ := args
    match L, hs with
    | [w0, w1, w2], _ => exact ⟨w0, w1, w2, rfl⟩
  have hw := fun d (hd : d ∈ tables_1) => atoms_spec (ws := Jvm.Cond.code x code maxLocals ret :: tables_1) hat d (List.mem_cons_of_mem _ hd)
  have hfit : Fit s := fun {y c} hc i hi => by
    obtain ⟨ha, rfl⟩ := Array.getElem?_eq_some_iff.mp hc
    have q := List.all_eq_true.mp ((Array.all_eq_true_iff_forall_mem.mp hF) _ (Array.getElem_mem ha)) i (List.mem_range.mpr hi)
    simpa [Array.getElem?_eq_getElem hi] using q
  obtain ⟨hsets, hown0⟩ := atoms_of _ (rest_1_c_eq ▸ (show rest_1_c.before _ s = true from hrest))
  obtain ⟨i0, ei0⟩ := is_v hk0
  obtain rfl : w0 = (.int i0) := Option.some.inj ei0
  obtain ⟨i1, ei1⟩ := is_v hk1
  obtain rfl : w1 = (.int i1) := Option.some.inj ei1
  obtain ⟨i2, ei2⟩ := is_v hk2
  obtain rfl : w2 = (.int i2) := Option.some.inj ei2
  obtain ⟨cs0, ecs⟩ := is_v (Cond.before_iff.mp (hsets _ (List.mem_of_getElem? (i := 1) rfl)))
  have S_cs := Sta.start ecs (Or.inl (hsets _ (List.mem_of_getElem? (i := 0) rfl)))
  have hcs : ¬ cs0.toInt = 0 := fun q => by
    have h0 := not_v (Cond.before_iff.mp (hsets _ (List.mem_of_getElem? (i := 2) rfl)))
    have h1 := Cond.eq_ints ecs (Term.int_eval (0))
    rw [h0] at h1
    have h2 : cs0 = 0 := Int32.toInt_inj.mp (by rw [q]; rfl)
    simp [h2] at h1
  obtain ⟨gv, egv, r_gv⟩ := isR_v (Cond.before_iff.mp (hsets _ (List.mem_of_getElem? (i := 8) rfl)))
  have S_sf := Sta.start egv (Or.inl (hsets _ (List.mem_of_getElem? (i := 7) rfl)))
  obtain ⟨ed, eed⟩ := arr_v (Cond.before_iff.mp (hsets _ (List.mem_of_getElem? (i := 15) rfl)))
  have S_ed := Sta.start eed (Or.inr ⟨(hw _ (List.mem_of_getElem? (i := 47) rfl)), (hsets _ (List.mem_of_getElem? (i := 11) rfl))⟩)
  obtain ⟨n, o, h1, h2, h3, _, L, rfl, ⟨rfl, N⟩, hq⟩ := rm0 l s _ hw tables_1 i0 i1 i2 cs0 gv ed s.heap s.heap.size (Nat.le_refl _) (Old.start s) S_cs hcs S_sf r_gv S_ed p e ha hc hk s m _ below hf ((Spec.applies_iff_loose hf).mp happ).1 ⟨rfl, State.Warmed39.refl s, rfl⟩ trivial
  refine ⟨n, _, h1, h2, h3, hpost _ _ _ _ _ _ ⟨Cond.after_iff.mpr rfl, Cond.after_iff.mpr (eq_i res_at (Term.int_eval (1)) rfl), trivial⟩ ⟨hq.1, hq.2.1, hq.2.2.1, (hq.2.2.2.sift fun y hy => Or.inr (N y hy)).mono (by decide) (by decide)⟩⟩
theorem main_1_1 : Claimed_1_1 := comes_1 fun _ _ _ _ _ _ h hF => ⟨h.1, hF⟩
theorem main_1_2 : Claimed_1_2 := comes_1 fun _ _ _ _ _ _ h hF => ⟨h.2.1, hF⟩
end Jvm.Pilot.@@N@@
namespace Jvm.Pilot.@@N@@
open Jvm Jvm.ClassFile Sem Op Lib Jvm.Free Jvm.Stand Jvm.Pilot.@@N@@.Jvm.D
/-! MADE BY PROGRAM (witnessworld.py) out of the Statement's table words and the real class files: 34 classes; the members and pool entries that the words name. The judged class is class 1, her method 1. -/
namespace start1
open Jvm.ClassFile
def u (s : String) : CpInfo := .utf8 (stringToUtf16 s)
/-- a pool by its gaps: so many unusable entries, then the entry; so many at the end -/
def gap : Nat → List CpInfo → List CpInfo
  | 0, r => r
  | n + 1, r => .unusable :: gap n r
def poolList (es : List (Nat × CpInfo)) (last : Nat) : List CpInfo := es.foldr (fun e r => gap e.1 (e.2 :: r)) (gap last [])
def pool (es : List (Nat × CpInfo)) (last : Nat) : Array CpInfo := ⟨poolList es last⟩
def fileOf (pool : Array CpInfo) (this : Nat) (attrs : Array Attribute := #[]) (ms : Array MethodInfo := #[]) (fl : Nat := 33) (sup : Nat := 0) (ifs : Array Nat := #[]) (fds : Array FieldInfo := #[]) : ClassFile where
  minorVersion := 0
  majorVersion := 65
  constantPool := pool
  accessFlags := fl
  thisClass := this
  superClass := sup
  interfaces := ifs
  fields := fds
  methods := ms
  attributes := attrs
def plain (name : String) (sup : Option ClassId) : Class where
  name := name
  kind := .ordinary
  loader := none
  accessFlags := 33
  super := sup
  interfaces := #[]
  cf := none
  fields := #[]
  methods := #[]
  instanceTypes := #[]
  staticTypes := #[]
  resolved := #[]
  callSites := []
  init := .initialized
  statics := none
  mirror := none

def pool0 : Array CpInfo := pool [(5, u "<init>"), (0, u "()V"), (1, .class_ 10), (1, u "java/lang/Object")] 113

def k0c0 : Code := { maxStack := 0, maxLocals := 1, code := object_method_1_code, exceptionTable := #[], attributes := #[] }
def k0m0 : Method := { name := "<init>", desc := "()V", sig := { parameters := [], returnType := none }, accessFlags := 1, code := some k0c0 }
/-- java/lang/Object -/
def k0 : Class := { plain "java/lang/Object" none with
  accessFlags := 33
  interfaces := #[]
  cf := some (fileOf pool0 8 #[] #[{ accessFlags := 1, nameIndex := 5, descriptorIndex := 6, attributes := #[] }] 33 0 #[] #[])
  fields := #[]
  methods := #[k0m0]
  instanceTypes := #[]
  staticTypes := #[]
  resolved := Array.replicate 124 none
  statics := none }

def pool1 : Array CpInfo := pool [(2, .class_ 4), (0, .nameAndType 5 6), (0, u "java/lang/Object"), (0, u "<init>"), (0, u "()V"), (0, .integer 2147483647), (0, .class_ 9), (0, u "java/lang/String"), (0, .methodref 8 11), (0, .nameAndType 5 12), (0, u "([C)V"), (0, .methodref 8 14), (0, .nameAndType 15 16), (0, u "valueOf"), (0, u "(C)Ljava/lang/String;"), (0, .class_ 18), (0, u "java/util/ArrayList"), (0, .methodref 17 3), (0, .class_ 21), (0, u "com/example/ringward/ringward/JumpPlacement"), (0, .methodref 20 23), (0, .nameAndType 5 24), (0, u "(I)V"), (0, .methodref 20 26), (0, .nameAndType 27 28), (0, u "withoutNode"), (0, u "(Ljava/lang/String;ILjava/util/List;Ljava/util/List;)Lcom/example/ringward/ringward/Placement;"), (0, .methodref 20 30), (0, .nameAndType 31 32), (0, u "nodeIndexFor"), (0, u "(Ljava/lang/String;)I"), (0, .interfaceMethodref 34 30), (0, .class_ 35), (0, u "com/example/ringward/ringward/Placement"), (0, .class_ 37), (0, u "com/example/ringward/ringward/JumpPlacementWithoutNodePinLaw"), (2, u "law"), (0, u "(III)Z")] 7

def k1m0 : Method := { name := "<init>", desc := "()V", sig := { parameters := [], returnType := none }, accessFlags := 1, code := none }
def k1c1 : Code := { maxStack := 5, maxLocals := 17, code := code, exceptionTable := #[], attributes := #[] }
def k1m1 : Method := { name := "law", desc := "(III)Z", sig := { parameters := [.int, .int, .int], returnType := some .boolean }, accessFlags := 9, code := some k1c1 }
/-- com/example/ringward/ringward/JumpPlacementWithoutNodePinLaw -/
def k1 : Class := { plain "com/example/ringward/ringward/JumpPlacementWithoutNodePinLaw" (some 0) with
  accessFlags := 49
  interfaces := #[]
  cf := some (fileOf pool1 36 #[] #[{ accessFlags := 1, nameIndex := 5, descriptorIndex := 6, attributes := #[] }, { accessFlags := 9, nameIndex := 40, descriptorIndex := 41, attributes := #[] }] 49 2 #[] #[])
  fields := #[]
  methods := #[k1m0, k1m1]
  instanceTypes := #[]
  staticTypes := #[]
  resolved := Array.replicate 49 none
  statics := none }

def pool2 : Array CpInfo := pool [(1, .class_ 2), (0, u "java/io/Serializable"), (0, .class_ 4), (0, u "java/lang/Object")] 2

/-- java/io/Serializable -/
def k2 : Class := { plain "java/io/Serializable" (some 0) with
  accessFlags := 1537
  interfaces := #[]
  cf := some (fileOf pool2 1 #[] #[] 1537 3 #[] #[])
  fields := #[]
  methods := #[]
  instanceTypes := #[]
  staticTypes := #[]
  resolved := Array.replicate 7 none
  statics := none }

def pool3 : Array CpInfo := pool [(1, .class_ 2), (0, u "java/lang/Comparable"), (0, .class_ 4), (0, u "java/lang/Object")] 7

/-- java/lang/Comparable -/
def k3 : Class := { plain "java/lang/Comparable" (some 0) with
  accessFlags := 1537
  interfaces := #[]
  cf := some (fileOf pool3 1 #[] #[] 1537 3 #[] #[])
  fields := #[]
  methods := #[]
  instanceTypes := #[]
  staticTypes := #[]
  resolved := Array.replicate 12 none
  statics := none }

def pool4 : Array CpInfo := pool [(2, .class_ 4), (1, u "java/lang/CharSequence"), (42, .class_ 48), (0, u "java/lang/CharSequence$1CodePointIterator"), (10, .class_ 60), (0, u "java/lang/CharSequence$1CharIterator"), (5, .class_ 67), (0, u "java/lang/Object")] 63

/-- java/lang/CharSequence -/
def k4 : Class := { plain "java/lang/CharSequence" (some 0) with
  accessFlags := 1537
  interfaces := #[]
  cf := some (fileOf pool4 2 #[.nestMembers #[47, 59]] #[] 1537 66 #[] #[])
  fields := #[]
  methods := #[]
  instanceTypes := #[]
  staticTypes := #[]
  resolved := Array.replicate 131 none
  statics := none }

def pool5 : Array CpInfo := pool [(1, .class_ 2), (0, u "java/lang/constant/Constable"), (0, .class_ 4), (0, u "java/lang/Object")] 6

/-- java/lang/constant/Constable -/
def k5 : Class := { plain "java/lang/constant/Constable" (some 0) with
  accessFlags := 1537
  interfaces := #[]
  cf := some (fileOf pool5 1 #[] #[] 1537 3 #[] #[])
  fields := #[]
  methods := #[]
  instanceTypes := #[]
  staticTypes := #[]
  resolved := Array.replicate 11 none
  statics := none }

def pool6 : Array CpInfo := pool [(1, .class_ 2), (0, u "java/lang/constant/ConstantDesc"), (0, .class_ 4), (0, u "java/lang/Object")] 32

/-- java/lang/constant/ConstantDesc -/
def k6 : Class := { plain "java/lang/constant/ConstantDesc" (some 0) with
  accessFlags := 1537
  interfaces := #[]
  cf := some (fileOf pool6 1 #[] #[] 1537 3 #[] #[])
  fields := #[]
  methods := #[]
  instanceTypes := #[]
  staticTypes := #[]
  resolved := Array.replicate 37 none
  statics := none }

def pool7 : Array CpInfo := pool [(1, .methodref 2 3), (0, .class_ 4), (0, .nameAndType 5 6), (0, u "java/lang/Object"), (0, u "<init>"), (0, u "()V"), (2, .fieldref 10 11), (0, .class_ 12), (0, .nameAndType 13 14), (0, u "java/lang/String"), (0, u "value"), (0, u "[B"), (0, .fieldref 10 16), (0, .nameAndType 17 18), (0, u "coder"), (0, u "B"), (2, u "hash"), (0, u "I"), (2, u "hashIsZero"), (0, u "Z"), (0, .methodref 10 28), (0, .nameAndType 5 29), (0, u "([CIILjava/lang/Void;)V"), (8, .fieldref 10 39), (0, .nameAndType 40 26), (0, u "COMPACT_STRINGS"), (1, .class_ 44), (1, u "java/lang/StringUTF16"), (0, u "compress"), (1, .methodref 42 48), (0, .nameAndType 49 50), (0, u "coderFromArrayLen"), (0, u "([BI)B"), (2, u "toBytes"), (53, .class_ 109), (1, u "java/lang/StringLatin1"), (32, u "()Z"), (34, .methodref 42 178), (0, .nameAndType 45 179), (0, u "([CII)[B"), (29, .methodref 10 210), (0, .nameAndType 5 211), (0, u "([BB)V"), (122, u "()I"), (0, .methodref 10 336), (0, .nameAndType 17 337), (0, u "()B"), (25, u "([BI)C"), (5, u "(C)Z"), (21, u "(II)V"), (35, u "(I)C"), (64, .methodref 10 493), (0, .nameAndType 494 142), (0, u "isLatin1"), (0, .methodref 107 496), (0, .nameAndType 497 363), (0, u "charAt"), (3, u "checkIndex"), (5, u "length"), (67, .class_ 576), (0, u "java/lang/CharSequence"), (22, u "CASE_INSENSITIVE_ORDER"), (0, u "Ljava/util/Comparator;"), (181, u "valueOf"), (0, u "(C)Ljava/lang/String;"), (226, u "([C)V"), (4, .methodref 107 1016), (0, .nameAndType 1017 369), (0, u "canEncode"), (0, .methodref 107 1019), (0, .nameAndType 53 1020), (0, u "(C)[B"), (32, .fieldref 1054 1055), (0, .class_ 1056), (0, .nameAndType 1057 1058), (0, u "jdk/internal/util/Preconditions"), (0, u "SIOOBE_FORMATTER"), (0, u "Ljava/util/function/BiFunction;"), (0, .methodref 1054 1060), (0, .nameAndType 501 1061), (0, u "(IILjava/util/function/BiFunction;)I"), (39, u "serialPersistentFields"), (0, u "[Ljava/io/ObjectStreamField;"), (0, .class_ 1104), (0, u "java/lang/String$CaseInsensitiveComparator"), (1, .class_ 1107), (0, u "java/io/Serializable"), (0, .class_ 1109), (0, u "java/lang/Comparable"), (0, .class_ 1111), (0, u "java/lang/constant/Constable"), (0, .class_ 1113), (0, u "java/lang/constant/ConstantDesc"), (2, u "serialVersionUID"), (0, u "J"), (3, u "REPL"), (0, u "C"), (2, u "LATIN1"), (1, u "UTF16")] 323

def k7m0 : Method := { name := "<init>", desc := "()V", sig := { parameters := [], returnType := none }, accessFlags := 1, code := none }
def k7c1 : Code := { maxStack := 5, maxLocals := 2, code := jdk_42_method_3_code, exceptionTable := #[], attributes := #[] }
def k7m1 : Method := { name := "<init>", desc := "([C)V", sig := { parameters := [(.array .char)], returnType := none }, accessFlags := 1, code := some k7c1 }
def k7c2 : Code := { maxStack := 2, maxLocals := 1, code := jdk_42_method_54_code, exceptionTable := #[], attributes := #[] }
def k7m2 : Method := { name := "length", desc := "()I", sig := { parameters := [], returnType := some .int }, accessFlags := 1, code := some k7c2 }
def k7c3 : Code := { maxStack := 2, maxLocals := 2, code := jdk_42_method_56_code, exceptionTable := #[], attributes := #[] }
def k7m3 : Method := { name := "charAt", desc := "(I)C", sig := { parameters := [.int], returnType := some .char }, accessFlags := 1, code := some k7c3 }
def k7c4 : Code := { maxStack := 4, maxLocals := 1, code := jdk_42_method_139_code, exceptionTable := #[], attributes := #[] }
def k7m4 : Method := { name := "valueOf", desc := "(C)Ljava/lang/String;", sig := { parameters := [.char], returnType := some (.object "java/lang/String") }, accessFlags := 9, code := some k7c4 }
def k7c5 : Code := { maxStack := 4, maxLocals := 6, code := jdk_42_method_149_code, exceptionTable := #[], attributes := #[] }
def k7m5 : Method := { name := "<init>", desc := "([CIILjava/lang/Void;)V", sig := { parameters := [(.array .char), .int, .int, (.object "java/lang/Void")], returnType := none }, accessFlags := 2, code := some k7c5 }
def k7c6 : Code := { maxStack := 2, maxLocals := 3, code := jdk_42_method_151_code, exceptionTable := #[], attributes := #[] }
def k7m6 : Method := { name := "<init>", desc := "([BB)V", sig := { parameters := [(.array .byte), .byte], returnType := none }, accessFlags := 0, code := some k7c6 }
def k7c7 : Code := { maxStack := 1, maxLocals := 1, code := jdk_42_method_152_code, exceptionTable := #[], attributes := #[] }
def k7m7 : Method := { name := "coder", desc := "()B", sig := { parameters := [], returnType := some .byte }, accessFlags := 0, code := some k7c7 }
def k7c8 : Code := { maxStack := 1, maxLocals := 1, code := jdk_42_method_154_code, exceptionTable := #[], attributes := #[] }
def k7m8 : Method := { name := "isLatin1", desc := "()Z", sig := { parameters := [], returnType := some .boolean }, accessFlags := 0, code := some k7c8 }
def k7c9 : Code := { maxStack := 3, maxLocals := 2, code := jdk_42_method_155_code, exceptionTable := #[], attributes := #[] }
def k7m9 : Method := { name := "checkIndex", desc := "(II)V", sig := { parameters := [.int, .int], returnType := none }, accessFlags := 8, code := some k7c9 }
/-- java/lang/String -/
def k7 : Class := { plain "java/lang/String" (some 0) with
  accessFlags := 49
  interfaces := #[2, 3, 4, 5, 6]
  cf := some (fileOf pool7 10 #[.nestMembers #[1103]] #[{ accessFlags := 1, nameIndex := 5, descriptorIndex := 6, attributes := #[] }, { accessFlags := 1, nameIndex := 5, descriptorIndex := 1010, attributes := #[] }, { accessFlags := 1, nameIndex := 507, descriptorIndex := 334, attributes := #[] }, { accessFlags := 1, nameIndex := 497, descriptorIndex := 427, attributes := #[] }, { accessFlags := 9, nameIndex := 782, descriptorIndex := 783, attributes := #[] }, { accessFlags := 2, nameIndex := 5, descriptorIndex := 29, attributes := #[] }, { accessFlags := 0, nameIndex := 5, descriptorIndex := 211, attributes := #[] }, { accessFlags := 0, nameIndex := 17, descriptorIndex := 337, attributes := #[] }, { accessFlags := 0, nameIndex := 494, descriptorIndex := 142, attributes := #[] }, { accessFlags := 8, nameIndex := 501, descriptorIndex := 391, attributes := #[] }] 49 2 #[1106, 1108, 575, 1110, 1112] #[{ accessFlags := 18, nameIndex := 13, descriptorIndex := 14, attributes := #[] }, { accessFlags := 18, nameIndex := 17, descriptorIndex := 18, attributes := #[] }, { accessFlags := 2, nameIndex := 21, descriptorIndex := 22, attributes := #[] }, { accessFlags := 2, nameIndex := 25, descriptorIndex := 26, attributes := #[] }, { accessFlags := 26, nameIndex := 1116, descriptorIndex := 1117, attributes := #[] }, { accessFlags := 24, nameIndex := 40, descriptorIndex := 26, attributes := #[] }, { accessFlags := 26, nameIndex := 1101, descriptorIndex := 1102, attributes := #[] }, { accessFlags := 26, nameIndex := 1121, descriptorIndex := 1122, attributes := #[] }, { accessFlags := 25, nameIndex := 599, descriptorIndex := 600, attributes := #[] }, { accessFlags := 24, nameIndex := 1125, descriptorIndex := 18, attributes := #[] }, { accessFlags := 24, nameIndex := 1127, descriptorIndex := 18, attributes := #[] }])
  fields := #[{ name := "value", type := (.array .byte), accessFlags := 18, slot := 0, constantValue := 0 }, { name := "coder", type := .byte, accessFlags := 18, slot := 1, constantValue := 0 }, { name := "hash", type := .int, accessFlags := 2, slot := 2, constantValue := 0 }, { name := "hashIsZero", type := .boolean, accessFlags := 2, slot := 3, constantValue := 0 }, { name := "serialVersionUID", type := .long, accessFlags := 26, slot := 0, constantValue := 0 }, { name := "COMPACT_STRINGS", type := .boolean, accessFlags := 24, slot := 1, constantValue := 0 }, { name := "serialPersistentFields", type := (.array (.object "java/io/ObjectStreamField")), accessFlags := 26, slot := 2, constantValue := 0 }, { name := "REPL", type := .char, accessFlags := 26, slot := 3, constantValue := 0 }, { name := "CASE_INSENSITIVE_ORDER", type := (.object "java/util/Comparator"), accessFlags := 25, slot := 4, constantValue := 0 }, { name := "LATIN1", type := .byte, accessFlags := 24, slot := 5, constantValue := 0 }, { name := "UTF16", type := .byte, accessFlags := 24, slot := 6, constantValue := 0 }]
  methods := #[k7m0, k7m1, k7m2, k7m3, k7m4, k7m5, k7m6, k7m7, k7m8, k7m9]
  instanceTypes := #[(.array .byte), .byte, .int, .boolean]
  staticTypes := #[.long, .boolean, (.array (.object "java/io/ObjectStreamField")), .char, (.object "java/util/Comparator"), .byte, .byte]
  resolved := Array.replicate 1451 none
  statics := some 0 }

def pool8 : Array CpInfo := pool [(6, .class_ 8), (1, u "java/lang/Object"), (0, u "<init>"), (0, u "()V"), (1, .class_ 14), (1, u "java/lang/StringUTF16"), (31, u "$assertionsDisabled"), (0, u "Z"), (13, u "HI_BYTE_SHIFT"), (0, u "I"), (2, u "LO_BYTE_SHIFT"), (49, .methodref 12 116), (0, .nameAndType 117 118), (0, u "compress"), (0, u "([CI[BII)I"), (3, u "([CII)[B"), (138, u "coderFromArrayLen"), (0, u "([BI)B"), (106, .class_ 371), (1, u "java/lang/StringUTF16$LinesSpliterator"), (58, u "MAX_LENGTH"), (196, .class_ 628), (0, u "java/lang/StringUTF16$CodePointsSpliterator"), (0, .class_ 630), (0, u "java/lang/StringUTF16$CharsSpliterator")] 4

def k8m0 : Method := { name := "<init>", desc := "()V", sig := { parameters := [], returnType := none }, accessFlags := 0, code := none }
def k8c1 : Code := { maxStack := 2, maxLocals := 2, code := jdk_52_method_15_code, exceptionTable := #[], attributes := #[] }
def k8m1 : Method := { name := "coderFromArrayLen", desc := "([BI)B", sig := { parameters := [(.array .byte), .int], returnType := some .byte }, accessFlags := 8, code := some k8c1 }
def k8c2 : Code := { maxStack := 5, maxLocals := 6, code := jdk_52_method_16_code, exceptionTable := #[], attributes := #[] }
def k8m2 : Method := { name := "compress", desc := "([CII)[B", sig := { parameters := [(.array .char), .int, .int], returnType := some (.array .byte) }, accessFlags := 9, code := some k8c2 }
def k8c3 : Code := { maxStack := 3, maxLocals := 7, code := jdk_52_method_21_code, exceptionTable := #[], attributes := #[] }
def k8m3 : Method := { name := "compress", desc := "([CI[BII)I", sig := { parameters := [(.array .char), .int, (.array .byte), .int, .int], returnType := some .int }, accessFlags := 9, code := some k8c3 }
/-- java/lang/StringUTF16 -/
def k8 : Class := { plain "java/lang/StringUTF16" (some 0) with
  accessFlags := 48
  interfaces := #[]
  cf := some (fileOf pool8 12 #[.nestMembers #[627, 629, 369]] #[{ accessFlags := 0, nameIndex := 9, descriptorIndex := 10, attributes := #[] }, { accessFlags := 8, nameIndex := 261, descriptorIndex := 262, attributes := #[] }, { accessFlags := 9, nameIndex := 117, descriptorIndex := 122, attributes := #[] }, { accessFlags := 9, nameIndex := 117, descriptorIndex := 118, attributes := #[] }] 48 6 #[] #[{ accessFlags := 26, nameIndex := 61, descriptorIndex := 62, attributes := #[] }, { accessFlags := 26, nameIndex := 65, descriptorIndex := 62, attributes := #[] }, { accessFlags := 24, nameIndex := 430, descriptorIndex := 62, attributes := #[] }, { accessFlags := 4120, nameIndex := 46, descriptorIndex := 47, attributes := #[] }])
  fields := #[{ name := "HI_BYTE_SHIFT", type := .int, accessFlags := 26, slot := 0, constantValue := 0 }, { name := "LO_BYTE_SHIFT", type := .int, accessFlags := 26, slot := 1, constantValue := 0 }, { name := "MAX_LENGTH", type := .int, accessFlags := 24, slot := 2, constantValue := 0 }, { name := "$assertionsDisabled", type := .boolean, accessFlags := 4120, slot := 3, constantValue := 0 }]
  methods := #[k8m0, k8m1, k8m2, k8m3]
  instanceTypes := #[]
  staticTypes := #[.int, .int, .int, .boolean]
  resolved := Array.replicate 635 none
  statics := none }

def pool9 : Array CpInfo := pool [(1, .class_ 2), (0, u "java/lang/String"), (1, .class_ 6), (1, u "java/lang/Object"), (0, u "<init>"), (0, u "()V"), (0, .methodref 1 10), (0, .nameAndType 11 12), (0, u "checkIndex"), (0, u "(II)V"), (1, .class_ 16), (1, u "java/lang/StringLatin1"), (36, u "([BI)C"), (36, u "canEncode"), (14, u "(C)Z"), (15, u "$assertionsDisabled"), (0, u "Z"), (98, .class_ 223), (1, u "java/lang/StringLatin1$LinesSpliterator"), (28, u "charAt"), (127, u "toBytes"), (1, u "(C)[B"), (7, .class_ 391), (0, u "java/lang/StringLatin1$CharsSpliterator")] 3

def k9m0 : Method := { name := "<init>", desc := "()V", sig := { parameters := [], returnType := none }, accessFlags := 0, code := none }
def k9c1 : Code := { maxStack := 2, maxLocals := 2, code := jdk_43_method_2_code, exceptionTable := #[], attributes := #[] }
def k9m1 : Method := { name := "charAt", desc := "([BI)C", sig := { parameters := [(.array .byte), .int], returnType := some .char }, accessFlags := 9, code := some k9c1 }
def k9c2 : Code := { maxStack := 2, maxLocals := 1, code := jdk_43_method_3_code, exceptionTable := #[], attributes := #[] }
def k9m2 : Method := { name := "canEncode", desc := "(C)Z", sig := { parameters := [.char], returnType := some .boolean }, accessFlags := 9, code := some k9c2 }
def k9c3 : Code := { maxStack := 4, maxLocals := 1, code := jdk_43_method_46_code, exceptionTable := #[], attributes := #[] }
def k9m3 : Method := { name := "toBytes", desc := "(C)[B", sig := { parameters := [.char], returnType := some (.array .byte) }, accessFlags := 9, code := some k9c3 }
/-- java/lang/StringLatin1 -/
def k9 : Class := { plain "java/lang/StringLatin1" (some 0) with
  accessFlags := 48
  interfaces := #[]
  cf := some (fileOf pool9 14 #[.nestMembers #[390, 221]] #[{ accessFlags := 0, nameIndex := 7, descriptorIndex := 8, attributes := #[] }, { accessFlags := 9, nameIndex := 252, descriptorIndex := 53, attributes := #[] }, { accessFlags := 9, nameIndex := 90, descriptorIndex := 105, attributes := #[] }, { accessFlags := 9, nameIndex := 380, descriptorIndex := 382, attributes := #[] }] 48 4 #[] #[{ accessFlags := 4120, nameIndex := 121, descriptorIndex := 122, attributes := #[] }])
  fields := #[{ name := "$assertionsDisabled", type := .boolean, accessFlags := 4120, slot := 0, constantValue := 0 }]
  methods := #[k9m0, k9m1, k9m2, k9m3]
  instanceTypes := #[]
  staticTypes := #[.boolean]
  resolved := Array.replicate 395 none
  statics := none }

def pool10 : Array CpInfo := pool [(8, .class_ 10), (1, u "java/lang/Iterable"), (24, .class_ 36), (0, u "java/lang/Object")] 25

/-- java/lang/Iterable -/
def k10 : Class := { plain "java/lang/Iterable" (some 0) with
  accessFlags := 1537
  interfaces := #[]
  cf := some (fileOf pool10 8 #[] #[] 1537 35 #[] #[])
  fields := #[]
  methods := #[]
  instanceTypes := #[]
  staticTypes := #[]
  resolved := Array.replicate 62 none
  statics := none }

def pool11 : Array CpInfo := pool [(10, .class_ 12), (1, u "java/util/Collection"), (47, .class_ 61), (0, u "java/lang/Object"), (0, .class_ 63), (0, u "java/lang/Iterable")] 51

/-- java/util/Collection -/
def k11 : Class := { plain "java/util/Collection" (some 0) with
  accessFlags := 1537
  interfaces := #[10]
  cf := some (fileOf pool11 10 #[] #[] 1537 60 #[62] #[])
  fields := #[]
  methods := #[]
  instanceTypes := #[]
  staticTypes := #[]
  resolved := Array.replicate 115 none
  statics := none }

def pool12 : Array CpInfo := pool [(1, .methodref 2 3), (0, .class_ 4), (0, .nameAndType 5 6), (0, u "java/lang/Object"), (0, u "<init>"), (0, u "()V"), (1, .class_ 10), (1, u "java/util/AbstractCollection"), (66, .class_ 78), (0, u "java/util/Collection")] 81

def k12c0 : Code := { maxStack := 1, maxLocals := 1, code := jdk_22_method_1_code, exceptionTable := #[], attributes := #[] }
def k12m0 : Method := { name := "<init>", desc := "()V", sig := { parameters := [], returnType := none }, accessFlags := 4, code := some k12c0 }
/-- java/util/AbstractCollection -/
def k12 : Class := { plain "java/util/AbstractCollection" (some 0) with
  accessFlags := 1057
  interfaces := #[11]
  cf := some (fileOf pool12 8 #[] #[{ accessFlags := 4, nameIndex := 5, descriptorIndex := 6, attributes := #[] }] 1057 2 #[77] #[])
  fields := #[]
  methods := #[k12m0]
  instanceTypes := #[]
  staticTypes := #[]
  resolved := Array.replicate 160 none
  statics := none }

def pool13 : Array CpInfo := pool [(8, .class_ 10), (1, u "java/util/SequencedCollection"), (15, .class_ 27), (0, u "java/lang/Object"), (0, .class_ 29), (0, u "java/util/Collection")] 27

/-- java/util/SequencedCollection -/
def k13 : Class := { plain "java/util/SequencedCollection" (some 0) with
  accessFlags := 1537
  interfaces := #[11]
  cf := some (fileOf pool13 8 #[] #[] 1537 26 #[28] #[])
  fields := #[]
  methods := #[]
  instanceTypes := #[]
  staticTypes := #[]
  resolved := Array.replicate 57 none
  statics := none }

def pool14 : Array CpInfo := pool [(8, .class_ 10), (1, u "java/util/List"), (92, .class_ 104), (0, u "java/lang/Object"), (15, .class_ 121), (0, u "java/util/SequencedCollection")] 129

/-- java/util/List -/
def k14 : Class := { plain "java/util/List" (some 0) with
  accessFlags := 1537
  interfaces := #[13]
  cf := some (fileOf pool14 8 #[] #[] 1537 103 #[120] #[])
  fields := #[]
  methods := #[]
  instanceTypes := #[]
  staticTypes := #[]
  resolved := Array.replicate 251 none
  statics := none }

def pool15 : Array CpInfo := pool [(1, .methodref 2 3), (0, .class_ 4), (0, .nameAndType 5 6), (0, u "java/util/AbstractCollection"), (0, u "<init>"), (0, u "()V"), (0, .fieldref 8 9), (0, .class_ 10), (0, .nameAndType 11 12), (0, u "java/util/AbstractList"), (0, u "modCount"), (0, u "I"), (64, .class_ 78), (0, u "java/util/AbstractList$Itr"), (3, .class_ 83), (0, u "java/util/AbstractList$ListItr"), (9, .class_ 94), (0, u "java/util/AbstractList$RandomAccessSubList"), (3, .class_ 99), (0, u "java/util/AbstractList$SubList"), (33, .class_ 134), (0, u "java/util/List"), (73, .class_ 209), (0, u "java/util/AbstractList$SubList$1"), (0, .class_ 211), (0, u "java/util/AbstractList$RandomAccessSpliterator")] 6

def k15c0 : Code := { maxStack := 2, maxLocals := 1, code := jdk_39_method_1_code, exceptionTable := #[], attributes := #[] }
def k15m0 : Method := { name := "<init>", desc := "()V", sig := { parameters := [], returnType := none }, accessFlags := 4, code := some k15c0 }
/-- java/util/AbstractList -/
def k15 : Class := { plain "java/util/AbstractList" (some 12) with
  accessFlags := 1057
  interfaces := #[14]
  cf := some (fileOf pool15 8 #[.nestMembers #[93, 98, 208, 210, 82, 77]] #[{ accessFlags := 4, nameIndex := 5, descriptorIndex := 6, attributes := #[] }] 1057 2 #[133] #[{ accessFlags := 132, nameIndex := 11, descriptorIndex := 12, attributes := #[] }])
  fields := #[{ name := "modCount", type := .int, accessFlags := 132, slot := 0, constantValue := 0 }]
  methods := #[k15m0]
  instanceTypes := #[.int]
  staticTypes := #[]
  resolved := Array.replicate 218 none
  statics := none }

def pool16 : Array CpInfo := pool [(1, .class_ 2), (0, u "java/util/RandomAccess"), (0, .class_ 4), (0, u "java/lang/Object")] 2

/-- java/util/RandomAccess -/
def k16 : Class := { plain "java/util/RandomAccess" (some 0) with
  accessFlags := 1537
  interfaces := #[]
  cf := some (fileOf pool16 1 #[] #[] 1537 3 #[] #[])
  fields := #[]
  methods := #[]
  instanceTypes := #[]
  staticTypes := #[]
  resolved := Array.replicate 7 none
  statics := none }

def pool17 : Array CpInfo := pool [(1, .class_ 2), (0, u "java/lang/Cloneable"), (0, .class_ 4), (0, u "java/lang/Object")] 2

/-- java/lang/Cloneable -/
def k17 : Class := { plain "java/lang/Cloneable" (some 0) with
  accessFlags := 1537
  interfaces := #[]
  cf := some (fileOf pool17 1 #[] #[] 1537 3 #[] #[])
  fields := #[]
  methods := #[]
  instanceTypes := #[]
  staticTypes := #[]
  resolved := Array.replicate 7 none
  statics := none }

def pool18 : Array CpInfo := pool [(1, .methodref 2 3), (0, .class_ 4), (0, .nameAndType 5 6), (0, u "java/util/AbstractList"), (0, u "<init>"), (0, u "()V"), (2, .fieldref 10 11), (0, .class_ 12), (0, .nameAndType 13 14), (0, u "java/util/ArrayList"), (0, u "elementData"), (0, u "[Ljava/lang/Object;"), (2, u "EMPTY_ELEMENTDATA"), (21, .fieldref 10 40), (0, .nameAndType 41 14), (0, u "DEFAULTCAPACITY_EMPTY_ELEMENTDATA"), (8, u "size"), (0, u "I"), (96, .class_ 149), (0, u "java/util/List"), (112, .class_ 263), (0, u "java/util/ArrayList$ListItr"), (3, .class_ 268), (0, u "java/util/ArrayList$Itr"), (7, .class_ 277), (0, u "java/util/ArrayList$SubList"), (12, .class_ 291), (0, u "java/util/ArrayList$ArrayListSpliterator"), (37, .class_ 330), (0, u "java/util/RandomAccess"), (0, .class_ 332), (0, u "java/lang/Cloneable"), (0, .class_ 334), (0, u "java/io/Serializable"), (0, u "serialVersionUID"), (0, u "J"), (3, u "DEFAULT_CAPACITY"), (159, .class_ 501), (0, u "java/util/ArrayList$SubList$2"), (0, .class_ 503), (0, u "java/util/ArrayList$SubList$1")] 5

def k18c0 : Code := { maxStack := 2, maxLocals := 1, code := jdk_38_method_2_code, exceptionTable := #[], attributes := #[] }
def k18m0 : Method := { name := "<init>", desc := "()V", sig := { parameters := [], returnType := none }, accessFlags := 1, code := some k18c0 }
/-- java/util/ArrayList -/
def k18 : Class := { plain "java/util/ArrayList" (some 15) with
  accessFlags := 33
  interfaces := #[14, 16, 17, 2]
  cf := some (fileOf pool18 10 #[.nestMembers #[290, 276, 500, 502, 262, 267]] #[{ accessFlags := 1, nameIndex := 5, descriptorIndex := 6, attributes := #[] }] 33 2 #[148, 329, 331, 333] #[{ accessFlags := 26, nameIndex := 335, descriptorIndex := 336, attributes := #[] }, { accessFlags := 26, nameIndex := 340, descriptorIndex := 51, attributes := #[] }, { accessFlags := 26, nameIndex := 17, descriptorIndex := 14, attributes := #[] }, { accessFlags := 26, nameIndex := 41, descriptorIndex := 14, attributes := #[] }, { accessFlags := 128, nameIndex := 13, descriptorIndex := 14, attributes := #[] }, { accessFlags := 2, nameIndex := 50, descriptorIndex := 51, attributes := #[] }])
  fields := #[{ name := "serialVersionUID", type := .long, accessFlags := 26, slot := 0, constantValue := 0 }, { name := "DEFAULT_CAPACITY", type := .int, accessFlags := 26, slot := 1, constantValue := 0 }, { name := "EMPTY_ELEMENTDATA", type := (.array (.object "java/lang/Object")), accessFlags := 26, slot := 2, constantValue := 0 }, { name := "DEFAULTCAPACITY_EMPTY_ELEMENTDATA", type := (.array (.object "java/lang/Object")), accessFlags := 26, slot := 3, constantValue := 0 }, { name := "elementData", type := (.array (.object "java/lang/Object")), accessFlags := 128, slot := 1, constantValue := 0 }, { name := "size", type := .int, accessFlags := 2, slot := 2, constantValue := 0 }]
  methods := #[k18m0]
  instanceTypes := #[.int, (.array (.object "java/lang/Object")), .int]
  staticTypes := #[.long, .int, (.array (.object "java/lang/Object")), (.array (.object "java/lang/Object"))]
  resolved := Array.replicate 509 none
  statics := some 1 }

def pool19 : Array CpInfo := pool [(14, .class_ 16), (1, u "com/example/ringward/ringward/Placement"), (0, u "nodeIndexFor"), (13, .class_ 32), (0, u "java/lang/Object"), (0, u "(Ljava/lang/String;)I")] 34

def k19c0 : Code := { maxStack := 3, maxLocals := 2, code := ⟨#[0x2a, 0x2b, 0xb2, 0x00, 0x01, 0xb6, 0x00, 0x07, 0xb9, 0x00, 0x0d, 0x02, 0x00, 0xac]⟩, exceptionTable := #[], attributes := #[] }
def k19m0 : Method := { name := "nodeIndexFor", desc := "(Ljava/lang/String;)I", sig := { parameters := [(.object "java/lang/String")], returnType := some .int }, accessFlags := 1, code := some k19c0 }
/-- com/example/ringward/ringward/Placement -/
def k19 : Class := { plain "com/example/ringward/ringward/Placement" (some 0) with
  accessFlags := 1536
  interfaces := #[]
  cf := some (fileOf pool19 14 #[] #[{ accessFlags := 1, nameIndex := 17, descriptorIndex := 33, attributes := #[] }] 1536 31 #[] #[])
  fields := #[]
  methods := #[k19m0]
  instanceTypes := #[]
  staticTypes := #[]
  resolved := Array.replicate 68 none
  statics := none }

def pool20 : Array CpInfo := pool [(1, .methodref 2 3), (0, .class_ 4), (0, .nameAndType 5 6), (0, u "java/lang/Object"), (0, u "<init>"), (0, u "()V"), (0, .fieldref 8 9), (0, .class_ 10), (0, .nameAndType 11 12), (0, u "com/example/ringward/ringward/JumpPlacement"), (0, u "buckets"), (0, u "I"), (1, .class_ 16), (1, u "com/example/ringward/ringward/hash/MurmurHash3"), (0, u "x86Hash32"), (1, .methodref 8 20), (0, .nameAndType 21 22), (0, u "bucket"), (0, u "(JI)I"), (0, .methodref 14 24), (0, .nameAndType 17 25), (0, u "(Ljava/lang/String;)J"), (24, .class_ 52), (1, u "com/example/ringward/ringward/Placement"), (2, .methodref 8 56), (0, .nameAndType 5 57), (0, u "(I)V"), (7, .long 2862933555777941757), (1, .long 2147483648), (1, u "MULTIPLIER"), (0, u "J"), (1, u "WRAP"), (0, u "NODES"), (0, u "Ljava/lang/String;"), (2, u "nodeIndexFor"), (1, u "(Ljava/lang/String;)I"), (6, u "withoutNode"), (0, u "(Ljava/lang/String;ILjava/util/List;Ljava/util/List;)Lcom/example/ringward/ringward/Placement;")] 22

def k20c0 : Code := { maxStack := 2, maxLocals := 2, code := prog_4_method_1_code, exceptionTable := #[], attributes := #[] }
def k20m0 : Method := { name := "<init>", desc := "(I)V", sig := { parameters := [.int], returnType := none }, accessFlags := 0, code := some k20c0 }
def k20c1 : Code := { maxStack := 3, maxLocals := 2, code := prog_4_method_3_code, exceptionTable := #[], attributes := #[] }
def k20m1 : Method := { name := "nodeIndexFor", desc := "(Ljava/lang/String;)I", sig := { parameters := [(.object "java/lang/String")], returnType := some .int }, accessFlags := 1, code := some k20c1 }
def k20c2 : Code := { maxStack := 5, maxLocals := 5, code := prog_4_method_6_code, exceptionTable := #[], attributes := #[] }
def k20m2 : Method := { name := "withoutNode", desc := "(Ljava/lang/String;ILjava/util/List;Ljava/util/List;)Lcom/example/ringward/ringward/Placement;", sig := { parameters := [(.object "java/lang/String"), .int, (.object "java/util/List"), (.object "java/util/List")], returnType := some (.object "com/example/ringward/ringward/Placement") }, accessFlags := 1, code := some k20c2 }
def k20c3 : Code := { maxStack := 4, maxLocals := 11, code := prog_4_method_8_code, exceptionTable := #[], attributes := #[] }
def k20m3 : Method := { name := "bucket", desc := "(JI)I", sig := { parameters := [.long, .int], returnType := some .int }, accessFlags := 8, code := some k20c3 }
/-- com/example/ringward/ringward/JumpPlacement -/
def k20 : Class := { plain "com/example/ringward/ringward/JumpPlacement" (some 0) with
  accessFlags := 48
  interfaces := #[19]
  cf := some (fileOf pool20 8 #[] #[{ accessFlags := 0, nameIndex := 5, descriptorIndex := 57, attributes := #[] }, { accessFlags := 1, nameIndex := 77, descriptorIndex := 79, attributes := #[] }, { accessFlags := 1, nameIndex := 86, descriptorIndex := 87, attributes := #[] }, { accessFlags := 8, nameIndex := 21, descriptorIndex := 22, attributes := #[] }] 48 2 #[50] #[{ accessFlags := 26, nameIndex := 69, descriptorIndex := 70, attributes := #[] }, { accessFlags := 26, nameIndex := 72, descriptorIndex := 70, attributes := #[] }, { accessFlags := 26, nameIndex := 73, descriptorIndex := 74, attributes := #[] }, { accessFlags := 18, nameIndex := 11, descriptorIndex := 12, attributes := #[] }])
  fields := #[{ name := "MULTIPLIER", type := .long, accessFlags := 26, slot := 0, constantValue := 0 }, { name := "WRAP", type := .long, accessFlags := 26, slot := 1, constantValue := 0 }, { name := "NODES", type := (.object "java/lang/String"), accessFlags := 26, slot := 2, constantValue := 0 }, { name := "buckets", type := .int, accessFlags := 18, slot := 0, constantValue := 0 }]
  methods := #[k20m0, k20m1, k20m2, k20m3]
  instanceTypes := #[.int]
  staticTypes := #[.long, .long, (.object "java/lang/String")]
  resolved := Array.replicate 110 none
  statics := none }

def pool21 : Array CpInfo := pool [(2, .class_ 4), (1, u "java/lang/Object"), (0, u "<init>"), (0, u "()V"), (2, .methodref 10 11), (0, .class_ 12), (0, .nameAndType 13 14), (0, u "java/util/Objects"), (0, u "requireNonNull"), (0, u "(Ljava/lang/Object;Ljava/lang/String;)Ljava/lang/Object;"), (0, .class_ 16), (0, u "java/lang/Integer"), (0, .class_ 18), (0, u "com/example/ringward/ringward/hash/MurmurHash3"), (2, u "LITTLE_ENDIAN_INT"), (0, u "Ljava/lang/invoke/VarHandle;"), (6, .methodref 17 30), (0, .nameAndType 31 32), (0, u "withWord"), (0, u "(II)I"), (6, .methodref 17 40), (0, .nameAndType 41 42), (0, u "finished"), (0, u "(III)J"), (0, .string 44), (0, u "text"), (0, .methodref 17 46), (0, .nameAndType 47 48), (0, u "asciiWord"), (0, u "(Ljava/lang/String;I)I"), (0, .methodref 50 51), (0, .class_ 52), (0, .nameAndType 53 54), (0, u "java/lang/String"), (0, u "length"), (0, u "()I"), (0, .methodref 50 56), (0, .nameAndType 57 58), (0, u "charAt"), (0, u "(I)C"), (0, .methodref 17 60), (0, .nameAndType 61 62), (0, u "continuation"), (0, u "(I)I"), (16, .long 63), (1, .methodref 17 82), (0, .nameAndType 83 62), (0, u "mixed"), (0, .methodref 15 85), (0, .nameAndType 86 32), (0, u "rotateLeft"), (0, .integer 3864292196), (0, .methodref 17 89), (0, .nameAndType 90 62), (0, u "finalMix"), (0, .methodref 15 92), (0, .nameAndType 93 94), (0, u "toUnsignedLong"), (0, u "(I)J"), (0, .integer 3432918353), (0, .integer 461845907), (0, .integer 2246822507), (0, .integer 3266489909), (14, u "C1"), (0, u "I"), (1, u "C2"), (0, u "ROUND_ADD"), (0, u "SEED"), (1, u "NOT_ASCII"), (3, u "x86Hash32"), (4, u "(Ljava/lang/String;)J")] 3

def k21m0 : Method := { name := "<init>", desc := "()V", sig := { parameters := [], returnType := none }, accessFlags := 2, code := none }
def k21c1 : Code := { maxStack := 5, maxLocals := 13, code := prog_34_method_3_code, exceptionTable := #[], attributes := #[] }
def k21m1 : Method := { name := "x86Hash32", desc := "(Ljava/lang/String;)J", sig := { parameters := [(.object "java/lang/String")], returnType := some .long }, accessFlags := 9, code := some k21c1 }
def k21c2 : Code := { maxStack := 3, maxLocals := 7, code := prog_34_method_4_code, exceptionTable := #[], attributes := #[] }
def k21m2 : Method := { name := "asciiWord", desc := "(Ljava/lang/String;I)I", sig := { parameters := [(.object "java/lang/String"), .int], returnType := some .int }, accessFlags := 10, code := some k21c2 }
def k21c3 : Code := { maxStack := 3, maxLocals := 1, code := prog_34_method_5_code, exceptionTable := #[], attributes := #[] }
def k21m3 : Method := { name := "continuation", desc := "(I)I", sig := { parameters := [.int], returnType := some .int }, accessFlags := 10, code := some k21c3 }
def k21c4 : Code := { maxStack := 2, maxLocals := 2, code := prog_34_method_6_code, exceptionTable := #[], attributes := #[] }
def k21m4 : Method := { name := "withWord", desc := "(II)I", sig := { parameters := [.int, .int], returnType := some .int }, accessFlags := 10, code := some k21c4 }
def k21c5 : Code := { maxStack := 2, maxLocals := 4, code := prog_34_method_7_code, exceptionTable := #[], attributes := #[] }
def k21m5 : Method := { name := "finished", desc := "(III)J", sig := { parameters := [.int, .int, .int], returnType := some .long }, accessFlags := 10, code := some k21c5 }
def k21c6 : Code := { maxStack := 2, maxLocals := 1, code := prog_34_method_8_code, exceptionTable := #[], attributes := #[] }
def k21m6 : Method := { name := "mixed", desc := "(I)I", sig := { parameters := [.int], returnType := some .int }, accessFlags := 10, code := some k21c6 }
def k21c7 : Code := { maxStack := 3, maxLocals := 2, code := prog_34_method_9_code, exceptionTable := #[], attributes := #[] }
def k21m7 : Method := { name := "finalMix", desc := "(I)I", sig := { parameters := [.int], returnType := some .int }, accessFlags := 10, code := some k21c7 }
/-- com/example/ringward/ringward/hash/MurmurHash3 -/
def k21 : Class := { plain "com/example/ringward/ringward/hash/MurmurHash3" (some 0) with
  accessFlags := 49
  interfaces := #[]
  cf := some (fileOf pool21 17 #[] #[{ accessFlags := 2, nameIndex := 5, descriptorIndex := 6, attributes := #[] }, { accessFlags := 9, nameIndex := 124, descriptorIndex := 129, attributes := #[] }, { accessFlags := 10, nameIndex := 47, descriptorIndex := 48, attributes := #[] }, { accessFlags := 10, nameIndex := 61, descriptorIndex := 62, attributes := #[] }, { accessFlags := 10, nameIndex := 31, descriptorIndex := 32, attributes := #[] }, { accessFlags := 10, nameIndex := 41, descriptorIndex := 42, attributes := #[] }, { accessFlags := 10, nameIndex := 83, descriptorIndex := 62, attributes := #[] }, { accessFlags := 10, nameIndex := 90, descriptorIndex := 62, attributes := #[] }] 49 2 #[] #[{ accessFlags := 26, nameIndex := 113, descriptorIndex := 114, attributes := #[] }, { accessFlags := 26, nameIndex := 116, descriptorIndex := 114, attributes := #[] }, { accessFlags := 26, nameIndex := 117, descriptorIndex := 114, attributes := #[] }, { accessFlags := 26, nameIndex := 118, descriptorIndex := 114, attributes := #[] }, { accessFlags := 26, nameIndex := 120, descriptorIndex := 114, attributes := #[] }, { accessFlags := 26, nameIndex := 21, descriptorIndex := 22, attributes := #[] }])
  fields := #[{ name := "C1", type := .int, accessFlags := 26, slot := 0, constantValue := 0 }, { name := "C2", type := .int, accessFlags := 26, slot := 1, constantValue := 0 }, { name := "ROUND_ADD", type := .int, accessFlags := 26, slot := 2, constantValue := 0 }, { name := "SEED", type := .int, accessFlags := 26, slot := 3, constantValue := 0 }, { name := "NOT_ASCII", type := .int, accessFlags := 26, slot := 4, constantValue := 0 }, { name := "LITTLE_ENDIAN_INT", type := (.object "java/lang/invoke/VarHandle"), accessFlags := 26, slot := 5, constantValue := 0 }]
  methods := #[k21m0, k21m1, k21m2, k21m3, k21m4, k21m5, k21m6, k21m7]
  instanceTypes := #[]
  staticTypes := #[.int, .int, .int, .int, .int, (.object "java/lang/invoke/VarHandle")]
  resolved := Array.replicate 133 none
  statics := none }

def pool22 : Array CpInfo := pool [(2, .class_ 4), (1, u "java/lang/Object"), (0, u "<init>"), (0, u "()V"), (35, .class_ 44), (1, u "java/util/Objects"), (0, u "requireNonNull"), (48, u "(Ljava/lang/Object;Ljava/lang/String;)Ljava/lang/Object;")] 89

def k22m0 : Method := { name := "<init>", desc := "()V", sig := { parameters := [], returnType := none }, accessFlags := 2, code := none }
def k22c1 : Code := { maxStack := 3, maxLocals := 2, code := jdk_31_method_11_code, exceptionTable := #[], attributes := #[] }
def k22m1 : Method := { name := "requireNonNull", desc := "(Ljava/lang/Object;Ljava/lang/String;)Ljava/lang/Object;", sig := { parameters := [(.object "java/lang/Object"), (.object "java/lang/String")], returnType := some (.object "java/lang/Object") }, accessFlags := 9, code := some k22c1 }
/-- java/util/Objects -/
def k22 : Class := { plain "java/util/Objects" (some 0) with
  accessFlags := 49
  interfaces := #[]
  cf := some (fileOf pool22 42 #[] #[{ accessFlags := 2, nameIndex := 5, descriptorIndex := 6, attributes := #[] }, { accessFlags := 9, nameIndex := 45, descriptorIndex := 94, attributes := #[] }] 49 2 #[] #[])
  fields := #[]
  methods := #[k22m0, k22m1]
  instanceTypes := #[]
  staticTypes := #[]
  resolved := Array.replicate 184 none
  statics := none }

def pool23 : Array CpInfo := pool [(2, .class_ 4), (1, u "java/lang/Object"), (0, u "<init>"), (0, u "()V"), (17, .class_ 26), (1, u "jdk/internal/util/Preconditions"), (6, u "checkIndex"), (21, .class_ 56), (0, u "jdk/internal/util/Preconditions$4"), (57, .class_ 115), (0, u "jdk/internal/util/Preconditions$1"), (7, u "SIOOBE_FORMATTER"), (0, u "Ljava/util/function/BiFunction;"), (0, .class_ 126), (0, u "jdk/internal/util/Preconditions$2"), (3, u "AIOOBE_FORMATTER"), (0, .class_ 132), (0, u "jdk/internal/util/Preconditions$3"), (3, u "IOOBE_FORMATTER"), (41, u "(IILjava/util/function/BiFunction;)I")] 15

def k23m0 : Method := { name := "<init>", desc := "()V", sig := { parameters := [], returnType := none }, accessFlags := 1, code := none }
def k23c1 : Code := { maxStack := 3, maxLocals := 3, code := jdk_41_method_11_code, exceptionTable := #[], attributes := #[] }
def k23m1 : Method := { name := "checkIndex", desc := "(IILjava/util/function/BiFunction;)I", sig := { parameters := [.int, .int, (.object "java/util/function/BiFunction")], returnType := some .int }, accessFlags := 9, code := some k23c1 }
/-- jdk/internal/util/Preconditions -/
def k23 : Class := { plain "jdk/internal/util/Preconditions" (some 0) with
  accessFlags := 33
  interfaces := #[]
  cf := some (fileOf pool23 24 #[.nestMembers #[55, 131, 125, 114]] #[{ accessFlags := 1, nameIndex := 5, descriptorIndex := 6, attributes := #[] }, { accessFlags := 9, nameIndex := 33, descriptorIndex := 178, attributes := #[] }] 33 2 #[] #[{ accessFlags := 25, nameIndex := 123, descriptorIndex := 124, attributes := #[] }, { accessFlags := 25, nameIndex := 130, descriptorIndex := 124, attributes := #[] }, { accessFlags := 25, nameIndex := 136, descriptorIndex := 124, attributes := #[] }])
  fields := #[{ name := "SIOOBE_FORMATTER", type := (.object "java/util/function/BiFunction"), accessFlags := 25, slot := 0, constantValue := 0 }, { name := "AIOOBE_FORMATTER", type := (.object "java/util/function/BiFunction"), accessFlags := 25, slot := 1, constantValue := 0 }, { name := "IOOBE_FORMATTER", type := (.object "java/util/function/BiFunction"), accessFlags := 25, slot := 2, constantValue := 0 }]
  methods := #[k23m0, k23m1]
  instanceTypes := #[]
  staticTypes := #[(.object "java/util/function/BiFunction"), (.object "java/util/function/BiFunction"), (.object "java/util/function/BiFunction")]
  resolved := Array.replicate 194 none
  statics := some 2 }

def pool24 : Array CpInfo := pool [(2, .class_ 4), (1, u "java/lang/Object"), (0, u "<init>"), (0, u "()V"), (1, .class_ 10), (1, u "java/lang/Number"), (2, .class_ 14), (0, u "java/io/Serializable"), (0, u "serialVersionUID"), (0, u "J")] 20

def k24m0 : Method := { name := "<init>", desc := "()V", sig := { parameters := [], returnType := none }, accessFlags := 1, code := none }
/-- java/lang/Number -/
def k24 : Class := { plain "java/lang/Number" (some 0) with
  accessFlags := 1057
  interfaces := #[2]
  cf := some (fileOf pool24 8 #[] #[{ accessFlags := 1, nameIndex := 5, descriptorIndex := 6, attributes := #[] }] 1057 2 #[13] #[{ accessFlags := 26, nameIndex := 15, descriptorIndex := 16, attributes := #[] }])
  fields := #[{ name := "serialVersionUID", type := .long, accessFlags := 26, slot := 0, constantValue := 0 }]
  methods := #[k24m0]
  instanceTypes := #[]
  staticTypes := #[.long]
  resolved := Array.replicate 37 none
  statics := none }

def pool25 : Array CpInfo := pool [(1, .class_ 2), (0, u "java/lang/Integer"), (16, u "digits"), (0, u "[C"), (19, u "toUnsignedLong"), (0, u "(I)J"), (18, u "(II)I"), (24, u "DigitOnes"), (0, u "[B"), (2, u "DigitTens"), (99, .class_ 190), (0, u "java/lang/Integer$IntegerCache"), (3, u "I"), (8, .class_ 204), (0, u "java/lang/Number"), (2, u "value"), (54, .long 4294967295), (39, u "TYPE"), (0, u "Ljava/lang/Class;"), (0, .class_ 305), (0, u "java/lang/Comparable"), (0, .class_ 307), (0, u "java/lang/constant/Constable"), (0, .class_ 309), (0, u "java/lang/constant/ConstantDesc"), (0, u "MIN_VALUE"), (1, u "MAX_VALUE"), (3, u "SIZE"), (1, u "BYTES"), (1, u "serialVersionUID"), (0, u "J"), (86, u "rotateLeft")] 44

def k25c0 : Code := { maxStack := 4, maxLocals := 1, code := jdk_33_method_42_code, exceptionTable := #[], attributes := #[] }
def k25m0 : Method := { name := "toUnsignedLong", desc := "(I)J", sig := { parameters := [.int], returnType := some .long }, accessFlags := 9, code := some k25c0 }
def k25c1 : Code := { maxStack := 3, maxLocals := 2, code := jdk_33_method_50_code, exceptionTable := #[], attributes := #[] }
def k25m1 : Method := { name := "rotateLeft", desc := "(II)I", sig := { parameters := [.int, .int], returnType := some .int }, accessFlags := 9, code := some k25c1 }
/-- java/lang/Integer -/
def k25 : Class := { plain "java/lang/Integer" (some 24) with
  accessFlags := 49
  interfaces := #[3, 5, 6]
  cf := some (fileOf pool25 1 #[.nestMembers #[189]] #[{ accessFlags := 9, nameIndex := 40, descriptorIndex := 41, attributes := #[] }, { accessFlags := 9, nameIndex := 408, descriptorIndex := 60, attributes := #[] }] 49 203 #[304, 306, 308] #[{ accessFlags := 25, nameIndex := 310, descriptorIndex := 194, attributes := #[] }, { accessFlags := 25, nameIndex := 312, descriptorIndex := 194, attributes := #[] }, { accessFlags := 25, nameIndex := 302, descriptorIndex := 303, attributes := #[] }, { accessFlags := 24, nameIndex := 19, descriptorIndex := 20, attributes := #[] }, { accessFlags := 24, nameIndex := 89, descriptorIndex := 86, attributes := #[] }, { accessFlags := 24, nameIndex := 85, descriptorIndex := 86, attributes := #[] }, { accessFlags := 18, nameIndex := 207, descriptorIndex := 194, attributes := #[] }, { accessFlags := 25, nameIndex := 316, descriptorIndex := 194, attributes := #[] }, { accessFlags := 25, nameIndex := 318, descriptorIndex := 194, attributes := #[] }, { accessFlags := 26, nameIndex := 320, descriptorIndex := 321, attributes := #[] }])
  fields := #[{ name := "MIN_VALUE", type := .int, accessFlags := 25, slot := 0, constantValue := 0 }, { name := "MAX_VALUE", type := .int, accessFlags := 25, slot := 1, constantValue := 0 }, { name := "TYPE", type := (.object "java/lang/Class"), accessFlags := 25, slot := 2, constantValue := 0 }, { name := "digits", type := (.array .char), accessFlags := 24, slot := 3, constantValue := 0 }, { name := "DigitTens", type := (.array .byte), accessFlags := 24, slot := 4, constantValue := 0 }, { name := "DigitOnes", type := (.array .byte), accessFlags := 24, slot := 5, constantValue := 0 }, { name := "value", type := .int, accessFlags := 18, slot := 0, constantValue := 0 }, { name := "SIZE", type := .int, accessFlags := 25, slot := 6, constantValue := 0 }, { name := "BYTES", type := .int, accessFlags := 25, slot := 7, constantValue := 0 }, { name := "serialVersionUID", type := .long, accessFlags := 26, slot := 8, constantValue := 0 }]
  methods := #[k25m0, k25m1]
  instanceTypes := #[.int]
  staticTypes := #[.int, .int, (.object "java/lang/Class"), (.array .char), (.array .byte), (.array .byte), .int, .int, .long]
  resolved := Array.replicate 453 none
  statics := none }

def pool26 : Array CpInfo := pool [(9, u "<init>"), (6, .class_ 18), (1, u "java/lang/Object"), (0, u "()V"), (1, .class_ 23), (1, u "jdk/internal/util/ArraysSupport"), (0, u "LOG2_ARRAY_LONG_INDEX_SCALE"), (0, u "I"), (2, u "U"), (0, u "Ljdk/internal/misc/Unsafe;"), (8, u "BIG_ENDIAN"), (0, u "Z"), (8, u "LOG2_BYTE_BIT_SIZE"), (4, u "LOG2_ARRAY_INT_INDEX_SCALE"), (54, u "JLA"), (0, u "Ljdk/internal/access/JavaLangAccess;"), (11, u "LOG2_ARRAY_BOOLEAN_INDEX_SCALE"), (9, u "LOG2_ARRAY_BYTE_INDEX_SCALE"), (5, u "LOG2_ARRAY_CHAR_INDEX_SCALE"), (5, u "LOG2_ARRAY_SHORT_INDEX_SCALE"), (18, u "LOG2_ARRAY_FLOAT_INDEX_SCALE"), (24, u "LOG2_ARRAY_DOUBLE_INDEX_SCALE"), (89, u "T_BOOLEAN"), (2, u "T_CHAR"), (1, u "T_FLOAT"), (1, u "T_DOUBLE"), (1, u "T_BYTE"), (1, u "T_SHORT"), (1, u "T_INT"), (1, u "T_LONG"), (1, u "SOFT_MAX_ARRAY_LENGTH")] 83

def k26m0 : Method := { name := "<init>", desc := "()V", sig := { parameters := [], returnType := none }, accessFlags := 2, code := none }
/-- jdk/internal/util/ArraysSupport -/
def k26 : Class := { plain "jdk/internal/util/ArraysSupport" (some 0) with
  accessFlags := 33
  interfaces := #[]
  cf := some (fileOf pool26 21 #[] #[{ accessFlags := 2, nameIndex := 9, descriptorIndex := 19, attributes := #[] }] 33 16 #[] #[{ accessFlags := 24, nameIndex := 28, descriptorIndex := 29, attributes := #[] }, { accessFlags := 26, nameIndex := 38, descriptorIndex := 39, attributes := #[] }, { accessFlags := 25, nameIndex := 121, descriptorIndex := 25, attributes := #[] }, { accessFlags := 25, nameIndex := 131, descriptorIndex := 25, attributes := #[] }, { accessFlags := 25, nameIndex := 137, descriptorIndex := 25, attributes := #[] }, { accessFlags := 25, nameIndex := 143, descriptorIndex := 25, attributes := #[] }, { accessFlags := 25, nameIndex := 53, descriptorIndex := 25, attributes := #[] }, { accessFlags := 25, nameIndex := 24, descriptorIndex := 25, attributes := #[] }, { accessFlags := 25, nameIndex := 162, descriptorIndex := 25, attributes := #[] }, { accessFlags := 25, nameIndex := 187, descriptorIndex := 25, attributes := #[] }, { accessFlags := 26, nameIndex := 48, descriptorIndex := 25, attributes := #[] }, { accessFlags := 25, nameIndex := 277, descriptorIndex := 25, attributes := #[] }, { accessFlags := 25, nameIndex := 280, descriptorIndex := 25, attributes := #[] }, { accessFlags := 25, nameIndex := 282, descriptorIndex := 25, attributes := #[] }, { accessFlags := 25, nameIndex := 284, descriptorIndex := 25, attributes := #[] }, { accessFlags := 25, nameIndex := 286, descriptorIndex := 25, attributes := #[] }, { accessFlags := 25, nameIndex := 288, descriptorIndex := 25, attributes := #[] }, { accessFlags := 25, nameIndex := 290, descriptorIndex := 25, attributes := #[] }, { accessFlags := 25, nameIndex := 292, descriptorIndex := 25, attributes := #[] }, { accessFlags := 26, nameIndex := 108, descriptorIndex := 109, attributes := #[] }, { accessFlags := 25, nameIndex := 294, descriptorIndex := 25, attributes := #[] }])
  fields := #[{ name := "U", type := (.object "jdk/internal/misc/Unsafe"), accessFlags := 24, slot := 0, constantValue := 0 }, { name := "BIG_ENDIAN", type := .boolean, accessFlags := 26, slot := 1, constantValue := 0 }, { name := "LOG2_ARRAY_BOOLEAN_INDEX_SCALE", type := .int, accessFlags := 25, slot := 2, constantValue := 0 }, { name := "LOG2_ARRAY_BYTE_INDEX_SCALE", type := .int, accessFlags := 25, slot := 3, constantValue := 0 }, { name := "LOG2_ARRAY_CHAR_INDEX_SCALE", type := .int, accessFlags := 25, slot := 4, constantValue := 0 }, { name := "LOG2_ARRAY_SHORT_INDEX_SCALE", type := .int, accessFlags := 25, slot := 5, constantValue := 0 }, { name := "LOG2_ARRAY_INT_INDEX_SCALE", type := .int, accessFlags := 25, slot := 6, constantValue := 0 }, { name := "LOG2_ARRAY_LONG_INDEX_SCALE", type := .int, accessFlags := 25, slot := 7, constantValue := 0 }, { name := "LOG2_ARRAY_FLOAT_INDEX_SCALE", type := .int, accessFlags := 25, slot := 8, constantValue := 0 }, { name := "LOG2_ARRAY_DOUBLE_INDEX_SCALE", type := .int, accessFlags := 25, slot := 9, constantValue := 0 }, { name := "LOG2_BYTE_BIT_SIZE", type := .int, accessFlags := 26, slot := 10, constantValue := 0 }, { name := "T_BOOLEAN", type := .int, accessFlags := 25, slot := 11, constantValue := 0 }, { name := "T_CHAR", type := .int, accessFlags := 25, slot := 12, constantValue := 0 }, { name := "T_FLOAT", type := .int, accessFlags := 25, slot := 13, constantValue := 0 }, { name := "T_DOUBLE", type := .int, accessFlags := 25, slot := 14, constantValue := 0 }, { name := "T_BYTE", type := .int, accessFlags := 25, slot := 15, constantValue := 0 }, { name := "T_SHORT", type := .int, accessFlags := 25, slot := 16, constantValue := 0 }, { name := "T_INT", type := .int, accessFlags := 25, slot := 17, constantValue := 0 }, { name := "T_LONG", type := .int, accessFlags := 25, slot := 18, constantValue := 0 }, { name := "JLA", type := (.object "jdk/internal/access/JavaLangAccess"), accessFlags := 26, slot := 19, constantValue := 0 }, { name := "SOFT_MAX_ARRAY_LENGTH", type := .int, accessFlags := 25, slot := 20, constantValue := 0 }]
  methods := #[k26m0]
  instanceTypes := #[]
  staticTypes := #[(.object "jdk/internal/misc/Unsafe"), .boolean, .int, .int, .int, .int, .int, .int, .int, .int, .int, .int, .int, .int, .int, .int, .int, .int, .int, (.object "jdk/internal/access/JavaLangAccess"), .int]
  resolved := Array.replicate 378 none
  statics := none }

/-- the primitive byte -/
def k27 : Class := { plain "byte" none with kind := .primitive 'B', accessFlags := 0x411 }
/-- [B -/
def k28 : Class := { plain "[B" (some 0) with kind := .array 27 .byte, interfaces := #[17, 2], accessFlags := 1041 }

/-- the primitive char -/
def k29 : Class := { plain "char" none with kind := .primitive 'C', accessFlags := 0x411 }
/-- [C -/
def k30 : Class := { plain "[C" (some 0) with kind := .array 29 .char, interfaces := #[17, 2], accessFlags := 1041 }

/-- the primitive int -/
def k31 : Class := { plain "int" none with kind := .primitive 'I', accessFlags := 0x411 }
/-- [I -/
def k32 : Class := { plain "[I" (some 0) with kind := .array 31 .int, interfaces := #[17, 2], accessFlags := 1041 }

/-- [Ljava/lang/Object; -/
def k33 : Class := { plain "[Ljava/lang/Object;" (some 0) with kind := .array 0 (.object "java/lang/Object"), interfaces := #[17, 2], accessFlags := 1041 }

def heap : Heap := #[{ cls := 7, slots := #[.long 0, .int 1, .null, .int 0, .null, .int 0, .int 0], vm := .statics 7 },
  { cls := 18, slots := #[.long 0, .int 0, .ref 3, .ref 4], vm := .statics 18 },
  { cls := 23, slots := #[.null, .null, .null], vm := .statics 23 },
  { cls := 33, slots := #[], vm := .none },
  { cls := 33, slots := #[], vm := .none }]
def classes : Array Class := #[k0, k1, k2, k3, k4, k5, k6, k7, k8, k9, k10, k11, k12, k13, k14, k15, k16, k17, k18, k19, k20, k21, k22, k23, k24, k25, k26, k27, k28, k29, k30, k31, k32, k33]
def interned : List (Array UInt16 × Addr) := []
def slotsUsed : Nat := 14
def theMethod : MethodId := ⟨1, 1⟩
def args0 : Array Value := #[.int 1, .int 2, .int 3]
def aboutOver (below : List Frame) : State where
  vm := { classes := classes, interned := interned.toArray }
  heap := heap
  slotsUsed := slotsUsed
  threads := #[{ frames := .invoking theMethod args0 :: below }]
def below0 : List Frame := [.native { method := ⟨0, 0⟩, args := #[] }]
def about1 : State := aboutOver below0
def p0 : Program := .bare "" "" ""
def e0 : Env := launch0.env 0 0 0
theorem w_frames : about1.frames = Frame.invoking theMethod args0 :: below0 := rfl
set_option maxRecDepth 65536 in
theorem w_args : argsFit about1.vm theMethod args0 = true := by decide +kernel
set_option maxRecDepth 65536 in
theorem w_heap : heapFits about1 = true := by decide +kernel
set_option maxRecDepth 65536 in
theorem w_runnable : about1.curStatus? = some .runnable := by decide +kernel
set_option maxRecDepth 65536 in
theorem w_alone : about1.alone = true := by decide +kernel
set_option maxRecDepth 65536 in
theorem w_named : about1.methodNamed? x = some theMethod := by decide +kernel
set_option maxRecDepth 65536 in
theorem w_hears : about1.hears theMethod below0 = true := by decide +kernel
set_option maxRecDepth 65536 in
theorem w_ripe : about1.ripe theMethod args0 below0 = true := by decide +kernel
theorem w_running : about1.status = .running := rfl
set_option maxRecDepth 65536 in
theorem w_room : about1.hasRoom e0.platform room_1 = true :=
  launch0.hasRoom_least _ room_1 (by decide +kernel) (by decide +kernel) (by decide +kernel) (by decide +kernel) (by decide +kernel) (by decide +kernel)
theorem allAtoms_all (ts : List Jvm.Cond) (a : Array Jvm.Value) (st : Jvm.State) : (allAtoms ts).before a st = ts.all (fun c => c.before a st) := by
  induction ts with
  | nil => rfl
  | cons c t ih =>
    show (Jvm.Cond.and c (allAtoms t)).before a st = _
    rw [Jvm.Cond.before_and, ih, List.all_cons]
def words1 : List Jvm.Cond := Jvm.Cond.code x code maxLocals ret :: tables_1
/-- a 'code' word, met by the world's own term for the bytes: nothing is compared byte by byte -/
theorem code_word {y : MethodName} {bytes : ByteArray} {mx : Nat} {rt : Option FieldType} {a : Array Value} {s : State} {m : MethodId} {meth : Method} {c : Code} (h1 : s.methodNamed? y = some m) (h2 : s.vm.method? m = some meth) (h3 : meth.code = some c) (h4 : c.code = bytes)
    (h5 : (c.maxLocals == mx && c.exceptionTable.isEmpty && decide (c.maxStack ≤ mostOperands) && decide (meth.sig.returnType = rt) && !meth.locks && decide (parseMethodDescriptor y.desc = some meth.sig)) = true) : (Jvm.Cond.code y bytes mx rt).before a s = true := by
  simp only [Bool.and_eq_true, beq_iff_eq, Bool.not_eq_true', decide_eq_true_eq] at h5
  obtain ⟨⟨⟨⟨⟨g1, g2⟩, g3⟩, g4⟩, g5⟩, g6⟩ := h5
  simp [Cond.before, Cond.holds, Cond.value, h1, h2, h3, h4, g1, g2, g3, g4, g5, g6]
def isCode : Jvm.Cond → Bool
  | .code _ _ _ _ => true
  | _ => false
theorem all_split {L : List Jvm.Cond} {P : Jvm.Cond → Bool} (h1 : L.all (fun c => isCode c || P c) = true) (h2 : ∀ c ∈ L.filter isCode, P c = true) : L.all P = true := by
  refine List.all_eq_true.mpr fun c hc => ?_
  have h := List.all_eq_true.mp h1 c hc
  rcases Bool.eq_false_or_eq_true (isCode c) with hi | hi
  · exact h2 c (List.mem_filter.mpr ⟨hc, hi⟩)
  · simpa [hi] using h
set_option maxRecDepth 65536 in
theorem w_c0 : (Jvm.Cond.code x code maxLocals ret).before args0 about1 = true := code_word (m := ⟨1, 1⟩) (meth := k1m1) (c := k1c1) (by decide +kernel) rfl rfl rfl (by decide +kernel)
set_option maxRecDepth 65536 in
theorem w_c1 : (Jvm.Cond.code ({ cls := "java/lang/String", name := "<init>", desc := "([C)V" } : Jvm.MethodName) jdk_42_method_3_code (2 : Nat) (Option.none : Option Jvm.ClassFile.FieldType)).before args0 about1 = true := code_word (m := ⟨7, 1⟩) (meth := k7m1) (c := k7c1) (by decide +kernel) rfl rfl rfl (by decide +kernel)
set_option maxRecDepth 65536 in
theorem w_c2 : (Jvm.Cond.code ({ cls := "java/lang/String", name := "<init>", desc := "([CIILjava/lang/Void;)V" } : Jvm.MethodName) jdk_42_method_149_code (6 : Nat) (Option.none : Option Jvm.ClassFile.FieldType)).before args0 about1 = true := code_word (m := ⟨7, 5⟩) (meth := k7m5) (c := k7c5) (by decide +kernel) rfl rfl rfl (by decide +kernel)
set_option maxRecDepth 65536 in
theorem w_c3 : (Jvm.Cond.code ({ cls := "java/lang/Object", name := "<init>", desc := "()V" } : Jvm.MethodName) object_method_1_code (1 : Nat) (Option.none : Option Jvm.ClassFile.FieldType)).before args0 about1 = true := code_word (m := ⟨0, 0⟩) (meth := k0m0) (c := k0c0) (by decide +kernel) rfl rfl rfl (by decide +kernel)
set_option maxRecDepth 65536 in
theorem w_c4 : (Jvm.Cond.code ({ cls := "java/lang/StringUTF16", name := "compress", desc := "([CII)[B" } : Jvm.MethodName) jdk_52_method_16_code (6 : Nat) (Option.some (Jvm.ClassFile.FieldType.array Jvm.ClassFile.FieldType.byte))).before args0 about1 = true := code_word (m := ⟨8, 2⟩) (meth := k8m2) (c := k8c2) (by decide +kernel) rfl rfl rfl (by decide +kernel)
set_option maxRecDepth 65536 in
theorem w_c5 : (Jvm.Cond.code ({ cls := "java/lang/StringUTF16", name := "compress", desc := "([CI[BII)I" } : Jvm.MethodName) jdk_52_method_21_code (7 : Nat) (Option.some Jvm.ClassFile.FieldType.int)).before args0 about1 = true := code_word (m := ⟨8, 3⟩) (meth := k8m3) (c := k8c3) (by decide +kernel) rfl rfl rfl (by decide +kernel)
set_option maxRecDepth 65536 in
theorem w_c6 : (Jvm.Cond.code ({ cls := "java/lang/StringUTF16", name := "coderFromArrayLen", desc := "([BI)B" } : Jvm.MethodName) jdk_52_method_15_code (2 : Nat) (Option.some Jvm.ClassFile.FieldType.byte)).before args0 about1 = true := code_word (m := ⟨8, 1⟩) (meth := k8m1) (c := k8c1) (by decide +kernel) rfl rfl rfl (by decide +kernel)
set_option maxRecDepth 65536 in
theorem w_c7 : (Jvm.Cond.code ({ cls := "java/lang/String", name := "valueOf", desc := "(C)Ljava/lang/String;" } : Jvm.MethodName) jdk_42_method_139_code (1 : Nat) (Option.some (Jvm.ClassFile.FieldType.object "java/lang/String"))).before args0 about1 = true := code_word (m := ⟨7, 4⟩) (meth := k7m4) (c := k7c4) (by decide +kernel) rfl rfl rfl (by decide +kernel)
set_option maxRecDepth 65536 in
theorem w_c8 : (Jvm.Cond.code ({ cls := "java/lang/StringLatin1", name := "canEncode", desc := "(C)Z" } : Jvm.MethodName) jdk_43_method_3_code (1 : Nat) (Option.some Jvm.ClassFile.FieldType.boolean)).before args0 about1 = true := code_word (m := ⟨9, 2⟩) (meth := k9m2) (c := k9c2) (by decide +kernel) rfl rfl rfl (by decide +kernel)
set_option maxRecDepth 65536 in
theorem w_c9 : (Jvm.Cond.code ({ cls := "java/lang/StringLatin1", name := "toBytes", desc := "(C)[B" } : Jvm.MethodName) jdk_43_method_46_code (1 : Nat) (Option.some (Jvm.ClassFile.FieldType.array Jvm.ClassFile.FieldType.byte))).before args0 about1 = true := code_word (m := ⟨9, 3⟩) (meth := k9m3) (c := k9c3) (by decide +kernel) rfl rfl rfl (by decide +kernel)
set_option maxRecDepth 65536 in
theorem w_c10 : (Jvm.Cond.code ({ cls := "java/lang/String", name := "<init>", desc := "([BB)V" } : Jvm.MethodName) jdk_42_method_151_code (3 : Nat) (Option.none : Option Jvm.ClassFile.FieldType)).before args0 about1 = true := code_word (m := ⟨7, 6⟩) (meth := k7m6) (c := k7c6) (by decide +kernel) rfl rfl rfl (by decide +kernel)
set_option maxRecDepth 65536 in
theorem w_c11 : (Jvm.Cond.code ({ cls := "java/util/ArrayList", name := "<init>", desc := "()V" } : Jvm.MethodName) jdk_38_method_2_code (1 : Nat) (Option.none : Option Jvm.ClassFile.FieldType)).before args0 about1 = true := code_word (m := ⟨18, 0⟩) (meth := k18m0) (c := k18c0) (by decide +kernel) rfl rfl rfl (by decide +kernel)
set_option maxRecDepth 65536 in
theorem w_c12 : (Jvm.Cond.code ({ cls := "java/util/AbstractList", name := "<init>", desc := "()V" } : Jvm.MethodName) jdk_39_method_1_code (1 : Nat) (Option.none : Option Jvm.ClassFile.FieldType)).before args0 about1 = true := code_word (m := ⟨15, 0⟩) (meth := k15m0) (c := k15c0) (by decide +kernel) rfl rfl rfl (by decide +kernel)
set_option maxRecDepth 65536 in
theorem w_c13 : (Jvm.Cond.code ({ cls := "java/util/AbstractCollection", name := "<init>", desc := "()V" } : Jvm.MethodName) jdk_22_method_1_code (1 : Nat) (Option.none : Option Jvm.ClassFile.FieldType)).before args0 about1 = true := code_word (m := ⟨12, 0⟩) (meth := k12m0) (c := k12c0) (by decide +kernel) rfl rfl rfl (by decide +kernel)
set_option maxRecDepth 65536 in
theorem w_c14 : (Jvm.Cond.code ({ cls := "com/example/ringward/ringward/JumpPlacement", name := "<init>", desc := "(I)V" } : Jvm.MethodName) prog_4_method_1_code (2 : Nat) (Option.none : Option Jvm.ClassFile.FieldType)).before args0 about1 = true := code_word (m := ⟨20, 0⟩) (meth := k20m0) (c := k20c0) (by decide +kernel) rfl rfl rfl (by decide +kernel)
set_option maxRecDepth 65536 in
theorem w_c15 : (Jvm.Cond.code ({ cls := "com/example/ringward/ringward/JumpPlacement", name := "withoutNode", desc := "(Ljava/lang/String;ILjava/util/List;Ljava/util/List;)Lcom/example/ringward/ringward/Placement;" } : Jvm.MethodName) prog_4_method_6_code (5 : Nat) (Option.some (Jvm.ClassFile.FieldType.object "com/example/ringward/ringward/Placement"))).before args0 about1 = true := code_word (m := ⟨20, 2⟩) (meth := k20m2) (c := k20c2) (by decide +kernel) rfl rfl rfl (by decide +kernel)
set_option maxRecDepth 65536 in
theorem w_c16 : (Jvm.Cond.code ({ cls := "com/example/ringward/ringward/JumpPlacement", name := "nodeIndexFor", desc := "(Ljava/lang/String;)I" } : Jvm.MethodName) prog_4_method_3_code (2 : Nat) (Option.some Jvm.ClassFile.FieldType.int)).before args0 about1 = true := code_word (m := ⟨20, 1⟩) (meth := k20m1) (c := k20c1) (by decide +kernel) rfl rfl rfl (by decide +kernel)
set_option maxRecDepth 65536 in
theorem w_c17 : (Jvm.Cond.code ({ cls := "com/example/ringward/ringward/hash/MurmurHash3", name := "x86Hash32", desc := "(Ljava/lang/String;)J" } : Jvm.MethodName) prog_34_method_3_code (13 : Nat) (Option.some Jvm.ClassFile.FieldType.long)).before args0 about1 = true := code_word (m := ⟨21, 1⟩) (meth := k21m1) (c := k21c1) (by decide +kernel) rfl rfl rfl (by decide +kernel)
set_option maxRecDepth 65536 in
theorem w_c18 : (Jvm.Cond.code ({ cls := "java/util/Objects", name := "requireNonNull", desc := "(Ljava/lang/Object;Ljava/lang/String;)Ljava/lang/Object;" } : Jvm.MethodName) jdk_31_method_11_code (2 : Nat) (Option.some (Jvm.ClassFile.FieldType.object "java/lang/Object"))).before args0 about1 = true := code_word (m := ⟨22, 1⟩) (meth := k22m1) (c := k22c1) (by decide +kernel) rfl rfl rfl (by decide +kernel)
set_option maxRecDepth 65536 in
theorem w_c19 : (Jvm.Cond.code ({ cls := "com/example/ringward/ringward/hash/MurmurHash3", name := "asciiWord", desc := "(Ljava/lang/String;I)I" } : Jvm.MethodName) prog_34_method_4_code (7 : Nat) (Option.some Jvm.ClassFile.FieldType.int)).before args0 about1 = true := code_word (m := ⟨21, 2⟩) (meth := k21m2) (c := k21c2) (by decide +kernel) rfl rfl rfl (by decide +kernel)
set_option maxRecDepth 65536 in
theorem w_c20 : (Jvm.Cond.code ({ cls := "java/lang/String", name := "length", desc := "()I" } : Jvm.MethodName) jdk_42_method_54_code (1 : Nat) (Option.some Jvm.ClassFile.FieldType.int)).before args0 about1 = true := code_word (m := ⟨7, 2⟩) (meth := k7m2) (c := k7c2) (by decide +kernel) rfl rfl rfl (by decide +kernel)
set_option maxRecDepth 65536 in
theorem w_c21 : (Jvm.Cond.code ({ cls := "java/lang/String", name := "coder", desc := "()B" } : Jvm.MethodName) jdk_42_method_152_code (1 : Nat) (Option.some Jvm.ClassFile.FieldType.byte)).before args0 about1 = true := code_word (m := ⟨7, 7⟩) (meth := k7m7) (c := k7c7) (by decide +kernel) rfl rfl rfl (by decide +kernel)
set_option maxRecDepth 65536 in
theorem w_c22 : (Jvm.Cond.code ({ cls := "java/lang/String", name := "charAt", desc := "(I)C" } : Jvm.MethodName) jdk_42_method_56_code (2 : Nat) (Option.some Jvm.ClassFile.FieldType.char)).before args0 about1 = true := code_word (m := ⟨7, 3⟩) (meth := k7m3) (c := k7c3) (by decide +kernel) rfl rfl rfl (by decide +kernel)
set_option maxRecDepth 65536 in
theorem w_c23 : (Jvm.Cond.code ({ cls := "java/lang/String", name := "isLatin1", desc := "()Z" } : Jvm.MethodName) jdk_42_method_154_code (1 : Nat) (Option.some Jvm.ClassFile.FieldType.boolean)).before args0 about1 = true := code_word (m := ⟨7, 8⟩) (meth := k7m8) (c := k7c8) (by decide +kernel) rfl rfl rfl (by decide +kernel)
set_option maxRecDepth 65536 in
theorem w_c24 : (Jvm.Cond.code ({ cls := "java/lang/StringLatin1", name := "charAt", desc := "([BI)C" } : Jvm.MethodName) jdk_43_method_2_code (2 : Nat) (Option.some Jvm.ClassFile.FieldType.char)).before args0 about1 = true := code_word (m := ⟨9, 1⟩) (meth := k9m1) (c := k9c1) (by decide +kernel) rfl rfl rfl (by decide +kernel)
set_option maxRecDepth 65536 in
theorem w_c25 : (Jvm.Cond.code ({ cls := "java/lang/String", name := "checkIndex", desc := "(II)V" } : Jvm.MethodName) jdk_42_method_155_code (2 : Nat) (Option.none : Option Jvm.ClassFile.FieldType)).before args0 about1 = true := code_word (m := ⟨7, 9⟩) (meth := k7m9) (c := k7c9) (by decide +kernel) rfl rfl rfl (by decide +kernel)
set_option maxRecDepth 65536 in
theorem w_c26 : (Jvm.Cond.code ({ cls := "jdk/internal/util/Preconditions", name := "checkIndex", desc := "(IILjava/util/function/BiFunction;)I" } : Jvm.MethodName) jdk_41_method_11_code (3 : Nat) (Option.some Jvm.ClassFile.FieldType.int)).before args0 about1 = true := code_word (m := ⟨23, 1⟩) (meth := k23m1) (c := k23c1) (by decide +kernel) rfl rfl rfl (by decide +kernel)
set_option maxRecDepth 65536 in
theorem w_c27 : (Jvm.Cond.code ({ cls := "com/example/ringward/ringward/hash/MurmurHash3", name := "withWord", desc := "(II)I" } : Jvm.MethodName) prog_34_method_6_code (2 : Nat) (Option.some Jvm.ClassFile.FieldType.int)).before args0 about1 = true := code_word (m := ⟨21, 4⟩) (meth := k21m4) (c := k21c4) (by decide +kernel) rfl rfl rfl (by decide +kernel)
set_option maxRecDepth 65536 in
theorem w_c28 : (Jvm.Cond.code ({ cls := "com/example/ringward/ringward/hash/MurmurHash3", name := "mixed", desc := "(I)I" } : Jvm.MethodName) prog_34_method_8_code (1 : Nat) (Option.some Jvm.ClassFile.FieldType.int)).before args0 about1 = true := code_word (m := ⟨21, 6⟩) (meth := k21m6) (c := k21c6) (by decide +kernel) rfl rfl rfl (by decide +kernel)
set_option maxRecDepth 65536 in
theorem w_c29 : (Jvm.Cond.code ({ cls := "java/lang/Integer", name := "rotateLeft", desc := "(II)I" } : Jvm.MethodName) jdk_33_method_50_code (2 : Nat) (Option.some Jvm.ClassFile.FieldType.int)).before args0 about1 = true := code_word (m := ⟨25, 1⟩) (meth := k25m1) (c := k25c1) (by decide +kernel) rfl rfl rfl (by decide +kernel)
set_option maxRecDepth 65536 in
theorem w_c30 : (Jvm.Cond.code ({ cls := "com/example/ringward/ringward/hash/MurmurHash3", name := "finished", desc := "(III)J" } : Jvm.MethodName) prog_34_method_7_code (4 : Nat) (Option.some Jvm.ClassFile.FieldType.long)).before args0 about1 = true := code_word (m := ⟨21, 5⟩) (meth := k21m5) (c := k21c5) (by decide +kernel) rfl rfl rfl (by decide +kernel)
set_option maxRecDepth 65536 in
theorem w_c31 : (Jvm.Cond.code ({ cls := "com/example/ringward/ringward/hash/MurmurHash3", name := "finalMix", desc := "(I)I" } : Jvm.MethodName) prog_34_method_9_code (2 : Nat) (Option.some Jvm.ClassFile.FieldType.int)).before args0 about1 = true := code_word (m := ⟨21, 7⟩) (meth := k21m7) (c := k21c7) (by decide +kernel) rfl rfl rfl (by decide +kernel)
set_option maxRecDepth 65536 in
theorem w_c32 : (Jvm.Cond.code ({ cls := "java/lang/Integer", name := "toUnsignedLong", desc := "(I)J" } : Jvm.MethodName) jdk_33_method_42_code (1 : Nat) (Option.some Jvm.ClassFile.FieldType.long)).before args0 about1 = true := code_word (m := ⟨25, 0⟩) (meth := k25m0) (c := k25c0) (by decide +kernel) rfl rfl rfl (by decide +kernel)
set_option maxRecDepth 65536 in
theorem w_c33 : (Jvm.Cond.code ({ cls := "com/example/ringward/ringward/JumpPlacement", name := "bucket", desc := "(JI)I" } : Jvm.MethodName) prog_4_method_8_code (11 : Nat) (Option.some Jvm.ClassFile.FieldType.int)).before args0 about1 = true := code_word (m := ⟨20, 3⟩) (meth := k20m3) (c := k20c3) (by decide +kernel) rfl rfl rfl (by decide +kernel)
set_option maxRecDepth 65536 in
theorem w_c34 : (Jvm.Cond.code ({ cls := "com/example/ringward/ringward/hash/MurmurHash3", name := "continuation", desc := "(I)I" } : Jvm.MethodName) prog_34_method_5_code (1 : Nat) (Option.some Jvm.ClassFile.FieldType.int)).before args0 about1 = true := code_word (m := ⟨21, 3⟩) (meth := k21m3) (c := k21c3) (by decide +kernel) rfl rfl rfl (by decide +kernel)
def codes1 : List Jvm.Cond := [Jvm.Cond.code x code maxLocals ret, Jvm.Cond.code ({ cls := "java/lang/String", name := "<init>", desc := "([C)V" } : Jvm.MethodName) jdk_42_method_3_code (2 : Nat) (Option.none : Option Jvm.ClassFile.FieldType), Jvm.Cond.code ({ cls := "java/lang/String", name := "<init>", desc := "([CIILjava/lang/Void;)V" } : Jvm.MethodName) jdk_42_method_149_code (6 : Nat) (Option.none : Option Jvm.ClassFile.FieldType), Jvm.Cond.code ({ cls := "java/lang/Object", name := "<init>", desc := "()V" } : Jvm.MethodName) object_method_1_code (1 : Nat) (Option.none : Option Jvm.ClassFile.FieldType), Jvm.Cond.code ({ cls := "java/lang/StringUTF16", name := "compress", desc := "([CII)[B" } : Jvm.MethodName) jdk_52_method_16_code (6 : Nat) (Option.some (Jvm.ClassFile.FieldType.array Jvm.ClassFile.FieldType.byte)), Jvm.Cond.code ({ cls := "java/lang/StringUTF16", name := "compress", desc := "([CI[BII)I" } : Jvm.MethodName) jdk_52_method_21_code (7 : Nat) (Option.some Jvm.ClassFile.FieldType.int), Jvm.Cond.code ({ cls := "java/lang/StringUTF16", name := "coderFromArrayLen", desc := "([BI)B" } : Jvm.MethodName) jdk_52_method_15_code (2 : Nat) (Option.some Jvm.ClassFile.FieldType.byte), Jvm.Cond.code ({ cls := "java/lang/String", name := "valueOf", desc := "(C)Ljava/lang/String;" } : Jvm.MethodName) jdk_42_method_139_code (1 : Nat) (Option.some (Jvm.ClassFile.FieldType.object "java/lang/String")), Jvm.Cond.code ({ cls := "java/lang/StringLatin1", name := "canEncode", desc := "(C)Z" } : Jvm.MethodName) jdk_43_method_3_code (1 : Nat) (Option.some Jvm.ClassFile.FieldType.boolean), Jvm.Cond.code ({ cls := "java/lang/StringLatin1", name := "toBytes", desc := "(C)[B" } : Jvm.MethodName) jdk_43_method_46_code (1 : Nat) (Option.some (Jvm.ClassFile.FieldType.array Jvm.ClassFile.FieldType.byte)), Jvm.Cond.code ({ cls := "java/lang/String", name := "<init>", desc := "([BB)V" } : Jvm.MethodName) jdk_42_method_151_code (3 : Nat) (Option.none : Option Jvm.ClassFile.FieldType), Jvm.Cond.code ({ cls := "java/util/ArrayList", name := "<init>", desc := "()V" } : Jvm.MethodName) jdk_38_method_2_code (1 : Nat) (Option.none : Option Jvm.ClassFile.FieldType), Jvm.Cond.code ({ cls := "java/util/AbstractList", name := "<init>", desc := "()V" } : Jvm.MethodName) jdk_39_method_1_code (1 : Nat) (Option.none : Option Jvm.ClassFile.FieldType), Jvm.Cond.code ({ cls := "java/util/AbstractCollection", name := "<init>", desc := "()V" } : Jvm.MethodName) jdk_22_method_1_code (1 : Nat) (Option.none : Option Jvm.ClassFile.FieldType), Jvm.Cond.code ({ cls := "com/example/ringward/ringward/JumpPlacement", name := "<init>", desc := "(I)V" } : Jvm.MethodName) prog_4_method_1_code (2 : Nat) (Option.none : Option Jvm.ClassFile.FieldType), Jvm.Cond.code ({ cls := "com/example/ringward/ringward/JumpPlacement", name := "withoutNode", desc := "(Ljava/lang/String;ILjava/util/List;Ljava/util/List;)Lcom/example/ringward/ringward/Placement;" } : Jvm.MethodName) prog_4_method_6_code (5 : Nat) (Option.some (Jvm.ClassFile.FieldType.object "com/example/ringward/ringward/Placement")), Jvm.Cond.code ({ cls := "com/example/ringward/ringward/JumpPlacement", name := "nodeIndexFor", desc := "(Ljava/lang/String;)I" } : Jvm.MethodName) prog_4_method_3_code (2 : Nat) (Option.some Jvm.ClassFile.FieldType.int), Jvm.Cond.code ({ cls := "com/example/ringward/ringward/hash/MurmurHash3", name := "x86Hash32", desc := "(Ljava/lang/String;)J" } : Jvm.MethodName) prog_34_method_3_code (13 : Nat) (Option.some Jvm.ClassFile.FieldType.long), Jvm.Cond.code ({ cls := "java/util/Objects", name := "requireNonNull", desc := "(Ljava/lang/Object;Ljava/lang/String;)Ljava/lang/Object;" } : Jvm.MethodName) jdk_31_method_11_code (2 : Nat) (Option.some (Jvm.ClassFile.FieldType.object "java/lang/Object")), Jvm.Cond.code ({ cls := "com/example/ringward/ringward/hash/MurmurHash3", name := "asciiWord", desc := "(Ljava/lang/String;I)I" } : Jvm.MethodName) prog_34_method_4_code (7 : Nat) (Option.some Jvm.ClassFile.FieldType.int), Jvm.Cond.code ({ cls := "java/lang/String", name := "length", desc := "()I" } : Jvm.MethodName) jdk_42_method_54_code (1 : Nat) (Option.some Jvm.ClassFile.FieldType.int), Jvm.Cond.code ({ cls := "java/lang/String", name := "coder", desc := "()B" } : Jvm.MethodName) jdk_42_method_152_code (1 : Nat) (Option.some Jvm.ClassFile.FieldType.byte), Jvm.Cond.code ({ cls := "java/lang/String", name := "charAt", desc := "(I)C" } : Jvm.MethodName) jdk_42_method_56_code (2 : Nat) (Option.some Jvm.ClassFile.FieldType.char), Jvm.Cond.code ({ cls := "java/lang/String", name := "isLatin1", desc := "()Z" } : Jvm.MethodName) jdk_42_method_154_code (1 : Nat) (Option.some Jvm.ClassFile.FieldType.boolean), Jvm.Cond.code ({ cls := "java/lang/StringLatin1", name := "charAt", desc := "([BI)C" } : Jvm.MethodName) jdk_43_method_2_code (2 : Nat) (Option.some Jvm.ClassFile.FieldType.char), Jvm.Cond.code ({ cls := "java/lang/String", name := "checkIndex", desc := "(II)V" } : Jvm.MethodName) jdk_42_method_155_code (2 : Nat) (Option.none : Option Jvm.ClassFile.FieldType), Jvm.Cond.code ({ cls := "jdk/internal/util/Preconditions", name := "checkIndex", desc := "(IILjava/util/function/BiFunction;)I" } : Jvm.MethodName) jdk_41_method_11_code (3 : Nat) (Option.some Jvm.ClassFile.FieldType.int), Jvm.Cond.code ({ cls := "com/example/ringward/ringward/hash/MurmurHash3", name := "withWord", desc := "(II)I" } : Jvm.MethodName) prog_34_method_6_code (2 : Nat) (Option.some Jvm.ClassFile.FieldType.int), Jvm.Cond.code ({ cls := "com/example/ringward/ringward/hash/MurmurHash3", name := "mixed", desc := "(I)I" } : Jvm.MethodName) prog_34_method_8_code (1 : Nat) (Option.some Jvm.ClassFile.FieldType.int), Jvm.Cond.code ({ cls := "java/lang/Integer", name := "rotateLeft", desc := "(II)I" } : Jvm.MethodName) jdk_33_method_50_code (2 : Nat) (Option.some Jvm.ClassFile.FieldType.int), Jvm.Cond.code ({ cls := "com/example/ringward/ringward/hash/MurmurHash3", name := "finished", desc := "(III)J" } : Jvm.MethodName) prog_34_method_7_code (4 : Nat) (Option.some Jvm.ClassFile.FieldType.long), Jvm.Cond.code ({ cls := "com/example/ringward/ringward/hash/MurmurHash3", name := "finalMix", desc := "(I)I" } : Jvm.MethodName) prog_34_method_9_code (2 : Nat) (Option.some Jvm.ClassFile.FieldType.int), Jvm.Cond.code ({ cls := "java/lang/Integer", name := "toUnsignedLong", desc := "(I)J" } : Jvm.MethodName) jdk_33_method_42_code (1 : Nat) (Option.some Jvm.ClassFile.FieldType.long), Jvm.Cond.code ({ cls := "com/example/ringward/ringward/JumpPlacement", name := "bucket", desc := "(JI)I" } : Jvm.MethodName) prog_4_method_8_code (11 : Nat) (Option.some Jvm.ClassFile.FieldType.int), Jvm.Cond.code ({ cls := "com/example/ringward/ringward/hash/MurmurHash3", name := "continuation", desc := "(I)I" } : Jvm.MethodName) prog_34_method_5_code (1 : Nat) (Option.some Jvm.ClassFile.FieldType.int)]
set_option maxRecDepth 65536 in
theorem codes_eq : words1.filter isCode = codes1 := rfl
theorem w_codes : ∀ c ∈ words1.filter isCode, c.before args0 about1 = true := by
  rw [codes_eq]
  intro c hc
  simp only [codes1, List.mem_cons, List.not_mem_nil, or_false] at hc
  rcases hc with rfl | rfl | rfl | rfl | rfl | rfl | rfl | rfl | rfl | rfl | rfl | rfl | rfl | rfl | rfl | rfl | rfl | rfl | rfl | rfl | rfl | rfl | rfl | rfl | rfl | rfl | rfl | rfl | rfl | rfl | rfl | rfl | rfl | rfl | rfl
  · exact w_c0
  · exact w_c1
  · exact w_c2
  · exact w_c3
  · exact w_c4
  · exact w_c5
  · exact w_c6
  · exact w_c7
  · exact w_c8
  · exact w_c9
  · exact w_c10
  · exact w_c11
  · exact w_c12
  · exact w_c13
  · exact w_c14
  · exact w_c15
  · exact w_c16
  · exact w_c17
  · exact w_c18
  · exact w_c19
  · exact w_c20
  · exact w_c21
  · exact w_c22
  · exact w_c23
  · exact w_c24
  · exact w_c25
  · exact w_c26
  · exact w_c27
  · exact w_c28
  · exact w_c29
  · exact w_c30
  · exact w_c31
  · exact w_c32
  · exact w_c33
  · exact w_c34
set_option maxRecDepth 65536 in
theorem w_t1 : (words1.take 24).all (fun c => isCode c || c.before args0 about1) = true := by decide +kernel
set_option maxRecDepth 65536 in
theorem w_t2 : ((words1.drop 24).take 24).all (fun c => isCode c || c.before args0 about1) = true := by decide +kernel
set_option maxRecDepth 65536 in
theorem w_t3 : (((words1.drop 24).drop 24).take 24).all (fun c => isCode c || c.before args0 about1) = true := by decide +kernel
set_option maxRecDepth 65536 in
theorem w_t4 : ((((words1.drop 24).drop 24).drop 24).take 24).all (fun c => isCode c || c.before args0 about1) = true := by decide +kernel
set_option maxRecDepth 65536 in
theorem w_t5 : (((((words1.drop 24).drop 24).drop 24).drop 24).take 24).all (fun c => isCode c || c.before args0 about1) = true := by decide +kernel
set_option maxRecDepth 65536 in
theorem w_t6 : ((((((words1.drop 24).drop 24).drop 24).drop 24).drop 24).take 24).all (fun c => isCode c || c.before args0 about1) = true := by decide +kernel
set_option maxRecDepth 65536 in
theorem w_t7 : (((((((words1.drop 24).drop 24).drop 24).drop 24).drop 24).drop 24).take 24).all (fun c => isCode c || c.before args0 about1) = true := by decide +kernel
set_option maxRecDepth 65536 in
theorem w_t8 : (((((((words1.drop 24).drop 24).drop 24).drop 24).drop 24).drop 24).drop 24).all (fun c => isCode c || c.before args0 about1) = true := by decide +kernel
theorem w_tables : (allAtoms (Jvm.Cond.code x code maxLocals ret :: tables_1)).before args0 about1 = true := by
  rw [allAtoms_all]
  show words1.all (fun c => c.before args0 about1) = true
  refine all_split ?_ w_codes
  rw [← List.take_append_drop 24 words1, List.all_append, w_t1, ← List.take_append_drop 24 (words1.drop 24), List.all_append, w_t2, ← List.take_append_drop 24 ((words1.drop 24).drop 24), List.all_append, w_t3, ← List.take_append_drop 24 (((words1.drop 24).drop 24).drop 24), List.all_append, w_t4, ← List.take_append_drop 24 ((((words1.drop 24).drop 24).drop 24).drop 24), List.all_append, w_t5, ← List.take_append_drop 24 (((((words1.drop 24).drop 24).drop 24).drop 24).drop 24), List.all_append, w_t6, ← List.take_append_drop 24 ((((((words1.drop 24).drop 24).drop 24).drop 24).drop 24).drop 24), List.all_append, w_t7, w_t8]
  rfl
set_option maxRecDepth 65536 in
theorem w_rest : rest_1_c.before args0 about1 = true := by decide +kernel
set_option maxRecDepth 65536 in
theorem w_case : (Jvm.Cond.and given_1 narrow_1).before args0 about1 = true := by decide +kernel
theorem w_applies : (headSpec (Jvm.Cond.code x code maxLocals ret :: tables_1) room_1).applies x e0.platform about1 = true :=
  (Spec.applies_iff w_frames).mpr ⟨w_running, w_runnable, w_alone, w_named, w_hears, w_ripe, w_room, w_tables⟩
theorem atStart : AtStart classFile x code maxLocals ret World_1 tables_1 room_1 Calls_1 rest_1 Pre_1 launch0 p0 e0 about1 theMethod args0 below0 :=
  ⟨lists_1, trivial, launch0.admits_env _ _ _, launch0.least_env, fairChoices_fair.cas, fairChoices_fair.clock, w_frames, w_args, w_heap, w_applies, trivial, w_rest, w_case⟩
end start1
theorem witness_1 : WitnessClaimed_1 := ⟨start1.p0, start1.e0, start1.about1, start1.theMethod, start1.args0, start1.below0, start1.atStart⟩
end Jvm.Pilot.@@N@@
