import JvmDerived
import JvmDerived.Pilot.@@N@@Statement
import JvmDerived.Pilot.@@N@@Code
set_option linter.unusedVariables false
set_option linter.unusedSimpArgs false
@@BLOCK:NumsL.lean.txt@@
namespace Jvm.Pilot.@@N@@
open Jvm Jvm.ClassFile Sem Op Lib Jvm.Free Jvm.Stand Jvm.LawKit Jvm.RoadKit Bundle Jvm.Pilot.@@N@@.Jvm.D
def Nq (a b : Addr) : Prop := a ≠ b
section Layer
variable {p : Program} {l : Launch} {e : Env} {R : Room} {s : State} {m : MethodId} {args : Array Value} {below : List Frame} {meth : Method} {c : Code} {T T' : State} {locs : List Loc} {cells slots : Nat} {Fe : Outcome → State → List Loc → Prop} {Q : Option Value → Heap → List Loc → Prop} {pc pc' : Nat} {Ls l' : Array Slot} {g g' : JFrame} {Z : State} {a0 : Array Value}
/-- from the frame g over T the run comes to a return of which Q and the frame's condition Fe hold -/
def Ok (p : Program) (e : Env) (below : List Frame) (Fe : Outcome → State → List Loc → Prop) (Q : Option Value → Heap → List Loc → Prop) (T : State) (g : JFrame) : Prop :=
  ∃ s₂ o, Steps p.tables e below (T.setTop g) s₂ ∧ s₂.status = .running ∧ Ended s₂ below o ∧ ∃ v L, o = .returned v ∧ Q v s₂.heap L ∧ Fe o s₂ L
def NE (s : State) (nc ns : Nat) (o : Outcome) (t : State) (L : List Loc) : Prop := FrameEnd s o t L nc ns
def WE (s : State) (nc ns : Nat) (o : Outcome) (t : State) (L : List Loc) : Prop := ReturnedEndW s o t L nc ns
theorem Ok.st (h : ∀ t, Steps p.tables e below (T'.setTop g') t → Steps p.tables e below (T.setTop g) t) (k : Ok p e below Fe Q T' g') : Ok p e below Fe Q T g := by
  obtain ⟨t, o, st, r⟩ := k
  exact ⟨t, o, h t st, r⟩
theorem Ok.tr (h : Steps p.tables e below (T.setTop g) (T'.setTop g')) (k : Ok p e below Fe Q T' g') : Ok p e below Fe Q T g := Ok.st (fun _ k' => h.trans k') k
theorem Ok.fr (h : g = g') (k : Ok p e below Fe Q T g') : Ok p e below Fe Q T g := h ▸ k
theorem Ok.iadd {x y : Int32} {rest : List Value} (X : Stand p l e R s m args below meth c T locs cells slots) (hx : p.tables.exec = Jvm.exec) (hd : decode c.code pc = .ok (.iadd, 1)) (hp : pc + 1 = pc')  (k : Ok p e below Fe Q T (mkF m pc' Ls (.int (x + y) :: rest))) : Ok p e below Fe Q T (mkF m pc Ls (.int y :: .int x :: rest)) := by
  subst hp
  exact Ok.st (fun t k => XS.iadd X.here hx rfl hd rfl k) k
theorem Ok.ladd {x y : Int64} {rest : List Value} (X : Stand p l e R s m args below meth c T locs cells slots) (hx : p.tables.exec = Jvm.exec) (hd : decode c.code pc = .ok (.ladd, 1)) (hp : pc + 1 = pc')  (k : Ok p e below Fe Q T (mkF m pc' Ls (.long (x + y) :: rest))) : Ok p e below Fe Q T (mkF m pc Ls (.long y :: .long x :: rest)) := by
  subst hp
  exact Ok.st (fun t k => XS.ladd X.here hx rfl hd rfl k) k
theorem Ok.isub {x y : Int32} {rest : List Value} (X : Stand p l e R s m args below meth c T locs cells slots) (hx : p.tables.exec = Jvm.exec) (hd : decode c.code pc = .ok (.isub, 1)) (hp : pc + 1 = pc')  (k : Ok p e below Fe Q T (mkF m pc' Ls (.int (x - y) :: rest))) : Ok p e below Fe Q T (mkF m pc Ls (.int y :: .int x :: rest)) := by
  subst hp
  exact Ok.st (fun t k => XS.isub X.here hx rfl hd rfl k) k
theorem Ok.lsub {x y : Int64} {rest : List Value} (X : Stand p l e R s m args below meth c T locs cells slots) (hx : p.tables.exec = Jvm.exec) (hd : decode c.code pc = .ok (.lsub, 1)) (hp : pc + 1 = pc')  (k : Ok p e below Fe Q T (mkF m pc' Ls (.long (x - y) :: rest))) : Ok p e below Fe Q T (mkF m pc Ls (.long y :: .long x :: rest)) := by
  subst hp
  exact Ok.st (fun t k => XS.lsub X.here hx rfl hd rfl k) k
theorem Ok.imul {x y : Int32} {rest : List Value} (X : Stand p l e R s m args below meth c T locs cells slots) (hx : p.tables.exec = Jvm.exec) (hd : decode c.code pc = .ok (.imul, 1)) (hp : pc + 1 = pc')  (k : Ok p e below Fe Q T (mkF m pc' Ls (.int (x * y) :: rest))) : Ok p e below Fe Q T (mkF m pc Ls (.int y :: .int x :: rest)) := by
  subst hp
  exact Ok.st (fun t k => XS.imul X.here hx rfl hd rfl k) k
theorem Ok.lmul {x y : Int64} {rest : List Value} (X : Stand p l e R s m args below meth c T locs cells slots) (hx : p.tables.exec = Jvm.exec) (hd : decode c.code pc = .ok (.lmul, 1)) (hp : pc + 1 = pc')  (k : Ok p e below Fe Q T (mkF m pc' Ls (.long (x * y) :: rest))) : Ok p e below Fe Q T (mkF m pc Ls (.long y :: .long x :: rest)) := by
  subst hp
  exact Ok.st (fun t k => XS.lmul X.here hx rfl hd rfl k) k
theorem Ok.iand {x y : Int32} {rest : List Value} (X : Stand p l e R s m args below meth c T locs cells slots) (hx : p.tables.exec = Jvm.exec) (hd : decode c.code pc = .ok (.iand, 1)) (hp : pc + 1 = pc')  (k : Ok p e below Fe Q T (mkF m pc' Ls (.int (x &&& y) :: rest))) : Ok p e below Fe Q T (mkF m pc Ls (.int y :: .int x :: rest)) := by
  subst hp
  exact Ok.st (fun t k => XS.iand X.here hx rfl hd rfl k) k
theorem Ok.land {x y : Int64} {rest : List Value} (X : Stand p l e R s m args below meth c T locs cells slots) (hx : p.tables.exec = Jvm.exec) (hd : decode c.code pc = .ok (.land, 1)) (hp : pc + 1 = pc')  (k : Ok p e below Fe Q T (mkF m pc' Ls (.long (x &&& y) :: rest))) : Ok p e below Fe Q T (mkF m pc Ls (.long y :: .long x :: rest)) := by
  subst hp
  exact Ok.st (fun t k => XS.land X.here hx rfl hd rfl k) k
theorem Ok.ior {x y : Int32} {rest : List Value} (X : Stand p l e R s m args below meth c T locs cells slots) (hx : p.tables.exec = Jvm.exec) (hd : decode c.code pc = .ok (.ior, 1)) (hp : pc + 1 = pc')  (k : Ok p e below Fe Q T (mkF m pc' Ls (.int (x ||| y) :: rest))) : Ok p e below Fe Q T (mkF m pc Ls (.int y :: .int x :: rest)) := by
  subst hp
  exact Ok.st (fun t k => XS.ior X.here hx rfl hd rfl k) k
theorem Ok.lor {x y : Int64} {rest : List Value} (X : Stand p l e R s m args below meth c T locs cells slots) (hx : p.tables.exec = Jvm.exec) (hd : decode c.code pc = .ok (.lor, 1)) (hp : pc + 1 = pc')  (k : Ok p e below Fe Q T (mkF m pc' Ls (.long (x ||| y) :: rest))) : Ok p e below Fe Q T (mkF m pc Ls (.long y :: .long x :: rest)) := by
  subst hp
  exact Ok.st (fun t k => XS.lor X.here hx rfl hd rfl k) k
theorem Ok.ixor {x y : Int32} {rest : List Value} (X : Stand p l e R s m args below meth c T locs cells slots) (hx : p.tables.exec = Jvm.exec) (hd : decode c.code pc = .ok (.ixor, 1)) (hp : pc + 1 = pc')  (k : Ok p e below Fe Q T (mkF m pc' Ls (.int (x ^^^ y) :: rest))) : Ok p e below Fe Q T (mkF m pc Ls (.int y :: .int x :: rest)) := by
  subst hp
  exact Ok.st (fun t k => XS.ixor X.here hx rfl hd rfl k) k
theorem Ok.lxor {x y : Int64} {rest : List Value} (X : Stand p l e R s m args below meth c T locs cells slots) (hx : p.tables.exec = Jvm.exec) (hd : decode c.code pc = .ok (.lxor, 1)) (hp : pc + 1 = pc')  (k : Ok p e below Fe Q T (mkF m pc' Ls (.long (x ^^^ y) :: rest))) : Ok p e below Fe Q T (mkF m pc Ls (.long y :: .long x :: rest)) := by
  subst hp
  exact Ok.st (fun t k => XS.lxor X.here hx rfl hd rfl k) k
theorem Ok.idiv {x y : Int32} {rest : List Value} (X : Stand p l e R s m args below meth c T locs cells slots) (hx : p.tables.exec = Jvm.exec) (hd : decode c.code pc = .ok (.idiv, 1)) (hp : pc + 1 = pc') (hy : y ≠ 0) (k : Ok p e below Fe Q T (mkF m pc' Ls (.int (x / y) :: rest))) : Ok p e below Fe Q T (mkF m pc Ls (.int y :: .int x :: rest)) := by
  subst hp
  exact Ok.st (fun t k => XS.idiv X.here hx rfl hd rfl hy k) k
theorem Ok.ldiv {x y : Int64} {rest : List Value} (X : Stand p l e R s m args below meth c T locs cells slots) (hx : p.tables.exec = Jvm.exec) (hd : decode c.code pc = .ok (.ldiv, 1)) (hp : pc + 1 = pc') (hy : y ≠ 0) (k : Ok p e below Fe Q T (mkF m pc' Ls (.long (x / y) :: rest))) : Ok p e below Fe Q T (mkF m pc Ls (.long y :: .long x :: rest)) := by
  subst hp
  exact Ok.st (fun t k => XS.ldiv X.here hx rfl hd rfl hy k) k
theorem Ok.irem {x y : Int32} {rest : List Value} (X : Stand p l e R s m args below meth c T locs cells slots) (hx : p.tables.exec = Jvm.exec) (hd : decode c.code pc = .ok (.irem, 1)) (hp : pc + 1 = pc') (hy : y ≠ 0) (k : Ok p e below Fe Q T (mkF m pc' Ls (.int (x % y) :: rest))) : Ok p e below Fe Q T (mkF m pc Ls (.int y :: .int x :: rest)) := by
  subst hp
  exact Ok.st (fun t k => iremM X hx rfl hd rfl hy k) k
theorem Ok.lrem {x y : Int64} {rest : List Value} (X : Stand p l e R s m args below meth c T locs cells slots) (hx : p.tables.exec = Jvm.exec) (hd : decode c.code pc = .ok (.lrem, 1)) (hp : pc + 1 = pc') (hy : y ≠ 0) (k : Ok p e below Fe Q T (mkF m pc' Ls (.long (x - (x / y) * y) :: rest))) : Ok p e below Fe Q T (mkF m pc Ls (.long y :: .long x :: rest)) := by
  subst hp
  exact Ok.st (fun t k => XS.lrem X.here hx rfl hd rfl hy k) k
theorem Ok.ishl {x y : Int32} {rest : List Value} (X : Stand p l e R s m args below meth c T locs cells slots) (hx : p.tables.exec = Jvm.exec) (hd : decode c.code pc = .ok (.ishl, 1)) (hp : pc + 1 = pc')  (k : Ok p e below Fe Q T (mkF m pc' Ls (.int (x <<< (y &&& 31)) :: rest))) : Ok p e below Fe Q T (mkF m pc Ls (.int y :: .int x :: rest)) := by
  subst hp
  exact Ok.st (fun t k => XS.ishl X.here hx rfl hd rfl k) k
theorem Ok.ishr {x y : Int32} {rest : List Value} (X : Stand p l e R s m args below meth c T locs cells slots) (hx : p.tables.exec = Jvm.exec) (hd : decode c.code pc = .ok (.ishr, 1)) (hp : pc + 1 = pc')  (k : Ok p e below Fe Q T (mkF m pc' Ls (.int (x >>> (y &&& 31)) :: rest))) : Ok p e below Fe Q T (mkF m pc Ls (.int y :: .int x :: rest)) := by
  subst hp
  exact Ok.st (fun t k => XS.ishr X.here hx rfl hd rfl k) k
theorem Ok.iushr {x y : Int32} {rest : List Value} (X : Stand p l e R s m args below meth c T locs cells slots) (hx : p.tables.exec = Jvm.exec) (hd : decode c.code pc = .ok (.iushr, 1)) (hp : pc + 1 = pc')  (k : Ok p e below Fe Q T (mkF m pc' Ls (.int ((x.toUInt32 >>> (y &&& 31).toUInt32).toInt32) :: rest))) : Ok p e below Fe Q T (mkF m pc Ls (.int y :: .int x :: rest)) := by
  subst hp
  exact Ok.st (fun t k => XS.iushr X.here hx rfl hd rfl k) k
theorem Ok.lshl {x : Int64} {y : Int32} {rest : List Value} (X : Stand p l e R s m args below meth c T locs cells slots) (hx : p.tables.exec = Jvm.exec) (hd : decode c.code pc = .ok (.lshl, 1)) (hp : pc + 1 = pc')  (k : Ok p e below Fe Q T (mkF m pc' Ls (.long (x <<< (y &&& 0x3f).toInt64) :: rest))) : Ok p e below Fe Q T (mkF m pc Ls (.int y :: .long x :: rest)) := by
  subst hp
  exact Ok.st (fun t k => XS.lshl X.here hx rfl hd rfl k) k
theorem Ok.lshr {x : Int64} {y : Int32} {rest : List Value} (X : Stand p l e R s m args below meth c T locs cells slots) (hx : p.tables.exec = Jvm.exec) (hd : decode c.code pc = .ok (.lshr, 1)) (hp : pc + 1 = pc')  (k : Ok p e below Fe Q T (mkF m pc' Ls (.long (x >>> (y &&& 0x3f).toInt64) :: rest))) : Ok p e below Fe Q T (mkF m pc Ls (.int y :: .long x :: rest)) := by
  subst hp
  exact Ok.st (fun t k => XS.lshr X.here hx rfl hd rfl k) k
theorem Ok.lushr {x : Int64} {y : Int32} {rest : List Value} (X : Stand p l e R s m args below meth c T locs cells slots) (hx : p.tables.exec = Jvm.exec) (hd : decode c.code pc = .ok (.lushr, 1)) (hp : pc + 1 = pc')  (k : Ok p e below Fe Q T (mkF m pc' Ls (.long ((x.toUInt64 >>> (y &&& 0x3f).toInt64.toUInt64).toInt64) :: rest))) : Ok p e below Fe Q T (mkF m pc Ls (.int y :: .long x :: rest)) := by
  subst hp
  exact Ok.st (fun t k => XS.lushr X.here hx rfl hd rfl k) k
theorem Ok.ineg {x : Int32} {rest : List Value} (X : Stand p l e R s m args below meth c T locs cells slots) (hx : p.tables.exec = Jvm.exec) (hd : decode c.code pc = .ok (.ineg, 1)) (hp : pc + 1 = pc')  (k : Ok p e below Fe Q T (mkF m pc' Ls (.int (-x) :: rest))) : Ok p e below Fe Q T (mkF m pc Ls (.int x :: rest)) := by
  subst hp
  exact Ok.st (fun t k => XS.ineg X.here hx rfl hd rfl k) k
theorem Ok.lneg {x : Int64} {rest : List Value} (X : Stand p l e R s m args below meth c T locs cells slots) (hx : p.tables.exec = Jvm.exec) (hd : decode c.code pc = .ok (.lneg, 1)) (hp : pc + 1 = pc')  (k : Ok p e below Fe Q T (mkF m pc' Ls (.long (-x) :: rest))) : Ok p e below Fe Q T (mkF m pc Ls (.long x :: rest)) := by
  subst hp
  exact Ok.st (fun t k => XS.lneg X.here hx rfl hd rfl k) k
theorem Ok.i2l {x : Int32} {rest : List Value} (X : Stand p l e R s m args below meth c T locs cells slots) (hx : p.tables.exec = Jvm.exec) (hd : decode c.code pc = .ok (.i2l, 1)) (hp : pc + 1 = pc')  (k : Ok p e below Fe Q T (mkF m pc' Ls (.long x.toInt64 :: rest))) : Ok p e below Fe Q T (mkF m pc Ls (.int x :: rest)) := by
  subst hp
  exact Ok.st (fun t k => XS.i2l X.here hx rfl hd rfl k) k
theorem Ok.l2i {x : Int64} {rest : List Value} (X : Stand p l e R s m args below meth c T locs cells slots) (hx : p.tables.exec = Jvm.exec) (hd : decode c.code pc = .ok (.l2i, 1)) (hp : pc + 1 = pc')  (k : Ok p e below Fe Q T (mkF m pc' Ls (.int x.toInt32 :: rest))) : Ok p e below Fe Q T (mkF m pc Ls (.long x :: rest)) := by
  subst hp
  exact Ok.st (fun t k => XS.l2i X.here hx rfl hd rfl k) k
theorem Ok.i2b {x : Int32} {rest : List Value} (X : Stand p l e R s m args below meth c T locs cells slots) (hx : p.tables.exec = Jvm.exec) (hd : decode c.code pc = .ok (.i2b, 1)) (hp : pc + 1 = pc')  (k : Ok p e below Fe Q T (mkF m pc' Ls (.int x.toInt8.toInt32 :: rest))) : Ok p e below Fe Q T (mkF m pc Ls (.int x :: rest)) := by
  subst hp
  exact Ok.st (fun t k => XS.i2b X.here hx rfl hd rfl k) k
theorem Ok.i2c {x : Int32} {rest : List Value} (X : Stand p l e R s m args below meth c T locs cells slots) (hx : p.tables.exec = Jvm.exec) (hd : decode c.code pc = .ok (.i2c, 1)) (hp : pc + 1 = pc')  (k : Ok p e below Fe Q T (mkF m pc' Ls (.int x.toUInt32.toUInt16.toUInt32.toInt32 :: rest))) : Ok p e below Fe Q T (mkF m pc Ls (.int x :: rest)) := by
  subst hp
  exact Ok.st (fun t k => XS.i2c X.here hx rfl hd rfl k) k
theorem Ok.i2s {x : Int32} {rest : List Value} (X : Stand p l e R s m args below meth c T locs cells slots) (hx : p.tables.exec = Jvm.exec) (hd : decode c.code pc = .ok (.i2s, 1)) (hp : pc + 1 = pc')  (k : Ok p e below Fe Q T (mkF m pc' Ls (.int x.toInt16.toInt32 :: rest))) : Ok p e below Fe Q T (mkF m pc Ls (.int x :: rest)) := by
  subst hp
  exact Ok.st (fun t k => XS.i2s X.here hx rfl hd rfl k) k
theorem Ok.lcmp {x y : Int64} {rest : List Value} (X : Stand p l e R s m args below meth c T locs cells slots) (hx : p.tables.exec = Jvm.exec) (hd : decode c.code pc = .ok (.lcmp, 1)) (hp : pc + 1 = pc')  (k : Ok p e below Fe Q T (mkF m pc' Ls (.int (lcmpW x y) :: rest))) : Ok p e below Fe Q T (mkF m pc Ls (.long y :: .long x :: rest)) := by
  subst hp
  exact Ok.st (fun t k => XS.lcmp X.here hx rfl hd rfl k) k
theorem Ok.iconst {i : Int} {z : Int32} {rest : List Value} (X : Stand p l e R s m args below meth c T locs cells slots) (hx : p.tables.exec = Jvm.exec) (hd : decode c.code pc = .ok (.iconst i, 1)) (hp : pc + 1 = pc') (hz : z = Int32.ofInt i) (k : Ok p e below Fe Q T (mkF m pc' Ls (.int z :: rest))) : Ok p e below Fe Q T (mkF m pc Ls rest) := by
  subst hp
  exact Ok.st (fun t k => XS.iconst X.here hx rfl hd (hz ▸ k)) k
theorem Ok.bipush {i : Int} {z : Int32} {rest : List Value} (X : Stand p l e R s m args below meth c T locs cells slots) (hx : p.tables.exec = Jvm.exec) (hd : decode c.code pc = .ok (.bipush i, 2)) (hp : pc + 2 = pc') (hz : z = (Int8.ofInt i).toInt32) (k : Ok p e below Fe Q T (mkF m pc' Ls (.int z :: rest))) : Ok p e below Fe Q T (mkF m pc Ls rest) := by
  subst hp
  exact Ok.st (fun t k => XS.bipush X.here hx rfl hd (hz ▸ k)) k
theorem Ok.sipush {i : Int} {z : Int32} {rest : List Value} (X : Stand p l e R s m args below meth c T locs cells slots) (hx : p.tables.exec = Jvm.exec) (hd : decode c.code pc = .ok (.sipush i, 3)) (hp : pc + 3 = pc') (hz : z = (Int16.ofInt i).toInt32) (k : Ok p e below Fe Q T (mkF m pc' Ls (.int z :: rest))) : Ok p e below Fe Q T (mkF m pc Ls rest) := by
  subst hp
  exact Ok.st (fun t k => XS.sipush X.here hx rfl hd (hz ▸ k)) k
theorem Ok.lconst {i : Fin 2} {z : Int64} {rest : List Value} (X : Stand p l e R s m args below meth c T locs cells slots) (hx : p.tables.exec = Jvm.exec) (hd : decode c.code pc = .ok (.lconst i, 1)) (hp : pc + 1 = pc') (hz : z = Int64.ofNat i) (k : Ok p e below Fe Q T (mkF m pc' Ls (.long z :: rest))) : Ok p e below Fe Q T (mkF m pc Ls rest) := by
  subst hp
  exact Ok.st (fun t k => XS.lconst X.here hx rfl hd (hz ▸ k)) k
theorem Ok.aconstNull {rest : List Value} (X : Stand p l e R s m args below meth c T locs cells slots) (hx : p.tables.exec = Jvm.exec) (hd : decode c.code pc = .ok (.aconst_null, 1)) (hp : pc + 1 = pc')  (k : Ok p e below Fe Q T (mkF m pc' Ls (.null :: rest))) : Ok p e below Fe Q T (mkF m pc Ls rest) := by
  subst hp
  exact Ok.st (fun t k => XS.aconstNull X.here hx rfl hd k) k
theorem Ok.dup {x : Value} {rest : List Value} (X : Stand p l e R s m args below meth c T locs cells slots) (hx : p.tables.exec = Jvm.exec) (hd : decode c.code pc = .ok (.dup, 1)) (hp : pc + 1 = pc') (hc : x.category = 1) (k : Ok p e below Fe Q T (mkF m pc' Ls (x :: x :: rest))) : Ok p e below Fe Q T (mkF m pc Ls (x :: rest)) := by
  subst hp
  exact Ok.st (fun t k => XS.dup X.here hx rfl hd rfl hc k) k
theorem Ok.pop {x : Value} {rest : List Value} (X : Stand p l e R s m args below meth c T locs cells slots) (hx : p.tables.exec = Jvm.exec) (hd : decode c.code pc = .ok (.pop, 1)) (hp : pc + 1 = pc') (hc : x.category = 1) (k : Ok p e below Fe Q T (mkF m pc' Ls rest)) : Ok p e below Fe Q T (mkF m pc Ls (x :: rest)) := by
  subst hp
  exact Ok.st (fun t k => XS.pop X.here hx rfl hd rfl hc k) k
theorem Ok.iload {i : Nat} {v : Int32} {rest : List Value} (X : Stand p l e R s m args below meth c T locs cells slots) (hx : p.tables.exec = Jvm.exec) (hd : decode c.code pc = .ok (.iload i, 2)) (hp : pc + 2 = pc') (hl : Ls[i]? = some (.val (.int v))) (k : Ok p e below Fe Q T (mkF m pc' Ls (.int v :: rest))) : Ok p e below Fe Q T (mkF m pc Ls rest) := by
  subst hp
  exact Ok.st (fun t k => XS.iload X.here hx rfl hd hl k) k
theorem Ok.iloadN {i : Fin 4} {v : Int32} {rest : List Value} (X : Stand p l e R s m args below meth c T locs cells slots) (hx : p.tables.exec = Jvm.exec) (hd : decode c.code pc = .ok (.iload_n i, 1)) (hp : pc + 1 = pc') (hl : Ls[i.val]? = some (.val (.int v))) (k : Ok p e below Fe Q T (mkF m pc' Ls (.int v :: rest))) : Ok p e below Fe Q T (mkF m pc Ls rest) := by
  subst hp
  exact Ok.st (fun t k => XS.iloadN X.here hx rfl hd hl k) k
theorem Ok.lload {i : Nat} {v : Int64} {rest : List Value} (X : Stand p l e R s m args below meth c T locs cells slots) (hx : p.tables.exec = Jvm.exec) (hd : decode c.code pc = .ok (.lload i, 2)) (hp : pc + 2 = pc') (hl : Ls[i]? = some (.val (.long v))) (k : Ok p e below Fe Q T (mkF m pc' Ls (.long v :: rest))) : Ok p e below Fe Q T (mkF m pc Ls rest) := by
  subst hp
  exact Ok.st (fun t k => XS.lload X.here hx rfl hd hl k) k
theorem Ok.lloadN {i : Fin 4} {v : Int64} {rest : List Value} (X : Stand p l e R s m args below meth c T locs cells slots) (hx : p.tables.exec = Jvm.exec) (hd : decode c.code pc = .ok (.lload_n i, 1)) (hp : pc + 1 = pc') (hl : Ls[i.val]? = some (.val (.long v))) (k : Ok p e below Fe Q T (mkF m pc' Ls (.long v :: rest))) : Ok p e below Fe Q T (mkF m pc Ls rest) := by
  subst hp
  exact Ok.st (fun t k => XS.lloadN X.here hx rfl hd hl k) k
theorem Ok.aload {i : Nat} {v : Value} {rest : List Value} (X : Stand p l e R s m args below meth c T locs cells slots) (hx : p.tables.exec = Jvm.exec) (hd : decode c.code pc = .ok (.aload i, 2)) (hp : pc + 2 = pc') (hl : Ls[i]? = some (.val v)) (hv : v.isRef = true) (k : Ok p e below Fe Q T (mkF m pc' Ls (v :: rest))) : Ok p e below Fe Q T (mkF m pc Ls rest) := by
  subst hp
  exact Ok.st (fun t k => XS.aload X.here hx rfl hd hl hv k) k
theorem Ok.aloadN {i : Fin 4} {v : Value} {rest : List Value} (X : Stand p l e R s m args below meth c T locs cells slots) (hx : p.tables.exec = Jvm.exec) (hd : decode c.code pc = .ok (.aload_n i, 1)) (hp : pc + 1 = pc') (hl : Ls[i.val]? = some (.val v)) (hv : v.isRef = true) (k : Ok p e below Fe Q T (mkF m pc' Ls (v :: rest))) : Ok p e below Fe Q T (mkF m pc Ls rest) := by
  subst hp
  exact Ok.st (fun t k => XS.aloadN X.here hx rfl hd hl hv k) k
theorem Ok.istore {i : Nat} {x : Int32} {rest : List Value} (X : Stand p l e R s m args below meth c T locs cells slots) (hx : p.tables.exec = Jvm.exec) (hd : decode c.code pc = .ok (.istore i, 2)) (hp : pc + 2 = pc') (hl : storeLocals Ls i (.int x) = some l') (k : Ok p e below Fe Q T (mkF m pc' l' rest)) : Ok p e below Fe Q T (mkF m pc Ls ((.int x) :: rest)) := by
  subst hp
  exact Ok.st (fun t k => XS.istore X.here hx rfl hd rfl hl k) k
theorem Ok.istoreN {i : Fin 4} {x : Int32} {rest : List Value} (X : Stand p l e R s m args below meth c T locs cells slots) (hx : p.tables.exec = Jvm.exec) (hd : decode c.code pc = .ok (.istore_n i, 1)) (hp : pc + 1 = pc') (hl : storeLocals Ls i.val (.int x) = some l') (k : Ok p e below Fe Q T (mkF m pc' l' rest)) : Ok p e below Fe Q T (mkF m pc Ls ((.int x) :: rest)) := by
  subst hp
  exact Ok.st (fun t k => XS.istoreN X.here hx rfl hd rfl hl k) k
theorem Ok.lstore {i : Nat} {x : Int64} {rest : List Value} (X : Stand p l e R s m args below meth c T locs cells slots) (hx : p.tables.exec = Jvm.exec) (hd : decode c.code pc = .ok (.lstore i, 2)) (hp : pc + 2 = pc') (hl : storeLocals Ls i (.long x) = some l') (k : Ok p e below Fe Q T (mkF m pc' l' rest)) : Ok p e below Fe Q T (mkF m pc Ls ((.long x) :: rest)) := by
  subst hp
  exact Ok.st (fun t k => XS.lstore X.here hx rfl hd rfl hl k) k
theorem Ok.lstoreN {i : Fin 4} {x : Int64} {rest : List Value} (X : Stand p l e R s m args below meth c T locs cells slots) (hx : p.tables.exec = Jvm.exec) (hd : decode c.code pc = .ok (.lstore_n i, 1)) (hp : pc + 1 = pc') (hl : storeLocals Ls i.val (.long x) = some l') (k : Ok p e below Fe Q T (mkF m pc' l' rest)) : Ok p e below Fe Q T (mkF m pc Ls ((.long x) :: rest)) := by
  subst hp
  exact Ok.st (fun t k => XS.lstoreN X.here hx rfl hd rfl hl k) k
theorem Ok.astore {i : Nat} {x : Value} {rest : List Value} (X : Stand p l e R s m args below meth c T locs cells slots) (hx : p.tables.exec = Jvm.exec) (hd : decode c.code pc = .ok (.astore i, 2)) (hp : pc + 2 = pc') (hv : x.isRef = true) (hl : storeLocals Ls i x = some l') (k : Ok p e below Fe Q T (mkF m pc' l' rest)) : Ok p e below Fe Q T (mkF m pc Ls (x :: rest)) := by
  subst hp
  exact Ok.st (fun t k => XS.astore X.here hx rfl hd rfl hv hl k) k
theorem Ok.astoreN {i : Fin 4} {x : Value} {rest : List Value} (X : Stand p l e R s m args below meth c T locs cells slots) (hx : p.tables.exec = Jvm.exec) (hd : decode c.code pc = .ok (.astore_n i, 1)) (hp : pc + 1 = pc') (hv : x.isRef = true) (hl : storeLocals Ls i.val x = some l') (k : Ok p e below Fe Q T (mkF m pc' l' rest)) : Ok p e below Fe Q T (mkF m pc Ls (x :: rest)) := by
  subst hp
  exact Ok.st (fun t k => XS.astoreN X.here hx rfl hd rfl hv hl k) k
theorem Ok.iinc {i : Nat} {cst : Int} {x z : Int32} {st : List Value} (X : Stand p l e R s m args below meth c T locs cells slots) (hx : p.tables.exec = Jvm.exec) (hd : decode c.code pc = .ok (.iinc i cst, 3)) (hp : pc + 3 = pc') (hl : Ls[i]? = some (.val (.int x))) (hz : z = x + Int32.ofInt cst) (hl' : storeLocals Ls i (.int z) = some l') (k : Ok p e below Fe Q T (mkF m pc' l' st)) : Ok p e below Fe Q T (mkF m pc Ls st) := by
  subst hp hz
  exact Ok.st (fun t k => XS.iinc X.here hx rfl hd hl hl' k) k
theorem Ok.goto {o : Int} {st : List Value} (X : Stand p l e R s m args below meth c T locs cells slots) (hx : p.tables.exec = Jvm.exec) (hd : decode c.code pc = .ok (.goto o, 3)) (ho : 0 ≤ (pc : Int) + o) (hp : ((pc : Int) + o).toNat = pc') (k : Ok p e below Fe Q T (mkF m pc' Ls st)) : Ok p e below Fe Q T (mkF m pc Ls st) :=
  Ok.st (fun t k => XS.goto X.here hx rfl (pc0 := pc) rfl hd ho hp k) k
theorem Ok.ifY {cd : ClassFile.Cond} {x : Int32} {rest : List Value} {o : Int} (X : Stand p l e R s m args below meth c T locs cells slots) (hx : p.tables.exec = Jvm.exec) (hd : decode c.code pc = .ok (.ifCond cd o, 3)) (hc : ifCond.holds cd x = true) (ho : 0 ≤ (pc : Int) + o) (hp : ((pc : Int) + o).toNat = pc') (k : Ok p e below Fe Q T (mkF m pc' Ls rest)) : Ok p e below Fe Q T (mkF m pc Ls (.int x :: rest)) :=
  Ok.st (fun t k => XS.ifYes X.here hx rfl (pc0 := pc) rfl hd rfl hc ho hp k) k
theorem Ok.ifN {cd : ClassFile.Cond} {x : Int32} {rest : List Value} {o : Int} (X : Stand p l e R s m args below meth c T locs cells slots) (hx : p.tables.exec = Jvm.exec) (hd : decode c.code pc = .ok (.ifCond cd o, 3)) (hc : ifCond.holds cd x = false) (hp : pc + 3 = pc') (k : Ok p e below Fe Q T (mkF m pc' Ls rest)) : Ok p e below Fe Q T (mkF m pc Ls (.int x :: rest)) := by
  subst hp
  exact Ok.st (fun t k => XS.ifNo X.here hx rfl hd rfl hc k) k
theorem Ok.icY {cd : ClassFile.Cond} {x y : Int32} {rest : List Value} {o : Int} (X : Stand p l e R s m args below meth c T locs cells slots) (hx : p.tables.exec = Jvm.exec) (hd : decode c.code pc = .ok (.if_icmp cd o, 3)) (hc : if_icmp.holds cd x y = true) (ho : 0 ≤ (pc : Int) + o) (hp : ((pc : Int) + o).toNat = pc') (k : Ok p e below Fe Q T (mkF m pc' Ls rest)) : Ok p e below Fe Q T (mkF m pc Ls (.int y :: .int x :: rest)) :=
  Ok.st (fun t k => XS.icmpYes X.here hx rfl (pc0 := pc) rfl hd rfl hc ho hp k) k
theorem Ok.icN {cd : ClassFile.Cond} {x y : Int32} {rest : List Value} {o : Int} (X : Stand p l e R s m args below meth c T locs cells slots) (hx : p.tables.exec = Jvm.exec) (hd : decode c.code pc = .ok (.if_icmp cd o, 3)) (hc : if_icmp.holds cd x y = false) (hp : pc + 3 = pc') (k : Ok p e below Fe Q T (mkF m pc' Ls rest)) : Ok p e below Fe Q T (mkF m pc Ls (.int y :: .int x :: rest)) := by
  subst hp
  exact Ok.st (fun t k => XS.icmpNo X.here hx rfl hd rfl hc k) k
theorem Ok.nullY {rest : List Value} {o : Int} (X : Stand p l e R s m args below meth c T locs cells slots) (hx : p.tables.exec = Jvm.exec) (hd : decode c.code pc = .ok (.ifnull o, 3)) (ho : 0 ≤ (pc : Int) + o) (hp : ((pc : Int) + o).toNat = pc') (k : Ok p e below Fe Q T (mkF m pc' Ls rest)) : Ok p e below Fe Q T (mkF m pc Ls (.null :: rest)) :=
  Ok.st (fun t k => XS.ifnullYes X.here hx rfl (pc0 := pc) rfl hd rfl ho hp k) k
theorem Ok.nullN {b : Addr} {rest : List Value} {o : Int} (X : Stand p l e R s m args below meth c T locs cells slots) (hx : p.tables.exec = Jvm.exec) (hd : decode c.code pc = .ok (.ifnull o, 3)) (hp : pc + 3 = pc') (k : Ok p e below Fe Q T (mkF m pc' Ls rest)) : Ok p e below Fe Q T (mkF m pc Ls (.ref b :: rest)) := by
  subst hp
  exact Ok.st (fun t k => XS.ifnullNo X.here hx rfl hd rfl k) k
theorem Ok.nonnullY {b : Addr} {rest : List Value} {o : Int} (X : Stand p l e R s m args below meth c T locs cells slots) (hx : p.tables.exec = Jvm.exec) (hd : decode c.code pc = .ok (.ifnonnull o, 3)) (ho : 0 ≤ (pc : Int) + o) (hp : ((pc : Int) + o).toNat = pc') (k : Ok p e below Fe Q T (mkF m pc' Ls rest)) : Ok p e below Fe Q T (mkF m pc Ls (.ref b :: rest)) :=
  Ok.st (fun t k => XS.ifnonnullYes X.here hx rfl (pc0 := pc) rfl hd rfl ho hp k) k
theorem Ok.nonnullN {rest : List Value} {o : Int} (X : Stand p l e R s m args below meth c T locs cells slots) (hx : p.tables.exec = Jvm.exec) (hd : decode c.code pc = .ok (.ifnonnull o, 3)) (hp : pc + 3 = pc') (k : Ok p e below Fe Q T (mkF m pc' Ls rest)) : Ok p e below Fe Q T (mkF m pc Ls (.null :: rest)) := by
  subst hp
  exact Ok.st (fun t k => XS.ifnonnullNo X.here hx rfl hd rfl k) k
theorem Ok.ldcI {own : String} {index : Nat} {v : Int32} {st : List Value} (X : Stand p l e R s m args below meth c T locs cells slots) (hx : p.tables.exec = Jvm.exec) (hZ : Z.Warmed39 s.vm) (hown : s.vm.findClass own = some m.cls) (w : (Jvm.Cond.constant own index v).before a0 Z = true) (hd : decode c.code pc = .ok (.ldc index, 2)) (hp : pc + 2 = pc') (k : Ok p e below Fe Q T (mkF m pc' Ls (.int v :: st))) : Ok p e below Fe Q T (mkF m pc Ls st) := by
  subst hp
  exact Ok.st (X.ldcInt hx hown (mvT hZ w) (g := mkF m pc Ls st) rfl hd) k
theorem Ok.ldcJ {own : String} {index : Nat} {v : Int64} {st : List Value} (X : Stand p l e R s m args below meth c T locs cells slots) (hx : p.tables.exec = Jvm.exec) (hZ : Z.Warmed39 s.vm) (hown : s.vm.findClass own = some m.cls) (w : (Jvm.Cond.constantLong own index v).before a0 Z = true) (hd : decode c.code pc = .ok (.ldc2_w index, 3)) (hp : pc + 3 = pc') (k : Ok p e below Fe Q T (mkF m pc' Ls (.long v :: st))) : Ok p e below Fe Q T (mkF m pc Ls st) := by
  subst hp
  exact Ok.st (X.ldc2Long hx hown (mvT hZ w) (g := mkF m pc Ls st) rfl hd) k
/-! the ends -/
theorem Ok.retV (X : Stand p l e R s m args below meth c T locs cells slots) (hx : p.tables.exec = Jvm.exec) (hret : meth.sig.returnType = none) (hlk : meth.locks = false) (hd : decode c.code pc = .ok (.return_, 1)) {nc ns : Nat} (hc : cells ≤ nc) (hs : slots ≤ ns) (q : Q none T.heap locs) : Ok p e below (NE s nc ns) Q T (mkF m pc Ls []) := by
  obtain ⟨fs, hr, hrun, hended, hW, hsame⟩ := X.leave (v := none) (fun _ => rfl) hlk
  exact ⟨_, _, X.returnOut hx hret hd hr, hrun, hended, _, _, rfl, q, ⟨_, rfl⟩, hW, hsame.mono hc hs⟩
theorem Ok.retI {z : Int32} {rest : List Value} {t : FieldType} (X : Stand p l e R s m args below meth c T locs cells slots) (hx : p.tables.exec = Jvm.exec) (hret : meth.sig.returnType = some t) (hlk : meth.locks = false) (ht : t = .int ∨ t = .boolean ∨ t = .byte ∨ t = .char ∨ t = .short) (hn : narrow t (.int z) = .int z) (hd : decode c.code pc = .ok (.ireturn, 1)) {nc ns : Nat} (hc : cells ≤ nc) (hs : slots ≤ ns) (q : Q (some (.int z)) T.heap locs) : Ok p e below (NE s nc ns) Q T (mkF m pc Ls (.int z :: rest)) := by
  obtain ⟨fs, hr, hrun, hended, hW, hsame⟩ := X.leave (v := some (.int z)) (fun h => by rw [hret] at h; cases h) hlk
  exact ⟨_, _, retOut X hx hret hn (Or.inl ⟨rfl, ht, _, rfl⟩) hd hr, hrun, hended, _, _, rfl, q, ⟨_, rfl⟩, hW, hsame.mono hc hs⟩
theorem Ok.retJ {z : Int64} {rest : List Value} (X : Stand p l e R s m args below meth c T locs cells slots) (hx : p.tables.exec = Jvm.exec) (hret : meth.sig.returnType = some .long) (hlk : meth.locks = false) (hd : decode c.code pc = .ok (.lreturn, 1)) {nc ns : Nat} (hc : cells ≤ nc) (hs : slots ≤ ns) (q : Q (some (.long z)) T.heap locs) : Ok p e below (NE s nc ns) Q T (mkF m pc Ls (.long z :: rest)) := by
  obtain ⟨fs, hr, hrun, hended, hW, hsame⟩ := X.leave (v := some (.long z)) (fun h => by rw [hret] at h; cases h) hlk
  exact ⟨_, _, retOut X hx hret rfl (Or.inr (Or.inl ⟨rfl, rfl, _, rfl⟩)) hd hr, hrun, hended, _, _, rfl, q, ⟨_, rfl⟩, hW, hsame.mono hc hs⟩
theorem Ok.retA {w : Value} {rest : List Value} {t : FieldType} (X : Stand p l e R s m args below meth c T locs cells slots) (hx : p.tables.exec = Jvm.exec) (hret : meth.sig.returnType = some t) (hlk : meth.locks = false) (ht : t.isReference = true) (hn : narrow t w = w) (hw : w.isRef = true) (hd : decode c.code pc = .ok (.areturn, 1)) {nc ns : Nat} (hc : cells ≤ nc) (hs : slots ≤ ns) (q : Q (some w) T.heap locs) : Ok p e below (NE s nc ns) Q T (mkF m pc Ls (w :: rest)) := by
  obtain ⟨fs, hr, hrun, hended, hW, hsame⟩ := X.leave (v := some w) (fun h => by rw [hret] at h; cases h) hlk
  exact ⟨_, _, retOut X hx hret hn (Or.inr (Or.inr (Or.inr (Or.inr ⟨rfl, ht, hw⟩)))) hd hr, hrun, hended, _, _, rfl, q, ⟨_, rfl⟩, hW, hsame.mono hc hs⟩
theorem Ok.retVW {V : Vm} {n : Nat} (X : Stand p l e R (s.setVm V) m args below meth c T locs cells slots) (hx : p.tables.exec = Jvm.exec) (hS : s.Since V n) (hSn : n ≤ T.heap.size) (hret : meth.sig.returnType = none) (hlk : meth.locks = false) (hd : decode c.code pc = .ok (.return_, 1)) {nc ns : Nat} (hc : cells ≤ nc) (hs : slots ≤ ns) (q : Q none T.heap locs) : Ok p e below (WE s nc ns) Q T (mkF m pc Ls []) := by
  obtain ⟨fs, hr, hrun, hended, h1, h2, h3, h4⟩ := X.leaveW hS hSn (v := none) (fun _ => rfl) hlk
  exact ⟨_, _, X.returnOut hx hret hd hr, hrun, hended, _, _, rfl, q, h1, h2, h3, h4.mono hc hs⟩
theorem Ok.retIW {V : Vm} {n : Nat} {z : Int32} {rest : List Value} {t : FieldType} (X : Stand p l e R (s.setVm V) m args below meth c T locs cells slots) (hx : p.tables.exec = Jvm.exec) (hS : s.Since V n) (hSn : n ≤ T.heap.size) (hret : meth.sig.returnType = some t) (hlk : meth.locks = false) (ht : t = .int ∨ t = .boolean ∨ t = .byte ∨ t = .char ∨ t = .short) (hn : narrow t (.int z) = .int z) (hd : decode c.code pc = .ok (.ireturn, 1)) {nc ns : Nat} (hc : cells ≤ nc) (hs : slots ≤ ns) (q : Q (some (.int z)) T.heap locs) : Ok p e below (WE s nc ns) Q T (mkF m pc Ls (.int z :: rest)) := by
  obtain ⟨fs, hr, hrun, hended, h1, h2, h3, h4⟩ := X.leaveW hS hSn (v := some (.int z)) (fun h => by rw [hret] at h; cases h) hlk
  exact ⟨_, _, retOut X hx hret hn (Or.inl ⟨rfl, ht, _, rfl⟩) hd hr, hrun, hended, _, _, rfl, q, h1, h2, h3, h4.mono hc hs⟩
theorem Ok.retJW {V : Vm} {n : Nat} {z : Int64} {rest : List Value} (X : Stand p l e R (s.setVm V) m args below meth c T locs cells slots) (hx : p.tables.exec = Jvm.exec) (hS : s.Since V n) (hSn : n ≤ T.heap.size) (hret : meth.sig.returnType = some .long) (hlk : meth.locks = false) (hd : decode c.code pc = .ok (.lreturn, 1)) {nc ns : Nat} (hc : cells ≤ nc) (hs : slots ≤ ns) (q : Q (some (.long z)) T.heap locs) : Ok p e below (WE s nc ns) Q T (mkF m pc Ls (.long z :: rest)) := by
  obtain ⟨fs, hr, hrun, hended, h1, h2, h3, h4⟩ := X.leaveW hS hSn (v := some (.long z)) (fun h => by rw [hret] at h; cases h) hlk
  exact ⟨_, _, retOut X hx hret rfl (Or.inr (Or.inl ⟨rfl, rfl, _, rfl⟩)) hd hr, hrun, hended, _, _, rfl, q, h1, h2, h3, h4.mono hc hs⟩
theorem Ok.retAW {V : Vm} {n : Nat} {w : Value} {rest : List Value} {t : FieldType} (X : Stand p l e R (s.setVm V) m args below meth c T locs cells slots) (hx : p.tables.exec = Jvm.exec) (hS : s.Since V n) (hSn : n ≤ T.heap.size) (hret : meth.sig.returnType = some t) (hlk : meth.locks = false) (ht : t.isReference = true) (hn : narrow t w = w) (hw : w.isRef = true) (hd : decode c.code pc = .ok (.areturn, 1)) {nc ns : Nat} (hc : cells ≤ nc) (hs : slots ≤ ns) (q : Q (some w) T.heap locs) : Ok p e below (WE s nc ns) Q T (mkF m pc Ls (w :: rest)) := by
  obtain ⟨fs, hr, hrun, hended, h1, h2, h3, h4⟩ := X.leaveW hS hSn (v := some w) (fun h => by rw [hret] at h; cases h) hlk
  exact ⟨_, _, retOut X hx hret hn (Or.inr (Or.inr (Or.inr (Or.inr ⟨rfl, ht, hw⟩)))) hd hr, hrun, hended, _, _, rfl, q, h1, h2, h3, h4.mono hc hs⟩
/-! a body's contract -/
abbrev MetN (l : Launch) (Z : State) (y : MethodName) (bytes : ByteArray) (maxL : Nat) (ret : Option FieldType) (ws : List Jvm.Cond) (rm : Room) (as' : Array Value) (h0 : Heap) (Q : Option Value → Heap → List Loc → Prop) : Prop :=
  MetFree l y (head1 (Jvm.Cond.code y bytes maxL ret :: ws) rm) (fun a U => a = as' ∧ Z.Warmed39 U.vm ∧ U.heap = h0) (fun _ _ _ _ _ => True) (fun _ U o U' => ∃ v L, o = .returned v ∧ Q v U'.heap L ∧ FrameEnd U o U' L rm.cells rm.slots)
abbrev MetW (l : Launch) (Z : State) (y : MethodName) (bytes : ByteArray) (maxL : Nat) (ret : Option FieldType) (ws : List Jvm.Cond) (rm : Room) (as' : Array Value) (h0 : Heap) (Q : Option Value → Heap → List Loc → Prop) : Prop :=
  MetFree l y (head1 (Jvm.Cond.code y bytes maxL ret :: ws) rm) (fun a U => a = as' ∧ Z.Warmed39 U.vm ∧ U.heap = h0) (fun _ _ _ _ _ => True) (fun _ U o U' => ∃ v L, o = .returned v ∧ Q v U'.heap L ∧ ReturnedEndW U o U' L rm.cells rm.slots)
theorem met_n {y : MethodName} {bytes : ByteArray} {maxL : Nat} {ret : Option FieldType} {rm : Room} {ws : List Jvm.Cond} {as' : Array Value} {h0 : Heap} {F0 : MethodId → JFrame} (hp : plainFor y = true) (hf : ∀ m, entryFrame m as' maxL = F0 m)
    (body : ∀ (p : Program) (e : Env) (s : State) (m : MethodId) (below : List Frame) (meth : Method) (c : Code) (s₁ : State), Stand p l e rm s m as' below meth c s₁ [] 0 0 → p.tables.exec = Jvm.exec → c.code = bytes → c.maxLocals = maxL → Z.Warmed39 s.vm → s.vm.findClass y.cls = some m.cls → meth.name = y.name → meth.sig.returnType = ret → meth.locks = false → s₁.heap = h0 → Ok p e below (NE s rm.cells rm.slots) Q s₁ (F0 m)) :
    MetN l Z y bytes maxL ret ws rm as' h0 Q := by
  refine MetFree.of_bodySF hp hisR ?_
  intro p e s m args below meth c s₁ Bd hml0 hP hK
  obtain ⟨rfl, hZ, hh⟩ := hP
  have e0 : s₁.heap = h0 := by rw [← hh, Bd.state]; rfl
  exact Ok.fr (hf m) (body p e s m below meth c s₁ (Stand.of_body Bd) Bd.exec Bd.bytes hml0 hZ (findClass_of_methodNamed Bd.named) (name_of_methodNamed Bd.named Bd.method).1 Bd.returns (BodyLoose.notSynchronized Bd) e0)
theorem met_w {y : MethodName} {bytes : ByteArray} {maxL : Nat} {ret : Option FieldType} {rm : Room} {ws : List Jvm.Cond} {as' : Array Value} {h0 : Heap} {F0 : MethodId → JFrame} (hp : plainFor y = true) (hf : ∀ m, entryFrame m as' maxL = F0 m)
    (body : ∀ (p : Program) (e : Env) (s : State) (m : MethodId) (below : List Frame) (meth : Method) (c : Code) (s₁ : State) (V : Vm) (n : Nat), Stand p l e rm (s.setVm V) m as' below meth c s₁ [] 0 0 → p.tables.exec = Jvm.exec → c.code = bytes → c.maxLocals = maxL → Z.Warmed39 V → V.findClass y.cls = some m.cls → meth.name = y.name → meth.sig.returnType = ret → meth.locks = false → s₁.heap = h0 → s.Since V n → n ≤ h0.size → Ok p e below (WE s rm.cells rm.slots) Q s₁ (F0 m)) :
    MetW l Z y bytes maxL ret ws rm as' h0 Q := by
  refine MetFree.of_bodySF hp hisR ?_
  intro p e s m args below meth c s₁ Bd hml0 hP hK
  obtain ⟨rfl, hZ, hh⟩ := hP
  have e0 : s₁.heap = h0 := by rw [← hh, Bd.state]; rfl
  exact Ok.fr (hf m) (body p e s m below meth c s₁ s.vm 0 (Stand.of_body Bd) Bd.exec Bd.bytes hml0 hZ (findClass_of_methodNamed Bd.named) (name_of_methodNamed Bd.named Bd.method).1 Bd.returns (BodyLoose.notSynchronized Bd) e0 ((State.WarmedH.refl s).since 0) (Nat.zero_le _))
/-! calls, by a contract -/
theorem Ok.callS {y : MethodName} {bytes : ByteArray} {maxL : Nat} {ret : Option FieldType} {rm : Room} {as' : Array Value} {h : Heap} {Qc : Option Value → Heap → List Loc → Prop} {own : String} {index : Nat} {argsL rest st : List Value} {W : Nat} (X : Stand p l e R s m args below meth c T locs cells slots) (hx : p.tables.exec = Jvm.exec) (hZ : Z.Warmed39 s.vm) (hown : s.vm.findClass own = some m.cls)
    (hM : MetN l Z y bytes maxL ret [] rm as' h Qc) (wl : (Jvm.Cond.methodLink own index y).before a0 Z = true) (ws : (Jvm.Cond.static y).before a0 Z = true) (wz : (Jvm.Cond.initialized y.cls).before a0 Z = true) (wc : (Jvm.Cond.code y bytes maxL ret).before a0 Z = true) (hy : y.cls ≠ "java/lang/invoke/MethodHandle" ∧ y.cls ≠ "java/lang/invoke/VarHandle")
    (eT : T.heap = h) (hf : rm.frames + 1 ≤ R.frames) (hl : W + (maxL + 11) + rm.locals ≤ R.locals) (hc : cells + rm.cells ≤ R.cells) (hs : slots + rm.slots ≤ R.slots) (hlen : ∀ sig, parseMethodDescriptor y.desc = some sig → argsL.length = sig.parameters.length) (has : argsL.toArray = as') (hst : st = argsL.reverse ++ rest) (hW : (rest.map fun v => v.category).sum ≤ W) (hsize : Ls.size = c.maxLocals)
    (hd : decode c.code pc = .ok (.invokestatic index, 3)) (hp : pc + 3 = pc')
    (k : ∀ (v : Option Value) (T' : State) (L : List Loc), Stand p l e R s m args below meth c T' (locs ++ L) (cells + rm.cells) (slots + rm.slots) → Qc v T'.heap L → Ok p e below Fe Q T' (mkF m pc' Ls (v.toList ++ rest))) : Ok p e below Fe Q T (mkF m pc Ls st) := by
  subst hp
  obtain ⟨v, _, ⟨T1, L1, k1, n1⟩, -, X1, ⟨Lc, hQ, l1, y1, z1⟩, st1⟩ := Jvm.LawKit.callS X hx (y := y) hown (mvT hZ wl) (mvT hZ ws) (mvT hZ wz) (mvT hZ wc) hy (backOf (W := W) hM hZ wc wz hf hl) (g := mkF m pc Ls st) rfl hsize (argsL := argsL) (rest := rest) hlen hst (by show 2 * 0 + _ ≤ _; omega) hd (fun _ _ => ⟨has, eT, hc, hs⟩)
  dsimp only [Pt.U, Pt.locs, Pt.cells, Pt.slots] at X1 l1 y1 z1 st1 hQ
  subst l1 y1 z1
  exact Ok.st st1 (k v T1 Lc X1 hQ)
theorem Ok.init {y : MethodName} {bytes : ByteArray} {maxL : Nat} {rm : Room} {as' : Array Value} {h : Heap} {Qc : Option Value → Heap → List Loc → Prop} {own : String} {index : Nat} {a : Addr} {argsL rest st : List Value} {W : Nat} (X : Stand p l e R s m args below meth c T locs cells slots) (hx : p.tables.exec = Jvm.exec) (hZ : Z.Warmed39 s.vm) (hown : s.vm.findClass own = some m.cls)
    (hM : MetN l Z y bytes maxL none [] rm as' h Qc) (hyn : y.name = "<init>") (wl : (Jvm.Cond.methodLink own index y).before a0 Z = true) (wi : (Jvm.Cond.instanceMethod y).before a0 Z = true) (wz : (Jvm.Cond.initialized y.cls).before a0 Z = true) (wc : (Jvm.Cond.code y bytes maxL none).before a0 Z = true) (hy : y.cls ≠ "java/lang/invoke/MethodHandle" ∧ y.cls ≠ "java/lang/invoke/VarHandle")
    (eT : T.heap = h) (hf : rm.frames + 1 ≤ R.frames) (hl : W + (maxL + 11) + rm.locals ≤ R.locals) (hc : cells + rm.cells ≤ R.cells) (hs : slots + rm.slots ≤ R.slots) (hlen : ∀ sig, parseMethodDescriptor y.desc = some sig → argsL.length = sig.parameters.length) (has : (.ref a :: argsL).toArray = as') (hst : st = argsL.reverse ++ .ref a :: rest) (hW : (rest.map fun v => v.category).sum ≤ W) (hsize : Ls.size = c.maxLocals)
    (hd : decode c.code pc = .ok (.invokespecial index, 3)) (hp : pc + 3 = pc')
    (k : ∀ (v : Option Value) (T' : State) (L : List Loc), Stand p l e R s m args below meth c T' (locs ++ L) (cells + rm.cells) (slots + rm.slots) → Qc v T'.heap L → Ok p e below Fe Q T' (mkF m pc' Ls (v.toList ++ rest))) : Ok p e below Fe Q T (mkF m pc Ls st) := by
  subst hp
  obtain ⟨v, _, ⟨T1, L1, k1, n1⟩, -, X1, ⟨Lc, hQ, l1, y1, z1⟩, st1⟩ := X.specialBack hx (y := y) hyn hown (mvT hZ wl) (mvT hZ wi) (mvT hZ wc) hy (backOf (W := W) hM hZ wc wz hf hl) (g := mkF m pc Ls st) rfl hsize (Steps.refl _) (a := a) (argsL := argsL) (rest := rest) hlen hst (by show 2 * 0 + _ ≤ _; omega) hd (fun _ _ => ⟨has, eT, hc, hs⟩)
  dsimp only [Pt.U, Pt.locs, Pt.cells, Pt.slots] at X1 l1 y1 z1 st1 hQ
  subst l1 y1 z1
  exact Ok.tr st1 (k v T1 Lc X1 hQ)
theorem Ok.virt {y z : MethodName} {bytes : ByteArray} {maxL : Nat} {ret : Option FieldType} {rm : Room} {as' : Array Value} {h : Heap} {Qc : Option Value → Heap → List Loc → Prop} {own C : String} {index : Nat} {a : Addr} {argsL rest st : List Value} {W : Nat} (X : Stand p l e R s m args below meth c T locs cells slots) (hx : p.tables.exec = Jvm.exec) (hZ : Z.Warmed39 s.vm) (hown : s.vm.findClass own = some m.cls)
    (hM : MetN l Z z bytes maxL ret [] rm as' h Qc) (wl : (Jvm.Cond.methodLink own index y).before a0 Z = true) (wd : (Jvm.Cond.declares y).before a0 Z = true) (hnf : NotFace s y) (wse : (Jvm.Cond.selects C y z).before a0 Z = true) (wi : (Jvm.Cond.instanceMethod z).before a0 Z = true) (wz : (Jvm.Cond.initialized z.cls).before a0 Z = true) (wc : (Jvm.Cond.code z bytes maxL ret).before a0 Z = true) (hy : y.cls ≠ "java/lang/invoke/MethodHandle" ∧ y.cls ≠ "java/lang/invoke/VarHandle")
    (eT : T.heap = h) (E : Exa Z h a C) (hf : rm.frames + 1 ≤ R.frames) (hl : W + (maxL + 11) + rm.locals ≤ R.locals) (hc : cells + rm.cells ≤ R.cells) (hs : slots + rm.slots ≤ R.slots) (hlen : ∀ sig, parseMethodDescriptor y.desc = some sig → argsL.length = sig.parameters.length) (has : (.ref a :: argsL).toArray = as') (hst : st = argsL.reverse ++ .ref a :: rest) (hW : (rest.map fun v => v.category).sum ≤ W) (hsize : Ls.size = c.maxLocals)
    (hd : decode c.code pc = .ok (.invokevirtual index, 3)) (hp : pc + 3 = pc')
    (k : ∀ (v : Option Value) (T' : State) (L : List Loc), Stand p l e R s m args below meth c T' (locs ++ L) (cells + rm.cells) (slots + rm.slots) → Qc v T'.heap L → Ok p e below Fe Q T' (mkF m pc' Ls (v.toList ++ rest))) : Ok p e below Fe Q T (mkF m pc Ls st) := by
  subst hp
  obtain ⟨cq, kq, qa, qb, qc⟩ := isOf hZ eT E
  obtain ⟨v, _, ⟨T1, L1, k1, n1⟩, -, X1, ⟨Lc, hQ, l1, y1, z1⟩, st1⟩ := X.virtualBack hx (y := y) (z := z) hown (mvT hZ wl) (mvT hZ wd) hnf (mvT hZ wse) (mvT hZ wi) hy (backOf (W := W) hM hZ wc wz hf hl) qa qc (g := mkF m pc Ls st) rfl hsize (Steps.refl _) (argsL := argsL) (rest := rest) hlen hst (by show 2 * 0 + _ ≤ _; omega) hd (fun _ _ => ⟨has, eT, hc, hs⟩)
  dsimp only [Pt.U, Pt.locs, Pt.cells, Pt.slots] at X1 l1 y1 z1 st1 hQ
  subst l1 y1 z1
  exact Ok.tr st1 (k v T1 Lc X1 hQ)
/-! calls of bodies that may intern a string, by their wide contract, from a walk that may have interned -/
theorem Ok.callSW {y : MethodName} {bytes : ByteArray} {maxL : Nat} {ret : Option FieldType} {rm : Room} {as' : Array Value} {h : Heap} {Qc : Option Value → Heap → List Loc → Prop} {own : String} {index : Nat} {argsL rest st : List Value} {W n : Nat} {V : Vm} (X : Stand p l e R (s.setVm V) m args below meth c T locs cells slots) (hx : p.tables.exec = Jvm.exec) (hZ : Z.Warmed39 V) (hown : V.findClass own = some m.cls) (hS : s.Since V n) (hSn : n ≤ h.size)
    (hM : MetW l Z y bytes maxL ret [] rm as' h Qc) (wl : (Jvm.Cond.methodLink own index y).before a0 Z = true) (ws : (Jvm.Cond.static y).before a0 Z = true) (wz : (Jvm.Cond.initialized y.cls).before a0 Z = true) (wc : (Jvm.Cond.code y bytes maxL ret).before a0 Z = true) (hy : y.cls ≠ "java/lang/invoke/MethodHandle" ∧ y.cls ≠ "java/lang/invoke/VarHandle")
    (eT : T.heap = h) (hf : rm.frames + 1 ≤ R.frames) (hl : W + (maxL + 11) + rm.locals ≤ R.locals) (hc : cells + rm.cells ≤ R.cells) (hs : slots + rm.slots ≤ R.slots) (hlen : ∀ sig, parseMethodDescriptor y.desc = some sig → argsL.length = sig.parameters.length) (has : argsL.toArray = as') (hst : st = argsL.reverse ++ rest) (hW : (rest.map fun v => v.category).sum ≤ W) (hsize : Ls.size = c.maxLocals)
    (hd : decode c.code pc = .ok (.invokestatic index, 3)) (hp : pc + 3 = pc')
    (k : ∀ (v : Option Value) (T' : State) (L : List Loc), Stand p l e R (s.setVm T'.vm) m args below meth c T' (locs ++ L) (cells + rm.cells) (slots + rm.slots) → Z.Warmed39 T'.vm → T'.vm.findClass own = some m.cls → s.Since T'.vm T'.heap.size → Qc v T'.heap L → Ok p e below Fe Q T' (mkF m pc' Ls (v.toList ++ rest))) : Ok p e below Fe Q T (mkF m pc Ls st) := by
  subst hp
  have hZ' : Z.Warmed39 (s.setVm V).vm := hZ
  obtain ⟨v, _, ⟨T1, L1, k1, n1⟩, -, X1, hS1, hgr, ⟨Lc, hQ, l1, y1, z1⟩, st1⟩ := callSS X hx (y := y) hown (mvT hZ' wl) (mvT hZ' ws) (mvT hZ' wz) (mvT hZ' wc) hy (backOfS (W := W) hM hZ' wc wz hf hl) (g := mkF m pc Ls st) rfl hsize (argsL := argsL) (rest := rest) hlen hst (by show 2 * 0 + _ ≤ _; omega) hd (fun _ _ => ⟨has, eT, hc, hs⟩)
  dsimp only [Pt.U, Pt.locs, Pt.cells, Pt.slots] at X1 l1 y1 z1 st1 hQ hS1 hgr
  subst l1 y1 z1
  refine Ok.tr st1 (k v T1 Lc X1 (State.Warmed39.trans (t := s.setVm V) hZ hS1.1) (by rw [hS1.1.alike.findClass]; exact hown) (hS.trans hS1 ?_) hQ)
  rw [eT] at hgr
  exact Nat.le_trans hSn hgr
theorem Ok.initW {y : MethodName} {bytes : ByteArray} {maxL : Nat} {rm : Room} {as' : Array Value} {h : Heap} {Qc : Option Value → Heap → List Loc → Prop} {own : String} {index : Nat} {a : Addr} {argsL rest st : List Value} {W n : Nat} {V : Vm} (X : Stand p l e R (s.setVm V) m args below meth c T locs cells slots) (hx : p.tables.exec = Jvm.exec) (hZ : Z.Warmed39 V) (hown : V.findClass own = some m.cls) (hS : s.Since V n) (hSn : n ≤ h.size)
    (hM : MetW l Z y bytes maxL none [] rm as' h Qc) (hyn : y.name = "<init>") (wl : (Jvm.Cond.methodLink own index y).before a0 Z = true) (wi : (Jvm.Cond.instanceMethod y).before a0 Z = true) (wz : (Jvm.Cond.initialized y.cls).before a0 Z = true) (wc : (Jvm.Cond.code y bytes maxL none).before a0 Z = true) (hy : y.cls ≠ "java/lang/invoke/MethodHandle" ∧ y.cls ≠ "java/lang/invoke/VarHandle")
    (eT : T.heap = h) (hf : rm.frames + 1 ≤ R.frames) (hl : W + (maxL + 11) + rm.locals ≤ R.locals) (hc : cells + rm.cells ≤ R.cells) (hs : slots + rm.slots ≤ R.slots) (hlen : ∀ sig, parseMethodDescriptor y.desc = some sig → argsL.length = sig.parameters.length) (has : (.ref a :: argsL).toArray = as') (hst : st = argsL.reverse ++ .ref a :: rest) (hW : (rest.map fun v => v.category).sum ≤ W) (hsize : Ls.size = c.maxLocals)
    (hd : decode c.code pc = .ok (.invokespecial index, 3)) (hp : pc + 3 = pc')
    (k : ∀ (v : Option Value) (T' : State) (L : List Loc), Stand p l e R (s.setVm T'.vm) m args below meth c T' (locs ++ L) (cells + rm.cells) (slots + rm.slots) → Z.Warmed39 T'.vm → T'.vm.findClass own = some m.cls → s.Since T'.vm T'.heap.size → Qc v T'.heap L → Ok p e below Fe Q T' (mkF m pc' Ls (v.toList ++ rest))) : Ok p e below Fe Q T (mkF m pc Ls st) := by
  subst hp
  have hZ' : Z.Warmed39 (s.setVm V).vm := hZ
  obtain ⟨v, _, ⟨T1, L1, k1, n1⟩, -, X1, hS1, hgr, ⟨Lc, hQ, l1, y1, z1⟩, st1⟩ := X.specialBackS hx (y := y) hyn hown (mvT hZ' wl) (mvT hZ' wi) (mvT hZ' wc) hy (backOfS (W := W) hM hZ' wc wz hf hl) (g := mkF m pc Ls st) rfl hsize (Steps.refl _) (a := a) (argsL := argsL) (rest := rest) hlen hst (by show 2 * 0 + _ ≤ _; omega) hd (fun _ _ => ⟨has, eT, hc, hs⟩)
  dsimp only [Pt.U, Pt.locs, Pt.cells, Pt.slots] at X1 l1 y1 z1 st1 hQ hS1 hgr
  subst l1 y1 z1
  refine Ok.tr st1 (k v T1 Lc X1 (State.Warmed39.trans (t := s.setVm V) hZ hS1.1) (by rw [hS1.1.alike.findClass]; exact hown) (hS.trans hS1 ?_) hQ)
  rw [eT] at hgr
  exact Nat.le_trans hSn hgr
theorem Ok.virtW {y z : MethodName} {bytes : ByteArray} {maxL : Nat} {ret : Option FieldType} {rm : Room} {as' : Array Value} {h : Heap} {Qc : Option Value → Heap → List Loc → Prop} {own C : String} {index : Nat} {a : Addr} {argsL rest st : List Value} {W n : Nat} {V : Vm} (X : Stand p l e R (s.setVm V) m args below meth c T locs cells slots) (hx : p.tables.exec = Jvm.exec) (hZ : Z.Warmed39 V) (hown : V.findClass own = some m.cls) (hS : s.Since V n) (hSn : n ≤ h.size)
    (hM : MetW l Z z bytes maxL ret [] rm as' h Qc) (wl : (Jvm.Cond.methodLink own index y).before a0 Z = true) (wd : (Jvm.Cond.declares y).before a0 Z = true) (wse : (Jvm.Cond.selects C y z).before a0 Z = true) (hnf : NotFace (s.setVm V) y) (wi : (Jvm.Cond.instanceMethod z).before a0 Z = true) (wz : (Jvm.Cond.initialized z.cls).before a0 Z = true) (wc : (Jvm.Cond.code z bytes maxL ret).before a0 Z = true) (hy : y.cls ≠ "java/lang/invoke/MethodHandle" ∧ y.cls ≠ "java/lang/invoke/VarHandle")
    (eT : T.heap = h) (E : Exa Z h a C) (hf : rm.frames + 1 ≤ R.frames) (hl : W + (maxL + 11) + rm.locals ≤ R.locals) (hc : cells + rm.cells ≤ R.cells) (hs : slots + rm.slots ≤ R.slots) (hlen : ∀ sig, parseMethodDescriptor y.desc = some sig → argsL.length = sig.parameters.length) (has : (.ref a :: argsL).toArray = as') (hst : st = argsL.reverse ++ .ref a :: rest) (hW : (rest.map fun v => v.category).sum ≤ W) (hsize : Ls.size = c.maxLocals)
    (hd : decode c.code pc = .ok (.invokevirtual index, 3)) (hp : pc + 3 = pc')
    (k : ∀ (v : Option Value) (T' : State) (L : List Loc), Stand p l e R (s.setVm T'.vm) m args below meth c T' (locs ++ L) (cells + rm.cells) (slots + rm.slots) → Z.Warmed39 T'.vm → T'.vm.findClass own = some m.cls → s.Since T'.vm T'.heap.size → Qc v T'.heap L → Ok p e below Fe Q T' (mkF m pc' Ls (v.toList ++ rest))) : Ok p e below Fe Q T (mkF m pc Ls st) := by
  subst hp
  have hZ' : Z.Warmed39 (s.setVm V).vm := hZ
  obtain ⟨cq, kq, qa, qb, qc⟩ := isOf hZ' eT E
  obtain ⟨v, _, ⟨T1, L1, k1, n1⟩, -, X1, hS1, hgr, ⟨Lc, hQ, l1, y1, z1⟩, st1⟩ := X.virtualBackS hx (y := y) (z := z) hown (mvT hZ' wl) (mvT hZ' wd) hnf (mvT hZ' wse) (mvT hZ' wi) hy (backOfS (W := W) hM hZ' wc wz hf hl) qa qc (g := mkF m pc Ls st) rfl hsize (Steps.refl _) (argsL := argsL) (rest := rest) hlen hst (by show 2 * 0 + _ ≤ _; omega) hd (fun _ _ => ⟨has, eT, hc, hs⟩)
  dsimp only [Pt.U, Pt.locs, Pt.cells, Pt.slots] at X1 l1 y1 z1 st1 hQ hS1 hgr
  subst l1 y1 z1
  refine Ok.tr st1 (k v T1 Lc X1 (State.Warmed39.trans (t := s.setVm V) hZ hS1.1) (by rw [hS1.1.alike.findClass]; exact hown) (hS.trans hS1 ?_) hQ)
  rw [eT] at hgr
  exact Nat.le_trans hSn hgr
theorem Ok.faceW {y z : MethodName} {bytes : ByteArray} {maxL : Nat} {ret : Option FieldType} {rm : Room} {as' : Array Value} {h : Heap} {Qc : Option Value → Heap → List Loc → Prop} {own C : String} {index count : Nat} {a : Addr} {argsL rest st : List Value} {W n : Nat} {V : Vm} (X : Stand p l e R (s.setVm V) m args below meth c T locs cells slots) (hx : p.tables.exec = Jvm.exec) (hZ : Z.Warmed39 V) (hown : V.findClass own = some m.cls) (hS : s.Since V n) (hSn : n ≤ h.size)
    (hM : MetW l Z z bytes maxL ret [] rm as' h Qc) (wl : (Jvm.Cond.methodLink own index y).before a0 Z = true) (wd : (Jvm.Cond.declares y).before a0 Z = true) (wf : (Jvm.Cond.interfaceMethod y.cls y.cls y.name y.desc).before a0 Z = true) (hfa : ((Jvm.Cond.interfaceMethod y.cls y.cls y.name y.desc).onTables && (Jvm.Cond.interfaceMethod y.cls y.cls y.name y.desc).keepsFace) = true) (wse : (Jvm.Cond.selects C y z).before a0 Z = true) (wi : (Jvm.Cond.instanceMethod z).before a0 Z = true) (wp : (Jvm.Cond.publicMethod z).before a0 Z = true) (wu : (Jvm.Cond.unhidden C y.name y.desc).before a0 Z = true) (wk : (Jvm.Cond.castable C y.cls).before a0 Z = true) (wz : (Jvm.Cond.initialized z.cls).before a0 Z = true) (wc : (Jvm.Cond.code z bytes maxL ret).before a0 Z = true) (hy : y.cls ≠ "java/lang/invoke/MethodHandle" ∧ y.cls ≠ "java/lang/invoke/VarHandle")
    (eT : T.heap = h) (E : Exa Z h a C) (hf : rm.frames + 1 ≤ R.frames) (hl : W + (maxL + 11) + rm.locals ≤ R.locals) (hc : cells + rm.cells ≤ R.cells) (hs : slots + rm.slots ≤ R.slots) (hlen : ∀ sig, parseMethodDescriptor y.desc = some sig → argsL.length = sig.parameters.length) (has : (.ref a :: argsL).toArray = as') (hst : st = argsL.reverse ++ .ref a :: rest) (hW : (rest.map fun v => v.category).sum ≤ W) (hsize : Ls.size = c.maxLocals)
    (hd : decode c.code pc = .ok (.invokeinterface index count, 5)) (hp : pc + 5 = pc')
    (k : ∀ (v : Option Value) (T' : State) (L : List Loc), Stand p l e R (s.setVm T'.vm) m args below meth c T' (locs ++ L) (cells + rm.cells) (slots + rm.slots) → Z.Warmed39 T'.vm → T'.vm.findClass own = some m.cls → s.Since T'.vm T'.heap.size → Qc v T'.heap L → Ok p e below Fe Q T' (mkF m pc' Ls (v.toList ++ rest))) : Ok p e below Fe Q T (mkF m pc Ls st) := by
  subst hp
  have hZ' : Z.Warmed39 (s.setVm V).vm := hZ
  obtain ⟨cq, kq, qa, qb, qc⟩ := isOf hZ' eT E
  obtain ⟨v, _, ⟨T1, L1, k1, n1⟩, -, X1, hS1, hgr, ⟨Lc, hQ, l1, y1, z1⟩, st1⟩ := X.interfaceBackS hx (xi := y) (y := z) hown (mvT hZ' wl) (mvT hZ' wd) (mvT hZ' wf hfa) (mvT hZ' wse) (mvT hZ' wi) (mvT hZ' wp) (mvT hZ' wu) (mvT hZ' wk) hy (backOfS (W := W) hM hZ' wc wz hf hl) qa qb qc (g := mkF m pc Ls st) rfl hsize (Steps.refl _) (argsL := argsL) (rest := rest) hlen hst (by show 2 * 0 + _ ≤ _; omega) hd (fun _ _ => ⟨has, eT, hc, hs⟩)
  dsimp only [Pt.U, Pt.locs, Pt.cells, Pt.slots] at X1 l1 y1 z1 st1 hQ hS1 hgr
  subst l1 y1 z1
  refine Ok.tr st1 (k v T1 Lc X1 (State.Warmed39.trans (t := s.setVm V) hZ hS1.1) (by rw [hS1.1.alike.findClass]; exact hown) (hS.trans hS1 ?_) hQ)
  rw [eT] at hgr
  exact Nat.le_trans hSn hgr
theorem Ok.ldcS {own text : String} {index n N : Nat} {h : Heap} {st : List Value} {V : Vm} (X : Stand p l e R (s.setVm V) m args below meth c T locs cells slots) (hx : p.tables.exec = Jvm.exec) (hZ : Z.Warmed39 V) (hown : V.findClass own = some m.cls) (hS : s.Since V n) (hSn : n ≤ h.size) (w : (Jvm.Cond.stringLink own index text).before a0 Z = true) (wS : ∀ a ∈ Bundle.stringAtoms, a.before a0 Z = true)
    (eT : T.heap = h) (hN : 4 * text.toList.length ≤ N) (hbig : N ≤ 536870912) (hc : cells + 2 ≤ R.cells) (hl : slots + (N + 4) ≤ R.slots) (hd : decode c.code pc = .ok (.ldc index, 2)) (hp : pc + 2 = pc')
    (k : ∀ (a : Addr) (T' : State) (h' : Heap) (n' : Nat), Stand p l e R (s.setVm T'.vm) m args below meth c T' locs (cells + 2) (slots + (N + 4)) → Z.Warmed39 T'.vm → T'.vm.findClass own = some m.cls → s.Since T'.vm n' → n' ≤ h'.size → T'.heap = h' → Ext h h' → Ok p e below Fe Q T' (mkF m pc' Ls (.ref a :: st))) : Ok p e below Fe Q T (mkF m pc Ls st) := by
  subst hp
  obtain ⟨a, T1, h1, n1, X1, e1, E1, hS1, hSn1, hZ1, hown1, st1⟩ := Jvm.RoadKit.ldcS X hx hZ hown w wS eT hS hSn (g := mkF m pc Ls st) rfl hd hN hbig hc hl
  exact Ok.st st1 (k a T1 h1 n1 X1 hZ1 hown1 hS1 hSn1 e1 E1)
theorem ic_eq (x y : Int32) : (if_icmp.holds .eq x y = true ↔ x.toInt = y.toInt) ∧ (if_icmp.holds .ne x y = true ↔ ¬ x.toInt = y.toInt) ∧ (if_icmp.holds .lt x y = true ↔ x.toInt < y.toInt) ∧ (if_icmp.holds .ge x y = true ↔ y.toInt ≤ x.toInt) ∧ (if_icmp.holds .gt x y = true ↔ y.toInt < x.toInt) ∧ (if_icmp.holds .le x y = true ↔ x.toInt ≤ y.toInt) := by
  simp [if_icmp.holds, Int32.lt_iff_toInt_lt, Int32.le_iff_toInt_le, Int32.toInt_inj]
theorem bt {b : Bool} {P : Prop} (h : b = true ↔ P) (hp : P) : b = true := h.mpr hp
theorem bf {b : Bool} {P : Prop} (h : b = true ↔ P) (hp : ¬ P) : b = false := by
  cases b
  · rfl
  · exact absurd (h.mp rfl) hp
theorem i0 (cd : ClassFile.Cond) (x : Int32) {P : Prop} (h : if_icmp.holds cd x 0 = true ↔ P) : ifCond.holds cd x = true ↔ P := by rw [if0]; exact h
theorem lc_all (x y : Int64) : (ifCond.holds .eq (lcmpW x y) = true ↔ x.toInt = y.toInt) ∧ (ifCond.holds .ne (lcmpW x y) = true ↔ ¬ x.toInt = y.toInt) ∧ (ifCond.holds .lt (lcmpW x y) = true ↔ x.toInt < y.toInt) ∧ (ifCond.holds .ge (lcmpW x y) = true ↔ y.toInt ≤ x.toInt) ∧ (ifCond.holds .gt (lcmpW x y) = true ↔ y.toInt < x.toInt) ∧ (ifCond.holds .le (lcmpW x y) = true ↔ x.toInt ≤ y.toInt) := by
  have h1 := lc_lt x y
  have h2 := lc_gt x y
  have h3 := lc_eq x y
  have h4 := lc_le x y
  have h5 := lc_ge x y
  rw [← lcW] at h1 h2 h3 h4 h5
  simp only [if0, if_icmp.holds, decide_eq_true_eq, beq_iff_eq, bne_iff_ne, ne_eq, h3, GT.gt, GE.ge]
  simp only [h1, h2, h4, h5, Int64.lt_iff_toInt_lt, Int64.le_iff_toInt_le, Int64.toInt_inj]
  simp
end Layer
section Layer2
variable {p : Program} {l : Launch} {e : Env} {R : Room} {s : State} {m : MethodId} {args : Array Value} {below : List Frame} {meth : Method} {c : Code} {T T' : State} {locs : List Loc} {cells slots : Nat} {Fe : Outcome → State → List Loc → Prop} {Q : Option Value → Heap → List Loc → Prop} {pc pc' : Nat} {Ls l' : Array Slot} {g g' : JFrame} {Z : State} {a0 : Array Value} {h : Heap} {own : String} {rest st : List Value}
theorem Ok.new {C : String} {index n : Nat} (X : Stand p l e R s m args below meth c T locs cells slots) (hx : p.tables.exec = Jvm.exec) (hZ : Z.Warmed39 s.vm) (hown : s.vm.findClass own = some m.cls) (w : (Jvm.Cond.classLink own index C).before a0 Z = true) (wi : (Jvm.Cond.instantiable C n).before a0 Z = true) (wz : (Jvm.Cond.initialized C).before a0 Z = true) (eT : T.heap = h) (hd : decode c.code pc = .ok (.new index, 3)) (hp : pc + 3 = pc') (hc : cells + 1 ≤ R.cells) (hl : slots + n ≤ R.slots)
    (k : ∀ (T' : State) (h' : Heap) (a : Addr), a = h.size → Stand p l e R s m args below meth c T' locs (cells + 1) (slots + n) → T'.heap = h' → Ext h h' → Exa Z h' a C → (∀ {O nm d : String} {ty : FieldType}, Laid Z a0 C O nm d → parseFieldDescriptor d = some ty → Fld Z h' a O nm d (defaultValue ty)) → Ok p e below Fe Q T' (mkF m pc' Ls (.ref a :: st))) : Ok p e below Fe Q T (mkF m pc Ls st) := by
  subst hp
  obtain ⟨T1, h1, X1, e1, E1, A1, D1, -, st1⟩ := newO X hx hZ hown w wi wz eT (g := mkF m pc Ls st) rfl hd hc hl
  exact Ok.st st1 (k T1 h1 _ rfl X1 e1 E1 A1 D1)
theorem Ok.initO {index : Nat} {a : Addr} {W : Nat} (X : Stand p l e R s m args below meth c T locs cells slots) (hx : p.tables.exec = Jvm.exec) (hZ : Z.Warmed39 s.vm) (hown : s.vm.findClass own = some m.cls) (w1 : (Jvm.Cond.methodLink own index Lib.objectInit).before a0 Z = true) (w2 : (Jvm.Cond.instanceMethod Lib.objectInit).before a0 Z = true) (w3 : (Jvm.Cond.code Lib.objectInit ⟨#[0xb1]⟩ 1 none).before a0 Z = true) (eT : T.heap = h) (hsize : Ls.size = c.maxLocals) (hd : decode c.code pc = .ok (.invokespecial index, 3)) (hp : pc + 3 = pc') (hf : 1 ≤ R.frames) (hW : (rest.map fun v => v.category).sum ≤ W) (hl : W + 12 ≤ R.locals)
    (k : ∀ (T' : State), Stand p l e R s m args below meth c T' locs cells slots → T'.heap = h → Ok p e below Fe Q T' (mkF m pc' Ls rest)) : Ok p e below Fe Q T (mkF m pc Ls (.ref a :: rest)) := by
  subst hp
  obtain ⟨T1, X1, e1, st1⟩ := Jvm.RoadKit.initO X hx hZ hown w1 w2 w3 eT (g := mkF m pc Ls (.ref a :: rest)) rfl hsize rfl hd hf (W := W) (by show 2 * 0 + _ ≤ _; omega) hl
  exact Ok.st st1 (k T1 X1 e1)
theorem Ok.getF {R0 O n d host : String} {index : Nat} {a : Addr} {v : Value} (X : Stand p l e R s m args below meth c T locs cells slots) (hx : p.tables.exec = Jvm.exec) (hZ : Z.Warmed39 s.vm) (hown : s.vm.findClass own = some m.cls) (w : (Jvm.Cond.fieldLink own index R0 n d).before a0 Z = true ∨ (Jvm.Cond.fieldLinkNest own index R0 n d host).before a0 Z = true) (via : Via Z R0 O n d) (eT : T.heap = h) (F : Fld Z h a O n d v) (hd : decode c.code pc = .ok (.getfield index, 3)) (hp : pc + 3 = pc')
    (k : ∀ (T' : State), Stand p l e R s m args below meth c T' locs cells slots → T'.heap = h → Ok p e below Fe Q T' (mkF m pc' Ls (v :: rest))) : Ok p e below Fe Q T (mkF m pc Ls (.ref a :: rest)) := by
  subst hp
  obtain ⟨T1, X1, e1, st1⟩ := Jvm.RoadKit.getF X hx hZ hown w via eT F (g := mkF m pc Ls (.ref a :: rest)) rfl rfl hd
  exact Ok.st st1 (k T1 X1 e1)
theorem Ok.getS {R0 O n d host : String} {index : Nat} {v : Value} (X : Stand p l e R s m args below meth c T locs cells slots) (hx : p.tables.exec = Jvm.exec) (hZ : Z.Warmed39 s.vm) (hown : s.vm.findClass own = some m.cls) (w : (Jvm.Cond.fieldLink own index R0 n d).before a0 Z = true ∨ (Jvm.Cond.fieldLinkNest own index R0 n d host).before a0 Z = true) (via : Via Z R0 O n d) (eT : T.heap = h) (F : Sta Z h O n d v) (hd : decode c.code pc = .ok (.getstatic index, 3)) (hp : pc + 3 = pc')
    (k : ∀ (T' : State), Stand p l e R s m args below meth c T' locs cells slots → T'.heap = h → Ok p e below Fe Q T' (mkF m pc' Ls (v :: st))) : Ok p e below Fe Q T (mkF m pc Ls st) := by
  subst hp
  obtain ⟨T1, X1, e1, st1⟩ := Jvm.RoadKit.getS2 X hx hZ hown w via eT F (g := mkF m pc Ls st) rfl hd
  exact Ok.st st1 (k T1 X1 e1)
theorem Ok.putF {R0 O n d host C : String} {index kk : Nat} {ty : FieldType} {a : Addr} {v old : Value} (X : Stand p l e R s m args below meth c T locs cells slots) (hx : p.tables.exec = Jvm.exec) (hZ : Z.Warmed39 s.vm) (hown : s.vm.findClass own = some m.cls) (w : (Jvm.Cond.fieldLink own index R0 n d).before a0 Z = true ∨ (Jvm.Cond.fieldLinkNest own index R0 n d host).before a0 Z = true) (via : Via Z R0 O n d) (eT : T.heap = h) (F : Fld Z h a O n d old) (E : Exa Z h a C) (L : (Jvm.Cond.lays C O n d).before a0 Z = true ∨ ((Jvm.Cond.laysFinal C O n d).before a0 Z = true ∧ own = O ∧ meth.name = "<init>")) (wi : (Jvm.Cond.instantiable C kk).before a0 Z = true)
    (hty : parseFieldDescriptor d = some ty) (hn : narrow ty v = v) (hf : fits ty v = true) (hd : decode c.code pc = .ok (.putfield index, 3)) (hp : pc + 3 = pc')
    (k : ∀ (T' : State) (h' : Heap), Stand p l e R s m args below meth c T' (locs ++ [⟨a, Jvm.RoadKit.slotOf Z O n d⟩]) cells slots → T'.heap = h' → Wr h h' a (Jvm.RoadKit.slotOf Z O n d) v → Ok p e below Fe Q T' (mkF m pc' Ls rest)) : Ok p e below Fe Q T (mkF m pc Ls (v :: .ref a :: rest)) := by
  subst hp
  obtain ⟨T1, h1, X1, e1, W1, st1⟩ := Jvm.RoadKit.putF X hx hZ hown w via eT F E L wi hty hn hf (g := mkF m pc Ls (v :: .ref a :: rest)) rfl rfl hd
  exact Ok.st st1 (k T1 h1 X1 e1 W1)
theorem Ok.castY {K : String} {index : Nat} {a : Addr} (X : Stand p l e R s m args below meth c T locs cells slots) (hx : p.tables.exec = Jvm.exec) (hZ : Z.Warmed39 s.vm) (hown : s.vm.findClass own = some m.cls) (w : (Jvm.Cond.classLink own index K).before a0 Z = true) (eT : T.heap = h) (F : Ins Z h a K true) (hd : decode c.code pc = .ok (.checkcast index, 3)) (hp : pc + 3 = pc')
    (k : ∀ (T' : State), Stand p l e R s m args below meth c T' locs cells slots → T'.heap = h → Ok p e below Fe Q T' (mkF m pc' Ls (.ref a :: rest))) : Ok p e below Fe Q T (mkF m pc Ls (.ref a :: rest)) := by
  subst hp
  obtain ⟨T1, X1, e1, st1⟩ := Jvm.RoadKit.castY X hx hZ hown w eT F (g := mkF m pc Ls (.ref a :: rest)) rfl rfl hd
  exact Ok.st st1 (k T1 X1 e1)
theorem Ok.instY {K : String} {index : Nat} {a : Addr} (X : Stand p l e R s m args below meth c T locs cells slots) (hx : p.tables.exec = Jvm.exec) (hZ : Z.Warmed39 s.vm) (hown : s.vm.findClass own = some m.cls) (w : (Jvm.Cond.classLink own index K).before a0 Z = true) (eT : T.heap = h) (F : Ins Z h a K true) (hd : decode c.code pc = .ok (.instanceof index, 3)) (hp : pc + 3 = pc')
    (k : ∀ (T' : State), Stand p l e R s m args below meth c T' locs cells slots → T'.heap = h → Ok p e below Fe Q T' (mkF m pc' Ls (.int (1 : Int32) :: rest))) : Ok p e below Fe Q T (mkF m pc Ls (.ref a :: rest)) := by
  subst hp
  obtain ⟨T1, X1, e1, st1⟩ := Jvm.RoadKit.instY X hx hZ hown w eT F (g := mkF m pc Ls (.ref a :: rest)) rfl rfl hd
  exact Ok.st st1 (k T1 X1 e1)
theorem Ok.instNo {K C : String} {index : Nat} {a : Addr} (X : Stand p l e R s m args below meth c T locs cells slots) (hx : p.tables.exec = Jvm.exec) (hZ : Z.Warmed39 s.vm) (hown : s.vm.findClass own = some m.cls) (w : (Jvm.Cond.classLink own index K).before a0 Z = true) (eT : T.heap = h) (E : Exa Z h a C) (F : ∃ c t, Z.vm.findClass C = some c ∧ Z.vm.findClass K = some t ∧ Z.vm.assignable c t = false) (hd : decode c.code pc = .ok (.instanceof index, 3)) (hp : pc + 3 = pc')
    (k : ∀ (T' : State), Stand p l e R s m args below meth c T' locs cells slots → T'.heap = h → Ok p e below Fe Q T' (mkF m pc' Ls (.int (0 : Int32) :: rest))) : Ok p e below Fe Q T (mkF m pc Ls (.ref a :: rest)) := by
  subst hp
  obtain ⟨T1, X1, e1, st1⟩ := Jvm.RoadKit.instNo X hx hZ hown w eT E F (g := mkF m pc Ls (.ref a :: rest)) rfl rfl hd
  exact Ok.st st1 (k T1 X1 e1)
theorem Ok.instNull {index : Nat} (X : Stand p l e R s m args below meth c T locs cells slots) (hx : p.tables.exec = Jvm.exec) (hd : decode c.code pc = .ok (.instanceof index, 3)) (hp : pc + 3 = pc') (k : Ok p e below Fe Q T (mkF m pc' Ls (.int (0 : Int32) :: rest))) : Ok p e below Fe Q T (mkF m pc Ls (.null :: rest)) := by
  subst hp
  exact Ok.st (X.instanceofNull hx (g := mkF m pc Ls (.null :: rest)) rfl rfl hd) k
theorem Ok.newP {aty : ArrayType} {ty : FieldType} {n : Int32} {cap : Nat} (X : Stand p l e R s m args below meth c T locs cells slots) (hx : p.tables.exec = Jvm.exec) (hZ : Z.Warmed39 s.vm) (w : (Jvm.Cond.arrayClass ty).before a0 Z = true) (hty : newarray.typeOf aty = ty) (eT : T.heap = h) (hd : decode c.code pc = .ok (.newarray aty, 2)) (hp : pc + 2 = pc') (hn : ¬ n < 0) (hcap : n.toNatClampNeg ≤ cap) (hb : cap * 8 ≤ 536870912) (hc : cells + 1 ≤ R.cells) (hl : slots + cap ≤ R.slots)
    (k : ∀ (T' : State) (h' : Heap) (a : Addr) (cA : ClassId), a = h.size → Stand p l e R s m args below meth c T' locs (cells + 1) (slots + cap) → T'.heap = h' → Ext h h' → Arv Z h' a cA ty n [] (defaultValue ty) → Ok p e below Fe Q T' (mkF m pc' Ls (.ref a :: rest))) : Ok p e below Fe Q T (mkF m pc Ls (.int n :: rest)) := by
  subst hp hty
  obtain ⟨T1, h1, cA, X1, e1, E1, A1, st1⟩ := Jvm.RoadKit.newP X hx hZ w eT (g := mkF m pc Ls (.int n :: rest)) rfl hd rfl hn hcap hb hc hl
  exact Ok.st st1 (k T1 h1 _ cA rfl X1 e1 E1 (Arv.new A1 hn))
theorem Ok.stI {a : Addr} {kc : ClassId} {z j x : Int32} {vs : List Value} {dv : Value} (X : Stand p l e R s m args below meth c T locs cells slots) (hx : p.tables.exec = Jvm.exec) (hZ : Z.Warmed39 s.vm) (eT : T.heap = h) (V : Arv Z h a kc .int z vs dv) (hj : ¬ j < 0 ∧ j < z) {i : Nat} (hji : j.toNatClampNeg = i) (hi : i < vs.length) (hd : decode c.code pc = .ok (.iastore, 1)) (hp : pc + 1 = pc')
    (k : ∀ (T' : State) (h' : Heap), Stand p l e R s m args below meth c T' (locs ++ [⟨a, j.toNatClampNeg⟩]) cells slots → T'.heap = h' → Wr h h' a j.toNatClampNeg (.int x) → Arv Z h' a kc .int z (vs.set i (.int x)) dv → Ok p e below Fe Q T' (mkF m pc' Ls rest)) : Ok p e below Fe Q T (mkF m pc Ls (.int x :: .int j :: .ref a :: rest)) := by
  subst hp
  obtain ⟨cl, Ar, q, S1, N1, H1, G1⟩ := V
  obtain ⟨T1, h1, X1, e1, W1, st1⟩ := Jvm.RoadKit.stI X hx hZ eT Ar (j := j) (inb_of S1 hj) (g := mkF m pc Ls (.int x :: .int j :: .ref a :: rest)) rfl rfl hd
  exact Ok.st st1 (k T1 h1 X1 e1 W1 (Arv.set Ar q S1 N1 H1 G1 rfl W1 i hji hi))
theorem Ok.stC {a : Addr} {kc : ClassId} {z j x : Int32} {vs : List Value} {dv : Value} (X : Stand p l e R s m args below meth c T locs cells slots) (hx : p.tables.exec = Jvm.exec) (hZ : Z.Warmed39 s.vm) (eT : T.heap = h) (V : Arv Z h a kc .char z vs dv) (hj : ¬ j < 0 ∧ j < z) {i : Nat} (hji : j.toNatClampNeg = i) (hi : i < vs.length) (hd : decode c.code pc = .ok (.castore, 1)) (hp : pc + 1 = pc')
    (k : ∀ (T' : State) (h' : Heap), Stand p l e R s m args below meth c T' (locs ++ [⟨a, j.toNatClampNeg⟩]) cells slots → T'.heap = h' → Wr h h' a j.toNatClampNeg (.int (nar .char x)) → Arv Z h' a kc .char z (vs.set i (.int (nar .char x))) dv → Ok p e below Fe Q T' (mkF m pc' Ls rest)) : Ok p e below Fe Q T (mkF m pc Ls (.int x :: .int j :: .ref a :: rest)) := by
  subst hp
  obtain ⟨cl, Ar, q, S1, N1, H1, G1⟩ := V
  obtain ⟨T1, h1, X1, e1, W1, st1⟩ := Jvm.RoadKit.stC X hx hZ eT Ar (j := j) (inb_of S1 hj) (g := mkF m pc Ls (.int x :: .int j :: .ref a :: rest)) rfl rfl hd
  exact Ok.st st1 (k T1 h1 X1 e1 W1 (Arv.set Ar q S1 N1 H1 G1 (fits_nar_char _) W1 i hji hi))
theorem Ok.stB {a : Addr} {kc : ClassId} {z j x : Int32} {vs : List Value} {dv : Value} (X : Stand p l e R s m args below meth c T locs cells slots) (hx : p.tables.exec = Jvm.exec) (hZ : Z.Warmed39 s.vm) (eT : T.heap = h) (V : Arv Z h a kc .byte z vs dv) (hj : ¬ j < 0 ∧ j < z) {i : Nat} (hji : j.toNatClampNeg = i) (hi : i < vs.length) (hd : decode c.code pc = .ok (.bastore, 1)) (hp : pc + 1 = pc')
    (k : ∀ (T' : State) (h' : Heap), Stand p l e R s m args below meth c T' (locs ++ [⟨a, j.toNatClampNeg⟩]) cells slots → T'.heap = h' → Wr h h' a j.toNatClampNeg (.int x.toInt8.toInt32) → Arv Z h' a kc .byte z (vs.set i (.int x.toInt8.toInt32)) dv → Ok p e below Fe Q T' (mkF m pc' Ls rest)) : Ok p e below Fe Q T (mkF m pc Ls (.int x :: .int j :: .ref a :: rest)) := by
  subst hp
  obtain ⟨cl, Ar, q, S1, N1, H1, G1⟩ := V
  obtain ⟨T1, h1, X1, e1, W1, st1⟩ := Jvm.RoadKit.stB X hx hZ eT Ar (j := j) (inb_of S1 hj) (g := mkF m pc Ls (.int x :: .int j :: .ref a :: rest)) rfl rfl hd
  exact Ok.st st1 (k T1 h1 X1 e1 W1 (Arv.set Ar q S1 N1 H1 G1 (fits_nar_byte _) W1 i hji hi))
theorem Ok.len {a : Addr} {kc : ClassId} {ty : FieldType} {z : Int32} {vs : List Value} {dv : Value} (X : Stand p l e R s m args below meth c T locs cells slots) (hx : p.tables.exec = Jvm.exec) (hZ : Z.Warmed39 s.vm) (eT : T.heap = h) (V : Arv Z h a kc ty z vs dv) (hd : decode c.code pc = .ok (.arraylength, 1)) (hp : pc + 1 = pc') (k : Ok p e below Fe Q T (mkF m pc' Ls (.int z :: rest))) : Ok p e below Fe Q T (mkF m pc Ls (.ref a :: rest)) := by
  subst hp
  obtain ⟨cl, Ar, q, S1, N1, H1, G1⟩ := V
  refine Ok.st (X.arraylength hx (by rw [eT]; exact Ar.1) (State.isArrayOf_alike hZ.alike Ar.2.1) (g := mkF m pc Ls (.ref a :: rest)) rfl rfl hd) ?_
  rw [len_of S1 N1]
  exact k
theorem Ok.ldI {a : Addr} {kc : ClassId} {z j : Int32} {v : Value} {vs : List Value} {dv : Value} (X : Stand p l e R s m args below meth c T locs cells slots) (hx : p.tables.exec = Jvm.exec) (hZ : Z.Warmed39 s.vm) (eT : T.heap = h) (V : Arv Z h a kc .int z vs dv) (hj : ¬ j < 0 ∧ j < z) (hv : vs.getD j.toNatClampNeg dv = v) (hd : decode c.code pc = .ok (.iaload, 1)) (hp : pc + 1 = pc') (k : Ok p e below Fe Q T (mkF m pc' Ls (v :: rest))) : Ok p e below Fe Q T (mkF m pc Ls (.int j :: .ref a :: rest)) := by
  subst hp
  obtain ⟨cl, Ar, q, S1, N1, H1, G1⟩ := V
  exact Ok.st (X.iaload hx (j := j) (v := v) (by rw [eT]; exact Ar.1) (State.isArrayOf_alike hZ.alike Ar.2.1) Ar.2.2 (inb_of S1 hj) (H1.at (inb_of S1 hj) hv) (g := mkF m pc Ls (.int j :: .ref a :: rest)) rfl rfl hd) k
theorem Ok.ldB {a : Addr} {kc : ClassId} {z j : Int32} {v : Value} {vs : List Value} {dv : Value} (X : Stand p l e R s m args below meth c T locs cells slots) (hx : p.tables.exec = Jvm.exec) (hZ : Z.Warmed39 s.vm) (eT : T.heap = h) (V : Arv Z h a kc .byte z vs dv) (hj : ¬ j < 0 ∧ j < z) (hv : vs.getD j.toNatClampNeg dv = v) (hd : decode c.code pc = .ok (.baload, 1)) (hp : pc + 1 = pc') (k : Ok p e below Fe Q T (mkF m pc' Ls (v :: rest))) : Ok p e below Fe Q T (mkF m pc Ls (.int j :: .ref a :: rest)) := by
  subst hp
  obtain ⟨cl, Ar, q, S1, N1, H1, G1⟩ := V
  exact Ok.st (X.baloadBytes hx (j := j) (v := v) (by rw [eT]; exact Ar.1) (State.isArrayOf_alike hZ.alike Ar.2.1) Ar.2.2 (inb_of S1 hj) (H1.at (inb_of S1 hj) hv) (g := mkF m pc Ls (.int j :: .ref a :: rest)) rfl rfl hd) k
theorem Ok.ldC {a : Addr} {kc : ClassId} {z j : Int32} {v : Value} {vs : List Value} {dv : Value} (X : Stand p l e R s m args below meth c T locs cells slots) (hx : p.tables.exec = Jvm.exec) (hZ : Z.Warmed39 s.vm) (eT : T.heap = h) (V : Arv Z h a kc .char z vs dv) (hj : ¬ j < 0 ∧ j < z) (hv : vs.getD j.toNatClampNeg dv = v) (hd : decode c.code pc = .ok (.caload, 1)) (hp : pc + 1 = pc') (k : Ok p e below Fe Q T (mkF m pc' Ls (v :: rest))) : Ok p e below Fe Q T (mkF m pc Ls (.int j :: .ref a :: rest)) := by
  subst hp
  obtain ⟨cl, Ar, q, S1, N1, H1, G1⟩ := V
  exact Ok.st (X.caload hx (j := j) (v := v) (by rw [eT]; exact Ar.1) (State.isArrayOf_alike hZ.alike Ar.2.1) Ar.2.2 (inb_of S1 hj) (H1.at (inb_of S1 hj) hv) (g := mkF m pc Ls (.int j :: .ref a :: rest)) rfl rfl hd) k
theorem Ok.aald {a : Addr} {cl : Cell} {ty : FieldType} {j : Int32} {v : Value} (X : Stand p l e R s m args below meth c T locs cells slots) (hx : p.tables.exec = Jvm.exec) (hZ : Z.Warmed39 s.vm) (eT : T.heap = h) (A : Arr Z h a cl ty) (hty : ty.isReference = true) (hin : ¬ (j < 0 ∨ cl.slots.size ≤ j.toNatClampNeg)) (hv : cl.slots[j.toNatClampNeg]? = some v) (hd : decode c.code pc = .ok (.aaload, 1)) (hp : pc + 1 = pc') (k : Ok p e below Fe Q T (mkF m pc' Ls (v :: rest))) : Ok p e below Fe Q T (mkF m pc Ls (.int j :: .ref a :: rest)) := by
  subst hp
  exact Ok.st (X.aaload hx (j := j) (v := v) (by rw [eT]; exact A.1) (State.isArrayOf_alike hZ.alike A.2.1) hty A.2.2 hin hv (g := mkF m pc Ls (.int j :: .ref a :: rest)) rfl rfl hd) k
theorem Ok.ldcF {index : Nat} {v : UInt32} (X : Stand p l e R s m args below meth c T locs cells slots) (hx : p.tables.exec = Jvm.exec) (hZ : Z.Warmed39 s.vm) (hown : s.vm.findClass own = some m.cls) (w : (Jvm.Cond.constantFloat own index v).before a0 Z = true) (hd : decode c.code pc = .ok (.ldc index, 2)) (hp : pc + 2 = pc') (k : Ok p e below Fe Q T (mkF m pc' Ls (.float v :: st))) : Ok p e below Fe Q T (mkF m pc Ls st) := by
  subst hp
  exact Ok.st (X.ldcFloatC hx hown (mvT hZ w) (g := mkF m pc Ls st) rfl hd) k
theorem own_root {O K : String} {n : Nat} (w : (Jvm.Cond.noSuperclass O).before a0 Z = true) (wk : (Jvm.Cond.instantiable K n).before a0 Z = true) (hn : O ≠ K) : NS Z O K := by
  obtain ⟨c, k, h1, h2, h3, -, -⟩ := Cond.noSuperclass_spec w
  obtain ⟨t, k', g1, -⟩ := Cond.instantiable_spec wk
  have ne := ids_ne h1 g1 hn
  refine ⟨c, t, h1, g1, fun fuel => ?_⟩
  cases fuel with
  | zero => rfl
  | succ f => simp [Vm.isSubclassAux, ne, h2, h3]
theorem own_no {C S K : String} {n : Nat} (w : (Jvm.Cond.superclass C S).before a0 Z = true) (wk : (Jvm.Cond.instantiable K n).before a0 Z = true) (ns : NS Z C K) (hn : C ≠ K) : ∃ c t, Z.vm.findClass C = some c ∧ Z.vm.findClass K = some t ∧ Z.vm.assignable c t = false := by
  obtain ⟨c, t, h0, g0, n3⟩ := ns
  obtain ⟨p, k, kp, h1, h2, h3, h4, h5, -, h7⟩ := Cond.superclass_spec h0 w
  obtain ⟨t', k', g1, g2, g5, g7, -⟩ := Cond.instantiable_spec wk
  cases g0.symm.trans g1
  have g8 : k'.isInterface = false := by
    cases hq : k'.isInterface
    · rfl
    · rw [hq] at g7
      cases g7
  have ne := ids_ne h0 g0 hn
  refine ⟨c, t, h0, g0, ?_⟩
  show Z.vm.assignableAux (255 + 1) c t = false
  simp [Vm.assignableAux, ne, h2, g2, h5, g5, g8, Vm.isSubclass, n3]
end Layer2
theorem i32_subw {x y : Int32} (h0 : 0 ≤ y.toInt) : (x - y).toInt = x.toInt - y.toInt ∨ ((x - y).toInt = x.toInt - y.toInt + 4294967296 ∧ x.toInt - y.toInt < -2147483648) := by
  have a := x.toInt_lt
  have b := x.le_toInt
  have c := y.toInt_lt
  by_cases q : x.toInt - y.toInt < -2147483648
  · right
    refine ⟨?_, q⟩
    rw [Int32.toInt_sub]
    have e : x.toInt - y.toInt = (x.toInt - y.toInt + 4294967296) + (-1) * ((2 ^ 32 : Nat) : Int) := by omega
    conv => lhs; rw [e, Int.add_mul_bmod_self_right]
    exact Jvm.Kit.bmod32 (by omega) (by omega)
  · left
    exact Jvm.Kit.i32_sub (by omega) (by omega)
theorem mask30 (x : Int32) : 0 ≤ (x &&& (1073741823 : Int32)).toInt ∧ (x &&& (1073741823 : Int32)).toInt ≤ 1073741823 := by
  rw [Jvm.Kit.i32_mask x 1073741823 (k := 30) (by decide) (by decide)]
  omega
theorem succ_ne {x : Int32} (h0 : 0 ≤ x.toInt) (h1 : x.toInt ≤ 1073741823) : x + 1 ≠ 0 := fun q => by
  have e1 : ((1 : Int32)).toInt = 1 := rfl
  have h := Jvm.Kit.i32_add (p := x) (q := 1) (by rw [e1]; omega) (by rw [e1]; omega)
  rw [q, e1] at h
  simp at h
  omega
theorem add_back (x y : Int32) : y + (x - y) = x := by
  rw [Int32.add_comm, Int32.sub_add_cancel]
theorem pd_0 : parseMethodDescriptor "(II)V" = some ⟨[.int, .int], none⟩ := by decide +kernel
theorem pd_1 : parseMethodDescriptor "()V" = some ⟨[], none⟩ := by decide +kernel
theorem pd_2 : parseMethodDescriptor "(I)I" = some ⟨[.int], some .int⟩ := by decide +kernel
theorem Sta_keep {Z : State} {h h' : Heap} {C n d : String} {w : Value} {ws : List Addr} (F : Sta Z h C n d w) (K : Keep h h' ws) (q : ∀ x ∈ ws, ∃ k, Exa Z h x k) : Sta Z h' C n d w := by
  obtain ⟨cf, i, k, f, st, cell, h1, h2, h3, h4, h5, h6, h7⟩ := F
  refine ⟨cf, i, k, f, st, cell, h1, h2, h3, h4, K.2.1 st cell h5 fun hm => ?_, h6, h7⟩
  obtain ⟨k', c', k'', g1, -, -, g4, -⟩ := q st hm
  cases h5.symm.trans g1
  rw [h6] at g4
  cases g4
theorem d10_0 : decode jdk_22_method_1_code 0 = .ok (.aload_n 0, 1) := by decide +kernel
theorem d10_1 : decode jdk_22_method_1_code 1 = .ok (.invokespecial 1, 3) := by decide +kernel
theorem d10_4 : decode jdk_22_method_1_code 4 = .ok (.return_, 1) := by decide +kernel
theorem pn_0 : plainName "java/util/AbstractCollection" = true := by first | (simp [plainName, overriddenIn]; done) | decide +kernel
theorem ef_10 (m : MethodId) (x0 : Addr) : entryFrame m #[(.ref x0)] 1 = mkF m 0 #[.val (.ref x0)] [] := by first | (simp [entryFrame, mkF, argsToLocals, Value.category]; done) | rfl
def Q10 (Z : State) (a1 : Addr) (h0 : Heap) (n0 : Nat) (v : Option Value) (h : Heap) (L : List Loc) : Prop := v = none ∧ Fr n0 L ∧ h = h0
set_option maxRecDepth 65536 in
set_option maxHeartbeats 40000000 in
theorem rm10 (l : Launch) (Z : State) (a0 : Array Value) (hw : ∀ d ∈ tables_1, d.before a0 Z = true) (a1 : Addr) (h0 : Heap) (n0 : Nat) (Z0 : n0 ≤ h0.size)  :
    MetN l Z (⟨"java/util/AbstractCollection", "<init>", "()V"⟩ : MethodName) jdk_22_method_1_code 1 none [] ({ frames := 1, cells := 0, slots := 0, locals := 12 } : Room) #[(.ref a1)] h0 (Q10 Z a1 h0 n0) := by
  refine met_n (plainFor_of_name pn_0) (fun m => ef_10 m a1) ?_
  intro p e s m below meth c s₁ X0 hx hby hml hZ hown hnm hret hlk e0
  replace hown : s.vm.findClass "java/util/AbstractCollection" = some m.cls := hown
  replace hnm : meth.name = "<init>" := hnm
  replace hret : meth.sig.returnType = none := hret
  have N0 := Fr.nil n0
  have K0 : Keep h0 h0 [] := Keep.refl _ _
  show Ok p e below _ _ s₁ (mkF m 0 #[.val (.ref a1)] [])
  refine Ok.aloadN (pc' := 1) X0 hx (hb hby d10_0) rfl rfl rfl ?_
  refine Ok.initO (pc' := 4) (W := 0) X0 hx hZ hown (hw _ (List.mem_of_getElem? (i := 48) rfl)) (hw _ (List.mem_of_getElem? (i := 8) rfl)) (hw _ (List.mem_of_getElem? (i := 9) rfl)) e0 (by rw [hml]; rfl) (hb hby d10_1) rfl (by decide) (Nat.le_of_eq rfl) (by decide) ?_
  intro T1 X1 e1
  refine Ok.retV X1 hx hret hlk (hb hby d10_4) (by decide) (by decide) ?_
  show Q10 Z a1 h0 n0 _ T1.heap _
  rw [e1]
  exact ⟨rfl, N0, rfl⟩
theorem d11_0 : decode jdk_71_method_1_code 0 = .ok (.aload_n 0, 1) := by decide +kernel
theorem d11_1 : decode jdk_71_method_1_code 1 = .ok (.invokespecial 1, 3) := by decide +kernel
theorem d11_4 : decode jdk_71_method_1_code 4 = .ok (.return_, 1) := by decide +kernel
theorem pn_1 : plainName "java/util/AbstractMap" = true := by first | (simp [plainName, overriddenIn]; done) | decide +kernel
theorem ef_11 (m : MethodId) (x0 : Addr) : entryFrame m #[(.ref x0)] 1 = mkF m 0 #[.val (.ref x0)] [] := by first | (simp [entryFrame, mkF, argsToLocals, Value.category]; done) | rfl
def Q11 (Z : State) (a1 : Addr) (h0 : Heap) (n0 : Nat) (v : Option Value) (h : Heap) (L : List Loc) : Prop := v = none ∧ Fr n0 L ∧ h = h0
set_option maxRecDepth 65536 in
set_option maxHeartbeats 40000000 in
theorem rm11 (l : Launch) (Z : State) (a0 : Array Value) (hw : ∀ d ∈ tables_1, d.before a0 Z = true) (a1 : Addr) (h0 : Heap) (n0 : Nat) (Z0 : n0 ≤ h0.size)  :
    MetN l Z (⟨"java/util/AbstractMap", "<init>", "()V"⟩ : MethodName) jdk_71_method_1_code 1 none [] ({ frames := 1, cells := 0, slots := 0, locals := 12 } : Room) #[(.ref a1)] h0 (Q11 Z a1 h0 n0) := by
  refine met_n (plainFor_of_name pn_1) (fun m => ef_11 m a1) ?_
  intro p e s m below meth c s₁ X0 hx hby hml hZ hown hnm hret hlk e0
  replace hown : s.vm.findClass "java/util/AbstractMap" = some m.cls := hown
  replace hnm : meth.name = "<init>" := hnm
  replace hret : meth.sig.returnType = none := hret
  have N0 := Fr.nil n0
  have K0 : Keep h0 h0 [] := Keep.refl _ _
  show Ok p e below _ _ s₁ (mkF m 0 #[.val (.ref a1)] [])
  refine Ok.aloadN (pc' := 1) X0 hx (hb hby d11_0) rfl rfl rfl ?_
  refine Ok.initO (pc' := 4) (W := 0) X0 hx hZ hown (hw _ (List.mem_of_getElem? (i := 22) rfl)) (hw _ (List.mem_of_getElem? (i := 8) rfl)) (hw _ (List.mem_of_getElem? (i := 9) rfl)) e0 (by rw [hml]; rfl) (hb hby d11_1) rfl (by decide) (Nat.le_of_eq rfl) (by decide) ?_
  intro T2 X2 e2
  refine Ok.retV X2 hx hret hlk (hb hby d11_4) (by decide) (by decide) ?_
  show Q11 Z a1 h0 n0 _ T2.heap _
  rw [e2]
  exact ⟨rfl, N0, rfl⟩
theorem d12_0 : decode jdk_69_method_7_code 0 = .ok (.aload_n 0, 1) := by decide +kernel
theorem d12_1 : decode jdk_69_method_7_code 1 = .ok (.invokespecial 43, 3) := by decide +kernel
theorem d12_4 : decode jdk_69_method_7_code 4 = .ok (.aload_n 0, 1) := by decide +kernel
theorem d12_5 : decode jdk_69_method_7_code 5 = .ok (.ldc 92, 2) := by decide +kernel
theorem d12_7 : decode jdk_69_method_7_code 7 = .ok (.putfield 81, 3) := by decide +kernel
theorem d12_10 : decode jdk_69_method_7_code 10 = .ok (.return_, 1) := by decide +kernel
theorem pn_2 : plainName "java/util/HashMap" = true := by first | (simp [plainName, overriddenIn]; done) | decide +kernel
theorem ef_12 (m : MethodId) (x0 : Addr) : entryFrame m #[(.ref x0)] 1 = mkF m 0 #[.val (.ref x0)] [] := by first | (simp [entryFrame, mkF, argsToLocals, Value.category]; done) | rfl
def Q12 (Z : State) (a1 : Addr) (u_loadFactor : Value) (h0 : Heap) (n0 : Nat) (v : Option Value) (h : Heap) (L : List Loc) : Prop := v = none ∧ Fr n0 L ∧ Keep h0 h [a1] ∧ Exa Z h a1 "java/util/HashMap" ∧ Fld Z h a1 "java/util/HashMap" "loadFactor" "F" (.float (1061158912 : UInt32))
set_option maxRecDepth 65536 in
set_option maxHeartbeats 40000000 in
theorem rm12 (l : Launch) (Z : State) (a0 : Array Value) (hw : ∀ d ∈ tables_1, d.before a0 Z = true) (a1 : Addr) (u_loadFactor : Value) (h0 : Heap) (n0 : Nat) (Z0 : n0 ≤ h0.size) (E_a1 : Exa Z h0 a1 "java/util/HashMap") (g_a1 : n0 ≤ a1) (F_loadFactor : Fld Z h0 a1 "java/util/HashMap" "loadFactor" "F" u_loadFactor) :
    MetN l Z (⟨"java/util/HashMap", "<init>", "()V"⟩ : MethodName) jdk_69_method_7_code 1 none [] ({ frames := 2, cells := 0, slots := 0, locals := 24 } : Room) #[(.ref a1)] h0 (Q12 Z a1 u_loadFactor h0 n0) := by
  refine met_n (plainFor_of_name pn_2) (fun m => ef_12 m a1) ?_
  intro p e s m below meth c s₁ X0 hx hby hml hZ hown hnm hret hlk e0
  replace hown : s.vm.findClass "java/util/HashMap" = some m.cls := hown
  replace hnm : meth.name = "<init>" := hnm
  replace hret : meth.sig.returnType = none := hret
  have N0 := Fr.nil n0
  have K0 : Keep h0 h0 [a1] := Keep.refl _ _
  show Ok p e below _ _ s₁ (mkF m 0 #[.val (.ref a1)] [])
  refine Ok.aloadN (pc' := 1) X0 hx (hb hby d12_0) rfl rfl rfl ?_
  refine Ok.init (pc' := 4) (W := 0) (a := a1)  (argsL := []) (rest := []) X0 hx hZ hown (rm11 l Z a0 hw a1 h0 n0 Z0 ) rfl (hw _ (List.mem_of_getElem? (i := 16) rfl)) (hw _ (List.mem_of_getElem? (i := 17) rfl)) (hw _ (List.mem_of_getElem? (i := 20) rfl)) (hw _ (List.mem_of_getElem? (i := 21) rfl)) (by decide) e0 (by decide) (by decide) (by decide) (by decide) (lenOf pd_1 rfl) rfl rfl (Nat.le_of_eq rfl) (by rw [hml]; rfl) (hb hby d12_1) rfl ?_
  intro v3 T3 L3 X3 hQ3
  obtain ⟨rfl, Nq3, eq3⟩ := hQ3
  have N3 := Fr.app N0 Nq3
  show Ok p e below _ _ T3 (mkF m 4 #[.val (.ref a1)] [])
  refine Ok.aloadN (pc' := 5) X3 hx (hb hby d12_4) rfl rfl rfl ?_
  refine Ok.ldcF (pc' := 7) (v := (1061158912 : UInt32)) X3 hx hZ hown (hw _ (List.mem_of_getElem? (i := 23) rfl)) (hb hby d12_5) rfl ?_
  refine Ok.putF (pc' := 10) (ty := .float) X3 hx hZ hown (host := "") (Or.inl (hw _ (List.mem_of_getElem? (i := 24) rfl))) Via.refl eq3 F_loadFactor E_a1 (Or.inr ⟨(hw _ (List.mem_of_getElem? (i := 25) rfl)), rfl, hnm⟩) (hw _ (List.mem_of_getElem? (i := 11) rfl)) (by decide) rfl rfl (hb hby d12_7) rfl ?_
  intro T4 h4 X4 e4 W4
  replace F_loadFactor := F_loadFactor.same W4
  replace E_a1 := E_a1.wr W4
  have N4 := Fr.snoc X4 N3 g_a1
  have K4 : Keep h0 h4 [a1] := K0.wr W4 (Or.inl (List.mem_of_getElem? (i := 0) rfl))
  have Z5 : n0 ≤ h4.size := Nat.le_trans Z0 (Keep.of_wr W4).1
  refine Ok.retV X4 hx hret hlk (hb hby d12_10) (by decide) (by decide) ?_
  show Q12 Z a1 u_loadFactor h0 n0 _ T4.heap _
  rw [e4]
  exact ⟨rfl, N4, K4, E_a1, F_loadFactor⟩
theorem d13_0 : decode jdk_39_method_1_code 0 = .ok (.aload_n 0, 1) := by decide +kernel
theorem d13_1 : decode jdk_39_method_1_code 1 = .ok (.invokespecial 1, 3) := by decide +kernel
theorem d13_4 : decode jdk_39_method_1_code 4 = .ok (.aload_n 0, 1) := by decide +kernel
theorem d13_5 : decode jdk_39_method_1_code 5 = .ok (.iconst 0, 1) := by decide +kernel
theorem d13_6 : decode jdk_39_method_1_code 6 = .ok (.putfield 7, 3) := by decide +kernel
theorem d13_9 : decode jdk_39_method_1_code 9 = .ok (.return_, 1) := by decide +kernel
theorem pn_3 : plainName "java/util/AbstractList" = true := by first | (simp [plainName, overriddenIn]; done) | decide +kernel
theorem ef_13 (m : MethodId) (x0 : Addr) : entryFrame m #[(.ref x0)] 1 = mkF m 0 #[.val (.ref x0)] [] := by first | (simp [entryFrame, mkF, argsToLocals, Value.category]; done) | rfl
def Q13 (Z : State) (a1 : Addr) (u1 : Value) (u2 : Value) (h0 : Heap) (n0 : Nat) (v : Option Value) (h : Heap) (L : List Loc) : Prop := v = none ∧ Fr n0 L ∧ Keep h0 h [a1] ∧ Exa Z h a1 "java/util/ArrayList" ∧ Fld Z h a1 "java/util/ArrayList" "elementData" "[Ljava/lang/Object;" u2
set_option maxRecDepth 65536 in
set_option maxHeartbeats 40000000 in
theorem rm13 (l : Launch) (Z : State) (a0 : Array Value) (hw : ∀ d ∈ tables_1, d.before a0 Z = true) (a1 : Addr) (u1 : Value) (u2 : Value) (h0 : Heap) (n0 : Nat) (Z0 : n0 ≤ h0.size) (E_a1 : Exa Z h0 a1 "java/util/ArrayList") (g_a1 : n0 ≤ a1) (F_1 : Fld Z h0 a1 "java/util/AbstractList" "modCount" "I" u1) (F_2 : Fld Z h0 a1 "java/util/ArrayList" "elementData" "[Ljava/lang/Object;" u2) :
    MetN l Z (⟨"java/util/AbstractList", "<init>", "()V"⟩ : MethodName) jdk_39_method_1_code 1 none [] ({ frames := 2, cells := 0, slots := 0, locals := 24 } : Room) #[(.ref a1)] h0 (Q13 Z a1 u1 u2 h0 n0) := by
  refine met_n (plainFor_of_name pn_3) (fun m => ef_13 m a1) ?_
  intro p e s m below meth c s₁ X0 hx hby hml hZ hown hnm hret hlk e0
  replace hown : s.vm.findClass "java/util/AbstractList" = some m.cls := hown
  replace hnm : meth.name = "<init>" := hnm
  replace hret : meth.sig.returnType = none := hret
  have N0 := Fr.nil n0
  have K0 : Keep h0 h0 [a1] := Keep.refl _ _
  show Ok p e below _ _ s₁ (mkF m 0 #[.val (.ref a1)] [])
  refine Ok.aloadN (pc' := 1) X0 hx (hb hby d13_0) rfl rfl rfl ?_
  refine Ok.init (pc' := 4) (W := 0) (a := a1)  (argsL := []) (rest := []) X0 hx hZ hown (rm10 l Z a0 hw a1 h0 n0 Z0 ) rfl (hw _ (List.mem_of_getElem? (i := 42) rfl)) (hw _ (List.mem_of_getElem? (i := 43) rfl)) (hw _ (List.mem_of_getElem? (i := 46) rfl)) (hw _ (List.mem_of_getElem? (i := 47) rfl)) (by decide) e0 (by decide) (by decide) (by decide) (by decide) (lenOf pd_1 rfl) rfl rfl (Nat.le_of_eq rfl) (by rw [hml]; rfl) (hb hby d13_1) rfl ?_
  intro v6 T6 L6 X6 hQ6
  obtain ⟨rfl, Nq6, eq6⟩ := hQ6
  have N6 := Fr.app N0 Nq6
  show Ok p e below _ _ T6 (mkF m 4 #[.val (.ref a1)] [])
  refine Ok.aloadN (pc' := 5) X6 hx (hb hby d13_4) rfl rfl rfl ?_
  refine Ok.iconst (z := (0 : Int32)) (pc' := 6) X6 hx (hb hby d13_5) rfl rfl ?_
  refine Ok.putF (pc' := 9) (ty := .int) X6 hx hZ hown (host := "") (Or.inl (hw _ (List.mem_of_getElem? (i := 49) rfl))) Via.refl eq6 F_1 E_a1 (Or.inl (hw _ (List.mem_of_getElem? (i := 50) rfl))) (hw _ (List.mem_of_getElem? (i := 31) rfl)) (by decide) rfl rfl (hb hby d13_6) rfl ?_
  intro T7 h7 X7 e7 W7
  replace F_1 := F_1.same W7
  replace E_a1 := E_a1.wr W7
  replace F_2 := F_2.other W7 (Or.inr (slot_ne (Or.inl (hw _ (List.mem_of_getElem? (i := 53) rfl))) (Or.inl (hw _ (List.mem_of_getElem? (i := 50) rfl))) (by decide) (t := (.array (.object "java/lang/Object"))) (t' := .int) (by decide) (by decide)))
  have N7 := Fr.snoc X7 N6 g_a1
  have K7 : Keep h0 h7 [a1] := K0.wr W7 (Or.inl (List.mem_of_getElem? (i := 0) rfl))
  have Z8 : n0 ≤ h7.size := Nat.le_trans Z0 (Keep.of_wr W7).1
  refine Ok.retV X7 hx hret hlk (hb hby d13_9) (by decide) (by decide) ?_
  show Q13 Z a1 u1 u2 h0 n0 _ T7.heap _
  rw [e7]
  exact ⟨rfl, N7, K7, E_a1, F_2⟩
theorem d14_0 : decode jdk_38_method_2_code 0 = .ok (.aload_n 0, 1) := by decide +kernel
theorem d14_1 : decode jdk_38_method_2_code 1 = .ok (.invokespecial 1, 3) := by decide +kernel
theorem d14_4 : decode jdk_38_method_2_code 4 = .ok (.aload_n 0, 1) := by decide +kernel
theorem d14_5 : decode jdk_38_method_2_code 5 = .ok (.getstatic 39, 3) := by decide +kernel
theorem d14_8 : decode jdk_38_method_2_code 8 = .ok (.putfield 9, 3) := by decide +kernel
theorem d14_11 : decode jdk_38_method_2_code 11 = .ok (.return_, 1) := by decide +kernel
theorem pn_4 : plainName "java/util/ArrayList" = true := by first | (simp [plainName, overriddenIn]; done) | decide +kernel
theorem ef_14 (m : MethodId) (x0 : Addr) : entryFrame m #[(.ref x0)] 1 = mkF m 0 #[.val (.ref x0)] [] := by first | (simp [entryFrame, mkF, argsToLocals, Value.category]; done) | rfl
def Q14 (Z : State) (a1 : Addr) (u1 : Value) (u2 : Value) (ed : Addr) (h0 : Heap) (n0 : Nat) (v : Option Value) (h : Heap) (L : List Loc) : Prop := v = none ∧ Fr n0 L ∧ Keep h0 h [a1] ∧ Exa Z h a1 "java/util/ArrayList"
set_option maxRecDepth 65536 in
set_option maxHeartbeats 40000000 in
theorem rm14 (l : Launch) (Z : State) (a0 : Array Value) (hw : ∀ d ∈ tables_1, d.before a0 Z = true) (a1 : Addr) (u1 : Value) (u2 : Value) (ed : Addr) (h0 : Heap) (n0 : Nat) (Z0 : n0 ≤ h0.size) (E_a1 : Exa Z h0 a1 "java/util/ArrayList") (g_a1 : n0 ≤ a1) (F_1 : Fld Z h0 a1 "java/util/AbstractList" "modCount" "I" u1) (F_2 : Fld Z h0 a1 "java/util/ArrayList" "elementData" "[Ljava/lang/Object;" u2) (O_0 : Old Z n0 h0) (S_ed : Sta Z Z.heap "java/util/ArrayList" "DEFAULTCAPACITY_EMPTY_ELEMENTDATA" "[Ljava/lang/Object;" (.ref ed)) :
    MetN l Z (⟨"java/util/ArrayList", "<init>", "()V"⟩ : MethodName) jdk_38_method_2_code 1 none [] ({ frames := 3, cells := 0, slots := 0, locals := 36 } : Room) #[(.ref a1)] h0 (Q14 Z a1 u1 u2 ed h0 n0) := by
  refine met_n (plainFor_of_name pn_4) (fun m => ef_14 m a1) ?_
  intro p e s m below meth c s₁ X0 hx hby hml hZ hown hnm hret hlk e0
  replace hown : s.vm.findClass "java/util/ArrayList" = some m.cls := hown
  replace hnm : meth.name = "<init>" := hnm
  replace hret : meth.sig.returnType = none := hret
  have N0 := Fr.nil n0
  have K0 : Keep h0 h0 [a1] := Keep.refl _ _
  show Ok p e below _ _ s₁ (mkF m 0 #[.val (.ref a1)] [])
  refine Ok.aloadN (pc' := 1) X0 hx (hb hby d14_0) rfl rfl rfl ?_
  refine Ok.init (pc' := 4) (W := 0) (a := a1)  (argsL := []) (rest := []) X0 hx hZ hown (rm13 l Z a0 hw a1 u1 u2 h0 n0 Z0 E_a1 g_a1 F_1 F_2) rfl (hw _ (List.mem_of_getElem? (i := 36) rfl)) (hw _ (List.mem_of_getElem? (i := 37) rfl)) (hw _ (List.mem_of_getElem? (i := 40) rfl)) (hw _ (List.mem_of_getElem? (i := 41) rfl)) (by decide) e0 (by decide) (by decide) (by decide) (by decide) (lenOf pd_1 rfl) rfl rfl (Nat.le_of_eq rfl) (by rw [hml]; rfl) (hb hby d14_1) rfl ?_
  intro v9 T9 L9 X9 hQ9
  obtain ⟨rfl, Nq9, Kq9, Aq9, Fq9_2⟩ := hQ9
  have N9 := Fr.app N0 Nq9
  replace E_a1 := E_a1.keep Kq9
  replace O_0 := O_0.keep Kq9 (allS g_a1 all0)
  have K9' : Keep h0 T9.heap [a1] := K0.trans Kq9 (allS (Or.inl (List.mem_of_getElem? (i := 0) rfl)) all0)
  have Z10 : n0 ≤ T9.heap.size := Nat.le_trans Z0 Kq9.1
  show Ok p e below _ _ T9 (mkF m 4 #[.val (.ref a1)] [])
  refine Ok.aloadN (pc' := 5) X9 hx (hb hby d14_4) rfl rfl rfl ?_
  refine Ok.getS (pc' := 8) X9 hx hZ hown (host := "") (Or.inl (hw _ (List.mem_of_getElem? (i := 51) rfl))) Via.refl rfl (S_ed.ext O_0.2) (hb hby d14_5) rfl ?_
  intro T11 X11 e11
  refine Ok.putF (pc' := 11) (ty := (.array (.object "java/lang/Object"))) X11 hx hZ hown (host := "") (Or.inl (hw _ (List.mem_of_getElem? (i := 52) rfl))) Via.refl e11 Fq9_2 E_a1 (Or.inl (hw _ (List.mem_of_getElem? (i := 53) rfl))) (hw _ (List.mem_of_getElem? (i := 31) rfl)) (by decide) rfl rfl (hb hby d14_8) rfl ?_
  intro T12 h12 X12 e12 W12
  replace Fq9_2 := Fq9_2.same W12
  replace E_a1 := E_a1.wr W12
  replace O_0 := O_0.wr W12 g_a1
  have N12 := Fr.snoc X12 N9 g_a1
  have K12 : Keep h0 h12 [a1] := K9'.wr W12 (Or.inl (List.mem_of_getElem? (i := 0) rfl))
  have Z13 : n0 ≤ h12.size := Nat.le_trans Z10 (Keep.of_wr W12).1
  refine Ok.retV X12 hx hret hlk (hb hby d14_11) (by decide) (by decide) ?_
  show Q14 Z a1 u1 u2 ed h0 n0 _ T12.heap _
  rw [e12]
  exact ⟨rfl, N12, K12, E_a1⟩
theorem d15_0 : decode jdk_91_method_1_code 0 = .ok (.aload_n 0, 1) := by decide +kernel
theorem d15_1 : decode jdk_91_method_1_code 1 = .ok (.invokespecial 1, 3) := by decide +kernel
theorem d15_4 : decode jdk_91_method_1_code 4 = .ok (.return_, 1) := by decide +kernel
theorem pn_5 : plainName "java/util/AbstractSet" = true := by first | (simp [plainName, overriddenIn]; done) | decide +kernel
theorem ef_15 (m : MethodId) (x0 : Addr) : entryFrame m #[(.ref x0)] 1 = mkF m 0 #[.val (.ref x0)] [] := by first | (simp [entryFrame, mkF, argsToLocals, Value.category]; done) | rfl
def Q15 (Z : State) (a1 : Addr) (h0 : Heap) (n0 : Nat) (v : Option Value) (h : Heap) (L : List Loc) : Prop := v = none ∧ Fr n0 L ∧ h = h0
set_option maxRecDepth 65536 in
set_option maxHeartbeats 40000000 in
theorem rm15 (l : Launch) (Z : State) (a0 : Array Value) (hw : ∀ d ∈ tables_1, d.before a0 Z = true) (a1 : Addr) (h0 : Heap) (n0 : Nat) (Z0 : n0 ≤ h0.size)  :
    MetN l Z (⟨"java/util/AbstractSet", "<init>", "()V"⟩ : MethodName) jdk_91_method_1_code 1 none [] ({ frames := 2, cells := 0, slots := 0, locals := 24 } : Room) #[(.ref a1)] h0 (Q15 Z a1 h0 n0) := by
  refine met_n (plainFor_of_name pn_5) (fun m => ef_15 m a1) ?_
  intro p e s m below meth c s₁ X0 hx hby hml hZ hown hnm hret hlk e0
  replace hown : s.vm.findClass "java/util/AbstractSet" = some m.cls := hown
  replace hnm : meth.name = "<init>" := hnm
  replace hret : meth.sig.returnType = none := hret
  have N0 := Fr.nil n0
  have K0 : Keep h0 h0 [] := Keep.refl _ _
  show Ok p e below _ _ s₁ (mkF m 0 #[.val (.ref a1)] [])
  refine Ok.aloadN (pc' := 1) X0 hx (hb hby d15_0) rfl rfl rfl ?_
  refine Ok.init (pc' := 4) (W := 0) (a := a1)  (argsL := []) (rest := []) X0 hx hZ hown (rm10 l Z a0 hw a1 h0 n0 Z0 ) rfl (hw _ (List.mem_of_getElem? (i := 74) rfl)) (hw _ (List.mem_of_getElem? (i := 43) rfl)) (hw _ (List.mem_of_getElem? (i := 46) rfl)) (hw _ (List.mem_of_getElem? (i := 47) rfl)) (by decide) e0 (by decide) (by decide) (by decide) (by decide) (lenOf pd_1 rfl) rfl rfl (Nat.le_of_eq rfl) (by rw [hml]; rfl) (hb hby d15_1) rfl ?_
  intro v14 T14 L14 X14 hQ14
  obtain ⟨rfl, Nq14, eq14⟩ := hQ14
  have N14 := Fr.app N0 Nq14
  show Ok p e below _ _ T14 (mkF m 4 #[.val (.ref a1)] [])
  refine Ok.retV X14 hx hret hlk (hb hby d15_4) (by decide) (by decide) ?_
  show Q15 Z a1 h0 n0 _ T14.heap _
  rw [eq14]
  exact ⟨rfl, N14, rfl⟩
theorem d16_0 : decode jdk_93_method_1_code 0 = .ok (.aload_n 0, 1) := by decide +kernel
theorem d16_1 : decode jdk_93_method_1_code 1 = .ok (.invokespecial 1, 3) := by decide +kernel
theorem d16_4 : decode jdk_93_method_1_code 4 = .ok (.aload_n 0, 1) := by decide +kernel
theorem d16_5 : decode jdk_93_method_1_code 5 = .ok (.new 7, 3) := by decide +kernel
theorem d16_8 : decode jdk_93_method_1_code 8 = .ok (.dup, 1) := by decide +kernel
theorem d16_9 : decode jdk_93_method_1_code 9 = .ok (.invokespecial 9, 3) := by decide +kernel
theorem d16_12 : decode jdk_93_method_1_code 12 = .ok (.putfield 10, 3) := by decide +kernel
theorem d16_15 : decode jdk_93_method_1_code 15 = .ok (.return_, 1) := by decide +kernel
theorem pn_6 : plainName "java/util/HashSet" = true := by first | (simp [plainName, overriddenIn]; done) | decide +kernel
theorem ef_16 (m : MethodId) (x0 : Addr) : entryFrame m #[(.ref x0)] 1 = mkF m 0 #[.val (.ref x0)] [] := by first | (simp [entryFrame, mkF, argsToLocals, Value.category]; done) | rfl
def Q16 (Z : State) (a1 : Addr) (u1 : Value) (h0 : Heap) (n0 : Nat) (v : Option Value) (h : Heap) (L : List Loc) : Prop := v = none ∧ Fr n0 L ∧ Keep h0 h [a1] ∧ Exa Z h a1 "java/util/HashSet"
set_option maxRecDepth 65536 in
set_option maxHeartbeats 40000000 in
theorem rm16 (l : Launch) (Z : State) (a0 : Array Value) (hw : ∀ d ∈ tables_1, d.before a0 Z = true) (a1 : Addr) (u1 : Value) (h0 : Heap) (n0 : Nat) (Z0 : n0 ≤ h0.size) (E_a1 : Exa Z h0 a1 "java/util/HashSet") (g_a1 : n0 ≤ a1) (F_1 : Fld Z h0 a1 "java/util/HashSet" "map" "Ljava/util/HashMap;" u1) :
    MetN l Z (⟨"java/util/HashSet", "<init>", "()V"⟩ : MethodName) jdk_93_method_1_code 1 none [] ({ frames := 3, cells := 1, slots := 8, locals := 38 } : Room) #[(.ref a1)] h0 (Q16 Z a1 u1 h0 n0) := by
  refine met_n (plainFor_of_name pn_6) (fun m => ef_16 m a1) ?_
  intro p e s m below meth c s₁ X0 hx hby hml hZ hown hnm hret hlk e0
  replace hown : s.vm.findClass "java/util/HashSet" = some m.cls := hown
  replace hnm : meth.name = "<init>" := hnm
  replace hret : meth.sig.returnType = none := hret
  have N0 := Fr.nil n0
  have K0 : Keep h0 h0 [a1] := Keep.refl _ _
  show Ok p e below _ _ s₁ (mkF m 0 #[.val (.ref a1)] [])
  refine Ok.aloadN (pc' := 1) X0 hx (hb hby d16_0) rfl rfl rfl ?_
  refine Ok.init (pc' := 4) (W := 0) (a := a1)  (argsL := []) (rest := []) X0 hx hZ hown (rm15 l Z a0 hw a1 h0 n0 Z0 ) rfl (hw _ (List.mem_of_getElem? (i := 68) rfl)) (hw _ (List.mem_of_getElem? (i := 69) rfl)) (hw _ (List.mem_of_getElem? (i := 72) rfl)) (hw _ (List.mem_of_getElem? (i := 73) rfl)) (by decide) e0 (by decide) (by decide) (by decide) (by decide) (lenOf pd_1 rfl) rfl rfl (Nat.le_of_eq rfl) (by rw [hml]; rfl) (hb hby d16_1) rfl ?_
  intro v15 T15 L15 X15 hQ15
  obtain ⟨rfl, Nq15, eq15⟩ := hQ15
  have N15 := Fr.app N0 Nq15
  show Ok p e below _ _ T15 (mkF m 4 #[.val (.ref a1)] [])
  refine Ok.aloadN (pc' := 5) X15 hx (hb hby d16_4) rfl rfl rfl ?_
  refine Ok.new (pc' := 8) X15 hx hZ hown (hw _ (List.mem_of_getElem? (i := 76) rfl)) (hw _ (List.mem_of_getElem? (i := 11) rfl)) (hw _ (List.mem_of_getElem? (i := 12) rfl)) eq15 (hb hby d16_5) rfl (by decide) (by decide) ?_
  intro T16 h16 b16 g16 X16 e16 E16 A16 D16
  have ne_a1_b16 : Nq a1 b16 := Nat.ne_of_lt (Nat.lt_of_lt_of_eq E_a1.lt g16.symm)
  replace E_a1 := E_a1.ext E16
  replace F_1 := F_1.ext E16
  have ge_b16 : n0 ≤ b16 := Nat.le_trans Z0 (Nat.le_of_eq g16.symm)
  have sz_b16 : h0.size ≤ b16 := Nat.le_trans K0.1 (Nat.le_of_eq g16.symm)
  have K16 : Keep h0 h16 [a1] := K0.ext E16
  have Z17 : n0 ≤ h16.size := Nat.le_trans Z0 E16.1
  have F16_loadFactor : Fld Z h16 b16 "java/util/HashMap" "loadFactor" "F" (.float 0) := D16 (Or.inr (hw _ (List.mem_of_getElem? (i := 25) rfl))) (ty := .float) (by decide)
  show Ok p e below _ _ T16 (mkF m 8 #[.val (.ref a1)] [(.ref b16), (.ref a1)])
  refine Ok.dup (pc' := 9) X16 hx (hb hby d16_8) rfl rfl ?_
  refine Ok.init (pc' := 12) (W := 2) (a := b16)  (argsL := []) (rest := [(.ref b16), (.ref a1)]) X16 hx hZ hown (rm12 l Z a0 hw b16  (.float 0) h16 n0 Z17 A16 ge_b16 F16_loadFactor) rfl (hw _ (List.mem_of_getElem? (i := 77) rfl)) (hw _ (List.mem_of_getElem? (i := 14) rfl)) (hw _ (List.mem_of_getElem? (i := 12) rfl)) (hw _ (List.mem_of_getElem? (i := 15) rfl)) (by decide) e16 (by decide) (by decide) (by decide) (by decide) (lenOf pd_1 rfl) rfl rfl (Nat.le_of_eq rfl) (by rw [hml]; rfl) (hb hby d16_9) rfl ?_
  intro v18 T18 L18 X18 hQ18
  obtain ⟨rfl, Nq18, Kq18, Aq18, Fq18_loadFactor⟩ := hQ18
  have N18 := Fr.app N15 Nq18
  replace E_a1 := E_a1.keep Kq18
  replace F_1 := F_1.keep Kq18 (ninS ne_a1_b16 nin0)
  replace A16 := A16.keep Kq18
  have K18' : Keep h0 T18.heap [a1] := K16.trans Kq18 (allS (Or.inr sz_b16) all0)
  have Z19 : n0 ≤ T18.heap.size := Nat.le_trans Z17 Kq18.1
  show Ok p e below _ _ T18 (mkF m 12 #[.val (.ref a1)] [(.ref b16), (.ref a1)])
  refine Ok.putF (pc' := 15) (ty := (.object "java/util/HashMap")) X18 hx hZ hown (host := "") (Or.inl (hw _ (List.mem_of_getElem? (i := 79) rfl))) Via.refl rfl F_1 E_a1 (Or.inl (hw _ (List.mem_of_getElem? (i := 80) rfl))) (hw _ (List.mem_of_getElem? (i := 63) rfl)) (by decide) rfl rfl (hb hby d16_12) rfl ?_
  intro T20 h20 X20 e20 W20
  replace F_1 := F_1.same W20
  replace E_a1 := E_a1.wr W20
  replace A16 := A16.wr W20
  replace Fq18_loadFactor := Fq18_loadFactor.other W20 (Or.inl (Ne.symm ne_a1_b16))
  have N20 := Fr.snoc X20 N18 g_a1
  have K20 : Keep h0 h20 [a1] := K18'.wr W20 (Or.inl (List.mem_of_getElem? (i := 0) rfl))
  have Z21 : n0 ≤ h20.size := Nat.le_trans Z19 (Keep.of_wr W20).1
  refine Ok.retV X20 hx hret hlk (hb hby d16_15) (by decide) (by decide) ?_
  show Q16 Z a1 u1 h0 n0 _ T20.heap _
  rw [e20]
  exact ⟨rfl, N20, K20, E_a1⟩
theorem d1_0 : decode prog_4_method_1_code 0 = .ok (.aload_n 0, 1) := by decide +kernel
theorem d1_1 : decode prog_4_method_1_code 1 = .ok (.invokespecial 1, 3) := by decide +kernel
theorem d1_4 : decode prog_4_method_1_code 4 = .ok (.aload_n 0, 1) := by decide +kernel
theorem d1_5 : decode prog_4_method_1_code 5 = .ok (.new 7, 3) := by decide +kernel
theorem d1_8 : decode prog_4_method_1_code 8 = .ok (.dup, 1) := by decide +kernel
theorem d1_9 : decode prog_4_method_1_code 9 = .ok (.invokespecial 9, 3) := by decide +kernel
theorem d1_12 : decode prog_4_method_1_code 12 = .ok (.putfield 10, 3) := by decide +kernel
theorem d1_15 : decode prog_4_method_1_code 15 = .ok (.aload_n 0, 1) := by decide +kernel
theorem d1_16 : decode prog_4_method_1_code 16 = .ok (.new 7, 3) := by decide +kernel
theorem d1_19 : decode prog_4_method_1_code 19 = .ok (.dup, 1) := by decide +kernel
theorem d1_20 : decode prog_4_method_1_code 20 = .ok (.invokespecial 9, 3) := by decide +kernel
theorem d1_23 : decode prog_4_method_1_code 23 = .ok (.putfield 16, 3) := by decide +kernel
theorem d1_26 : decode prog_4_method_1_code 26 = .ok (.aload_n 0, 1) := by decide +kernel
theorem d1_27 : decode prog_4_method_1_code 27 = .ok (.new 19, 3) := by decide +kernel
theorem d1_30 : decode prog_4_method_1_code 30 = .ok (.dup, 1) := by decide +kernel
theorem d1_31 : decode prog_4_method_1_code 31 = .ok (.invokespecial 21, 3) := by decide +kernel
theorem d1_34 : decode prog_4_method_1_code 34 = .ok (.putfield 22, 3) := by decide +kernel
theorem d1_37 : decode prog_4_method_1_code 37 = .ok (.aload_n 0, 1) := by decide +kernel
theorem d1_38 : decode prog_4_method_1_code 38 = .ok (.new 19, 3) := by decide +kernel
theorem d1_41 : decode prog_4_method_1_code 41 = .ok (.dup, 1) := by decide +kernel
theorem d1_42 : decode prog_4_method_1_code 42 = .ok (.invokespecial 21, 3) := by decide +kernel
theorem d1_45 : decode prog_4_method_1_code 45 = .ok (.putfield 26, 3) := by decide +kernel
theorem d1_48 : decode prog_4_method_1_code 48 = .ok (.aload_n 0, 1) := by decide +kernel
theorem d1_49 : decode prog_4_method_1_code 49 = .ok (.new 7, 3) := by decide +kernel
theorem d1_52 : decode prog_4_method_1_code 52 = .ok (.dup, 1) := by decide +kernel
theorem d1_53 : decode prog_4_method_1_code 53 = .ok (.invokespecial 9, 3) := by decide +kernel
theorem d1_56 : decode prog_4_method_1_code 56 = .ok (.putfield 29, 3) := by decide +kernel
theorem d1_59 : decode prog_4_method_1_code 59 = .ok (.aload_n 0, 1) := by decide +kernel
theorem d1_60 : decode prog_4_method_1_code 60 = .ok (.new 19, 3) := by decide +kernel
theorem d1_63 : decode prog_4_method_1_code 63 = .ok (.dup, 1) := by decide +kernel
theorem d1_64 : decode prog_4_method_1_code 64 = .ok (.invokespecial 21, 3) := by decide +kernel
theorem d1_67 : decode prog_4_method_1_code 67 = .ok (.putfield 32, 3) := by decide +kernel
theorem d1_70 : decode prog_4_method_1_code 70 = .ok (.aload_n 0, 1) := by decide +kernel
theorem d1_71 : decode prog_4_method_1_code 71 = .ok (.new 35, 3) := by decide +kernel
theorem d1_74 : decode prog_4_method_1_code 74 = .ok (.dup, 1) := by decide +kernel
theorem d1_75 : decode prog_4_method_1_code 75 = .ok (.invokespecial 37, 3) := by decide +kernel
theorem d1_78 : decode prog_4_method_1_code 78 = .ok (.putfield 38, 3) := by decide +kernel
theorem d1_81 : decode prog_4_method_1_code 81 = .ok (.aload_n 0, 1) := by decide +kernel
theorem d1_82 : decode prog_4_method_1_code 82 = .ok (.new 35, 3) := by decide +kernel
theorem d1_85 : decode prog_4_method_1_code 85 = .ok (.dup, 1) := by decide +kernel
theorem d1_86 : decode prog_4_method_1_code 86 = .ok (.invokespecial 37, 3) := by decide +kernel
theorem d1_89 : decode prog_4_method_1_code 89 = .ok (.putfield 42, 3) := by decide +kernel
theorem d1_92 : decode prog_4_method_1_code 92 = .ok (.aload_n 0, 1) := by decide +kernel
theorem d1_93 : decode prog_4_method_1_code 93 = .ok (.new 35, 3) := by decide +kernel
theorem d1_96 : decode prog_4_method_1_code 96 = .ok (.dup, 1) := by decide +kernel
theorem d1_97 : decode prog_4_method_1_code 97 = .ok (.invokespecial 37, 3) := by decide +kernel
theorem d1_100 : decode prog_4_method_1_code 100 = .ok (.putfield 45, 3) := by decide +kernel
theorem d1_103 : decode prog_4_method_1_code 103 = .ok (.aload_n 0, 1) := by decide +kernel
theorem d1_104 : decode prog_4_method_1_code 104 = .ok (.iload_n 1, 1) := by decide +kernel
theorem d1_105 : decode prog_4_method_1_code 105 = .ok (.putfield 48, 3) := by decide +kernel
theorem d1_108 : decode prog_4_method_1_code 108 = .ok (.aload_n 0, 1) := by decide +kernel
theorem d1_109 : decode prog_4_method_1_code 109 = .ok (.iload_n 2, 1) := by decide +kernel
theorem d1_110 : decode prog_4_method_1_code 110 = .ok (.putfield 52, 3) := by decide +kernel
theorem d1_113 : decode prog_4_method_1_code 113 = .ok (.return_, 1) := by decide +kernel
theorem pn_7 : plainName "com/example/consequor/consequor/ClauseSet" = true := by first | (simp [plainName, overriddenIn]; done) | decide +kernel
theorem ef_1 (m : MethodId) (x0 : Addr) (x1 : Int32) (x2 : Int32) : entryFrame m #[(.ref x0), (.int x1), (.int x2)] 3 = mkF m 0 #[.val (.ref x0), .val (.int x1), .val (.int x2)] [] := by first | (simp [entryFrame, mkF, argsToLocals, Value.category]; done) | rfl
def Q1 (Z : State) (a1 : Addr) (p2 : Int32) (p3 : Int32) (ed : Addr) (u_occurrences : Value) (u_counted : Value) (u_countedAtoms : Value) (u_noms : Value) (u_nomOccurrences : Value) (u_unconditional : Value) (u_bodyShapes : Value) (u_pairedShapes : Value) (u_readWithOthers : Value) (u_namedClasses : Value) (u_individuals : Value) (h0 : Heap) (n0 : Nat) (v : Option Value) (h : Heap) (L : List Loc) : Prop := v = none ∧ Fr n0 L ∧ Exa Z h a1 "com/example/consequor/consequor/ClauseSet" ∧ Fld Z h a1 "com/example/consequor/consequor/ClauseSet" "namedClasses" "I" (.int p2) ∧ Fld Z h a1 "com/example/consequor/consequor/ClauseSet" "individuals" "I" (.int p3) ∧ Keep h0 h [a1]
set_option maxRecDepth 65536 in
set_option maxHeartbeats 40000000 in
theorem rm1 (l : Launch) (Z : State) (a0 : Array Value) (hw : ∀ d ∈ tables_1, d.before a0 Z = true) (a1 : Addr) (p2 : Int32) (p3 : Int32) (ed : Addr) (u_occurrences : Value) (u_counted : Value) (u_countedAtoms : Value) (u_noms : Value) (u_nomOccurrences : Value) (u_unconditional : Value) (u_bodyShapes : Value) (u_pairedShapes : Value) (u_readWithOthers : Value) (u_namedClasses : Value) (u_individuals : Value) (h0 : Heap) (n0 : Nat) (Z0 : n0 ≤ h0.size) (E_a1 : Exa Z h0 a1 "com/example/consequor/consequor/ClauseSet") (g_a1 : n0 ≤ a1) (O_0 : Old Z n0 h0) (S_ed : Sta Z Z.heap "java/util/ArrayList" "DEFAULTCAPACITY_EMPTY_ELEMENTDATA" "[Ljava/lang/Object;" (.ref ed)) (F_occurrences : Fld Z h0 a1 "com/example/consequor/consequor/ClauseSet" "occurrences" "Ljava/util/Map;" u_occurrences) (F_counted : Fld Z h0 a1 "com/example/consequor/consequor/ClauseSet" "counted" "Ljava/util/Map;" u_counted) (F_countedAtoms : Fld Z h0 a1 "com/example/consequor/consequor/ClauseSet" "countedAtoms" "Ljava/util/List;" u_countedAtoms) (F_noms : Fld Z h0 a1 "com/example/consequor/consequor/ClauseSet" "noms" "Ljava/util/List;" u_noms) (F_nomOccurrences : Fld Z h0 a1 "com/example/consequor/consequor/ClauseSet" "nomOccurrences" "Ljava/util/Map;" u_nomOccurrences) (F_unconditional : Fld Z h0 a1 "com/example/consequor/consequor/ClauseSet" "unconditional" "Ljava/util/List;" u_unconditional) (F_bodyShapes : Fld Z h0 a1 "com/example/consequor/consequor/ClauseSet" "bodyShapes" "Ljava/util/Set;" u_bodyShapes) (F_pairedShapes : Fld Z h0 a1 "com/example/consequor/consequor/ClauseSet" "pairedShapes" "Ljava/util/Set;" u_pairedShapes) (F_readWithOthers : Fld Z h0 a1 "com/example/consequor/consequor/ClauseSet" "readWithOthers" "Ljava/util/Set;" u_readWithOthers) (F_namedClasses : Fld Z h0 a1 "com/example/consequor/consequor/ClauseSet" "namedClasses" "I" u_namedClasses) (F_individuals : Fld Z h0 a1 "com/example/consequor/consequor/ClauseSet" "individuals" "I" u_individuals) :
    MetN l Z (⟨"com/example/consequor/consequor/ClauseSet", "<init>", "(II)V"⟩ : MethodName) prog_4_method_1_code 3 none [] ({ frames := 4, cells := 12, slots := 60, locals := 52 } : Room) #[(.ref a1), (.int p2), (.int p3)] h0 (Q1 Z a1 p2 p3 ed u_occurrences u_counted u_countedAtoms u_noms u_nomOccurrences u_unconditional u_bodyShapes u_pairedShapes u_readWithOthers u_namedClasses u_individuals h0 n0) := by
  refine met_n (plainFor_of_name pn_7) (fun m => ef_1 m a1 p2 p3) ?_
  intro p e s m below meth c s₁ X0 hx hby hml hZ hown hnm hret hlk e0
  replace hown : s.vm.findClass "com/example/consequor/consequor/ClauseSet" = some m.cls := hown
  replace hnm : meth.name = "<init>" := hnm
  replace hret : meth.sig.returnType = none := hret
  have N0 := Fr.nil n0
  have K0 : Keep h0 h0 [a1] := Keep.refl _ _
  show Ok p e below _ _ s₁ (mkF m 0 #[.val (.ref a1), .val (.int p2), .val (.int p3)] [])
  refine Ok.aloadN (pc' := 1) X0 hx (hb hby d1_0) rfl rfl rfl ?_
  refine Ok.initO (pc' := 4) (W := 0) X0 hx hZ hown (hw _ (List.mem_of_getElem? (i := 7) rfl)) (hw _ (List.mem_of_getElem? (i := 8) rfl)) (hw _ (List.mem_of_getElem? (i := 9) rfl)) e0 (by rw [hml]; rfl) (hb hby d1_1) rfl (by decide) (Nat.le_of_eq rfl) (by decide) ?_
  intro T22 X22 e22
  refine Ok.aloadN (pc' := 5) X22 hx (hb hby d1_4) rfl rfl rfl ?_
  refine Ok.new (pc' := 8) X22 hx hZ hown (hw _ (List.mem_of_getElem? (i := 10) rfl)) (hw _ (List.mem_of_getElem? (i := 11) rfl)) (hw _ (List.mem_of_getElem? (i := 12) rfl)) e22 (hb hby d1_5) rfl (by decide) (by decide) ?_
  intro T23 h23 b23 g23 X23 e23 E23 A23 D23
  have ne_a1_b23 : Nq a1 b23 := Nat.ne_of_lt (Nat.lt_of_lt_of_eq E_a1.lt g23.symm)
  replace E_a1 := E_a1.ext E23
  replace O_0 := O_0.ext E23
  replace F_occurrences := F_occurrences.ext E23
  replace F_counted := F_counted.ext E23
  replace F_countedAtoms := F_countedAtoms.ext E23
  replace F_noms := F_noms.ext E23
  replace F_nomOccurrences := F_nomOccurrences.ext E23
  replace F_unconditional := F_unconditional.ext E23
  replace F_bodyShapes := F_bodyShapes.ext E23
  replace F_pairedShapes := F_pairedShapes.ext E23
  replace F_readWithOthers := F_readWithOthers.ext E23
  replace F_namedClasses := F_namedClasses.ext E23
  replace F_individuals := F_individuals.ext E23
  have ge_b23 : n0 ≤ b23 := Nat.le_trans Z0 (Nat.le_of_eq g23.symm)
  have sz_b23 : h0.size ≤ b23 := Nat.le_trans K0.1 (Nat.le_of_eq g23.symm)
  have K23 : Keep h0 h23 [a1] := K0.ext E23
  have Z24 : n0 ≤ h23.size := Nat.le_trans Z0 E23.1
  have F23_loadFactor : Fld Z h23 b23 "java/util/HashMap" "loadFactor" "F" (.float 0) := D23 (Or.inr (hw _ (List.mem_of_getElem? (i := 25) rfl))) (ty := .float) (by decide)
  show Ok p e below _ _ T23 (mkF m 8 #[.val (.ref a1), .val (.int p2), .val (.int p3)] [(.ref b23), (.ref a1)])
  refine Ok.dup (pc' := 9) X23 hx (hb hby d1_8) rfl rfl ?_
  refine Ok.init (pc' := 12) (W := 2) (a := b23)  (argsL := []) (rest := [(.ref b23), (.ref a1)]) X23 hx hZ hown (rm12 l Z a0 hw b23  (.float 0) h23 n0 Z24 A23 ge_b23 F23_loadFactor) rfl (hw _ (List.mem_of_getElem? (i := 13) rfl)) (hw _ (List.mem_of_getElem? (i := 14) rfl)) (hw _ (List.mem_of_getElem? (i := 12) rfl)) (hw _ (List.mem_of_getElem? (i := 15) rfl)) (by decide) e23 (by decide) (by decide) (by decide) (by decide) (lenOf pd_1 rfl) rfl rfl (Nat.le_of_eq rfl) (by rw [hml]; rfl) (hb hby d1_9) rfl ?_
  intro v25 T25 L25 X25 hQ25
  obtain ⟨rfl, Nq25, Kq25, Aq25, Fq25_loadFactor⟩ := hQ25
  have N25 := Fr.app N0 Nq25
  replace E_a1 := E_a1.keep Kq25
  replace O_0 := O_0.keep Kq25 (allS ge_b23 all0)
  replace F_occurrences := F_occurrences.keep Kq25 (ninS ne_a1_b23 nin0)
  replace F_counted := F_counted.keep Kq25 (ninS ne_a1_b23 nin0)
  replace F_countedAtoms := F_countedAtoms.keep Kq25 (ninS ne_a1_b23 nin0)
  replace F_noms := F_noms.keep Kq25 (ninS ne_a1_b23 nin0)
  replace F_nomOccurrences := F_nomOccurrences.keep Kq25 (ninS ne_a1_b23 nin0)
  replace F_unconditional := F_unconditional.keep Kq25 (ninS ne_a1_b23 nin0)
  replace F_bodyShapes := F_bodyShapes.keep Kq25 (ninS ne_a1_b23 nin0)
  replace F_pairedShapes := F_pairedShapes.keep Kq25 (ninS ne_a1_b23 nin0)
  replace F_readWithOthers := F_readWithOthers.keep Kq25 (ninS ne_a1_b23 nin0)
  replace F_namedClasses := F_namedClasses.keep Kq25 (ninS ne_a1_b23 nin0)
  replace F_individuals := F_individuals.keep Kq25 (ninS ne_a1_b23 nin0)
  replace A23 := A23.keep Kq25
  have K25' : Keep h0 T25.heap [a1] := K23.trans Kq25 (allS (Or.inr sz_b23) all0)
  have Z26 : n0 ≤ T25.heap.size := Nat.le_trans Z24 Kq25.1
  show Ok p e below _ _ T25 (mkF m 12 #[.val (.ref a1), .val (.int p2), .val (.int p3)] [(.ref b23), (.ref a1)])
  refine Ok.putF (pc' := 15) (ty := (.object "java/util/Map")) X25 hx hZ hown (host := "") (Or.inl (hw _ (List.mem_of_getElem? (i := 26) rfl))) Via.refl rfl F_occurrences E_a1 (Or.inr ⟨(hw _ (List.mem_of_getElem? (i := 27) rfl)), rfl, hnm⟩) (hw _ (List.mem_of_getElem? (i := 2) rfl)) (by decide) rfl rfl (hb hby d1_12) rfl ?_
  intro T27 h27 X27 e27 W27
  replace F_occurrences := F_occurrences.same W27
  replace E_a1 := E_a1.wr W27
  replace O_0 := O_0.wr W27 g_a1
  replace F_counted := F_counted.other W27 (Or.inr (slot_ne (Or.inr (hw _ (List.mem_of_getElem? (i := 29) rfl))) (Or.inr (hw _ (List.mem_of_getElem? (i := 27) rfl))) (by decide) (t := (.object "java/util/Map")) (t' := (.object "java/util/Map")) (by decide) (by decide)))
  replace F_countedAtoms := F_countedAtoms.other W27 (Or.inr (slot_ne (Or.inr (hw _ (List.mem_of_getElem? (i := 55) rfl))) (Or.inr (hw _ (List.mem_of_getElem? (i := 27) rfl))) (by decide) (t := (.object "java/util/List")) (t' := (.object "java/util/Map")) (by decide) (by decide)))
  replace F_noms := F_noms.other W27 (Or.inr (slot_ne (Or.inr (hw _ (List.mem_of_getElem? (i := 57) rfl))) (Or.inr (hw _ (List.mem_of_getElem? (i := 27) rfl))) (by decide) (t := (.object "java/util/List")) (t' := (.object "java/util/Map")) (by decide) (by decide)))
  replace F_nomOccurrences := F_nomOccurrences.other W27 (Or.inr (slot_ne (Or.inr (hw _ (List.mem_of_getElem? (i := 59) rfl))) (Or.inr (hw _ (List.mem_of_getElem? (i := 27) rfl))) (by decide) (t := (.object "java/util/Map")) (t' := (.object "java/util/Map")) (by decide) (by decide)))
  replace F_unconditional := F_unconditional.other W27 (Or.inr (slot_ne (Or.inr (hw _ (List.mem_of_getElem? (i := 61) rfl))) (Or.inr (hw _ (List.mem_of_getElem? (i := 27) rfl))) (by decide) (t := (.object "java/util/List")) (t' := (.object "java/util/Map")) (by decide) (by decide)))
  replace F_bodyShapes := F_bodyShapes.other W27 (Or.inr (slot_ne (Or.inr (hw _ (List.mem_of_getElem? (i := 82) rfl))) (Or.inr (hw _ (List.mem_of_getElem? (i := 27) rfl))) (by decide) (t := (.object "java/util/Set")) (t' := (.object "java/util/Map")) (by decide) (by decide)))
  replace F_pairedShapes := F_pairedShapes.other W27 (Or.inr (slot_ne (Or.inr (hw _ (List.mem_of_getElem? (i := 84) rfl))) (Or.inr (hw _ (List.mem_of_getElem? (i := 27) rfl))) (by decide) (t := (.object "java/util/Set")) (t' := (.object "java/util/Map")) (by decide) (by decide)))
  replace F_readWithOthers := F_readWithOthers.other W27 (Or.inr (slot_ne (Or.inr (hw _ (List.mem_of_getElem? (i := 86) rfl))) (Or.inr (hw _ (List.mem_of_getElem? (i := 27) rfl))) (by decide) (t := (.object "java/util/Set")) (t' := (.object "java/util/Map")) (by decide) (by decide)))
  replace F_namedClasses := F_namedClasses.other W27 (Or.inr (slot_ne (Or.inr (hw _ (List.mem_of_getElem? (i := 88) rfl))) (Or.inr (hw _ (List.mem_of_getElem? (i := 27) rfl))) (by decide) (t := .int) (t' := (.object "java/util/Map")) (by decide) (by decide)))
  replace F_individuals := F_individuals.other W27 (Or.inr (slot_ne (Or.inr (hw _ (List.mem_of_getElem? (i := 90) rfl))) (Or.inr (hw _ (List.mem_of_getElem? (i := 27) rfl))) (by decide) (t := .int) (t' := (.object "java/util/Map")) (by decide) (by decide)))
  replace A23 := A23.wr W27
  replace Fq25_loadFactor := Fq25_loadFactor.other W27 (Or.inl (Ne.symm ne_a1_b23))
  have N27 := Fr.snoc X27 N25 g_a1
  have K27 : Keep h0 h27 [a1] := K25'.wr W27 (Or.inl (List.mem_of_getElem? (i := 0) rfl))
  have Z28 : n0 ≤ h27.size := Nat.le_trans Z26 (Keep.of_wr W27).1
  refine Ok.aloadN (pc' := 16) X27 hx (hb hby d1_15) rfl rfl rfl ?_
  refine Ok.new (pc' := 19) X27 hx hZ hown (hw _ (List.mem_of_getElem? (i := 10) rfl)) (hw _ (List.mem_of_getElem? (i := 11) rfl)) (hw _ (List.mem_of_getElem? (i := 12) rfl)) e27 (hb hby d1_16) rfl (by decide) (by decide) ?_
  intro T29 h29 b29 g29 X29 e29 E29 A29 D29
  have ne_a1_b29 : Nq a1 b29 := Nat.ne_of_lt (Nat.lt_of_lt_of_eq E_a1.lt g29.symm)
  replace E_a1 := E_a1.ext E29
  replace O_0 := O_0.ext E29
  replace F_counted := F_counted.ext E29
  replace F_countedAtoms := F_countedAtoms.ext E29
  replace F_noms := F_noms.ext E29
  replace F_nomOccurrences := F_nomOccurrences.ext E29
  replace F_unconditional := F_unconditional.ext E29
  replace F_bodyShapes := F_bodyShapes.ext E29
  replace F_pairedShapes := F_pairedShapes.ext E29
  replace F_readWithOthers := F_readWithOthers.ext E29
  replace F_namedClasses := F_namedClasses.ext E29
  replace F_individuals := F_individuals.ext E29
  have ge_b29 : n0 ≤ b29 := Nat.le_trans Z28 (Nat.le_of_eq g29.symm)
  have sz_b29 : h0.size ≤ b29 := Nat.le_trans K27.1 (Nat.le_of_eq g29.symm)
  have K29 : Keep h0 h29 [a1] := K27.ext E29
  have Z30 : n0 ≤ h29.size := Nat.le_trans Z28 E29.1
  have F29_loadFactor : Fld Z h29 b29 "java/util/HashMap" "loadFactor" "F" (.float 0) := D29 (Or.inr (hw _ (List.mem_of_getElem? (i := 25) rfl))) (ty := .float) (by decide)
  show Ok p e below _ _ T29 (mkF m 19 #[.val (.ref a1), .val (.int p2), .val (.int p3)] [(.ref b29), (.ref a1)])
  refine Ok.dup (pc' := 20) X29 hx (hb hby d1_19) rfl rfl ?_
  refine Ok.init (pc' := 23) (W := 2) (a := b29)  (argsL := []) (rest := [(.ref b29), (.ref a1)]) X29 hx hZ hown (rm12 l Z a0 hw b29  (.float 0) h29 n0 Z30 A29 ge_b29 F29_loadFactor) rfl (hw _ (List.mem_of_getElem? (i := 13) rfl)) (hw _ (List.mem_of_getElem? (i := 14) rfl)) (hw _ (List.mem_of_getElem? (i := 12) rfl)) (hw _ (List.mem_of_getElem? (i := 15) rfl)) (by decide) e29 (by decide) (by decide) (by decide) (by decide) (lenOf pd_1 rfl) rfl rfl (Nat.le_of_eq rfl) (by rw [hml]; rfl) (hb hby d1_20) rfl ?_
  intro v31 T31 L31 X31 hQ31
  obtain ⟨rfl, Nq31, Kq31, Aq31, Fq31_loadFactor⟩ := hQ31
  have N31 := Fr.app N27 Nq31
  replace E_a1 := E_a1.keep Kq31
  replace O_0 := O_0.keep Kq31 (allS ge_b29 all0)
  replace F_counted := F_counted.keep Kq31 (ninS ne_a1_b29 nin0)
  replace F_countedAtoms := F_countedAtoms.keep Kq31 (ninS ne_a1_b29 nin0)
  replace F_noms := F_noms.keep Kq31 (ninS ne_a1_b29 nin0)
  replace F_nomOccurrences := F_nomOccurrences.keep Kq31 (ninS ne_a1_b29 nin0)
  replace F_unconditional := F_unconditional.keep Kq31 (ninS ne_a1_b29 nin0)
  replace F_bodyShapes := F_bodyShapes.keep Kq31 (ninS ne_a1_b29 nin0)
  replace F_pairedShapes := F_pairedShapes.keep Kq31 (ninS ne_a1_b29 nin0)
  replace F_readWithOthers := F_readWithOthers.keep Kq31 (ninS ne_a1_b29 nin0)
  replace F_namedClasses := F_namedClasses.keep Kq31 (ninS ne_a1_b29 nin0)
  replace F_individuals := F_individuals.keep Kq31 (ninS ne_a1_b29 nin0)
  replace A29 := A29.keep Kq31
  have K31' : Keep h0 T31.heap [a1] := K29.trans Kq31 (allS (Or.inr sz_b29) all0)
  have Z32 : n0 ≤ T31.heap.size := Nat.le_trans Z30 Kq31.1
  show Ok p e below _ _ T31 (mkF m 23 #[.val (.ref a1), .val (.int p2), .val (.int p3)] [(.ref b29), (.ref a1)])
  refine Ok.putF (pc' := 26) (ty := (.object "java/util/Map")) X31 hx hZ hown (host := "") (Or.inl (hw _ (List.mem_of_getElem? (i := 28) rfl))) Via.refl rfl F_counted E_a1 (Or.inr ⟨(hw _ (List.mem_of_getElem? (i := 29) rfl)), rfl, hnm⟩) (hw _ (List.mem_of_getElem? (i := 2) rfl)) (by decide) rfl rfl (hb hby d1_23) rfl ?_
  intro T33 h33 X33 e33 W33
  replace F_counted := F_counted.same W33
  replace E_a1 := E_a1.wr W33
  replace O_0 := O_0.wr W33 g_a1
  replace F_countedAtoms := F_countedAtoms.other W33 (Or.inr (slot_ne (Or.inr (hw _ (List.mem_of_getElem? (i := 55) rfl))) (Or.inr (hw _ (List.mem_of_getElem? (i := 29) rfl))) (by decide) (t := (.object "java/util/List")) (t' := (.object "java/util/Map")) (by decide) (by decide)))
  replace F_noms := F_noms.other W33 (Or.inr (slot_ne (Or.inr (hw _ (List.mem_of_getElem? (i := 57) rfl))) (Or.inr (hw _ (List.mem_of_getElem? (i := 29) rfl))) (by decide) (t := (.object "java/util/List")) (t' := (.object "java/util/Map")) (by decide) (by decide)))
  replace F_nomOccurrences := F_nomOccurrences.other W33 (Or.inr (slot_ne (Or.inr (hw _ (List.mem_of_getElem? (i := 59) rfl))) (Or.inr (hw _ (List.mem_of_getElem? (i := 29) rfl))) (by decide) (t := (.object "java/util/Map")) (t' := (.object "java/util/Map")) (by decide) (by decide)))
  replace F_unconditional := F_unconditional.other W33 (Or.inr (slot_ne (Or.inr (hw _ (List.mem_of_getElem? (i := 61) rfl))) (Or.inr (hw _ (List.mem_of_getElem? (i := 29) rfl))) (by decide) (t := (.object "java/util/List")) (t' := (.object "java/util/Map")) (by decide) (by decide)))
  replace F_bodyShapes := F_bodyShapes.other W33 (Or.inr (slot_ne (Or.inr (hw _ (List.mem_of_getElem? (i := 82) rfl))) (Or.inr (hw _ (List.mem_of_getElem? (i := 29) rfl))) (by decide) (t := (.object "java/util/Set")) (t' := (.object "java/util/Map")) (by decide) (by decide)))
  replace F_pairedShapes := F_pairedShapes.other W33 (Or.inr (slot_ne (Or.inr (hw _ (List.mem_of_getElem? (i := 84) rfl))) (Or.inr (hw _ (List.mem_of_getElem? (i := 29) rfl))) (by decide) (t := (.object "java/util/Set")) (t' := (.object "java/util/Map")) (by decide) (by decide)))
  replace F_readWithOthers := F_readWithOthers.other W33 (Or.inr (slot_ne (Or.inr (hw _ (List.mem_of_getElem? (i := 86) rfl))) (Or.inr (hw _ (List.mem_of_getElem? (i := 29) rfl))) (by decide) (t := (.object "java/util/Set")) (t' := (.object "java/util/Map")) (by decide) (by decide)))
  replace F_namedClasses := F_namedClasses.other W33 (Or.inr (slot_ne (Or.inr (hw _ (List.mem_of_getElem? (i := 88) rfl))) (Or.inr (hw _ (List.mem_of_getElem? (i := 29) rfl))) (by decide) (t := .int) (t' := (.object "java/util/Map")) (by decide) (by decide)))
  replace F_individuals := F_individuals.other W33 (Or.inr (slot_ne (Or.inr (hw _ (List.mem_of_getElem? (i := 90) rfl))) (Or.inr (hw _ (List.mem_of_getElem? (i := 29) rfl))) (by decide) (t := .int) (t' := (.object "java/util/Map")) (by decide) (by decide)))
  replace A29 := A29.wr W33
  replace Fq31_loadFactor := Fq31_loadFactor.other W33 (Or.inl (Ne.symm ne_a1_b29))
  have N33 := Fr.snoc X33 N31 g_a1
  have K33 : Keep h0 h33 [a1] := K31'.wr W33 (Or.inl (List.mem_of_getElem? (i := 0) rfl))
  have Z34 : n0 ≤ h33.size := Nat.le_trans Z32 (Keep.of_wr W33).1
  refine Ok.aloadN (pc' := 27) X33 hx (hb hby d1_26) rfl rfl rfl ?_
  refine Ok.new (pc' := 30) X33 hx hZ hown (hw _ (List.mem_of_getElem? (i := 30) rfl)) (hw _ (List.mem_of_getElem? (i := 31) rfl)) (hw _ (List.mem_of_getElem? (i := 32) rfl)) e33 (hb hby d1_27) rfl (by decide) (by decide) ?_
  intro T35 h35 b35 g35 X35 e35 E35 A35 D35
  have ne_a1_b35 : Nq a1 b35 := Nat.ne_of_lt (Nat.lt_of_lt_of_eq E_a1.lt g35.symm)
  replace E_a1 := E_a1.ext E35
  replace O_0 := O_0.ext E35
  replace F_countedAtoms := F_countedAtoms.ext E35
  replace F_noms := F_noms.ext E35
  replace F_nomOccurrences := F_nomOccurrences.ext E35
  replace F_unconditional := F_unconditional.ext E35
  replace F_bodyShapes := F_bodyShapes.ext E35
  replace F_pairedShapes := F_pairedShapes.ext E35
  replace F_readWithOthers := F_readWithOthers.ext E35
  replace F_namedClasses := F_namedClasses.ext E35
  replace F_individuals := F_individuals.ext E35
  have ge_b35 : n0 ≤ b35 := Nat.le_trans Z34 (Nat.le_of_eq g35.symm)
  have sz_b35 : h0.size ≤ b35 := Nat.le_trans K33.1 (Nat.le_of_eq g35.symm)
  have K35 : Keep h0 h35 [a1] := K33.ext E35
  have Z36 : n0 ≤ h35.size := Nat.le_trans Z34 E35.1
  have F35_modCount : Fld Z h35 b35 "java/util/AbstractList" "modCount" "I" (.int (0 : Int32)) := D35 (Or.inl (hw _ (List.mem_of_getElem? (i := 50) rfl))) (ty := .int) (by decide)
  have F35_elementData : Fld Z h35 b35 "java/util/ArrayList" "elementData" "[Ljava/lang/Object;" .null := D35 (Or.inl (hw _ (List.mem_of_getElem? (i := 53) rfl))) (ty := (.array (.object "java/lang/Object"))) (by decide)
  show Ok p e below _ _ T35 (mkF m 30 #[.val (.ref a1), .val (.int p2), .val (.int p3)] [(.ref b35), (.ref a1)])
  refine Ok.dup (pc' := 31) X35 hx (hb hby d1_30) rfl rfl ?_
  refine Ok.init (pc' := 34) (W := 2) (a := b35)  (argsL := []) (rest := [(.ref b35), (.ref a1)]) X35 hx hZ hown (rm14 l Z a0 hw b35 (.int (0 : Int32)) .null ed h35 n0 Z36 A35 ge_b35 F35_modCount F35_elementData O_0 S_ed) rfl (hw _ (List.mem_of_getElem? (i := 33) rfl)) (hw _ (List.mem_of_getElem? (i := 34) rfl)) (hw _ (List.mem_of_getElem? (i := 32) rfl)) (hw _ (List.mem_of_getElem? (i := 35) rfl)) (by decide) e35 (by decide) (by decide) (by decide) (by decide) (lenOf pd_1 rfl) rfl rfl (Nat.le_of_eq rfl) (by rw [hml]; rfl) (hb hby d1_31) rfl ?_
  intro v37 T37 L37 X37 hQ37
  obtain ⟨rfl, Nq37, Kq37, Aq37⟩ := hQ37
  have N37 := Fr.app N33 Nq37
  replace E_a1 := E_a1.keep Kq37
  replace O_0 := O_0.keep Kq37 (allS ge_b35 all0)
  replace F_countedAtoms := F_countedAtoms.keep Kq37 (ninS ne_a1_b35 nin0)
  replace F_noms := F_noms.keep Kq37 (ninS ne_a1_b35 nin0)
  replace F_nomOccurrences := F_nomOccurrences.keep Kq37 (ninS ne_a1_b35 nin0)
  replace F_unconditional := F_unconditional.keep Kq37 (ninS ne_a1_b35 nin0)
  replace F_bodyShapes := F_bodyShapes.keep Kq37 (ninS ne_a1_b35 nin0)
  replace F_pairedShapes := F_pairedShapes.keep Kq37 (ninS ne_a1_b35 nin0)
  replace F_readWithOthers := F_readWithOthers.keep Kq37 (ninS ne_a1_b35 nin0)
  replace F_namedClasses := F_namedClasses.keep Kq37 (ninS ne_a1_b35 nin0)
  replace F_individuals := F_individuals.keep Kq37 (ninS ne_a1_b35 nin0)
  replace A35 := A35.keep Kq37
  have K37' : Keep h0 T37.heap [a1] := K35.trans Kq37 (allS (Or.inr sz_b35) all0)
  have Z38 : n0 ≤ T37.heap.size := Nat.le_trans Z36 Kq37.1
  show Ok p e below _ _ T37 (mkF m 34 #[.val (.ref a1), .val (.int p2), .val (.int p3)] [(.ref b35), (.ref a1)])
  refine Ok.putF (pc' := 37) (ty := (.object "java/util/List")) X37 hx hZ hown (host := "") (Or.inl (hw _ (List.mem_of_getElem? (i := 54) rfl))) Via.refl rfl F_countedAtoms E_a1 (Or.inr ⟨(hw _ (List.mem_of_getElem? (i := 55) rfl)), rfl, hnm⟩) (hw _ (List.mem_of_getElem? (i := 2) rfl)) (by decide) rfl rfl (hb hby d1_34) rfl ?_
  intro T39 h39 X39 e39 W39
  replace F_countedAtoms := F_countedAtoms.same W39
  replace E_a1 := E_a1.wr W39
  replace O_0 := O_0.wr W39 g_a1
  replace F_noms := F_noms.other W39 (Or.inr (slot_ne (Or.inr (hw _ (List.mem_of_getElem? (i := 57) rfl))) (Or.inr (hw _ (List.mem_of_getElem? (i := 55) rfl))) (by decide) (t := (.object "java/util/List")) (t' := (.object "java/util/List")) (by decide) (by decide)))
  replace F_nomOccurrences := F_nomOccurrences.other W39 (Or.inr (slot_ne (Or.inr (hw _ (List.mem_of_getElem? (i := 59) rfl))) (Or.inr (hw _ (List.mem_of_getElem? (i := 55) rfl))) (by decide) (t := (.object "java/util/Map")) (t' := (.object "java/util/List")) (by decide) (by decide)))
  replace F_unconditional := F_unconditional.other W39 (Or.inr (slot_ne (Or.inr (hw _ (List.mem_of_getElem? (i := 61) rfl))) (Or.inr (hw _ (List.mem_of_getElem? (i := 55) rfl))) (by decide) (t := (.object "java/util/List")) (t' := (.object "java/util/List")) (by decide) (by decide)))
  replace F_bodyShapes := F_bodyShapes.other W39 (Or.inr (slot_ne (Or.inr (hw _ (List.mem_of_getElem? (i := 82) rfl))) (Or.inr (hw _ (List.mem_of_getElem? (i := 55) rfl))) (by decide) (t := (.object "java/util/Set")) (t' := (.object "java/util/List")) (by decide) (by decide)))
  replace F_pairedShapes := F_pairedShapes.other W39 (Or.inr (slot_ne (Or.inr (hw _ (List.mem_of_getElem? (i := 84) rfl))) (Or.inr (hw _ (List.mem_of_getElem? (i := 55) rfl))) (by decide) (t := (.object "java/util/Set")) (t' := (.object "java/util/List")) (by decide) (by decide)))
  replace F_readWithOthers := F_readWithOthers.other W39 (Or.inr (slot_ne (Or.inr (hw _ (List.mem_of_getElem? (i := 86) rfl))) (Or.inr (hw _ (List.mem_of_getElem? (i := 55) rfl))) (by decide) (t := (.object "java/util/Set")) (t' := (.object "java/util/List")) (by decide) (by decide)))
  replace F_namedClasses := F_namedClasses.other W39 (Or.inr (slot_ne (Or.inr (hw _ (List.mem_of_getElem? (i := 88) rfl))) (Or.inr (hw _ (List.mem_of_getElem? (i := 55) rfl))) (by decide) (t := .int) (t' := (.object "java/util/List")) (by decide) (by decide)))
  replace F_individuals := F_individuals.other W39 (Or.inr (slot_ne (Or.inr (hw _ (List.mem_of_getElem? (i := 90) rfl))) (Or.inr (hw _ (List.mem_of_getElem? (i := 55) rfl))) (by decide) (t := .int) (t' := (.object "java/util/List")) (by decide) (by decide)))
  replace A35 := A35.wr W39
  have N39 := Fr.snoc X39 N37 g_a1
  have K39 : Keep h0 h39 [a1] := K37'.wr W39 (Or.inl (List.mem_of_getElem? (i := 0) rfl))
  have Z40 : n0 ≤ h39.size := Nat.le_trans Z38 (Keep.of_wr W39).1
  refine Ok.aloadN (pc' := 38) X39 hx (hb hby d1_37) rfl rfl rfl ?_
  refine Ok.new (pc' := 41) X39 hx hZ hown (hw _ (List.mem_of_getElem? (i := 30) rfl)) (hw _ (List.mem_of_getElem? (i := 31) rfl)) (hw _ (List.mem_of_getElem? (i := 32) rfl)) e39 (hb hby d1_38) rfl (by decide) (by decide) ?_
  intro T41 h41 b41 g41 X41 e41 E41 A41 D41
  have ne_a1_b41 : Nq a1 b41 := Nat.ne_of_lt (Nat.lt_of_lt_of_eq E_a1.lt g41.symm)
  replace E_a1 := E_a1.ext E41
  replace O_0 := O_0.ext E41
  replace F_noms := F_noms.ext E41
  replace F_nomOccurrences := F_nomOccurrences.ext E41
  replace F_unconditional := F_unconditional.ext E41
  replace F_bodyShapes := F_bodyShapes.ext E41
  replace F_pairedShapes := F_pairedShapes.ext E41
  replace F_readWithOthers := F_readWithOthers.ext E41
  replace F_namedClasses := F_namedClasses.ext E41
  replace F_individuals := F_individuals.ext E41
  have ge_b41 : n0 ≤ b41 := Nat.le_trans Z40 (Nat.le_of_eq g41.symm)
  have sz_b41 : h0.size ≤ b41 := Nat.le_trans K39.1 (Nat.le_of_eq g41.symm)
  have K41 : Keep h0 h41 [a1] := K39.ext E41
  have Z42 : n0 ≤ h41.size := Nat.le_trans Z40 E41.1
  have F41_modCount : Fld Z h41 b41 "java/util/AbstractList" "modCount" "I" (.int (0 : Int32)) := D41 (Or.inl (hw _ (List.mem_of_getElem? (i := 50) rfl))) (ty := .int) (by decide)
  have F41_elementData : Fld Z h41 b41 "java/util/ArrayList" "elementData" "[Ljava/lang/Object;" .null := D41 (Or.inl (hw _ (List.mem_of_getElem? (i := 53) rfl))) (ty := (.array (.object "java/lang/Object"))) (by decide)
  show Ok p e below _ _ T41 (mkF m 41 #[.val (.ref a1), .val (.int p2), .val (.int p3)] [(.ref b41), (.ref a1)])
  refine Ok.dup (pc' := 42) X41 hx (hb hby d1_41) rfl rfl ?_
  refine Ok.init (pc' := 45) (W := 2) (a := b41)  (argsL := []) (rest := [(.ref b41), (.ref a1)]) X41 hx hZ hown (rm14 l Z a0 hw b41 (.int (0 : Int32)) .null ed h41 n0 Z42 A41 ge_b41 F41_modCount F41_elementData O_0 S_ed) rfl (hw _ (List.mem_of_getElem? (i := 33) rfl)) (hw _ (List.mem_of_getElem? (i := 34) rfl)) (hw _ (List.mem_of_getElem? (i := 32) rfl)) (hw _ (List.mem_of_getElem? (i := 35) rfl)) (by decide) e41 (by decide) (by decide) (by decide) (by decide) (lenOf pd_1 rfl) rfl rfl (Nat.le_of_eq rfl) (by rw [hml]; rfl) (hb hby d1_42) rfl ?_
  intro v43 T43 L43 X43 hQ43
  obtain ⟨rfl, Nq43, Kq43, Aq43⟩ := hQ43
  have N43 := Fr.app N39 Nq43
  replace E_a1 := E_a1.keep Kq43
  replace O_0 := O_0.keep Kq43 (allS ge_b41 all0)
  replace F_noms := F_noms.keep Kq43 (ninS ne_a1_b41 nin0)
  replace F_nomOccurrences := F_nomOccurrences.keep Kq43 (ninS ne_a1_b41 nin0)
  replace F_unconditional := F_unconditional.keep Kq43 (ninS ne_a1_b41 nin0)
  replace F_bodyShapes := F_bodyShapes.keep Kq43 (ninS ne_a1_b41 nin0)
  replace F_pairedShapes := F_pairedShapes.keep Kq43 (ninS ne_a1_b41 nin0)
  replace F_readWithOthers := F_readWithOthers.keep Kq43 (ninS ne_a1_b41 nin0)
  replace F_namedClasses := F_namedClasses.keep Kq43 (ninS ne_a1_b41 nin0)
  replace F_individuals := F_individuals.keep Kq43 (ninS ne_a1_b41 nin0)
  replace A41 := A41.keep Kq43
  have K43' : Keep h0 T43.heap [a1] := K41.trans Kq43 (allS (Or.inr sz_b41) all0)
  have Z44 : n0 ≤ T43.heap.size := Nat.le_trans Z42 Kq43.1
  show Ok p e below _ _ T43 (mkF m 45 #[.val (.ref a1), .val (.int p2), .val (.int p3)] [(.ref b41), (.ref a1)])
  refine Ok.putF (pc' := 48) (ty := (.object "java/util/List")) X43 hx hZ hown (host := "") (Or.inl (hw _ (List.mem_of_getElem? (i := 56) rfl))) Via.refl rfl F_noms E_a1 (Or.inr ⟨(hw _ (List.mem_of_getElem? (i := 57) rfl)), rfl, hnm⟩) (hw _ (List.mem_of_getElem? (i := 2) rfl)) (by decide) rfl rfl (hb hby d1_45) rfl ?_
  intro T45 h45 X45 e45 W45
  replace F_noms := F_noms.same W45
  replace E_a1 := E_a1.wr W45
  replace O_0 := O_0.wr W45 g_a1
  replace F_nomOccurrences := F_nomOccurrences.other W45 (Or.inr (slot_ne (Or.inr (hw _ (List.mem_of_getElem? (i := 59) rfl))) (Or.inr (hw _ (List.mem_of_getElem? (i := 57) rfl))) (by decide) (t := (.object "java/util/Map")) (t' := (.object "java/util/List")) (by decide) (by decide)))
  replace F_unconditional := F_unconditional.other W45 (Or.inr (slot_ne (Or.inr (hw _ (List.mem_of_getElem? (i := 61) rfl))) (Or.inr (hw _ (List.mem_of_getElem? (i := 57) rfl))) (by decide) (t := (.object "java/util/List")) (t' := (.object "java/util/List")) (by decide) (by decide)))
  replace F_bodyShapes := F_bodyShapes.other W45 (Or.inr (slot_ne (Or.inr (hw _ (List.mem_of_getElem? (i := 82) rfl))) (Or.inr (hw _ (List.mem_of_getElem? (i := 57) rfl))) (by decide) (t := (.object "java/util/Set")) (t' := (.object "java/util/List")) (by decide) (by decide)))
  replace F_pairedShapes := F_pairedShapes.other W45 (Or.inr (slot_ne (Or.inr (hw _ (List.mem_of_getElem? (i := 84) rfl))) (Or.inr (hw _ (List.mem_of_getElem? (i := 57) rfl))) (by decide) (t := (.object "java/util/Set")) (t' := (.object "java/util/List")) (by decide) (by decide)))
  replace F_readWithOthers := F_readWithOthers.other W45 (Or.inr (slot_ne (Or.inr (hw _ (List.mem_of_getElem? (i := 86) rfl))) (Or.inr (hw _ (List.mem_of_getElem? (i := 57) rfl))) (by decide) (t := (.object "java/util/Set")) (t' := (.object "java/util/List")) (by decide) (by decide)))
  replace F_namedClasses := F_namedClasses.other W45 (Or.inr (slot_ne (Or.inr (hw _ (List.mem_of_getElem? (i := 88) rfl))) (Or.inr (hw _ (List.mem_of_getElem? (i := 57) rfl))) (by decide) (t := .int) (t' := (.object "java/util/List")) (by decide) (by decide)))
  replace F_individuals := F_individuals.other W45 (Or.inr (slot_ne (Or.inr (hw _ (List.mem_of_getElem? (i := 90) rfl))) (Or.inr (hw _ (List.mem_of_getElem? (i := 57) rfl))) (by decide) (t := .int) (t' := (.object "java/util/List")) (by decide) (by decide)))
  replace A41 := A41.wr W45
  have N45 := Fr.snoc X45 N43 g_a1
  have K45 : Keep h0 h45 [a1] := K43'.wr W45 (Or.inl (List.mem_of_getElem? (i := 0) rfl))
  have Z46 : n0 ≤ h45.size := Nat.le_trans Z44 (Keep.of_wr W45).1
  refine Ok.aloadN (pc' := 49) X45 hx (hb hby d1_48) rfl rfl rfl ?_
  refine Ok.new (pc' := 52) X45 hx hZ hown (hw _ (List.mem_of_getElem? (i := 10) rfl)) (hw _ (List.mem_of_getElem? (i := 11) rfl)) (hw _ (List.mem_of_getElem? (i := 12) rfl)) e45 (hb hby d1_49) rfl (by decide) (by decide) ?_
  intro T47 h47 b47 g47 X47 e47 E47 A47 D47
  have ne_a1_b47 : Nq a1 b47 := Nat.ne_of_lt (Nat.lt_of_lt_of_eq E_a1.lt g47.symm)
  replace E_a1 := E_a1.ext E47
  replace O_0 := O_0.ext E47
  replace F_nomOccurrences := F_nomOccurrences.ext E47
  replace F_unconditional := F_unconditional.ext E47
  replace F_bodyShapes := F_bodyShapes.ext E47
  replace F_pairedShapes := F_pairedShapes.ext E47
  replace F_readWithOthers := F_readWithOthers.ext E47
  replace F_namedClasses := F_namedClasses.ext E47
  replace F_individuals := F_individuals.ext E47
  have ge_b47 : n0 ≤ b47 := Nat.le_trans Z46 (Nat.le_of_eq g47.symm)
  have sz_b47 : h0.size ≤ b47 := Nat.le_trans K45.1 (Nat.le_of_eq g47.symm)
  have K47 : Keep h0 h47 [a1] := K45.ext E47
  have Z48 : n0 ≤ h47.size := Nat.le_trans Z46 E47.1
  have F47_loadFactor : Fld Z h47 b47 "java/util/HashMap" "loadFactor" "F" (.float 0) := D47 (Or.inr (hw _ (List.mem_of_getElem? (i := 25) rfl))) (ty := .float) (by decide)
  show Ok p e below _ _ T47 (mkF m 52 #[.val (.ref a1), .val (.int p2), .val (.int p3)] [(.ref b47), (.ref a1)])
  refine Ok.dup (pc' := 53) X47 hx (hb hby d1_52) rfl rfl ?_
  refine Ok.init (pc' := 56) (W := 2) (a := b47)  (argsL := []) (rest := [(.ref b47), (.ref a1)]) X47 hx hZ hown (rm12 l Z a0 hw b47  (.float 0) h47 n0 Z48 A47 ge_b47 F47_loadFactor) rfl (hw _ (List.mem_of_getElem? (i := 13) rfl)) (hw _ (List.mem_of_getElem? (i := 14) rfl)) (hw _ (List.mem_of_getElem? (i := 12) rfl)) (hw _ (List.mem_of_getElem? (i := 15) rfl)) (by decide) e47 (by decide) (by decide) (by decide) (by decide) (lenOf pd_1 rfl) rfl rfl (Nat.le_of_eq rfl) (by rw [hml]; rfl) (hb hby d1_53) rfl ?_
  intro v49 T49 L49 X49 hQ49
  obtain ⟨rfl, Nq49, Kq49, Aq49, Fq49_loadFactor⟩ := hQ49
  have N49 := Fr.app N45 Nq49
  replace E_a1 := E_a1.keep Kq49
  replace O_0 := O_0.keep Kq49 (allS ge_b47 all0)
  replace F_nomOccurrences := F_nomOccurrences.keep Kq49 (ninS ne_a1_b47 nin0)
  replace F_unconditional := F_unconditional.keep Kq49 (ninS ne_a1_b47 nin0)
  replace F_bodyShapes := F_bodyShapes.keep Kq49 (ninS ne_a1_b47 nin0)
  replace F_pairedShapes := F_pairedShapes.keep Kq49 (ninS ne_a1_b47 nin0)
  replace F_readWithOthers := F_readWithOthers.keep Kq49 (ninS ne_a1_b47 nin0)
  replace F_namedClasses := F_namedClasses.keep Kq49 (ninS ne_a1_b47 nin0)
  replace F_individuals := F_individuals.keep Kq49 (ninS ne_a1_b47 nin0)
  replace A47 := A47.keep Kq49
  have K49' : Keep h0 T49.heap [a1] := K47.trans Kq49 (allS (Or.inr sz_b47) all0)
  have Z50 : n0 ≤ T49.heap.size := Nat.le_trans Z48 Kq49.1
  show Ok p e below _ _ T49 (mkF m 56 #[.val (.ref a1), .val (.int p2), .val (.int p3)] [(.ref b47), (.ref a1)])
  refine Ok.putF (pc' := 59) (ty := (.object "java/util/Map")) X49 hx hZ hown (host := "") (Or.inl (hw _ (List.mem_of_getElem? (i := 58) rfl))) Via.refl rfl F_nomOccurrences E_a1 (Or.inr ⟨(hw _ (List.mem_of_getElem? (i := 59) rfl)), rfl, hnm⟩) (hw _ (List.mem_of_getElem? (i := 2) rfl)) (by decide) rfl rfl (hb hby d1_56) rfl ?_
  intro T51 h51 X51 e51 W51
  replace F_nomOccurrences := F_nomOccurrences.same W51
  replace E_a1 := E_a1.wr W51
  replace O_0 := O_0.wr W51 g_a1
  replace F_unconditional := F_unconditional.other W51 (Or.inr (slot_ne (Or.inr (hw _ (List.mem_of_getElem? (i := 61) rfl))) (Or.inr (hw _ (List.mem_of_getElem? (i := 59) rfl))) (by decide) (t := (.object "java/util/List")) (t' := (.object "java/util/Map")) (by decide) (by decide)))
  replace F_bodyShapes := F_bodyShapes.other W51 (Or.inr (slot_ne (Or.inr (hw _ (List.mem_of_getElem? (i := 82) rfl))) (Or.inr (hw _ (List.mem_of_getElem? (i := 59) rfl))) (by decide) (t := (.object "java/util/Set")) (t' := (.object "java/util/Map")) (by decide) (by decide)))
  replace F_pairedShapes := F_pairedShapes.other W51 (Or.inr (slot_ne (Or.inr (hw _ (List.mem_of_getElem? (i := 84) rfl))) (Or.inr (hw _ (List.mem_of_getElem? (i := 59) rfl))) (by decide) (t := (.object "java/util/Set")) (t' := (.object "java/util/Map")) (by decide) (by decide)))
  replace F_readWithOthers := F_readWithOthers.other W51 (Or.inr (slot_ne (Or.inr (hw _ (List.mem_of_getElem? (i := 86) rfl))) (Or.inr (hw _ (List.mem_of_getElem? (i := 59) rfl))) (by decide) (t := (.object "java/util/Set")) (t' := (.object "java/util/Map")) (by decide) (by decide)))
  replace F_namedClasses := F_namedClasses.other W51 (Or.inr (slot_ne (Or.inr (hw _ (List.mem_of_getElem? (i := 88) rfl))) (Or.inr (hw _ (List.mem_of_getElem? (i := 59) rfl))) (by decide) (t := .int) (t' := (.object "java/util/Map")) (by decide) (by decide)))
  replace F_individuals := F_individuals.other W51 (Or.inr (slot_ne (Or.inr (hw _ (List.mem_of_getElem? (i := 90) rfl))) (Or.inr (hw _ (List.mem_of_getElem? (i := 59) rfl))) (by decide) (t := .int) (t' := (.object "java/util/Map")) (by decide) (by decide)))
  replace A47 := A47.wr W51
  replace Fq49_loadFactor := Fq49_loadFactor.other W51 (Or.inl (Ne.symm ne_a1_b47))
  have N51 := Fr.snoc X51 N49 g_a1
  have K51 : Keep h0 h51 [a1] := K49'.wr W51 (Or.inl (List.mem_of_getElem? (i := 0) rfl))
  have Z52 : n0 ≤ h51.size := Nat.le_trans Z50 (Keep.of_wr W51).1
  refine Ok.aloadN (pc' := 60) X51 hx (hb hby d1_59) rfl rfl rfl ?_
  refine Ok.new (pc' := 63) X51 hx hZ hown (hw _ (List.mem_of_getElem? (i := 30) rfl)) (hw _ (List.mem_of_getElem? (i := 31) rfl)) (hw _ (List.mem_of_getElem? (i := 32) rfl)) e51 (hb hby d1_60) rfl (by decide) (by decide) ?_
  intro T53 h53 b53 g53 X53 e53 E53 A53 D53
  have ne_a1_b53 : Nq a1 b53 := Nat.ne_of_lt (Nat.lt_of_lt_of_eq E_a1.lt g53.symm)
  replace E_a1 := E_a1.ext E53
  replace O_0 := O_0.ext E53
  replace F_unconditional := F_unconditional.ext E53
  replace F_bodyShapes := F_bodyShapes.ext E53
  replace F_pairedShapes := F_pairedShapes.ext E53
  replace F_readWithOthers := F_readWithOthers.ext E53
  replace F_namedClasses := F_namedClasses.ext E53
  replace F_individuals := F_individuals.ext E53
  have ge_b53 : n0 ≤ b53 := Nat.le_trans Z52 (Nat.le_of_eq g53.symm)
  have sz_b53 : h0.size ≤ b53 := Nat.le_trans K51.1 (Nat.le_of_eq g53.symm)
  have K53 : Keep h0 h53 [a1] := K51.ext E53
  have Z54 : n0 ≤ h53.size := Nat.le_trans Z52 E53.1
  have F53_modCount : Fld Z h53 b53 "java/util/AbstractList" "modCount" "I" (.int (0 : Int32)) := D53 (Or.inl (hw _ (List.mem_of_getElem? (i := 50) rfl))) (ty := .int) (by decide)
  have F53_elementData : Fld Z h53 b53 "java/util/ArrayList" "elementData" "[Ljava/lang/Object;" .null := D53 (Or.inl (hw _ (List.mem_of_getElem? (i := 53) rfl))) (ty := (.array (.object "java/lang/Object"))) (by decide)
  show Ok p e below _ _ T53 (mkF m 63 #[.val (.ref a1), .val (.int p2), .val (.int p3)] [(.ref b53), (.ref a1)])
  refine Ok.dup (pc' := 64) X53 hx (hb hby d1_63) rfl rfl ?_
  refine Ok.init (pc' := 67) (W := 2) (a := b53)  (argsL := []) (rest := [(.ref b53), (.ref a1)]) X53 hx hZ hown (rm14 l Z a0 hw b53 (.int (0 : Int32)) .null ed h53 n0 Z54 A53 ge_b53 F53_modCount F53_elementData O_0 S_ed) rfl (hw _ (List.mem_of_getElem? (i := 33) rfl)) (hw _ (List.mem_of_getElem? (i := 34) rfl)) (hw _ (List.mem_of_getElem? (i := 32) rfl)) (hw _ (List.mem_of_getElem? (i := 35) rfl)) (by decide) e53 (by decide) (by decide) (by decide) (by decide) (lenOf pd_1 rfl) rfl rfl (Nat.le_of_eq rfl) (by rw [hml]; rfl) (hb hby d1_64) rfl ?_
  intro v55 T55 L55 X55 hQ55
  obtain ⟨rfl, Nq55, Kq55, Aq55⟩ := hQ55
  have N55 := Fr.app N51 Nq55
  replace E_a1 := E_a1.keep Kq55
  replace O_0 := O_0.keep Kq55 (allS ge_b53 all0)
  replace F_unconditional := F_unconditional.keep Kq55 (ninS ne_a1_b53 nin0)
  replace F_bodyShapes := F_bodyShapes.keep Kq55 (ninS ne_a1_b53 nin0)
  replace F_pairedShapes := F_pairedShapes.keep Kq55 (ninS ne_a1_b53 nin0)
  replace F_readWithOthers := F_readWithOthers.keep Kq55 (ninS ne_a1_b53 nin0)
  replace F_namedClasses := F_namedClasses.keep Kq55 (ninS ne_a1_b53 nin0)
  replace F_individuals := F_individuals.keep Kq55 (ninS ne_a1_b53 nin0)
  replace A53 := A53.keep Kq55
  have K55' : Keep h0 T55.heap [a1] := K53.trans Kq55 (allS (Or.inr sz_b53) all0)
  have Z56 : n0 ≤ T55.heap.size := Nat.le_trans Z54 Kq55.1
  show Ok p e below _ _ T55 (mkF m 67 #[.val (.ref a1), .val (.int p2), .val (.int p3)] [(.ref b53), (.ref a1)])
  refine Ok.putF (pc' := 70) (ty := (.object "java/util/List")) X55 hx hZ hown (host := "") (Or.inl (hw _ (List.mem_of_getElem? (i := 60) rfl))) Via.refl rfl F_unconditional E_a1 (Or.inr ⟨(hw _ (List.mem_of_getElem? (i := 61) rfl)), rfl, hnm⟩) (hw _ (List.mem_of_getElem? (i := 2) rfl)) (by decide) rfl rfl (hb hby d1_67) rfl ?_
  intro T57 h57 X57 e57 W57
  replace F_unconditional := F_unconditional.same W57
  replace E_a1 := E_a1.wr W57
  replace O_0 := O_0.wr W57 g_a1
  replace F_bodyShapes := F_bodyShapes.other W57 (Or.inr (slot_ne (Or.inr (hw _ (List.mem_of_getElem? (i := 82) rfl))) (Or.inr (hw _ (List.mem_of_getElem? (i := 61) rfl))) (by decide) (t := (.object "java/util/Set")) (t' := (.object "java/util/List")) (by decide) (by decide)))
  replace F_pairedShapes := F_pairedShapes.other W57 (Or.inr (slot_ne (Or.inr (hw _ (List.mem_of_getElem? (i := 84) rfl))) (Or.inr (hw _ (List.mem_of_getElem? (i := 61) rfl))) (by decide) (t := (.object "java/util/Set")) (t' := (.object "java/util/List")) (by decide) (by decide)))
  replace F_readWithOthers := F_readWithOthers.other W57 (Or.inr (slot_ne (Or.inr (hw _ (List.mem_of_getElem? (i := 86) rfl))) (Or.inr (hw _ (List.mem_of_getElem? (i := 61) rfl))) (by decide) (t := (.object "java/util/Set")) (t' := (.object "java/util/List")) (by decide) (by decide)))
  replace F_namedClasses := F_namedClasses.other W57 (Or.inr (slot_ne (Or.inr (hw _ (List.mem_of_getElem? (i := 88) rfl))) (Or.inr (hw _ (List.mem_of_getElem? (i := 61) rfl))) (by decide) (t := .int) (t' := (.object "java/util/List")) (by decide) (by decide)))
  replace F_individuals := F_individuals.other W57 (Or.inr (slot_ne (Or.inr (hw _ (List.mem_of_getElem? (i := 90) rfl))) (Or.inr (hw _ (List.mem_of_getElem? (i := 61) rfl))) (by decide) (t := .int) (t' := (.object "java/util/List")) (by decide) (by decide)))
  replace A53 := A53.wr W57
  have N57 := Fr.snoc X57 N55 g_a1
  have K57 : Keep h0 h57 [a1] := K55'.wr W57 (Or.inl (List.mem_of_getElem? (i := 0) rfl))
  have Z58 : n0 ≤ h57.size := Nat.le_trans Z56 (Keep.of_wr W57).1
  refine Ok.aloadN (pc' := 71) X57 hx (hb hby d1_70) rfl rfl rfl ?_
  refine Ok.new (pc' := 74) X57 hx hZ hown (hw _ (List.mem_of_getElem? (i := 62) rfl)) (hw _ (List.mem_of_getElem? (i := 63) rfl)) (hw _ (List.mem_of_getElem? (i := 64) rfl)) e57 (hb hby d1_71) rfl (by decide) (by decide) ?_
  intro T59 h59 b59 g59 X59 e59 E59 A59 D59
  have ne_a1_b59 : Nq a1 b59 := Nat.ne_of_lt (Nat.lt_of_lt_of_eq E_a1.lt g59.symm)
  replace E_a1 := E_a1.ext E59
  replace O_0 := O_0.ext E59
  replace F_bodyShapes := F_bodyShapes.ext E59
  replace F_pairedShapes := F_pairedShapes.ext E59
  replace F_readWithOthers := F_readWithOthers.ext E59
  replace F_namedClasses := F_namedClasses.ext E59
  replace F_individuals := F_individuals.ext E59
  have ge_b59 : n0 ≤ b59 := Nat.le_trans Z58 (Nat.le_of_eq g59.symm)
  have sz_b59 : h0.size ≤ b59 := Nat.le_trans K57.1 (Nat.le_of_eq g59.symm)
  have K59 : Keep h0 h59 [a1] := K57.ext E59
  have Z60 : n0 ≤ h59.size := Nat.le_trans Z58 E59.1
  have F59_map : Fld Z h59 b59 "java/util/HashSet" "map" "Ljava/util/HashMap;" .null := D59 (Or.inl (hw _ (List.mem_of_getElem? (i := 80) rfl))) (ty := (.object "java/util/HashMap")) (by decide)
  show Ok p e below _ _ T59 (mkF m 74 #[.val (.ref a1), .val (.int p2), .val (.int p3)] [(.ref b59), (.ref a1)])
  refine Ok.dup (pc' := 75) X59 hx (hb hby d1_74) rfl rfl ?_
  refine Ok.init (pc' := 78) (W := 2) (a := b59)  (argsL := []) (rest := [(.ref b59), (.ref a1)]) X59 hx hZ hown (rm16 l Z a0 hw b59 .null h59 n0 Z60 A59 ge_b59 F59_map) rfl (hw _ (List.mem_of_getElem? (i := 65) rfl)) (hw _ (List.mem_of_getElem? (i := 66) rfl)) (hw _ (List.mem_of_getElem? (i := 64) rfl)) (hw _ (List.mem_of_getElem? (i := 67) rfl)) (by decide) e59 (by decide) (by decide) (by decide) (by decide) (lenOf pd_1 rfl) rfl rfl (Nat.le_of_eq rfl) (by rw [hml]; rfl) (hb hby d1_75) rfl ?_
  intro v61 T61 L61 X61 hQ61
  obtain ⟨rfl, Nq61, Kq61, Aq61⟩ := hQ61
  have N61 := Fr.app N57 Nq61
  replace E_a1 := E_a1.keep Kq61
  replace O_0 := O_0.keep Kq61 (allS ge_b59 all0)
  replace F_bodyShapes := F_bodyShapes.keep Kq61 (ninS ne_a1_b59 nin0)
  replace F_pairedShapes := F_pairedShapes.keep Kq61 (ninS ne_a1_b59 nin0)
  replace F_readWithOthers := F_readWithOthers.keep Kq61 (ninS ne_a1_b59 nin0)
  replace F_namedClasses := F_namedClasses.keep Kq61 (ninS ne_a1_b59 nin0)
  replace F_individuals := F_individuals.keep Kq61 (ninS ne_a1_b59 nin0)
  replace A59 := A59.keep Kq61
  have K61' : Keep h0 T61.heap [a1] := K59.trans Kq61 (allS (Or.inr sz_b59) all0)
  have Z62 : n0 ≤ T61.heap.size := Nat.le_trans Z60 Kq61.1
  show Ok p e below _ _ T61 (mkF m 78 #[.val (.ref a1), .val (.int p2), .val (.int p3)] [(.ref b59), (.ref a1)])
  refine Ok.putF (pc' := 81) (ty := (.object "java/util/Set")) X61 hx hZ hown (host := "") (Or.inl (hw _ (List.mem_of_getElem? (i := 81) rfl))) Via.refl rfl F_bodyShapes E_a1 (Or.inr ⟨(hw _ (List.mem_of_getElem? (i := 82) rfl)), rfl, hnm⟩) (hw _ (List.mem_of_getElem? (i := 2) rfl)) (by decide) rfl rfl (hb hby d1_78) rfl ?_
  intro T63 h63 X63 e63 W63
  replace F_bodyShapes := F_bodyShapes.same W63
  replace E_a1 := E_a1.wr W63
  replace O_0 := O_0.wr W63 g_a1
  replace F_pairedShapes := F_pairedShapes.other W63 (Or.inr (slot_ne (Or.inr (hw _ (List.mem_of_getElem? (i := 84) rfl))) (Or.inr (hw _ (List.mem_of_getElem? (i := 82) rfl))) (by decide) (t := (.object "java/util/Set")) (t' := (.object "java/util/Set")) (by decide) (by decide)))
  replace F_readWithOthers := F_readWithOthers.other W63 (Or.inr (slot_ne (Or.inr (hw _ (List.mem_of_getElem? (i := 86) rfl))) (Or.inr (hw _ (List.mem_of_getElem? (i := 82) rfl))) (by decide) (t := (.object "java/util/Set")) (t' := (.object "java/util/Set")) (by decide) (by decide)))
  replace F_namedClasses := F_namedClasses.other W63 (Or.inr (slot_ne (Or.inr (hw _ (List.mem_of_getElem? (i := 88) rfl))) (Or.inr (hw _ (List.mem_of_getElem? (i := 82) rfl))) (by decide) (t := .int) (t' := (.object "java/util/Set")) (by decide) (by decide)))
  replace F_individuals := F_individuals.other W63 (Or.inr (slot_ne (Or.inr (hw _ (List.mem_of_getElem? (i := 90) rfl))) (Or.inr (hw _ (List.mem_of_getElem? (i := 82) rfl))) (by decide) (t := .int) (t' := (.object "java/util/Set")) (by decide) (by decide)))
  replace A59 := A59.wr W63
  have N63 := Fr.snoc X63 N61 g_a1
  have K63 : Keep h0 h63 [a1] := K61'.wr W63 (Or.inl (List.mem_of_getElem? (i := 0) rfl))
  have Z64 : n0 ≤ h63.size := Nat.le_trans Z62 (Keep.of_wr W63).1
  refine Ok.aloadN (pc' := 82) X63 hx (hb hby d1_81) rfl rfl rfl ?_
  refine Ok.new (pc' := 85) X63 hx hZ hown (hw _ (List.mem_of_getElem? (i := 62) rfl)) (hw _ (List.mem_of_getElem? (i := 63) rfl)) (hw _ (List.mem_of_getElem? (i := 64) rfl)) e63 (hb hby d1_82) rfl (by decide) (by decide) ?_
  intro T65 h65 b65 g65 X65 e65 E65 A65 D65
  have ne_a1_b65 : Nq a1 b65 := Nat.ne_of_lt (Nat.lt_of_lt_of_eq E_a1.lt g65.symm)
  replace E_a1 := E_a1.ext E65
  replace O_0 := O_0.ext E65
  replace F_pairedShapes := F_pairedShapes.ext E65
  replace F_readWithOthers := F_readWithOthers.ext E65
  replace F_namedClasses := F_namedClasses.ext E65
  replace F_individuals := F_individuals.ext E65
  have ge_b65 : n0 ≤ b65 := Nat.le_trans Z64 (Nat.le_of_eq g65.symm)
  have sz_b65 : h0.size ≤ b65 := Nat.le_trans K63.1 (Nat.le_of_eq g65.symm)
  have K65 : Keep h0 h65 [a1] := K63.ext E65
  have Z66 : n0 ≤ h65.size := Nat.le_trans Z64 E65.1
  have F65_map : Fld Z h65 b65 "java/util/HashSet" "map" "Ljava/util/HashMap;" .null := D65 (Or.inl (hw _ (List.mem_of_getElem? (i := 80) rfl))) (ty := (.object "java/util/HashMap")) (by decide)
  show Ok p e below _ _ T65 (mkF m 85 #[.val (.ref a1), .val (.int p2), .val (.int p3)] [(.ref b65), (.ref a1)])
  refine Ok.dup (pc' := 86) X65 hx (hb hby d1_85) rfl rfl ?_
  refine Ok.init (pc' := 89) (W := 2) (a := b65)  (argsL := []) (rest := [(.ref b65), (.ref a1)]) X65 hx hZ hown (rm16 l Z a0 hw b65 .null h65 n0 Z66 A65 ge_b65 F65_map) rfl (hw _ (List.mem_of_getElem? (i := 65) rfl)) (hw _ (List.mem_of_getElem? (i := 66) rfl)) (hw _ (List.mem_of_getElem? (i := 64) rfl)) (hw _ (List.mem_of_getElem? (i := 67) rfl)) (by decide) e65 (by decide) (by decide) (by decide) (by decide) (lenOf pd_1 rfl) rfl rfl (Nat.le_of_eq rfl) (by rw [hml]; rfl) (hb hby d1_86) rfl ?_
  intro v67 T67 L67 X67 hQ67
  obtain ⟨rfl, Nq67, Kq67, Aq67⟩ := hQ67
  have N67 := Fr.app N63 Nq67
  replace E_a1 := E_a1.keep Kq67
  replace O_0 := O_0.keep Kq67 (allS ge_b65 all0)
  replace F_pairedShapes := F_pairedShapes.keep Kq67 (ninS ne_a1_b65 nin0)
  replace F_readWithOthers := F_readWithOthers.keep Kq67 (ninS ne_a1_b65 nin0)
  replace F_namedClasses := F_namedClasses.keep Kq67 (ninS ne_a1_b65 nin0)
  replace F_individuals := F_individuals.keep Kq67 (ninS ne_a1_b65 nin0)
  replace A65 := A65.keep Kq67
  have K67' : Keep h0 T67.heap [a1] := K65.trans Kq67 (allS (Or.inr sz_b65) all0)
  have Z68 : n0 ≤ T67.heap.size := Nat.le_trans Z66 Kq67.1
  show Ok p e below _ _ T67 (mkF m 89 #[.val (.ref a1), .val (.int p2), .val (.int p3)] [(.ref b65), (.ref a1)])
  refine Ok.putF (pc' := 92) (ty := (.object "java/util/Set")) X67 hx hZ hown (host := "") (Or.inl (hw _ (List.mem_of_getElem? (i := 83) rfl))) Via.refl rfl F_pairedShapes E_a1 (Or.inr ⟨(hw _ (List.mem_of_getElem? (i := 84) rfl)), rfl, hnm⟩) (hw _ (List.mem_of_getElem? (i := 2) rfl)) (by decide) rfl rfl (hb hby d1_89) rfl ?_
  intro T69 h69 X69 e69 W69
  replace F_pairedShapes := F_pairedShapes.same W69
  replace E_a1 := E_a1.wr W69
  replace O_0 := O_0.wr W69 g_a1
  replace F_readWithOthers := F_readWithOthers.other W69 (Or.inr (slot_ne (Or.inr (hw _ (List.mem_of_getElem? (i := 86) rfl))) (Or.inr (hw _ (List.mem_of_getElem? (i := 84) rfl))) (by decide) (t := (.object "java/util/Set")) (t' := (.object "java/util/Set")) (by decide) (by decide)))
  replace F_namedClasses := F_namedClasses.other W69 (Or.inr (slot_ne (Or.inr (hw _ (List.mem_of_getElem? (i := 88) rfl))) (Or.inr (hw _ (List.mem_of_getElem? (i := 84) rfl))) (by decide) (t := .int) (t' := (.object "java/util/Set")) (by decide) (by decide)))
  replace F_individuals := F_individuals.other W69 (Or.inr (slot_ne (Or.inr (hw _ (List.mem_of_getElem? (i := 90) rfl))) (Or.inr (hw _ (List.mem_of_getElem? (i := 84) rfl))) (by decide) (t := .int) (t' := (.object "java/util/Set")) (by decide) (by decide)))
  replace A65 := A65.wr W69
  have N69 := Fr.snoc X69 N67 g_a1
  have K69 : Keep h0 h69 [a1] := K67'.wr W69 (Or.inl (List.mem_of_getElem? (i := 0) rfl))
  have Z70 : n0 ≤ h69.size := Nat.le_trans Z68 (Keep.of_wr W69).1
  refine Ok.aloadN (pc' := 93) X69 hx (hb hby d1_92) rfl rfl rfl ?_
  refine Ok.new (pc' := 96) X69 hx hZ hown (hw _ (List.mem_of_getElem? (i := 62) rfl)) (hw _ (List.mem_of_getElem? (i := 63) rfl)) (hw _ (List.mem_of_getElem? (i := 64) rfl)) e69 (hb hby d1_93) rfl (by decide) (by decide) ?_
  intro T71 h71 b71 g71 X71 e71 E71 A71 D71
  have ne_a1_b71 : Nq a1 b71 := Nat.ne_of_lt (Nat.lt_of_lt_of_eq E_a1.lt g71.symm)
  replace E_a1 := E_a1.ext E71
  replace O_0 := O_0.ext E71
  replace F_readWithOthers := F_readWithOthers.ext E71
  replace F_namedClasses := F_namedClasses.ext E71
  replace F_individuals := F_individuals.ext E71
  have ge_b71 : n0 ≤ b71 := Nat.le_trans Z70 (Nat.le_of_eq g71.symm)
  have sz_b71 : h0.size ≤ b71 := Nat.le_trans K69.1 (Nat.le_of_eq g71.symm)
  have K71 : Keep h0 h71 [a1] := K69.ext E71
  have Z72 : n0 ≤ h71.size := Nat.le_trans Z70 E71.1
  have F71_map : Fld Z h71 b71 "java/util/HashSet" "map" "Ljava/util/HashMap;" .null := D71 (Or.inl (hw _ (List.mem_of_getElem? (i := 80) rfl))) (ty := (.object "java/util/HashMap")) (by decide)
  show Ok p e below _ _ T71 (mkF m 96 #[.val (.ref a1), .val (.int p2), .val (.int p3)] [(.ref b71), (.ref a1)])
  refine Ok.dup (pc' := 97) X71 hx (hb hby d1_96) rfl rfl ?_
  refine Ok.init (pc' := 100) (W := 2) (a := b71)  (argsL := []) (rest := [(.ref b71), (.ref a1)]) X71 hx hZ hown (rm16 l Z a0 hw b71 .null h71 n0 Z72 A71 ge_b71 F71_map) rfl (hw _ (List.mem_of_getElem? (i := 65) rfl)) (hw _ (List.mem_of_getElem? (i := 66) rfl)) (hw _ (List.mem_of_getElem? (i := 64) rfl)) (hw _ (List.mem_of_getElem? (i := 67) rfl)) (by decide) e71 (by decide) (by decide) (by decide) (by decide) (lenOf pd_1 rfl) rfl rfl (Nat.le_of_eq rfl) (by rw [hml]; rfl) (hb hby d1_97) rfl ?_
  intro v73 T73 L73 X73 hQ73
  obtain ⟨rfl, Nq73, Kq73, Aq73⟩ := hQ73
  have N73 := Fr.app N69 Nq73
  replace E_a1 := E_a1.keep Kq73
  replace O_0 := O_0.keep Kq73 (allS ge_b71 all0)
  replace F_readWithOthers := F_readWithOthers.keep Kq73 (ninS ne_a1_b71 nin0)
  replace F_namedClasses := F_namedClasses.keep Kq73 (ninS ne_a1_b71 nin0)
  replace F_individuals := F_individuals.keep Kq73 (ninS ne_a1_b71 nin0)
  replace A71 := A71.keep Kq73
  have K73' : Keep h0 T73.heap [a1] := K71.trans Kq73 (allS (Or.inr sz_b71) all0)
  have Z74 : n0 ≤ T73.heap.size := Nat.le_trans Z72 Kq73.1
  show Ok p e below _ _ T73 (mkF m 100 #[.val (.ref a1), .val (.int p2), .val (.int p3)] [(.ref b71), (.ref a1)])
  refine Ok.putF (pc' := 103) (ty := (.object "java/util/Set")) X73 hx hZ hown (host := "") (Or.inl (hw _ (List.mem_of_getElem? (i := 85) rfl))) Via.refl rfl F_readWithOthers E_a1 (Or.inr ⟨(hw _ (List.mem_of_getElem? (i := 86) rfl)), rfl, hnm⟩) (hw _ (List.mem_of_getElem? (i := 2) rfl)) (by decide) rfl rfl (hb hby d1_100) rfl ?_
  intro T75 h75 X75 e75 W75
  replace F_readWithOthers := F_readWithOthers.same W75
  replace E_a1 := E_a1.wr W75
  replace O_0 := O_0.wr W75 g_a1
  replace F_namedClasses := F_namedClasses.other W75 (Or.inr (slot_ne (Or.inr (hw _ (List.mem_of_getElem? (i := 88) rfl))) (Or.inr (hw _ (List.mem_of_getElem? (i := 86) rfl))) (by decide) (t := .int) (t' := (.object "java/util/Set")) (by decide) (by decide)))
  replace F_individuals := F_individuals.other W75 (Or.inr (slot_ne (Or.inr (hw _ (List.mem_of_getElem? (i := 90) rfl))) (Or.inr (hw _ (List.mem_of_getElem? (i := 86) rfl))) (by decide) (t := .int) (t' := (.object "java/util/Set")) (by decide) (by decide)))
  replace A71 := A71.wr W75
  have N75 := Fr.snoc X75 N73 g_a1
  have K75 : Keep h0 h75 [a1] := K73'.wr W75 (Or.inl (List.mem_of_getElem? (i := 0) rfl))
  have Z76 : n0 ≤ h75.size := Nat.le_trans Z74 (Keep.of_wr W75).1
  refine Ok.aloadN (pc' := 104) X75 hx (hb hby d1_103) rfl rfl rfl ?_
  refine Ok.iloadN (pc' := 105) X75 hx (hb hby d1_104) rfl rfl ?_
  refine Ok.putF (pc' := 108) (ty := .int) X75 hx hZ hown (host := "") (Or.inl (hw _ (List.mem_of_getElem? (i := 87) rfl))) Via.refl e75 F_namedClasses E_a1 (Or.inr ⟨(hw _ (List.mem_of_getElem? (i := 88) rfl)), rfl, hnm⟩) (hw _ (List.mem_of_getElem? (i := 2) rfl)) (by decide) rfl rfl (hb hby d1_105) rfl ?_
  intro T77 h77 X77 e77 W77
  replace F_namedClasses := F_namedClasses.same W77
  replace E_a1 := E_a1.wr W77
  replace O_0 := O_0.wr W77 g_a1
  replace F_individuals := F_individuals.other W77 (Or.inr (slot_ne (Or.inr (hw _ (List.mem_of_getElem? (i := 90) rfl))) (Or.inr (hw _ (List.mem_of_getElem? (i := 88) rfl))) (by decide) (t := .int) (t' := .int) (by decide) (by decide)))
  have N77 := Fr.snoc X77 N75 g_a1
  have K77 : Keep h0 h77 [a1] := K75.wr W77 (Or.inl (List.mem_of_getElem? (i := 0) rfl))
  have Z78 : n0 ≤ h77.size := Nat.le_trans Z76 (Keep.of_wr W77).1
  refine Ok.aloadN (pc' := 109) X77 hx (hb hby d1_108) rfl rfl rfl ?_
  refine Ok.iloadN (pc' := 110) X77 hx (hb hby d1_109) rfl rfl ?_
  refine Ok.putF (pc' := 113) (ty := .int) X77 hx hZ hown (host := "") (Or.inl (hw _ (List.mem_of_getElem? (i := 89) rfl))) Via.refl e77 F_individuals E_a1 (Or.inr ⟨(hw _ (List.mem_of_getElem? (i := 90) rfl)), rfl, hnm⟩) (hw _ (List.mem_of_getElem? (i := 2) rfl)) (by decide) rfl rfl (hb hby d1_110) rfl ?_
  intro T79 h79 X79 e79 W79
  replace F_individuals := F_individuals.same W79
  replace E_a1 := E_a1.wr W79
  replace O_0 := O_0.wr W79 g_a1
  replace F_namedClasses := F_namedClasses.other W79 (Or.inr (slot_ne (Or.inr (hw _ (List.mem_of_getElem? (i := 88) rfl))) (Or.inr (hw _ (List.mem_of_getElem? (i := 90) rfl))) (by decide) (t := .int) (t' := .int) (by decide) (by decide)))
  have N79 := Fr.snoc X79 N77 g_a1
  have K79 : Keep h0 h79 [a1] := K77.wr W79 (Or.inl (List.mem_of_getElem? (i := 0) rfl))
  have Z80 : n0 ≤ h79.size := Nat.le_trans Z78 (Keep.of_wr W79).1
  refine Ok.retV X79 hx hret hlk (hb hby d1_113) (by decide) (by decide) ?_
  show Q1 Z a1 p2 p3 ed u_occurrences u_counted u_countedAtoms u_noms u_nomOccurrences u_unconditional u_bodyShapes u_pairedShapes u_readWithOthers u_namedClasses u_individuals h0 n0 _ T79.heap _
  rw [e79]
  exact ⟨rfl, N79, E_a1, F_namedClasses, F_individuals, K79⟩
theorem d2_0 : decode prog_4_method_5_code 0 = .ok (.iload_n 1, 1) := by decide +kernel
theorem d2_1 : decode prog_4_method_5_code 1 = .ok (.aload_n 0, 1) := by decide +kernel
theorem d2_2 : decode prog_4_method_5_code 2 = .ok (.getfield 48, 3) := by decide +kernel
theorem d2_5 : decode prog_4_method_5_code 5 = .ok (.isub, 1) := by decide +kernel
theorem d2_6 : decode prog_4_method_5_code 6 = .ok (.istore_n 2, 1) := by decide +kernel
theorem d2_7 : decode prog_4_method_5_code 7 = .ok (.iload_n 2, 1) := by decide +kernel
theorem d2_8 : decode prog_4_method_5_code 8 = .ok (.ifCond .lt 15, 3) := by decide +kernel
theorem d2_11 : decode prog_4_method_5_code 11 = .ok (.iload_n 2, 1) := by decide +kernel
theorem d2_12 : decode prog_4_method_5_code 12 = .ok (.aload_n 0, 1) := by decide +kernel
theorem d2_13 : decode prog_4_method_5_code 13 = .ok (.getfield 52, 3) := by decide +kernel
theorem d2_16 : decode prog_4_method_5_code 16 = .ok (.if_icmp .ge 7, 3) := by decide +kernel
theorem d2_19 : decode prog_4_method_5_code 19 = .ok (.iload_n 2, 1) := by decide +kernel
theorem d2_20 : decode prog_4_method_5_code 20 = .ok (.goto 4, 3) := by decide +kernel
theorem d2_23 : decode prog_4_method_5_code 23 = .ok (.iconst (-1), 1) := by decide +kernel
theorem d2_24 : decode prog_4_method_5_code 24 = .ok (.ireturn, 1) := by decide +kernel
theorem ef_2 (m : MethodId) (x0 : Addr) (x1 : Int32) : entryFrame m #[(.ref x0), (.int x1)] 3 = mkF m 0 #[.val (.ref x0), .val (.int x1), .unset] [] := by first | (simp [entryFrame, mkF, argsToLocals, Value.category]; done) | rfl
def Q2 (Z : State) (a1 : Addr) (p2 : Int32) (nc : Int32) (ni : Int32) (h0 : Heap) (n0 : Nat) (v : Option Value) (h : Heap) (L : List Loc) : Prop := ∃ r : Int32, v = some (.int r) ∧ (0 ≤ (p2 - nc).toInt ∧ (p2 - nc).toInt < ni.toInt ∧ r = p2 - nc ∨ ¬ (0 ≤ (p2 - nc).toInt ∧ (p2 - nc).toInt < ni.toInt) ∧ r = -1) ∧ Fr n0 L ∧ h = h0
set_option maxRecDepth 65536 in
set_option maxHeartbeats 40000000 in
theorem rm2 (l : Launch) (Z : State) (a0 : Array Value) (hw : ∀ d ∈ tables_1, d.before a0 Z = true) (a1 : Addr) (p2 : Int32) (nc : Int32) (ni : Int32) (h0 : Heap) (n0 : Nat) (Z0 : n0 ≤ h0.size) (F_1 : Fld Z h0 a1 "com/example/consequor/consequor/ClauseSet" "namedClasses" "I" (.int nc)) (F_2 : Fld Z h0 a1 "com/example/consequor/consequor/ClauseSet" "individuals" "I" (.int ni)) :
    MetN l Z (⟨"com/example/consequor/consequor/ClauseSet", "nominalIndividual", "(I)I"⟩ : MethodName) prog_4_method_5_code 3 (some .int) [] ({ frames := 0, cells := 0, slots := 0, locals := 0 } : Room) #[(.ref a1), (.int p2)] h0 (Q2 Z a1 p2 nc ni h0 n0) := by
  refine met_n (plainFor_of_name pn_7) (fun m => ef_2 m a1 p2) ?_
  intro p e s m below meth c s₁ X0 hx hby hml hZ hown hnm hret hlk e0
  replace hown : s.vm.findClass "com/example/consequor/consequor/ClauseSet" = some m.cls := hown
  replace hnm : meth.name = "nominalIndividual" := hnm
  replace hret : meth.sig.returnType = (some .int) := hret
  have N0 := Fr.nil n0
  have K0 : Keep h0 h0 [] := Keep.refl _ _
  show Ok p e below _ _ s₁ (mkF m 0 #[.val (.ref a1), .val (.int p2), .unset] [])
  refine Ok.iloadN (pc' := 1) X0 hx (hb hby d2_0) rfl rfl ?_
  refine Ok.aloadN (pc' := 2) X0 hx (hb hby d2_1) rfl rfl rfl ?_
  refine Ok.getF (pc' := 5) X0 hx hZ hown (host := "") (Or.inl (hw _ (List.mem_of_getElem? (i := 87) rfl))) Via.refl e0 F_1 (hb hby d2_2) rfl ?_
  intro T81 X81 e81
  refine Ok.isub (pc' := 6) X81 hx (hb hby d2_5) rfl ?_
  refine Ok.istoreN (l' := #[.val (.ref a1), .val (.int p2), .val (.int (p2 - nc))]) (pc' := 7) X81 hx (hb hby d2_6) rfl rfl ?_
  refine Ok.iloadN (pc' := 8) X81 hx (hb hby d2_7) rfl rfl ?_
  by_cases hc8 : (p2 - nc).toInt < 0
  · refine Ok.ifY (pc' := 23) X81 hx (hb hby d2_8) (bt (i0 .lt (p2 - nc) (ic_eq (p2 - nc) 0).2.2.1) hc8) (by decide) (by decide) ?_
    refine Ok.iconst (z := (-1 : Int32)) (pc' := 24) X81 hx (hb hby d2_23) rfl rfl ?_
    refine Ok.retI X81 hx hret hlk (Or.inl rfl) rfl (hb hby d2_24) (by decide) (by decide) ?_
    show Q2 Z a1 p2 nc ni h0 n0 _ T81.heap _
    rw [e81]
    exact ⟨_, rfl, Or.inr ⟨by omega, rfl⟩, N0, rfl⟩
  · refine Ok.ifN (pc' := 11) X81 hx (hb hby d2_8) (bf (i0 .lt (p2 - nc) (ic_eq (p2 - nc) 0).2.2.1) hc8) rfl ?_
    refine Ok.iloadN (pc' := 12) X81 hx (hb hby d2_11) rfl rfl ?_
    refine Ok.aloadN (pc' := 13) X81 hx (hb hby d2_12) rfl rfl rfl ?_
    refine Ok.getF (pc' := 16) X81 hx hZ hown (host := "") (Or.inl (hw _ (List.mem_of_getElem? (i := 89) rfl))) Via.refl e81 F_2 (hb hby d2_13) rfl ?_
    intro T82 X82 e82
    by_cases hc16 : ni.toInt ≤ (p2 - nc).toInt
    · refine Ok.icY (pc' := 23) X82 hx (hb hby d2_16) (bt (ic_eq (p2 - nc) ni).2.2.2.1 hc16) (by decide) (by decide) ?_
      refine Ok.iconst (z := (-1 : Int32)) (pc' := 24) X82 hx (hb hby d2_23) rfl rfl ?_
      refine Ok.retI X82 hx hret hlk (Or.inl rfl) rfl (hb hby d2_24) (by decide) (by decide) ?_
      show Q2 Z a1 p2 nc ni h0 n0 _ T82.heap _
      rw [e82]
      exact ⟨_, rfl, Or.inr ⟨by omega, rfl⟩, N0, rfl⟩
    · refine Ok.icN (pc' := 19) X82 hx (hb hby d2_16) (bf (ic_eq (p2 - nc) ni).2.2.2.1 hc16) rfl ?_
      refine Ok.iloadN (pc' := 20) X82 hx (hb hby d2_19) rfl rfl ?_
      refine Ok.goto (pc' := 24) X82 hx (hb hby d2_20) (by decide) (by decide) ?_
      refine Ok.retI X82 hx hret hlk (Or.inl rfl) rfl (hb hby d2_24) (by decide) (by decide) ?_
      show Q2 Z a1 p2 nc ni h0 n0 _ T82.heap _
      rw [e82]
      exact ⟨_, rfl, Or.inl ⟨by omega, by omega, rfl⟩, N0, rfl⟩
theorem d3_0 : decode prog_4_method_4_code 0 = .ok (.aload_n 0, 1) := by decide +kernel
theorem d3_1 : decode prog_4_method_4_code 1 = .ok (.getfield 48, 3) := by decide +kernel
theorem d3_4 : decode prog_4_method_4_code 4 = .ok (.iload_n 1, 1) := by decide +kernel
theorem d3_5 : decode prog_4_method_4_code 5 = .ok (.iadd, 1) := by decide +kernel
theorem d3_6 : decode prog_4_method_4_code 6 = .ok (.ireturn, 1) := by decide +kernel
theorem ef_3 (m : MethodId) (x0 : Addr) (x1 : Int32) : entryFrame m #[(.ref x0), (.int x1)] 2 = mkF m 0 #[.val (.ref x0), .val (.int x1)] [] := by first | (simp [entryFrame, mkF, argsToLocals, Value.category]; done) | rfl
def Q3 (Z : State) (a1 : Addr) (p2 : Int32) (nc : Int32) (h0 : Heap) (n0 : Nat) (v : Option Value) (h : Heap) (L : List Loc) : Prop := v = some (.int (nc + p2)) ∧ Fr n0 L ∧ h = h0
set_option maxRecDepth 65536 in
set_option maxHeartbeats 40000000 in
theorem rm3 (l : Launch) (Z : State) (a0 : Array Value) (hw : ∀ d ∈ tables_1, d.before a0 Z = true) (a1 : Addr) (p2 : Int32) (nc : Int32) (h0 : Heap) (n0 : Nat) (Z0 : n0 ≤ h0.size) (F_1 : Fld Z h0 a1 "com/example/consequor/consequor/ClauseSet" "namedClasses" "I" (.int nc)) :
    MetN l Z (⟨"com/example/consequor/consequor/ClauseSet", "nominalClass", "(I)I"⟩ : MethodName) prog_4_method_4_code 2 (some .int) [] ({ frames := 0, cells := 0, slots := 0, locals := 0 } : Room) #[(.ref a1), (.int p2)] h0 (Q3 Z a1 p2 nc h0 n0) := by
  refine met_n (plainFor_of_name pn_7) (fun m => ef_3 m a1 p2) ?_
  intro p e s m below meth c s₁ X0 hx hby hml hZ hown hnm hret hlk e0
  replace hown : s.vm.findClass "com/example/consequor/consequor/ClauseSet" = some m.cls := hown
  replace hnm : meth.name = "nominalClass" := hnm
  replace hret : meth.sig.returnType = (some .int) := hret
  have N0 := Fr.nil n0
  have K0 : Keep h0 h0 [] := Keep.refl _ _
  show Ok p e below _ _ s₁ (mkF m 0 #[.val (.ref a1), .val (.int p2)] [])
  refine Ok.aloadN (pc' := 1) X0 hx (hb hby d3_0) rfl rfl rfl ?_
  refine Ok.getF (pc' := 4) X0 hx hZ hown (host := "") (Or.inl (hw _ (List.mem_of_getElem? (i := 87) rfl))) Via.refl e0 F_1 (hb hby d3_1) rfl ?_
  intro T83 X83 e83
  refine Ok.iloadN (pc' := 5) X83 hx (hb hby d3_4) rfl rfl ?_
  refine Ok.iadd (pc' := 6) X83 hx (hb hby d3_5) rfl ?_
  refine Ok.retI X83 hx hret hlk (Or.inl rfl) rfl (hb hby d3_6) (by decide) (by decide) ?_
  show Q3 Z a1 p2 nc h0 n0 _ T83.heap _
  rw [e83]
  exact ⟨rfl, N0, rfl⟩
theorem pn_8 : plainName "com/example/consequor/consequor/ClauseSetNominalIndividualPinLaw" = true := by first | (simp [plainName, overriddenIn]; done) | decide +kernel
theorem ef_0 (m : MethodId) (x0 : Int32) (x1 : Int32) (x2 : Int32) (x3 : Int32) (x4 : Int32) : entryFrame m #[(.int x0), (.int x1), (.int x2), (.int x3), (.int x4)] maxLocals = mkF m 0 #[.val (.int x0), .val (.int x1), .val (.int x2), .val (.int x3), .val (.int x4), .unset, .unset, .unset, .unset, .unset, .unset, .unset, .unset, .unset, .unset] [] := by first | (simp [entryFrame, mkF, argsToLocals, Value.category, maxLocals]; done) | rfl
def Q0 (Z : State) (p1 : Int32) (p2 : Int32) (p3 : Int32) (p4 : Int32) (p5 : Int32) (ed : Addr) (h0 : Heap) (n0 : Nat) (v : Option Value) (h : Heap) (L : List Loc) : Prop := v = some (.int (1 : Int32)) ∧ Fr n0 L
set_option maxRecDepth 65536 in
set_option maxHeartbeats 40000000 in
theorem rm0 (l : Launch) (Z : State) (a0 : Array Value) (hw : ∀ d ∈ tables_1, d.before a0 Z = true) (ws : List Jvm.Cond) (p1 : Int32) (p2 : Int32) (p3 : Int32) (p4 : Int32) (p5 : Int32) (ed : Addr) (h0 : Heap) (n0 : Nat) (Z0 : n0 ≤ h0.size) (O_0 : Old Z n0 h0) (S_ed : Sta Z Z.heap "java/util/ArrayList" "DEFAULTCAPACITY_EMPTY_ELEMENTDATA" "[Ljava/lang/Object;" (.ref ed)) :
    MetN l Z x code maxLocals ret ws room_1 #[(.int p1), (.int p2), (.int p3), (.int p4), (.int p5)] h0 (Q0 Z p1 p2 p3 p4 p5 ed h0 n0) := by
  refine met_n (plainFor_of_name pn_8) (fun m => ef_0 m p1 p2 p3 p4 p5) ?_
  intro p e s m below meth c s₁ X0 hx hby hml hZ hown hnm hret hlk e0
  replace hown : s.vm.findClass "com/example/consequor/consequor/ClauseSetNominalIndividualPinLaw" = some m.cls := hown
  replace hnm : meth.name = "law" := hnm
  replace hret : meth.sig.returnType = (some .boolean) := hret
  have N0 := Fr.nil n0
  have K0 : Keep h0 h0 [] := Keep.refl _ _
  show Ok p e below _ _ s₁ (mkF m 0 #[.val (.int p1), .val (.int p2), .val (.int p3), .val (.int p4), .val (.int p5), .unset, .unset, .unset, .unset, .unset, .unset, .unset, .unset, .unset, .unset] [])
  obtain ⟨nc, enc, hn0, hn1⟩ : ∃ z : Int32, (p1 &&& (1073741823 : Int32)) = z ∧ 0 ≤ z.toInt ∧ z.toInt ≤ 1073741823 := ⟨_, rfl, (mask30 p1).1, (mask30 p1).2⟩
  obtain ⟨ni, eni, hi0, hi1⟩ : ∃ z : Int32, (p2 &&& (1073741823 : Int32)) = z ∧ 0 ≤ z.toInt ∧ z.toInt ≤ 1073741823 := ⟨_, rfl, (mask30 p2).1, (mask30 p2).2⟩
  have hnc64 : nc.toInt64.toInt = nc.toInt := Int32.toInt_toInt64 nc
  have hni64 : ni.toInt64.toInt = ni.toInt := Int32.toInt_toInt64 ni
  show Ok p e below _ _ s₁ (mkF m 0 #[.val (.int p1), .val (.int p2), .val (.int p3), .val (.int p4), .val (.int p5), .unset, .unset, .unset, .unset, .unset, .unset, .unset, .unset, .unset, .unset] [])
  refine Ok.iloadN (pc' := 1) X0 hx (hb hby at_0) rfl rfl ?_
  refine Ok.ldcI (pc' := 3) (v := (1073741823 : Int32)) X0 hx hZ hown (hw _ (List.mem_of_getElem? (i := 0) rfl)) (hb hby at_1) rfl ?_
  refine Ok.iand (pc' := 4) X0 hx (hb hby at_3) rfl ?_
  rw [enc]
  refine Ok.istore (l' := #[.val (.int p1), .val (.int p2), .val (.int p3), .val (.int p4), .val (.int p5), .val (.int nc), .unset, .unset, .unset, .unset, .unset, .unset, .unset, .unset, .unset]) (pc' := 6) X0 hx (hb hby at_4) rfl rfl ?_
  refine Ok.iloadN (pc' := 7) X0 hx (hb hby at_6) rfl rfl ?_
  refine Ok.ldcI (pc' := 9) (v := (1073741823 : Int32)) X0 hx hZ hown (hw _ (List.mem_of_getElem? (i := 0) rfl)) (hb hby at_7) rfl ?_
  refine Ok.iand (pc' := 10) X0 hx (hb hby at_9) rfl ?_
  rw [eni]
  refine Ok.istore (l' := #[.val (.int p1), .val (.int p2), .val (.int p3), .val (.int p4), .val (.int p5), .val (.int nc), .val (.int ni), .unset, .unset, .unset, .unset, .unset, .unset, .unset, .unset]) (pc' := 12) X0 hx (hb hby at_10) rfl rfl ?_
  refine Ok.new (pc' := 15) X0 hx hZ hown (hw _ (List.mem_of_getElem? (i := 1) rfl)) (hw _ (List.mem_of_getElem? (i := 2) rfl)) (hw _ (List.mem_of_getElem? (i := 3) rfl)) e0 (hb hby at_12) rfl (by decide) (by decide) ?_
  intro T84 h84 b84 g84 X84 e84 E84 A84 D84
  replace O_0 := O_0.ext E84
  have ge_b84 : n0 ≤ b84 := Nat.le_trans Z0 (Nat.le_of_eq g84.symm)
  have sz_b84 : h0.size ≤ b84 := Nat.le_trans K0.1 (Nat.le_of_eq g84.symm)
  have K84 : Keep h0 h84 [] := K0.ext E84
  have Z85 : n0 ≤ h84.size := Nat.le_trans Z0 E84.1
  have F84_occurrences : Fld Z h84 b84 "com/example/consequor/consequor/ClauseSet" "occurrences" "Ljava/util/Map;" .null := D84 (Or.inr (hw _ (List.mem_of_getElem? (i := 27) rfl))) (ty := (.object "java/util/Map")) (by decide)
  have F84_counted : Fld Z h84 b84 "com/example/consequor/consequor/ClauseSet" "counted" "Ljava/util/Map;" .null := D84 (Or.inr (hw _ (List.mem_of_getElem? (i := 29) rfl))) (ty := (.object "java/util/Map")) (by decide)
  have F84_countedAtoms : Fld Z h84 b84 "com/example/consequor/consequor/ClauseSet" "countedAtoms" "Ljava/util/List;" .null := D84 (Or.inr (hw _ (List.mem_of_getElem? (i := 55) rfl))) (ty := (.object "java/util/List")) (by decide)
  have F84_noms : Fld Z h84 b84 "com/example/consequor/consequor/ClauseSet" "noms" "Ljava/util/List;" .null := D84 (Or.inr (hw _ (List.mem_of_getElem? (i := 57) rfl))) (ty := (.object "java/util/List")) (by decide)
  have F84_nomOccurrences : Fld Z h84 b84 "com/example/consequor/consequor/ClauseSet" "nomOccurrences" "Ljava/util/Map;" .null := D84 (Or.inr (hw _ (List.mem_of_getElem? (i := 59) rfl))) (ty := (.object "java/util/Map")) (by decide)
  have F84_unconditional : Fld Z h84 b84 "com/example/consequor/consequor/ClauseSet" "unconditional" "Ljava/util/List;" .null := D84 (Or.inr (hw _ (List.mem_of_getElem? (i := 61) rfl))) (ty := (.object "java/util/List")) (by decide)
  have F84_bodyShapes : Fld Z h84 b84 "com/example/consequor/consequor/ClauseSet" "bodyShapes" "Ljava/util/Set;" .null := D84 (Or.inr (hw _ (List.mem_of_getElem? (i := 82) rfl))) (ty := (.object "java/util/Set")) (by decide)
  have F84_pairedShapes : Fld Z h84 b84 "com/example/consequor/consequor/ClauseSet" "pairedShapes" "Ljava/util/Set;" .null := D84 (Or.inr (hw _ (List.mem_of_getElem? (i := 84) rfl))) (ty := (.object "java/util/Set")) (by decide)
  have F84_readWithOthers : Fld Z h84 b84 "com/example/consequor/consequor/ClauseSet" "readWithOthers" "Ljava/util/Set;" .null := D84 (Or.inr (hw _ (List.mem_of_getElem? (i := 86) rfl))) (ty := (.object "java/util/Set")) (by decide)
  have F84_namedClasses : Fld Z h84 b84 "com/example/consequor/consequor/ClauseSet" "namedClasses" "I" (.int (0 : Int32)) := D84 (Or.inr (hw _ (List.mem_of_getElem? (i := 88) rfl))) (ty := .int) (by decide)
  have F84_individuals : Fld Z h84 b84 "com/example/consequor/consequor/ClauseSet" "individuals" "I" (.int (0 : Int32)) := D84 (Or.inr (hw _ (List.mem_of_getElem? (i := 90) rfl))) (ty := .int) (by decide)
  show Ok p e below _ _ T84 (mkF m 15 #[.val (.int p1), .val (.int p2), .val (.int p3), .val (.int p4), .val (.int p5), .val (.int nc), .val (.int ni), .unset, .unset, .unset, .unset, .unset, .unset, .unset, .unset] [(.ref b84)])
  refine Ok.dup (pc' := 16) X84 hx (hb hby at_15) rfl rfl ?_
  refine Ok.iload (pc' := 18) X84 hx (hb hby at_16) rfl rfl ?_
  refine Ok.iload (pc' := 20) X84 hx (hb hby at_18) rfl rfl ?_
  refine Ok.init (pc' := 23) (W := 1) (a := b84)  (argsL := [(.int nc), (.int ni)]) (rest := [(.ref b84)]) X84 hx hZ hown (rm1 l Z a0 hw b84 nc ni ed .null .null .null .null .null .null .null .null .null (.int (0 : Int32)) (.int (0 : Int32)) h84 n0 Z85 A84 ge_b84 O_0 S_ed F84_occurrences F84_counted F84_countedAtoms F84_noms F84_nomOccurrences F84_unconditional F84_bodyShapes F84_pairedShapes F84_readWithOthers F84_namedClasses F84_individuals) rfl (hw _ (List.mem_of_getElem? (i := 4) rfl)) (hw _ (List.mem_of_getElem? (i := 5) rfl)) (hw _ (List.mem_of_getElem? (i := 3) rfl)) (hw _ (List.mem_of_getElem? (i := 6) rfl)) (by decide) e84 (by decide) (by decide) (by decide) (by decide) (lenOf pd_0 rfl) rfl rfl (Nat.le_of_eq rfl) (by rw [hml]; rfl) (hb hby at_20) rfl ?_
  intro v86 T86 L86 X86 hQ86
  obtain ⟨rfl, Nq86, Aq86, Fq86_n, Fq86_i, Kq86⟩ := hQ86
  have N86 := Fr.app N0 Nq86
  replace O_0 := O_0.keep Kq86 (allS ge_b84 all0)
  replace A84 := A84.keep Kq86
  have K86' : Keep h0 T86.heap [] := K84.trans Kq86 (allS (Or.inr sz_b84) all0)
  have Z87 : n0 ≤ T86.heap.size := Nat.le_trans Z85 Kq86.1
  show Ok p e below _ _ T86 (mkF m 23 #[.val (.int p1), .val (.int p2), .val (.int p3), .val (.int p4), .val (.int p5), .val (.int nc), .val (.int ni), .unset, .unset, .unset, .unset, .unset, .unset, .unset, .unset] [(.ref b84)])
  refine Ok.astore (l' := #[.val (.int p1), .val (.int p2), .val (.int p3), .val (.int p4), .val (.int p5), .val (.int nc), .val (.int ni), .val (.ref b84), .unset, .unset, .unset, .unset, .unset, .unset, .unset]) (pc' := 25) X86 hx (hb hby at_23) rfl rfl rfl ?_
  refine Ok.iloadN (pc' := 26) X86 hx (hb hby at_25) rfl rfl ?_
  refine Ok.sipush (z := (255 : Int32)) (pc' := 29) X86 hx (hb hby at_26) rfl rfl ?_
  refine Ok.iand (pc' := 30) X86 hx (hb hby at_29) rfl ?_
  refine Ok.sipush (z := (128 : Int32)) (pc' := 33) X86 hx (hb hby at_30) rfl rfl ?_
  refine Ok.isub (pc' := 34) X86 hx (hb hby at_33) rfl ?_
  refine Ok.istore (l' := #[.val (.int p1), .val (.int p2), .val (.int p3), .val (.int p4), .val (.int p5), .val (.int nc), .val (.int ni), .val (.ref b84), .val (.int ((p4 &&& (255 : Int32)) - (128 : Int32))), .unset, .unset, .unset, .unset, .unset, .unset]) (pc' := 36) X86 hx (hb hby at_34) rfl rfl ?_
  refine Ok.iload (pc' := 38) X86 hx (hb hby at_36) rfl rfl ?_
  refine Ok.iconst (z := (3 : Int32)) (pc' := 39) X86 hx (hb hby at_38) rfl rfl ?_
  refine Ok.iand (pc' := 40) X86 hx (hb hby at_39) rfl ?_
  refine Ok.istore (l' := #[.val (.int p1), .val (.int p2), .val (.int p3), .val (.int p4), .val (.int p5), .val (.int nc), .val (.int ni), .val (.ref b84), .val (.int ((p4 &&& (255 : Int32)) - (128 : Int32))), .val (.int (p5 &&& (3 : Int32))), .unset, .unset, .unset, .unset, .unset]) (pc' := 42) X86 hx (hb hby at_40) rfl rfl ?_
  have k102 : ∀ (cid : Int32), Ok p e below (NE s room_1.cells room_1.slots) (Q0 Z p1 p2 p3 p4 p5 ed h0 n0) T86 (mkF m 102 #[.val (.int p1), .val (.int p2), .val (.int p3), .val (.int p4), .val (.int p5), .val (.int nc), .val (.int ni), .val (.ref b84), .val (.int ((p4 &&& (255 : Int32)) - (128 : Int32))), .val (.int (p5 &&& (3 : Int32))), .val (.int cid), .unset, .unset, .unset, .unset] []) := by
    intro cid
    refine Ok.aload (pc' := 104) X86 hx (hb hby at_102) rfl rfl rfl ?_
    refine Ok.iload (pc' := 106) X86 hx (hb hby at_104) rfl rfl ?_
    refine Ok.virt (pc' := 109) (W := 0) (a := b84)  (argsL := [(.int cid)]) (rest := []) X86 hx hZ hown (rm2 l Z a0 hw b84 cid nc ni T86.heap n0 Z87 Fq86_n Fq86_i) (hw _ (List.mem_of_getElem? (i := 91) rfl)) (hw _ (List.mem_of_getElem? (i := 92) rfl)) (notFace_of_selects (args := #[]) (mvT hZ (hw _ (List.mem_of_getElem? (i := 94) rfl)))) (hw _ (List.mem_of_getElem? (i := 94) rfl)) (hw _ (List.mem_of_getElem? (i := 93) rfl)) (hw _ (List.mem_of_getElem? (i := 3) rfl)) (hw _ (List.mem_of_getElem? (i := 95) rfl)) (by decide) rfl A84 (by decide) (by decide) (by decide) (by decide) (lenOf pd_2 rfl) rfl rfl (Nat.le_of_eq rfl) (by rw [hml]; rfl) (hb hby at_106) rfl ?_
    intro v88 T88 L88 X88 hQ88
    obtain ⟨r88, rfl, hr88, Nq88, eq88⟩ := hQ88
    have N88 := Fr.app N86 Nq88
    show Ok p e below _ _ T88 (mkF m 109 #[.val (.int p1), .val (.int p2), .val (.int p3), .val (.int p4), .val (.int p5), .val (.int nc), .val (.int ni), .val (.ref b84), .val (.int ((p4 &&& (255 : Int32)) - (128 : Int32))), .val (.int (p5 &&& (3 : Int32))), .val (.int cid), .unset, .unset, .unset, .unset] [(.int r88)])
    have hsw := i32_subw (x := cid) hn0
    have hcid64 : cid.toInt64.toInt = cid.toInt := Int32.toInt_toInt64 cid
    have hcl := cid.toInt_lt
    have hcg := cid.le_toInt
    have hof := Jvm.Kit.i64_sub (x := cid.toInt64) (y := nc.toInt64) (by omega) (by omega)
    have m1 : ((-1 : Int32)).toInt = -1 := rfl
    refine Ok.istore (l' := #[.val (.int p1), .val (.int p2), .val (.int p3), .val (.int p4), .val (.int p5), .val (.int nc), .val (.int ni), .val (.ref b84), .val (.int ((p4 &&& (255 : Int32)) - (128 : Int32))), .val (.int (p5 &&& (3 : Int32))), .val (.int cid), .val (.int r88), .unset, .unset, .unset]) (pc' := 111) X88 hx (hb hby at_109) rfl rfl ?_
    refine Ok.iload (pc' := 113) X88 hx (hb hby at_111) rfl rfl ?_
    refine Ok.i2l (pc' := 114) X88 hx (hb hby at_113) rfl ?_
    refine Ok.iload (pc' := 116) X88 hx (hb hby at_114) rfl rfl ?_
    refine Ok.i2l (pc' := 117) X88 hx (hb hby at_116) rfl ?_
    refine Ok.lsub (pc' := 118) X88 hx (hb hby at_117) rfl ?_
    refine Ok.lstore (l' := #[.val (.int p1), .val (.int p2), .val (.int p3), .val (.int p4), .val (.int p5), .val (.int nc), .val (.int ni), .val (.ref b84), .val (.int ((p4 &&& (255 : Int32)) - (128 : Int32))), .val (.int (p5 &&& (3 : Int32))), .val (.int cid), .val (.int r88), .val (.long (cid.toInt64 - nc.toInt64)), .second, .unset]) (pc' := 120) X88 hx (hb hby at_118) rfl rfl ?_
    have k143 : ∀ (ex : Int32) (hex : (0 ≤ cid.toInt - nc.toInt ∧ cid.toInt - nc.toInt < ni.toInt) ∧ ex.toInt = cid.toInt - nc.toInt ∨ ¬ (0 ≤ cid.toInt - nc.toInt ∧ cid.toInt - nc.toInt < ni.toInt) ∧ ex = -1), Ok p e below (NE s room_1.cells room_1.slots) (Q0 Z p1 p2 p3 p4 p5 ed h0 n0) T88 (mkF m 143 #[.val (.int p1), .val (.int p2), .val (.int p3), .val (.int p4), .val (.int p5), .val (.int nc), .val (.int ni), .val (.ref b84), .val (.int ((p4 &&& (255 : Int32)) - (128 : Int32))), .val (.int (p5 &&& (3 : Int32))), .val (.int cid), .val (.int r88), .val (.long (cid.toInt64 - nc.toInt64)), .second, .unset] [(.int ex)]) := by
      intro ex hex
      refine Ok.istore (l' := #[.val (.int p1), .val (.int p2), .val (.int p3), .val (.int p4), .val (.int p5), .val (.int nc), .val (.int ni), .val (.ref b84), .val (.int ((p4 &&& (255 : Int32)) - (128 : Int32))), .val (.int (p5 &&& (3 : Int32))), .val (.int cid), .val (.int r88), .val (.long (cid.toInt64 - nc.toInt64)), .second, .val (.int ex)]) (pc' := 145) X88 hx (hb hby at_143) rfl rfl ?_
      refine Ok.iload (pc' := 147) X88 hx (hb hby at_145) rfl rfl ?_
      refine Ok.iload (pc' := 149) X88 hx (hb hby at_147) rfl rfl ?_
      by_cases hc149 : r88.toInt = ex.toInt
      · refine Ok.icY (pc' := 154) X88 hx (hb hby at_149) (bt (ic_eq r88 ex).1 hc149) (by decide) (by decide) ?_
        refine Ok.iload (pc' := 156) X88 hx (hb hby at_154) rfl rfl ?_
        by_cases hc156 : r88.toInt < 0
        · refine Ok.ifY (pc' := 177) X88 hx (hb hby at_156) (bt (i0 .lt r88 (ic_eq r88 0).2.2.1) hc156) (by decide) (by decide) ?_
          refine Ok.iconst (z := (1 : Int32)) (pc' := 178) X88 hx (hb hby at_177) rfl rfl ?_
          refine Ok.retI X88 hx hret hlk (Or.inr (Or.inl rfl)) rfl (hb hby at_178) (by decide) (by decide) ?_
          show Q0 Z p1 p2 p3 p4 p5 ed h0 n0 _ T88.heap _
          rw [eq88]
          exact ⟨rfl, N88⟩
        · refine Ok.ifN (pc' := 159) X88 hx (hb hby at_156) (bf (i0 .lt r88 (ic_eq r88 0).2.2.1) hc156) rfl ?_
          refine Ok.aload (pc' := 161) X88 hx (hb hby at_159) rfl rfl rfl ?_
          refine Ok.iload (pc' := 163) X88 hx (hb hby at_161) rfl rfl ?_
          refine Ok.virt (pc' := 166) (W := 0) (a := b84)  (argsL := [(.int r88)]) (rest := []) X88 hx hZ hown (rm3 l Z a0 hw b84 r88 nc T86.heap n0 Z87 Fq86_n) (hw _ (List.mem_of_getElem? (i := 96) rfl)) (hw _ (List.mem_of_getElem? (i := 97) rfl)) (notFace_of_selects (args := #[]) (mvT hZ (hw _ (List.mem_of_getElem? (i := 99) rfl)))) (hw _ (List.mem_of_getElem? (i := 99) rfl)) (hw _ (List.mem_of_getElem? (i := 98) rfl)) (hw _ (List.mem_of_getElem? (i := 3) rfl)) (hw _ (List.mem_of_getElem? (i := 100) rfl)) (by decide) eq88 A84 (by decide) (by decide) (by decide) (by decide) (lenOf pd_2 rfl) rfl rfl (Nat.le_of_eq rfl) (by rw [hml]; rfl) (hb hby at_163) rfl ?_
          intro v89 T89 L89 X89 hQ89
          obtain ⟨rfl, Nq89, eq89⟩ := hQ89
          have N89 := Fr.app N88 Nq89
          show Ok p e below _ _ T89 (mkF m 166 #[.val (.int p1), .val (.int p2), .val (.int p3), .val (.int p4), .val (.int p5), .val (.int nc), .val (.int ni), .val (.ref b84), .val (.int ((p4 &&& (255 : Int32)) - (128 : Int32))), .val (.int (p5 &&& (3 : Int32))), .val (.int cid), .val (.int r88), .val (.long (cid.toInt64 - nc.toInt64)), .second, .val (.int ex)] [(.int (nc + r88))])
          refine Ok.iload (pc' := 168) X89 hx (hb hby at_166) rfl rfl ?_
          by_cases hc168 : ¬ (nc + r88).toInt = cid.toInt
          · refine Ok.icY (pc' := 175) X89 hx (hb hby at_168) (bt (ic_eq (nc + r88) cid).2.1 hc168) (by decide) (by decide) ?_
            refine Ok.iconst (z := (0 : Int32)) (pc' := 176) X89 hx (hb hby at_175) rfl rfl ?_
            exfalso
            rcases hr88 with ⟨g1, g2, rfl⟩ | ⟨g1, rfl⟩
            · rw [add_back] at hc168; exact hc168 rfl
            · rw [m1] at *; omega
          · refine Ok.icN (pc' := 171) X89 hx (hb hby at_168) (bf (ic_eq (nc + r88) cid).2.1 hc168) rfl ?_
            refine Ok.iconst (z := (1 : Int32)) (pc' := 172) X89 hx (hb hby at_171) rfl rfl ?_
            refine Ok.goto (pc' := 176) X89 hx (hb hby at_172) (by decide) (by decide) ?_
            refine Ok.retI X89 hx hret hlk (Or.inr (Or.inl rfl)) rfl (hb hby at_176) (by decide) (by decide) ?_
            show Q0 Z p1 p2 p3 p4 p5 ed h0 n0 _ T89.heap _
            rw [eq89]
            exact ⟨rfl, N89⟩
      · refine Ok.icN (pc' := 152) X88 hx (hb hby at_149) (bf (ic_eq r88 ex).1 hc149) rfl ?_
        refine Ok.iconst (z := (0 : Int32)) (pc' := 153) X88 hx (hb hby at_152) rfl rfl ?_
        exfalso
        rcases hr88 with ⟨g1, g2, rfl⟩ | ⟨g1, rfl⟩ <;> rcases hex with ⟨g3, g4⟩ | ⟨g3, rfl⟩ <;> omega
    refine Ok.lload (pc' := 122) X88 hx (hb hby at_120) rfl rfl ?_
    refine Ok.lconst (z := (0 : Int64)) (pc' := 123) X88 hx (hb hby at_122) rfl rfl ?_
    refine Ok.lcmp (pc' := 124) X88 hx (hb hby at_123) rfl ?_
    by_cases hc124 : (cid.toInt64 - nc.toInt64).toInt < 0
    · refine Ok.ifY (pc' := 142) X88 hx (hb hby at_124) (bt (lc_all (cid.toInt64 - nc.toInt64) (0 : Int64)).2.2.1 hc124) (by decide) (by decide) ?_
      refine Ok.iconst (z := (-1 : Int32)) (pc' := 143) X88 hx (hb hby at_142) rfl rfl ?_
      exact k143 _ (Or.inr ⟨by omega, rfl⟩)
    · refine Ok.ifN (pc' := 127) X88 hx (hb hby at_124) (bf (lc_all (cid.toInt64 - nc.toInt64) (0 : Int64)).2.2.1 hc124) rfl ?_
      refine Ok.lload (pc' := 129) X88 hx (hb hby at_127) rfl rfl ?_
      refine Ok.iload (pc' := 131) X88 hx (hb hby at_129) rfl rfl ?_
      refine Ok.i2l (pc' := 132) X88 hx (hb hby at_131) rfl ?_
      refine Ok.lcmp (pc' := 133) X88 hx (hb hby at_132) rfl ?_
      by_cases hc133 : ni.toInt64.toInt ≤ (cid.toInt64 - nc.toInt64).toInt
      · refine Ok.ifY (pc' := 142) X88 hx (hb hby at_133) (bt (lc_all (cid.toInt64 - nc.toInt64) ni.toInt64).2.2.2.1 hc133) (by decide) (by decide) ?_
        refine Ok.iconst (z := (-1 : Int32)) (pc' := 143) X88 hx (hb hby at_142) rfl rfl ?_
        exact k143 _ (Or.inr ⟨by omega, rfl⟩)
      · refine Ok.ifN (pc' := 136) X88 hx (hb hby at_133) (bf (lc_all (cid.toInt64 - nc.toInt64) ni.toInt64).2.2.2.1 hc133) rfl ?_
        refine Ok.lload (pc' := 138) X88 hx (hb hby at_136) rfl rfl ?_
        refine Ok.l2i (pc' := 139) X88 hx (hb hby at_138) rfl ?_
        refine Ok.goto (pc' := 143) X88 hx (hb hby at_139) (by decide) (by decide) ?_
        exact k143 _ (Or.inl ⟨by omega, by rw [Jvm.Kit.i32_of_i64 (by omega) (by omega)]; omega⟩)
  refine Ok.iload (pc' := 44) X86 hx (hb hby at_42) rfl rfl ?_
  by_cases hc44 : ¬ (p5 &&& (3 : Int32)).toInt = 0
  · refine Ok.ifY (pc' := 53) X86 hx (hb hby at_44) (bt (i0 .ne (p5 &&& (3 : Int32)) (ic_eq (p5 &&& (3 : Int32)) 0).2.1) hc44) (by decide) (by decide) ?_
    refine Ok.iload (pc' := 55) X86 hx (hb hby at_53) rfl rfl ?_
    refine Ok.iconst (z := (1 : Int32)) (pc' := 56) X86 hx (hb hby at_55) rfl rfl ?_
    by_cases hc56 : ¬ (p5 &&& (3 : Int32)).toInt = 1
    · refine Ok.icY (pc' := 69) X86 hx (hb hby at_56) (bt (ic_eq (p5 &&& (3 : Int32)) (1 : Int32)).2.1 hc56) (by decide) (by decide) ?_
      refine Ok.iload (pc' := 71) X86 hx (hb hby at_69) rfl rfl ?_
      refine Ok.iconst (z := (2 : Int32)) (pc' := 72) X86 hx (hb hby at_71) rfl rfl ?_
      by_cases hc72 : ¬ (p5 &&& (3 : Int32)).toInt = 2
      · refine Ok.icY (pc' := 88) X86 hx (hb hby at_72) (bt (ic_eq (p5 &&& (3 : Int32)) (2 : Int32)).2.1 hc72) (by decide) (by decide) ?_
        refine Ok.iload (pc' := 90) X86 hx (hb hby at_88) rfl rfl ?_
        refine Ok.iloadN (pc' := 91) X86 hx (hb hby at_90) rfl rfl ?_
        refine Ok.ldcI (pc' := 93) (v := (2147483647 : Int32)) X86 hx hZ hown (hw _ (List.mem_of_getElem? (i := 101) rfl)) (hb hby at_91) rfl ?_
        refine Ok.iand (pc' := 94) X86 hx (hb hby at_93) rfl ?_
        refine Ok.iload (pc' := 96) X86 hx (hb hby at_94) rfl rfl ?_
        refine Ok.iconst (z := (1 : Int32)) (pc' := 97) X86 hx (hb hby at_96) rfl rfl ?_
        refine Ok.iadd (pc' := 98) X86 hx (hb hby at_97) rfl ?_
        refine Ok.irem (pc' := 99) X86 hx (hb hby at_98) rfl (succ_ne hi0 hi1) ?_
        refine Ok.iadd (pc' := 100) X86 hx (hb hby at_99) rfl ?_
        refine Ok.istore (l' := #[.val (.int p1), .val (.int p2), .val (.int p3), .val (.int p4), .val (.int p5), .val (.int nc), .val (.int ni), .val (.ref b84), .val (.int ((p4 &&& (255 : Int32)) - (128 : Int32))), .val (.int (p5 &&& (3 : Int32))), .val (.int (nc + ((p3 &&& (2147483647 : Int32)) % (ni + (1 : Int32))))), .unset, .unset, .unset, .unset]) (pc' := 102) X86 hx (hb hby at_100) rfl rfl ?_
        exact k102 (nc + ((p3 &&& (2147483647 : Int32)) % (ni + (1 : Int32))))
      · refine Ok.icN (pc' := 75) X86 hx (hb hby at_72) (bf (ic_eq (p5 &&& (3 : Int32)) (2 : Int32)).2.1 hc72) rfl ?_
        refine Ok.iload (pc' := 77) X86 hx (hb hby at_75) rfl rfl ?_
        refine Ok.iload (pc' := 79) X86 hx (hb hby at_77) rfl rfl ?_
        refine Ok.iadd (pc' := 80) X86 hx (hb hby at_79) rfl ?_
        refine Ok.iload (pc' := 82) X86 hx (hb hby at_80) rfl rfl ?_
        refine Ok.iadd (pc' := 83) X86 hx (hb hby at_82) rfl ?_
        refine Ok.istore (l' := #[.val (.int p1), .val (.int p2), .val (.int p3), .val (.int p4), .val (.int p5), .val (.int nc), .val (.int ni), .val (.ref b84), .val (.int ((p4 &&& (255 : Int32)) - (128 : Int32))), .val (.int (p5 &&& (3 : Int32))), .val (.int ((nc + ni) + ((p4 &&& (255 : Int32)) - (128 : Int32)))), .unset, .unset, .unset, .unset]) (pc' := 85) X86 hx (hb hby at_83) rfl rfl ?_
        refine Ok.goto (pc' := 102) X86 hx (hb hby at_85) (by decide) (by decide) ?_
        exact k102 ((nc + ni) + ((p4 &&& (255 : Int32)) - (128 : Int32)))
    · refine Ok.icN (pc' := 59) X86 hx (hb hby at_56) (bf (ic_eq (p5 &&& (3 : Int32)) (1 : Int32)).2.1 hc56) rfl ?_
      refine Ok.iload (pc' := 61) X86 hx (hb hby at_59) rfl rfl ?_
      refine Ok.iload (pc' := 63) X86 hx (hb hby at_61) rfl rfl ?_
      refine Ok.iadd (pc' := 64) X86 hx (hb hby at_63) rfl ?_
      refine Ok.istore (l' := #[.val (.int p1), .val (.int p2), .val (.int p3), .val (.int p4), .val (.int p5), .val (.int nc), .val (.int ni), .val (.ref b84), .val (.int ((p4 &&& (255 : Int32)) - (128 : Int32))), .val (.int (p5 &&& (3 : Int32))), .val (.int (nc + ((p4 &&& (255 : Int32)) - (128 : Int32)))), .unset, .unset, .unset, .unset]) (pc' := 66) X86 hx (hb hby at_64) rfl rfl ?_
      refine Ok.goto (pc' := 102) X86 hx (hb hby at_66) (by decide) (by decide) ?_
      exact k102 (nc + ((p4 &&& (255 : Int32)) - (128 : Int32)))
  · refine Ok.ifN (pc' := 47) X86 hx (hb hby at_44) (bf (i0 .ne (p5 &&& (3 : Int32)) (ic_eq (p5 &&& (3 : Int32)) 0).2.1) hc44) rfl ?_
    refine Ok.iloadN (pc' := 48) X86 hx (hb hby at_47) rfl rfl ?_
    refine Ok.istore (l' := #[.val (.int p1), .val (.int p2), .val (.int p3), .val (.int p4), .val (.int p5), .val (.int nc), .val (.int ni), .val (.ref b84), .val (.int ((p4 &&& (255 : Int32)) - (128 : Int32))), .val (.int (p5 &&& (3 : Int32))), .val (.int p3), .unset, .unset, .unset, .unset]) (pc' := 50) X86 hx (hb hby at_48) rfl rfl ?_
    refine Ok.goto (pc' := 102) X86 hx (hb hby at_50) (by decide) (by decide) ?_
    exact k102 p3
set_option maxRecDepth 65536 in
set_option maxHeartbeats 40000000 in
theorem comes_1 {Post : Tables → Env → Array Value → State → Outcome → State → Prop} (hpost : ∀ tb e args s v u, (limb_1_1.after args s (.returned v) u = true ∧ limb_1_2.after args s (.returned v) u = true ∧ True) → FrameEnd s (.returned v) u (Jvm.fieldLocs frame_1_writes args s ++ Jvm.arrayLocs frame_1_arrays args s ++ Jvm.staticLocs frame_1_statics s) 40 256 → Post tb e args s (.returned v) u) :
    ArmFor flags0 classFile x code maxLocals ret World_1 tables_1 room_1 Calls_1 rest_1 Pre_1 Post := by
  intro l hfl _ _ p e ha hc hk s m args below hf hA hF happ hP
  obtain ⟨hcalls, hrest, hpre⟩ := hP
  obtain ⟨-, -, -, hnamed, -, -, -, hat⟩ := (Spec.applies_iff hf).mp happ
  obtain ⟨hg, hn⟩ := and_e (Cond.before_iff.mp (show (Jvm.Cond.and given_1 narrow_1).before args s = true from hpre))
  obtain ⟨hcount, hg0⟩ := and_e hg
  obtain ⟨hk0, hg1⟩ := and_e hg0
  obtain ⟨hk1, hg2⟩ := and_e hg1
  obtain ⟨hk2, hg3⟩ := and_e hg2
  obtain ⟨hk3, hg4⟩ := and_e hg3
  have hk4 := hg4
  obtain ⟨w0, w1, w2, w3, w4, rfl⟩ : ∃ w0 w1 w2 w3 w4 : Value, args = #[w0, w1, w2, w3, w4] := by
    have hs : args.size = 5 := by simpa [Cond.value, given_1] using hcount
    obtain ⟨L⟩ := args
    match L, hs with
    | [w0, w1, w2, w3, w4], _ => exact ⟨w0, w1, w2, w3, w4, rfl⟩
  have hw := fun d (hd : d ∈ tables_1) => atoms_spec (ws := Jvm.Cond.code x code maxLocals ret :: tables_1) hat d (List.mem_cons_of_mem _ hd)
  have hfit : Fit s := fun {y c} hc i hi => by
    obtain ⟨ha, rfl⟩ := Array.getElem?_eq_some_iff.mp hc
    have q := List.all_eq_true.mp ((Array.all_eq_true_iff_forall_mem.mp hF) _ (Array.getElem_mem ha)) i (List.mem_range.mpr hi)
    simpa [Array.getElem?_eq_getElem hi] using q
  obtain ⟨hsets, hown0⟩ := atoms_of _ (rest_1_c_eq ▸ (show rest_1_c.before _ s = true from hrest))
  obtain ⟨i0, ei0⟩ := is_v hk0
  obtain rfl : w0 = (.int i0) := Option.some.inj ei0
  obtain ⟨i1, ei1⟩ := is_v hk1
  obtain rfl : w1 = (.int i1) := Option.some.inj ei1
  obtain ⟨i2, ei2⟩ := is_v hk2
  obtain rfl : w2 = (.int i2) := Option.some.inj ei2
  obtain ⟨i3, ei3⟩ := is_v hk3
  obtain rfl : w3 = (.int i3) := Option.some.inj ei3
  obtain ⟨i4, ei4⟩ := is_v hk4
  obtain rfl : w4 = (.int i4) := Option.some.inj ei4
  obtain ⟨ed, eed⟩ := arr_v (Cond.before_iff.mp (hsets _ (List.mem_of_getElem? (i := 6) rfl)))
  have S_ed := Sta.start eed (Or.inr ⟨(hw _ (List.mem_of_getElem? (i := 32) rfl)), (hsets _ (List.mem_of_getElem? (i := 2) rfl))⟩)
  obtain ⟨n, o, h1, h2, h3, _, L, rfl, ⟨rfl, N⟩, hq⟩ := rm0 l s _ hw tables_1 i0 i1 i2 i3 i4 ed s.heap s.heap.size (Nat.le_refl _) (Old.start s) S_ed p e ha hc hk s m _ below hf ((Spec.applies_iff_loose hf).mp happ).1 ⟨rfl, State.Warmed39.refl s, rfl⟩ trivial
  refine ⟨n, _, h1, h2, h3, hpost _ _ _ _ _ _ ⟨Cond.after_iff.mpr rfl, Cond.after_iff.mpr (eq_i res_at (Term.int_eval (1)) rfl), trivial⟩ ⟨hq.1, hq.2.1, (hq.2.2.sift fun y hy => Or.inr (N y hy)).mono (by decide) (by decide)⟩⟩
theorem main_1_1 : Claimed_1_1 := comes_1 fun _ _ _ _ _ _ h hF => ⟨h.1, hF⟩
theorem main_1_2 : Claimed_1_2 := comes_1 fun _ _ _ _ _ _ h hF => ⟨h.2.1, hF⟩
end Jvm.Pilot.@@N@@
namespace Jvm.Pilot.@@N@@
open Jvm Jvm.ClassFile Sem Op Lib Jvm.Free Jvm.Stand Jvm.Pilot.@@N@@.Jvm.D
/-! MADE BY PROGRAM (witnessworld.py) out of the Statement's table words and the real class files: 24 classes; the members and pool entries that the words name. The judged class is class 1, her method 1. -/
namespace start1
open Jvm.ClassFile
def u (s : String) : CpInfo := .utf8 (stringToUtf16 s)
/-- a pool by its gaps: so many unusable entries, then the entry; so many at the end -/
def gap : Nat → List CpInfo → List CpInfo
  | 0, r => r
  | n + 1, r => .unusable :: gap n r
def poolList (es : List (Nat × CpInfo)) (last : Nat) : List CpInfo := es.foldr (fun e r => gap e.1 (e.2 :: r)) (gap last [])
def pool (es : List (Nat × CpInfo)) (last : Nat) : Array CpInfo := ⟨poolList es last⟩
def fileOf (pool : Array CpInfo) (this : Nat) (attrs : Array Attribute := #[]) (ms : Array MethodInfo := #[]) (fl : Nat := 33) (sup : Nat := 0) (ifs : Array Nat := #[]) (fds : Array FieldInfo := #[]) : ClassFile where
  minorVersion := 0
  majorVersion := 65
  constantPool := pool
  accessFlags := fl
  thisClass := this
  superClass := sup
  interfaces := ifs
  fields := fds
  methods := ms
  attributes := attrs
def plain (name : String) (sup : Option ClassId) : Class where
  name := name
  kind := .ordinary
  loader := none
  accessFlags := 33
  super := sup
  interfaces := #[]
  cf := none
  fields := #[]
  methods := #[]
  instanceTypes := #[]
  staticTypes := #[]
  resolved := #[]
  callSites := []
  init := .initialized
  statics := none
  mirror := none

def pool0 : Array CpInfo := pool [(5, u "<init>"), (0, u "()V"), (1, .class_ 10), (1, u "java/lang/Object")] 113

def k0c0 : Code := { maxStack := 0, maxLocals := 1, code := object_method_1_code, exceptionTable := #[], attributes := #[] }
def k0m0 : Method := { name := "<init>", desc := "()V", sig := { parameters := [], returnType := none }, accessFlags := 1, code := some k0c0 }
/-- java/lang/Object -/
def k0 : Class := { plain "java/lang/Object" none with
  accessFlags := 33
  interfaces := #[]
  cf := some (fileOf pool0 8 #[] #[{ accessFlags := 1, nameIndex := 5, descriptorIndex := 6, attributes := #[] }] 33 0 #[] #[])
  fields := #[]
  methods := #[k0m0]
  instanceTypes := #[]
  staticTypes := #[]
  resolved := Array.replicate 124 none
  statics := none }

def pool1 : Array CpInfo := pool [(2, .class_ 4), (1, u "java/lang/Object"), (0, u "<init>"), (0, u "()V"), (0, .integer 1073741823), (0, .class_ 9), (0, u "com/example/consequor/consequor/ClauseSet"), (0, .methodref 8 11), (0, .nameAndType 5 12), (0, u "(II)V"), (0, .integer 2147483647), (0, .methodref 8 15), (0, .nameAndType 16 17), (0, u "nominalIndividual"), (0, u "(I)I"), (0, .methodref 8 19), (0, .nameAndType 20 17), (0, u "nominalClass"), (0, .class_ 22), (0, u "com/example/consequor/consequor/ClauseSetNominalIndividualPinLaw"), (2, u "law"), (0, u "(IIIII)Z")] 3

def k1m0 : Method := { name := "<init>", desc := "()V", sig := { parameters := [], returnType := none }, accessFlags := 2, code := none }
def k1c1 : Code := { maxStack := 4, maxLocals := 15, code := code, exceptionTable := #[], attributes := #[] }
def k1m1 : Method := { name := "law", desc := "(IIIII)Z", sig := { parameters := [.int, .int, .int, .int, .int], returnType := some .boolean }, accessFlags := 9, code := some k1c1 }
/-- com/example/consequor/consequor/ClauseSetNominalIndividualPinLaw -/
def k1 : Class := { plain "com/example/consequor/consequor/ClauseSetNominalIndividualPinLaw" (some 0) with
  accessFlags := 49
  interfaces := #[]
  cf := some (fileOf pool1 21 #[] #[{ accessFlags := 2, nameIndex := 5, descriptorIndex := 6, attributes := #[] }, { accessFlags := 9, nameIndex := 25, descriptorIndex := 26, attributes := #[] }] 49 2 #[] #[])
  fields := #[]
  methods := #[k1m0, k1m1]
  instanceTypes := #[]
  staticTypes := #[]
  resolved := Array.replicate 30 none
  statics := none }

def pool2 : Array CpInfo := pool [(1, .methodref 2 3), (0, .class_ 4), (0, .nameAndType 5 6), (0, u "java/lang/Object"), (0, u "<init>"), (0, u "()V"), (0, .class_ 8), (0, u "java/util/HashMap"), (0, .methodref 7 3), (0, .fieldref 11 12), (0, .class_ 13), (0, .nameAndType 14 15), (0, u "com/example/consequor/consequor/ClauseSet"), (0, u "occurrences"), (0, u "Ljava/util/Map;"), (0, .fieldref 11 17), (0, .nameAndType 18 15), (0, u "counted"), (0, .class_ 20), (0, u "java/util/ArrayList"), (0, .methodref 19 3), (0, .fieldref 11 23), (0, .nameAndType 24 25), (0, u "countedAtoms"), (0, u "Ljava/util/List;"), (0, .fieldref 11 27), (0, .nameAndType 28 25), (0, u "noms"), (0, .fieldref 11 30), (0, .nameAndType 31 15), (0, u "nomOccurrences"), (0, .fieldref 11 33), (0, .nameAndType 34 25), (0, u "unconditional"), (0, .class_ 36), (0, u "java/util/HashSet"), (0, .methodref 35 3), (0, .fieldref 11 39), (0, .nameAndType 40 41), (0, u "bodyShapes"), (0, u "Ljava/util/Set;"), (0, .fieldref 11 43), (0, .nameAndType 44 41), (0, u "pairedShapes"), (0, .fieldref 11 46), (0, .nameAndType 47 41), (0, u "readWithOthers"), (0, .fieldref 11 49), (0, .nameAndType 50 51), (0, u "namedClasses"), (0, u "I"), (0, .fieldref 11 53), (0, .nameAndType 54 51), (0, u "individuals"), (32, .class_ 88), (0, u "com/example/consequor/consequor/ClauseSet$Occurrence"), (11, u "longestBody"), (8, u "mostNeighbours"), (37, u "(I)I"), (13, .class_ 162), (0, u "com/example/consequor/consequor/ClauseSet$NomClause"), (4, .class_ 168), (0, u "com/example/consequor/consequor/ClauseSet$NomOccurrence"), (33, u "(II)V"), (4, u "nominalClass"), (0, u "nominalIndividual")] 52

def k2c0 : Code := { maxStack := 3, maxLocals := 3, code := prog_4_method_1_code, exceptionTable := #[], attributes := #[] }
def k2m0 : Method := { name := "<init>", desc := "(II)V", sig := { parameters := [.int, .int], returnType := none }, accessFlags := 0, code := some k2c0 }
def k2c1 : Code := { maxStack := 2, maxLocals := 2, code := prog_4_method_4_code, exceptionTable := #[], attributes := #[] }
def k2m1 : Method := { name := "nominalClass", desc := "(I)I", sig := { parameters := [.int], returnType := some .int }, accessFlags := 0, code := some k2c1 }
def k2c2 : Code := { maxStack := 2, maxLocals := 3, code := prog_4_method_5_code, exceptionTable := #[], attributes := #[] }
def k2m2 : Method := { name := "nominalIndividual", desc := "(I)I", sig := { parameters := [.int], returnType := some .int }, accessFlags := 0, code := some k2c2 }
/-- com/example/consequor/consequor/ClauseSet -/
def k2 : Class := { plain "com/example/consequor/consequor/ClauseSet" (some 0) with
  accessFlags := 48
  interfaces := #[]
  cf := some (fileOf pool2 11 #[.nestMembers #[167, 161, 87]] #[{ accessFlags := 0, nameIndex := 5, descriptorIndex := 202, attributes := #[] }, { accessFlags := 0, nameIndex := 207, descriptorIndex := 147, attributes := #[] }, { accessFlags := 0, nameIndex := 208, descriptorIndex := 147, attributes := #[] }] 48 2 #[] #[{ accessFlags := 18, nameIndex := 14, descriptorIndex := 15, attributes := #[] }, { accessFlags := 18, nameIndex := 18, descriptorIndex := 15, attributes := #[] }, { accessFlags := 18, nameIndex := 24, descriptorIndex := 25, attributes := #[] }, { accessFlags := 18, nameIndex := 28, descriptorIndex := 25, attributes := #[] }, { accessFlags := 18, nameIndex := 31, descriptorIndex := 15, attributes := #[] }, { accessFlags := 18, nameIndex := 34, descriptorIndex := 25, attributes := #[] }, { accessFlags := 18, nameIndex := 40, descriptorIndex := 41, attributes := #[] }, { accessFlags := 18, nameIndex := 44, descriptorIndex := 41, attributes := #[] }, { accessFlags := 18, nameIndex := 47, descriptorIndex := 41, attributes := #[] }, { accessFlags := 18, nameIndex := 50, descriptorIndex := 51, attributes := #[] }, { accessFlags := 18, nameIndex := 54, descriptorIndex := 51, attributes := #[] }, { accessFlags := 2, nameIndex := 100, descriptorIndex := 51, attributes := #[] }, { accessFlags := 2, nameIndex := 109, descriptorIndex := 51, attributes := #[] }])
  fields := #[{ name := "occurrences", type := (.object "java/util/Map"), accessFlags := 18, slot := 0, constantValue := 0 }, { name := "counted", type := (.object "java/util/Map"), accessFlags := 18, slot := 1, constantValue := 0 }, { name := "countedAtoms", type := (.object "java/util/List"), accessFlags := 18, slot := 2, constantValue := 0 }, { name := "noms", type := (.object "java/util/List"), accessFlags := 18, slot := 3, constantValue := 0 }, { name := "nomOccurrences", type := (.object "java/util/Map"), accessFlags := 18, slot := 4, constantValue := 0 }, { name := "unconditional", type := (.object "java/util/List"), accessFlags := 18, slot := 5, constantValue := 0 }, { name := "bodyShapes", type := (.object "java/util/Set"), accessFlags := 18, slot := 6, constantValue := 0 }, { name := "pairedShapes", type := (.object "java/util/Set"), accessFlags := 18, slot := 7, constantValue := 0 }, { name := "readWithOthers", type := (.object "java/util/Set"), accessFlags := 18, slot := 8, constantValue := 0 }, { name := "namedClasses", type := .int, accessFlags := 18, slot := 9, constantValue := 0 }, { name := "individuals", type := .int, accessFlags := 18, slot := 10, constantValue := 0 }, { name := "longestBody", type := .int, accessFlags := 2, slot := 11, constantValue := 0 }, { name := "mostNeighbours", type := .int, accessFlags := 2, slot := 12, constantValue := 0 }]
  methods := #[k2m0, k2m1, k2m2]
  instanceTypes := #[(.object "java/util/Map"), (.object "java/util/Map"), (.object "java/util/List"), (.object "java/util/List"), (.object "java/util/Map"), (.object "java/util/List"), (.object "java/util/Set"), (.object "java/util/Set"), (.object "java/util/Set"), .int, .int, .int, .int]
  staticTypes := #[]
  resolved := Array.replicate 261 none
  statics := none }

def pool3 : Array CpInfo := pool [(2, .class_ 4), (1, u "java/util/Map"), (31, .class_ 37), (0, u "java/util/Map$Entry"), (55, .class_ 94), (0, u "java/lang/Object")] 168

/-- java/util/Map -/
def k3 : Class := { plain "java/util/Map" (some 0) with
  accessFlags := 1537
  interfaces := #[]
  cf := some (fileOf pool3 2 #[.nestMembers #[36]] #[] 1537 93 #[] #[])
  fields := #[]
  methods := #[]
  instanceTypes := #[]
  staticTypes := #[]
  resolved := Array.replicate 263 none
  statics := none }

def pool4 : Array CpInfo := pool [(1, .methodref 2 3), (0, .class_ 4), (0, .nameAndType 5 6), (0, u "java/lang/Object"), (0, u "<init>"), (0, u "()V"), (1, .class_ 10), (1, u "java/util/AbstractMap"), (42, .class_ 54), (0, u "java/util/Map"), (9, u "keySet"), (0, u "Ljava/util/Set;"), (0, .class_ 67), (0, u "java/util/AbstractMap$1"), (5, u "values"), (0, u "Ljava/util/Collection;"), (0, .class_ 76), (0, u "java/util/AbstractMap$2"), (104, .class_ 182), (0, u "java/util/AbstractMap$ViewCollection"), (0, .class_ 184), (0, u "java/util/AbstractMap$SimpleImmutableEntry"), (0, .class_ 186), (0, u "java/util/AbstractMap$SimpleEntry"), (0, .class_ 188), (0, u "java/util/AbstractMap$2$1"), (0, .class_ 190), (0, u "java/util/AbstractMap$1$1")] 5

def k4c0 : Code := { maxStack := 1, maxLocals := 1, code := jdk_71_method_1_code, exceptionTable := #[], attributes := #[] }
def k4m0 : Method := { name := "<init>", desc := "()V", sig := { parameters := [], returnType := none }, accessFlags := 4, code := some k4c0 }
/-- java/util/AbstractMap -/
def k4 : Class := { plain "java/util/AbstractMap" (some 0) with
  accessFlags := 1057
  interfaces := #[3]
  cf := some (fileOf pool4 8 #[.nestMembers #[181, 183, 185, 75, 187, 66, 189]] #[{ accessFlags := 4, nameIndex := 5, descriptorIndex := 6, attributes := #[] }] 1057 2 #[53] #[{ accessFlags := 128, nameIndex := 64, descriptorIndex := 65, attributes := #[] }, { accessFlags := 128, nameIndex := 73, descriptorIndex := 74, attributes := #[] }])
  fields := #[{ name := "keySet", type := (.object "java/util/Set"), accessFlags := 128, slot := 0, constantValue := 0 }, { name := "values", type := (.object "java/util/Collection"), accessFlags := 128, slot := 1, constantValue := 0 }]
  methods := #[k4m0]
  instanceTypes := #[(.object "java/util/Set"), (.object "java/util/Collection")]
  staticTypes := #[]
  resolved := Array.replicate 196 none
  statics := none }

def pool5 : Array CpInfo := pool [(1, .class_ 2), (0, u "java/lang/Cloneable"), (0, .class_ 4), (0, u "java/lang/Object")] 2

/-- java/lang/Cloneable -/
def k5 : Class := { plain "java/lang/Cloneable" (some 0) with
  accessFlags := 1537
  interfaces := #[]
  cf := some (fileOf pool5 1 #[] #[] 1537 3 #[] #[])
  fields := #[]
  methods := #[]
  instanceTypes := #[]
  staticTypes := #[]
  resolved := Array.replicate 7 none
  statics := none }

def pool6 : Array CpInfo := pool [(1, .class_ 2), (0, u "java/io/Serializable"), (0, .class_ 4), (0, u "java/lang/Object")] 2

/-- java/io/Serializable -/
def k6 : Class := { plain "java/io/Serializable" (some 0) with
  accessFlags := 1537
  interfaces := #[]
  cf := some (fileOf pool6 1 #[] #[] 1537 3 #[] #[])
  fields := #[]
  methods := #[]
  instanceTypes := #[]
  staticTypes := #[]
  resolved := Array.replicate 7 none
  statics := none }

def pool7 : Array CpInfo := pool [(40, .class_ 41), (0, u "java/util/HashMap"), (1, .methodref 44 45), (0, .class_ 46), (0, .nameAndType 47 48), (0, u "java/util/AbstractMap"), (0, u "<init>"), (0, u "()V"), (32, .fieldref 40 82), (0, .nameAndType 83 84), (0, u "loadFactor"), (0, u "F"), (5, u "threshold"), (0, u "I"), (0, .float 1061158912), (8, .class_ 103), (1, u "java/util/Map"), (0, u "size"), (2, u "table"), (0, u "[Ljava/util/HashMap$Node;"), (14, u "entrySet"), (39, .class_ 165), (1, u "java/util/HashMap$Node"), (14, .class_ 181), (0, u "java/util/HashMap$TreeNode"), (22, u "modCount"), (37, u "Ljava/util/Set;"), (0, .class_ 244), (0, u "java/util/HashMap$KeySet"), (18, .class_ 264), (0, u "java/util/HashMap$Values"), (3, .class_ 269), (0, u "java/util/HashMap$EntrySet"), (76, .class_ 348), (1, u "java/util/HashMap$UnsafeHolder"), (43, .class_ 393), (0, u "java/lang/Cloneable"), (0, .class_ 395), (0, u "java/io/Serializable"), (0, u "serialVersionUID"), (0, u "J"), (3, u "DEFAULT_INITIAL_CAPACITY"), (1, u "MAXIMUM_CAPACITY"), (0, u "DEFAULT_LOAD_FACTOR"), (0, u "TREEIFY_THRESHOLD"), (1, u "UNTREEIFY_THRESHOLD"), (1, u "MIN_TREEIFY_CAPACITY"), (186, .class_ 597), (0, u "java/util/HashMap$EntrySpliterator"), (0, .class_ 599), (0, u "java/util/HashMap$ValueSpliterator"), (0, .class_ 601), (0, u "java/util/HashMap$KeySpliterator"), (0, .class_ 603), (0, u "java/util/HashMap$HashMapSpliterator"), (0, .class_ 605), (0, u "java/util/HashMap$EntryIterator"), (0, .class_ 607), (0, u "java/util/HashMap$ValueIterator"), (0, .class_ 609), (0, u "java/util/HashMap$KeyIterator"), (0, .class_ 611), (0, u "java/util/HashMap$HashIterator")] 17

def k7c0 : Code := { maxStack := 2, maxLocals := 1, code := jdk_69_method_7_code, exceptionTable := #[], attributes := #[] }
def k7m0 : Method := { name := "<init>", desc := "()V", sig := { parameters := [], returnType := none }, accessFlags := 1, code := some k7c0 }
/-- java/util/HashMap -/
def k7 : Class := { plain "java/util/HashMap" (some 4) with
  accessFlags := 33
  interfaces := #[3, 5, 6]
  cf := some (fileOf pool7 40 #[.nestMembers #[180, 596, 598, 600, 602, 604, 606, 608, 610, 346, 268, 263, 243, 163]] #[{ accessFlags := 1, nameIndex := 47, descriptorIndex := 48, attributes := #[] }] 33 44 #[101, 392, 394] #[{ accessFlags := 26, nameIndex := 396, descriptorIndex := 397, attributes := #[] }, { accessFlags := 24, nameIndex := 401, descriptorIndex := 91, attributes := #[] }, { accessFlags := 24, nameIndex := 403, descriptorIndex := 91, attributes := #[] }, { accessFlags := 24, nameIndex := 404, descriptorIndex := 84, attributes := #[] }, { accessFlags := 24, nameIndex := 405, descriptorIndex := 91, attributes := #[] }, { accessFlags := 24, nameIndex := 407, descriptorIndex := 91, attributes := #[] }, { accessFlags := 24, nameIndex := 409, descriptorIndex := 91, attributes := #[] }, { accessFlags := 128, nameIndex := 107, descriptorIndex := 108, attributes := #[] }, { accessFlags := 128, nameIndex := 123, descriptorIndex := 242, attributes := #[] }, { accessFlags := 128, nameIndex := 104, descriptorIndex := 91, attributes := #[] }, { accessFlags := 128, nameIndex := 204, descriptorIndex := 91, attributes := #[] }, { accessFlags := 0, nameIndex := 90, descriptorIndex := 91, attributes := #[] }, { accessFlags := 16, nameIndex := 83, descriptorIndex := 84, attributes := #[] }])
  fields := #[{ name := "serialVersionUID", type := .long, accessFlags := 26, slot := 0, constantValue := 0 }, { name := "DEFAULT_INITIAL_CAPACITY", type := .int, accessFlags := 24, slot := 1, constantValue := 0 }, { name := "MAXIMUM_CAPACITY", type := .int, accessFlags := 24, slot := 2, constantValue := 0 }, { name := "DEFAULT_LOAD_FACTOR", type := .float, accessFlags := 24, slot := 3, constantValue := 0 }, { name := "TREEIFY_THRESHOLD", type := .int, accessFlags := 24, slot := 4, constantValue := 0 }, { name := "UNTREEIFY_THRESHOLD", type := .int, accessFlags := 24, slot := 5, constantValue := 0 }, { name := "MIN_TREEIFY_CAPACITY", type := .int, accessFlags := 24, slot := 6, constantValue := 0 }, { name := "table", type := (.array (.object "java/util/HashMap$Node")), accessFlags := 128, slot := 2, constantValue := 0 }, { name := "entrySet", type := (.object "java/util/Set"), accessFlags := 128, slot := 3, constantValue := 0 }, { name := "size", type := .int, accessFlags := 128, slot := 4, constantValue := 0 }, { name := "modCount", type := .int, accessFlags := 128, slot := 5, constantValue := 0 }, { name := "threshold", type := .int, accessFlags := 0, slot := 6, constantValue := 0 }, { name := "loadFactor", type := .float, accessFlags := 16, slot := 7, constantValue := 0 }]
  methods := #[k7m0]
  instanceTypes := #[(.object "java/util/Set"), (.object "java/util/Collection"), (.array (.object "java/util/HashMap$Node")), (.object "java/util/Set"), .int, .int, .int, .float]
  staticTypes := #[.long, .int, .int, .float, .int, .int, .int]
  resolved := Array.replicate 629 none
  statics := none }

def pool8 : Array CpInfo := pool [(8, .class_ 10), (1, u "java/lang/Iterable"), (24, .class_ 36), (0, u "java/lang/Object")] 25

/-- java/lang/Iterable -/
def k8 : Class := { plain "java/lang/Iterable" (some 0) with
  accessFlags := 1537
  interfaces := #[]
  cf := some (fileOf pool8 8 #[] #[] 1537 35 #[] #[])
  fields := #[]
  methods := #[]
  instanceTypes := #[]
  staticTypes := #[]
  resolved := Array.replicate 62 none
  statics := none }

def pool9 : Array CpInfo := pool [(10, .class_ 12), (1, u "java/util/Collection"), (47, .class_ 61), (0, u "java/lang/Object"), (0, .class_ 63), (0, u "java/lang/Iterable")] 51

/-- java/util/Collection -/
def k9 : Class := { plain "java/util/Collection" (some 0) with
  accessFlags := 1537
  interfaces := #[8]
  cf := some (fileOf pool9 10 #[] #[] 1537 60 #[62] #[])
  fields := #[]
  methods := #[]
  instanceTypes := #[]
  staticTypes := #[]
  resolved := Array.replicate 115 none
  statics := none }

def pool10 : Array CpInfo := pool [(1, .methodref 2 3), (0, .class_ 4), (0, .nameAndType 5 6), (0, u "java/lang/Object"), (0, u "<init>"), (0, u "()V"), (1, .class_ 10), (1, u "java/util/AbstractCollection"), (66, .class_ 78), (0, u "java/util/Collection")] 81

def k10c0 : Code := { maxStack := 1, maxLocals := 1, code := jdk_22_method_1_code, exceptionTable := #[], attributes := #[] }
def k10m0 : Method := { name := "<init>", desc := "()V", sig := { parameters := [], returnType := none }, accessFlags := 4, code := some k10c0 }
/-- java/util/AbstractCollection -/
def k10 : Class := { plain "java/util/AbstractCollection" (some 0) with
  accessFlags := 1057
  interfaces := #[9]
  cf := some (fileOf pool10 8 #[] #[{ accessFlags := 4, nameIndex := 5, descriptorIndex := 6, attributes := #[] }] 1057 2 #[77] #[])
  fields := #[]
  methods := #[k10m0]
  instanceTypes := #[]
  staticTypes := #[]
  resolved := Array.replicate 160 none
  statics := none }

def pool11 : Array CpInfo := pool [(8, .class_ 10), (1, u "java/util/SequencedCollection"), (15, .class_ 27), (0, u "java/lang/Object"), (0, .class_ 29), (0, u "java/util/Collection")] 27

/-- java/util/SequencedCollection -/
def k11 : Class := { plain "java/util/SequencedCollection" (some 0) with
  accessFlags := 1537
  interfaces := #[9]
  cf := some (fileOf pool11 8 #[] #[] 1537 26 #[28] #[])
  fields := #[]
  methods := #[]
  instanceTypes := #[]
  staticTypes := #[]
  resolved := Array.replicate 57 none
  statics := none }

def pool12 : Array CpInfo := pool [(8, .class_ 10), (1, u "java/util/List"), (92, .class_ 104), (0, u "java/lang/Object"), (15, .class_ 121), (0, u "java/util/SequencedCollection")] 129

/-- java/util/List -/
def k12 : Class := { plain "java/util/List" (some 0) with
  accessFlags := 1537
  interfaces := #[11]
  cf := some (fileOf pool12 8 #[] #[] 1537 103 #[120] #[])
  fields := #[]
  methods := #[]
  instanceTypes := #[]
  staticTypes := #[]
  resolved := Array.replicate 251 none
  statics := none }

def pool13 : Array CpInfo := pool [(1, .methodref 2 3), (0, .class_ 4), (0, .nameAndType 5 6), (0, u "java/util/AbstractCollection"), (0, u "<init>"), (0, u "()V"), (0, .fieldref 8 9), (0, .class_ 10), (0, .nameAndType 11 12), (0, u "java/util/AbstractList"), (0, u "modCount"), (0, u "I"), (64, .class_ 78), (0, u "java/util/AbstractList$Itr"), (3, .class_ 83), (0, u "java/util/AbstractList$ListItr"), (9, .class_ 94), (0, u "java/util/AbstractList$RandomAccessSubList"), (3, .class_ 99), (0, u "java/util/AbstractList$SubList"), (33, .class_ 134), (0, u "java/util/List"), (73, .class_ 209), (0, u "java/util/AbstractList$SubList$1"), (0, .class_ 211), (0, u "java/util/AbstractList$RandomAccessSpliterator")] 6

def k13c0 : Code := { maxStack := 2, maxLocals := 1, code := jdk_39_method_1_code, exceptionTable := #[], attributes := #[] }
def k13m0 : Method := { name := "<init>", desc := "()V", sig := { parameters := [], returnType := none }, accessFlags := 4, code := some k13c0 }
/-- java/util/AbstractList -/
def k13 : Class := { plain "java/util/AbstractList" (some 10) with
  accessFlags := 1057
  interfaces := #[12]
  cf := some (fileOf pool13 8 #[.nestMembers #[93, 98, 208, 210, 82, 77]] #[{ accessFlags := 4, nameIndex := 5, descriptorIndex := 6, attributes := #[] }] 1057 2 #[133] #[{ accessFlags := 132, nameIndex := 11, descriptorIndex := 12, attributes := #[] }])
  fields := #[{ name := "modCount", type := .int, accessFlags := 132, slot := 0, constantValue := 0 }]
  methods := #[k13m0]
  instanceTypes := #[.int]
  staticTypes := #[]
  resolved := Array.replicate 218 none
  statics := none }

def pool14 : Array CpInfo := pool [(1, .class_ 2), (0, u "java/util/RandomAccess"), (0, .class_ 4), (0, u "java/lang/Object")] 2

/-- java/util/RandomAccess -/
def k14 : Class := { plain "java/util/RandomAccess" (some 0) with
  accessFlags := 1537
  interfaces := #[]
  cf := some (fileOf pool14 1 #[] #[] 1537 3 #[] #[])
  fields := #[]
  methods := #[]
  instanceTypes := #[]
  staticTypes := #[]
  resolved := Array.replicate 7 none
  statics := none }

def pool15 : Array CpInfo := pool [(1, .methodref 2 3), (0, .class_ 4), (0, .nameAndType 5 6), (0, u "java/util/AbstractList"), (0, u "<init>"), (0, u "()V"), (2, .fieldref 10 11), (0, .class_ 12), (0, .nameAndType 13 14), (0, u "java/util/ArrayList"), (0, u "elementData"), (0, u "[Ljava/lang/Object;"), (2, u "EMPTY_ELEMENTDATA"), (21, .fieldref 10 40), (0, .nameAndType 41 14), (0, u "DEFAULTCAPACITY_EMPTY_ELEMENTDATA"), (8, u "size"), (0, u "I"), (96, .class_ 149), (0, u "java/util/List"), (112, .class_ 263), (0, u "java/util/ArrayList$ListItr"), (3, .class_ 268), (0, u "java/util/ArrayList$Itr"), (7, .class_ 277), (0, u "java/util/ArrayList$SubList"), (12, .class_ 291), (0, u "java/util/ArrayList$ArrayListSpliterator"), (37, .class_ 330), (0, u "java/util/RandomAccess"), (0, .class_ 332), (0, u "java/lang/Cloneable"), (0, .class_ 334), (0, u "java/io/Serializable"), (0, u "serialVersionUID"), (0, u "J"), (3, u "DEFAULT_CAPACITY"), (159, .class_ 501), (0, u "java/util/ArrayList$SubList$2"), (0, .class_ 503), (0, u "java/util/ArrayList$SubList$1")] 5

def k15c0 : Code := { maxStack := 2, maxLocals := 1, code := jdk_38_method_2_code, exceptionTable := #[], attributes := #[] }
def k15m0 : Method := { name := "<init>", desc := "()V", sig := { parameters := [], returnType := none }, accessFlags := 1, code := some k15c0 }
/-- java/util/ArrayList -/
def k15 : Class := { plain "java/util/ArrayList" (some 13) with
  accessFlags := 33
  interfaces := #[12, 14, 5, 6]
  cf := some (fileOf pool15 10 #[.nestMembers #[290, 276, 500, 502, 262, 267]] #[{ accessFlags := 1, nameIndex := 5, descriptorIndex := 6, attributes := #[] }] 33 2 #[148, 329, 331, 333] #[{ accessFlags := 26, nameIndex := 335, descriptorIndex := 336, attributes := #[] }, { accessFlags := 26, nameIndex := 340, descriptorIndex := 51, attributes := #[] }, { accessFlags := 26, nameIndex := 17, descriptorIndex := 14, attributes := #[] }, { accessFlags := 26, nameIndex := 41, descriptorIndex := 14, attributes := #[] }, { accessFlags := 128, nameIndex := 13, descriptorIndex := 14, attributes := #[] }, { accessFlags := 2, nameIndex := 50, descriptorIndex := 51, attributes := #[] }])
  fields := #[{ name := "serialVersionUID", type := .long, accessFlags := 26, slot := 0, constantValue := 0 }, { name := "DEFAULT_CAPACITY", type := .int, accessFlags := 26, slot := 1, constantValue := 0 }, { name := "EMPTY_ELEMENTDATA", type := (.array (.object "java/lang/Object")), accessFlags := 26, slot := 2, constantValue := 0 }, { name := "DEFAULTCAPACITY_EMPTY_ELEMENTDATA", type := (.array (.object "java/lang/Object")), accessFlags := 26, slot := 3, constantValue := 0 }, { name := "elementData", type := (.array (.object "java/lang/Object")), accessFlags := 128, slot := 1, constantValue := 0 }, { name := "size", type := .int, accessFlags := 2, slot := 2, constantValue := 0 }]
  methods := #[k15m0]
  instanceTypes := #[.int, (.array (.object "java/lang/Object")), .int]
  staticTypes := #[.long, .int, (.array (.object "java/lang/Object")), (.array (.object "java/lang/Object"))]
  resolved := Array.replicate 509 none
  statics := some 0 }

def pool16 : Array CpInfo := pool [(26, .class_ 27), (0, u "java/lang/Object"), (5, .class_ 34), (0, u "java/util/Set"), (1, .class_ 38), (1, u "java/util/Collection")] 105

/-- java/util/Set -/
def k16 : Class := { plain "java/util/Set" (some 0) with
  accessFlags := 1537
  interfaces := #[9]
  cf := some (fileOf pool16 33 #[] #[] 1537 26 #[36] #[])
  fields := #[]
  methods := #[]
  instanceTypes := #[]
  staticTypes := #[]
  resolved := Array.replicate 144 none
  statics := none }

def pool17 : Array CpInfo := pool [(1, .methodref 2 3), (0, .class_ 4), (0, .nameAndType 5 6), (0, u "java/util/AbstractCollection"), (0, u "<init>"), (0, u "()V"), (0, .class_ 8), (0, u "java/util/Set"), (7, .class_ 17), (0, u "java/util/AbstractSet")] 78

def k17c0 : Code := { maxStack := 1, maxLocals := 1, code := jdk_91_method_1_code, exceptionTable := #[], attributes := #[] }
def k17m0 : Method := { name := "<init>", desc := "()V", sig := { parameters := [], returnType := none }, accessFlags := 4, code := some k17c0 }
/-- java/util/AbstractSet -/
def k17 : Class := { plain "java/util/AbstractSet" (some 10) with
  accessFlags := 1057
  interfaces := #[16]
  cf := some (fileOf pool17 16 #[] #[{ accessFlags := 4, nameIndex := 5, descriptorIndex := 6, attributes := #[] }] 1057 2 #[7] #[])
  fields := #[]
  methods := #[k17m0]
  instanceTypes := #[]
  staticTypes := #[]
  resolved := Array.replicate 96 none
  statics := none }

def pool18 : Array CpInfo := pool [(1, .methodref 2 3), (0, .class_ 4), (0, .nameAndType 5 6), (0, u "java/util/AbstractSet"), (0, u "<init>"), (0, u "()V"), (0, .class_ 8), (0, u "java/util/HashMap"), (0, .methodref 7 3), (0, .fieldref 11 12), (0, .class_ 13), (0, .nameAndType 14 15), (0, u "java/util/HashSet"), (0, u "map"), (0, u "Ljava/util/HashMap;"), (34, .class_ 52), (1, u "java/util/Set"), (13, u "PRESENT"), (0, u "Ljava/lang/Object;"), (158, .class_ 227), (0, u "java/lang/Cloneable"), (0, .class_ 229), (0, u "java/io/Serializable"), (0, u "serialVersionUID"), (0, u "J")] 71

def k18c0 : Code := { maxStack := 3, maxLocals := 1, code := jdk_93_method_1_code, exceptionTable := #[], attributes := #[] }
def k18m0 : Method := { name := "<init>", desc := "()V", sig := { parameters := [], returnType := none }, accessFlags := 1, code := some k18c0 }
/-- java/util/HashSet -/
def k18 : Class := { plain "java/util/HashSet" (some 17) with
  accessFlags := 33
  interfaces := #[16, 5, 6]
  cf := some (fileOf pool18 11 #[] #[{ accessFlags := 1, nameIndex := 5, descriptorIndex := 6, attributes := #[] }] 33 2 #[50, 226, 228] #[{ accessFlags := 24, nameIndex := 230, descriptorIndex := 231, attributes := #[] }, { accessFlags := 128, nameIndex := 14, descriptorIndex := 15, attributes := #[] }, { accessFlags := 24, nameIndex := 66, descriptorIndex := 67, attributes := #[] }])
  fields := #[{ name := "serialVersionUID", type := .long, accessFlags := 24, slot := 0, constantValue := 0 }, { name := "map", type := (.object "java/util/HashMap"), accessFlags := 128, slot := 0, constantValue := 0 }, { name := "PRESENT", type := (.object "java/lang/Object"), accessFlags := 24, slot := 1, constantValue := 0 }]
  methods := #[k18m0]
  instanceTypes := #[(.object "java/util/HashMap")]
  staticTypes := #[.long, (.object "java/lang/Object")]
  resolved := Array.replicate 303 none
  statics := none }

/-- the primitive byte -/
def k19 : Class := { plain "byte" none with kind := .primitive 'B', accessFlags := 0x411 }
/-- [B -/
def k20 : Class := { plain "[B" (some 0) with kind := .array 19 .byte, interfaces := #[5, 6], accessFlags := 1041 }

/-- the primitive int -/
def k21 : Class := { plain "int" none with kind := .primitive 'I', accessFlags := 0x411 }
/-- [I -/
def k22 : Class := { plain "[I" (some 0) with kind := .array 21 .int, interfaces := #[5, 6], accessFlags := 1041 }

/-- [Ljava/lang/Object; -/
def k23 : Class := { plain "[Ljava/lang/Object;" (some 0) with kind := .array 0 (.object "java/lang/Object"), interfaces := #[5, 6], accessFlags := 1041 }

def heap : Heap := #[{ cls := 15, slots := #[.long 0, .int 0, .ref 1, .ref 2], vm := .statics 15 },
  { cls := 23, slots := #[], vm := .none },
  { cls := 23, slots := #[], vm := .none }]
def classes : Array Class := #[k0, k1, k2, k3, k4, k5, k6, k7, k8, k9, k10, k11, k12, k13, k14, k15, k16, k17, k18, k19, k20, k21, k22, k23]
def interned : List (Array UInt16 × Addr) := []
def slotsUsed : Nat := 4
def theMethod : MethodId := ⟨1, 1⟩
def args0 : Array Value := #[.int 1, .int 2, .int 3, .int 4, .int 5]
def aboutOver (below : List Frame) : State where
  vm := { classes := classes, interned := interned.toArray }
  heap := heap
  slotsUsed := slotsUsed
  threads := #[{ frames := .invoking theMethod args0 :: below }]
def below0 : List Frame := [.native { method := ⟨0, 0⟩, args := #[] }]
def about1 : State := aboutOver below0
def p0 : Program := .bare "" "" ""
def e0 : Env := launch0.env 0 0 0
theorem w_frames : about1.frames = Frame.invoking theMethod args0 :: below0 := rfl
set_option maxRecDepth 65536 in
theorem w_args : argsFit about1.vm theMethod args0 = true := by decide +kernel
set_option maxRecDepth 65536 in
theorem w_heap : heapFits about1 = true := by decide +kernel
set_option maxRecDepth 65536 in
theorem w_runnable : about1.curStatus? = some .runnable := by decide +kernel
set_option maxRecDepth 65536 in
theorem w_alone : about1.alone = true := by decide +kernel
set_option maxRecDepth 65536 in
theorem w_named : about1.methodNamed? x = some theMethod := by decide +kernel
set_option maxRecDepth 65536 in
theorem w_hears : about1.hears theMethod below0 = true := by decide +kernel
set_option maxRecDepth 65536 in
theorem w_ripe : about1.ripe theMethod args0 below0 = true := by decide +kernel
theorem w_running : about1.status = .running := rfl
set_option maxRecDepth 65536 in
theorem w_room : about1.hasRoom e0.platform room_1 = true :=
  launch0.hasRoom_least _ room_1 (by decide +kernel) (by decide +kernel) (by decide +kernel) (by decide +kernel) (by decide +kernel) (by decide +kernel)
theorem allAtoms_all (ts : List Jvm.Cond) (a : Array Jvm.Value) (st : Jvm.State) : (allAtoms ts).before a st = ts.all (fun c => c.before a st) := by
  induction ts with
  | nil => rfl
  | cons c t ih =>
    show (Jvm.Cond.and c (allAtoms t)).before a st = _
    rw [Jvm.Cond.before_and, ih, List.all_cons]
def words1 : List Jvm.Cond := Jvm.Cond.code x code maxLocals ret :: tables_1
/-- a 'code' word, met by the world's own term for the bytes: nothing is compared byte by byte -/
theorem code_word {y : MethodName} {bytes : ByteArray} {mx : Nat} {rt : Option FieldType} {a : Array Value} {s : State} {m : MethodId} {meth : Method} {c : Code} (h1 : s.methodNamed? y = some m) (h2 : s.vm.method? m = some meth) (h3 : meth.code = some c) (h4 : c.code = bytes)
    (h5 : (c.maxLocals == mx && c.exceptionTable.isEmpty && decide (c.maxStack ≤ mostOperands) && decide (meth.sig.returnType = rt) && !meth.locks && decide (parseMethodDescriptor y.desc = some meth.sig)) = true) : (Jvm.Cond.code y bytes mx rt).before a s = true := by
  simp only [Bool.and_eq_true, beq_iff_eq, Bool.not_eq_true', decide_eq_true_eq] at h5
  obtain ⟨⟨⟨⟨⟨g1, g2⟩, g3⟩, g4⟩, g5⟩, g6⟩ := h5
  simp [Cond.before, Cond.holds, Cond.value, h1, h2, h3, h4, g1, g2, g3, g4, g5, g6]
def isCode : Jvm.Cond → Bool
  | .code _ _ _ _ => true
  | _ => false
theorem all_split {L : List Jvm.Cond} {P : Jvm.Cond → Bool} (h1 : L.all (fun c => isCode c || P c) = true) (h2 : ∀ c ∈ L.filter isCode, P c = true) : L.all P = true := by
  refine List.all_eq_true.mpr fun c hc => ?_
  have h := List.all_eq_true.mp h1 c hc
  rcases Bool.eq_false_or_eq_true (isCode c) with hi | hi
  · exact h2 c (List.mem_filter.mpr ⟨hc, hi⟩)
  · simpa [hi] using h
set_option maxRecDepth 65536 in
theorem w_c0 : (Jvm.Cond.code x code maxLocals ret).before args0 about1 = true := code_word (m := ⟨1, 1⟩) (meth := k1m1) (c := k1c1) (by decide +kernel) rfl rfl rfl (by decide +kernel)
set_option maxRecDepth 65536 in
theorem w_c1 : (Jvm.Cond.code ({ cls := "com/example/consequor/consequor/ClauseSet", name := "<init>", desc := "(II)V" } : Jvm.MethodName) prog_4_method_1_code (3 : Nat) (Option.none : Option Jvm.ClassFile.FieldType)).before args0 about1 = true := code_word (m := ⟨2, 0⟩) (meth := k2m0) (c := k2c0) (by decide +kernel) rfl rfl rfl (by decide +kernel)
set_option maxRecDepth 65536 in
theorem w_c2 : (Jvm.Cond.code ({ cls := "java/lang/Object", name := "<init>", desc := "()V" } : Jvm.MethodName) object_method_1_code (1 : Nat) (Option.none : Option Jvm.ClassFile.FieldType)).before args0 about1 = true := code_word (m := ⟨0, 0⟩) (meth := k0m0) (c := k0c0) (by decide +kernel) rfl rfl rfl (by decide +kernel)
set_option maxRecDepth 65536 in
theorem w_c3 : (Jvm.Cond.code ({ cls := "java/util/HashMap", name := "<init>", desc := "()V" } : Jvm.MethodName) jdk_69_method_7_code (1 : Nat) (Option.none : Option Jvm.ClassFile.FieldType)).before args0 about1 = true := code_word (m := ⟨7, 0⟩) (meth := k7m0) (c := k7c0) (by decide +kernel) rfl rfl rfl (by decide +kernel)
set_option maxRecDepth 65536 in
theorem w_c4 : (Jvm.Cond.code ({ cls := "java/util/AbstractMap", name := "<init>", desc := "()V" } : Jvm.MethodName) jdk_71_method_1_code (1 : Nat) (Option.none : Option Jvm.ClassFile.FieldType)).before args0 about1 = true := code_word (m := ⟨4, 0⟩) (meth := k4m0) (c := k4c0) (by decide +kernel) rfl rfl rfl (by decide +kernel)
set_option maxRecDepth 65536 in
theorem w_c5 : (Jvm.Cond.code ({ cls := "java/util/ArrayList", name := "<init>", desc := "()V" } : Jvm.MethodName) jdk_38_method_2_code (1 : Nat) (Option.none : Option Jvm.ClassFile.FieldType)).before args0 about1 = true := code_word (m := ⟨15, 0⟩) (meth := k15m0) (c := k15c0) (by decide +kernel) rfl rfl rfl (by decide +kernel)
set_option maxRecDepth 65536 in
theorem w_c6 : (Jvm.Cond.code ({ cls := "java/util/AbstractList", name := "<init>", desc := "()V" } : Jvm.MethodName) jdk_39_method_1_code (1 : Nat) (Option.none : Option Jvm.ClassFile.FieldType)).before args0 about1 = true := code_word (m := ⟨13, 0⟩) (meth := k13m0) (c := k13c0) (by decide +kernel) rfl rfl rfl (by decide +kernel)
set_option maxRecDepth 65536 in
theorem w_c7 : (Jvm.Cond.code ({ cls := "java/util/AbstractCollection", name := "<init>", desc := "()V" } : Jvm.MethodName) jdk_22_method_1_code (1 : Nat) (Option.none : Option Jvm.ClassFile.FieldType)).before args0 about1 = true := code_word (m := ⟨10, 0⟩) (meth := k10m0) (c := k10c0) (by decide +kernel) rfl rfl rfl (by decide +kernel)
set_option maxRecDepth 65536 in
theorem w_c8 : (Jvm.Cond.code ({ cls := "java/util/HashSet", name := "<init>", desc := "()V" } : Jvm.MethodName) jdk_93_method_1_code (1 : Nat) (Option.none : Option Jvm.ClassFile.FieldType)).before args0 about1 = true := code_word (m := ⟨18, 0⟩) (meth := k18m0) (c := k18c0) (by decide +kernel) rfl rfl rfl (by decide +kernel)
set_option maxRecDepth 65536 in
theorem w_c9 : (Jvm.Cond.code ({ cls := "java/util/AbstractSet", name := "<init>", desc := "()V" } : Jvm.MethodName) jdk_91_method_1_code (1 : Nat) (Option.none : Option Jvm.ClassFile.FieldType)).before args0 about1 = true := code_word (m := ⟨17, 0⟩) (meth := k17m0) (c := k17c0) (by decide +kernel) rfl rfl rfl (by decide +kernel)
set_option maxRecDepth 65536 in
theorem w_c10 : (Jvm.Cond.code ({ cls := "com/example/consequor/consequor/ClauseSet", name := "nominalIndividual", desc := "(I)I" } : Jvm.MethodName) prog_4_method_5_code (3 : Nat) (Option.some Jvm.ClassFile.FieldType.int)).before args0 about1 = true := code_word (m := ⟨2, 2⟩) (meth := k2m2) (c := k2c2) (by decide +kernel) rfl rfl rfl (by decide +kernel)
set_option maxRecDepth 65536 in
theorem w_c11 : (Jvm.Cond.code ({ cls := "com/example/consequor/consequor/ClauseSet", name := "nominalClass", desc := "(I)I" } : Jvm.MethodName) prog_4_method_4_code (2 : Nat) (Option.some Jvm.ClassFile.FieldType.int)).before args0 about1 = true := code_word (m := ⟨2, 1⟩) (meth := k2m1) (c := k2c1) (by decide +kernel) rfl rfl rfl (by decide +kernel)
def codes1 : List Jvm.Cond := [Jvm.Cond.code x code maxLocals ret, Jvm.Cond.code ({ cls := "com/example/consequor/consequor/ClauseSet", name := "<init>", desc := "(II)V" } : Jvm.MethodName) prog_4_method_1_code (3 : Nat) (Option.none : Option Jvm.ClassFile.FieldType), Jvm.Cond.code ({ cls := "java/lang/Object", name := "<init>", desc := "()V" } : Jvm.MethodName) object_method_1_code (1 : Nat) (Option.none : Option Jvm.ClassFile.FieldType), Jvm.Cond.code ({ cls := "java/util/HashMap", name := "<init>", desc := "()V" } : Jvm.MethodName) jdk_69_method_7_code (1 : Nat) (Option.none : Option Jvm.ClassFile.FieldType), Jvm.Cond.code ({ cls := "java/util/AbstractMap", name := "<init>", desc := "()V" } : Jvm.MethodName) jdk_71_method_1_code (1 : Nat) (Option.none : Option Jvm.ClassFile.FieldType), Jvm.Cond.code ({ cls := "java/util/ArrayList", name := "<init>", desc := "()V" } : Jvm.MethodName) jdk_38_method_2_code (1 : Nat) (Option.none : Option Jvm.ClassFile.FieldType), Jvm.Cond.code ({ cls := "java/util/AbstractList", name := "<init>", desc := "()V" } : Jvm.MethodName) jdk_39_method_1_code (1 : Nat) (Option.none : Option Jvm.ClassFile.FieldType), Jvm.Cond.code ({ cls := "java/util/AbstractCollection", name := "<init>", desc := "()V" } : Jvm.MethodName) jdk_22_method_1_code (1 : Nat) (Option.none : Option Jvm.ClassFile.FieldType), Jvm.Cond.code ({ cls := "java/util/HashSet", name := "<init>", desc := "()V" } : Jvm.MethodName) jdk_93_method_1_code (1 : Nat) (Option.none : Option Jvm.ClassFile.FieldType), Jvm.Cond.code ({ cls := "java/util/AbstractSet", name := "<init>", desc := "()V" } : Jvm.MethodName) jdk_91_method_1_code (1 : Nat) (Option.none : Option Jvm.ClassFile.FieldType), Jvm.Cond.code ({ cls := "com/example/consequor/consequor/ClauseSet", name := "nominalIndividual", desc := "(I)I" } : Jvm.MethodName) prog_4_method_5_code (3 : Nat) (Option.some Jvm.ClassFile.FieldType.int), Jvm.Cond.code ({ cls := "com/example/consequor/consequor/ClauseSet", name := "nominalClass", desc := "(I)I" } : Jvm.MethodName) prog_4_method_4_code (2 : Nat) (Option.some Jvm.ClassFile.FieldType.int)]
set_option maxRecDepth 65536 in
theorem codes_eq : words1.filter isCode = codes1 := rfl
theorem w_codes : ∀ c ∈ words1.filter isCode, c.before args0 about1 = true := by
  rw [codes_eq]
  intro c hc
  simp only [codes1, List.mem_cons, List.not_mem_nil, or_false] at hc
  rcases hc with rfl | rfl | rfl | rfl | rfl | rfl | rfl | rfl | rfl | rfl | rfl | rfl
  · exact w_c0
  · exact w_c1
  · exact w_c2
  · exact w_c3
  · exact w_c4
  · exact w_c5
  · exact w_c6
  · exact w_c7
  · exact w_c8
  · exact w_c9
  · exact w_c10
  · exact w_c11
set_option maxRecDepth 65536 in
theorem w_t1 : (words1.take 24).all (fun c => isCode c || c.before args0 about1) = true := by decide +kernel
set_option maxRecDepth 65536 in
theorem w_t2 : ((words1.drop 24).take 24).all (fun c => isCode c || c.before args0 about1) = true := by decide +kernel
set_option maxRecDepth 65536 in
theorem w_t3 : (((words1.drop 24).drop 24).take 24).all (fun c => isCode c || c.before args0 about1) = true := by decide +kernel
set_option maxRecDepth 65536 in
theorem w_t4 : ((((words1.drop 24).drop 24).drop 24).take 24).all (fun c => isCode c || c.before args0 about1) = true := by decide +kernel
set_option maxRecDepth 65536 in
theorem w_t5 : ((((words1.drop 24).drop 24).drop 24).drop 24).all (fun c => isCode c || c.before args0 about1) = true := by decide +kernel
theorem w_tables : (allAtoms (Jvm.Cond.code x code maxLocals ret :: tables_1)).before args0 about1 = true := by
  rw [allAtoms_all]
  show words1.all (fun c => c.before args0 about1) = true
  refine all_split ?_ w_codes
  rw [← List.take_append_drop 24 words1, List.all_append, w_t1, ← List.take_append_drop 24 (words1.drop 24), List.all_append, w_t2, ← List.take_append_drop 24 ((words1.drop 24).drop 24), List.all_append, w_t3, ← List.take_append_drop 24 (((words1.drop 24).drop 24).drop 24), List.all_append, w_t4, w_t5]
  rfl
set_option maxRecDepth 65536 in
theorem w_rest : rest_1_c.before args0 about1 = true := by decide +kernel
set_option maxRecDepth 65536 in
theorem w_case : (Jvm.Cond.and given_1 narrow_1).before args0 about1 = true := by decide +kernel
theorem w_applies : (headSpec (Jvm.Cond.code x code maxLocals ret :: tables_1) room_1).applies x e0.platform about1 = true :=
  (Spec.applies_iff w_frames).mpr ⟨w_running, w_runnable, w_alone, w_named, w_hears, w_ripe, w_room, w_tables⟩
theorem atStart : AtStart classFile x code maxLocals ret World_1 tables_1 room_1 Calls_1 rest_1 Pre_1 launch0 p0 e0 about1 theMethod args0 below0 :=
  ⟨lists_1, trivial, launch0.admits_env _ _ _, launch0.least_env, fairChoices_fair.cas, fairChoices_fair.clock, w_frames, w_args, w_heap, w_applies, trivial, w_rest, w_case⟩
end start1
theorem witness_1 : WitnessClaimed_1 := ⟨start1.p0, start1.e0, start1.about1, start1.theMethod, start1.args0, start1.below0, start1.atStart⟩
end Jvm.Pilot.@@N@@
