import JvmDerived
import JvmDerived.Pilot.@@N@@Statement
import JvmDerived.Pilot.@@N@@Code
set_option linter.unusedVariables false
set_option linter.unusedSimpArgs false
@@BLOCK:NumsL.lean.txt@@
namespace Jvm.Pilot.@@N@@
open Jvm Jvm.ClassFile Sem Op Lib Jvm.Free Jvm.Stand Jvm.LawKit Jvm.RoadKit Bundle Jvm.Pilot.@@N@@.Jvm.D
def Nq (a b : Addr) : Prop := a ≠ b
section Layer
variable {p : Program} {l : Launch} {e : Env} {R : Room} {s : State} {m : MethodId} {args : Array Value} {below : List Frame} {meth : Method} {c : Code} {T T' : State} {locs : List Loc} {cells slots : Nat} {Fe : Outcome → State → List Loc → Prop} {Q : Option Value → Heap → List Loc → Prop} {pc pc' : Nat} {Ls l' : Array Slot} {g g' : JFrame} {Z : State} {a0 : Array Value}
/-- from the frame g over T the run comes to a return of which Q and the frame's condition Fe hold -/
def Ok (p : Program) (e : Env) (below : List Frame) (Fe : Outcome → State → List Loc → Prop) (Q : Option Value → Heap → List Loc → Prop) (T : State) (g : JFrame) : Prop :=
  ∃ s₂ o, Steps p.tables e below (T.setTop g) s₂ ∧ s₂.status = .running ∧ Ended s₂ below o ∧ ∃ v L, o = .returned v ∧ Q v s₂.heap L ∧ Fe o s₂ L
def NE (s : State) (nc ns : Nat) (o : Outcome) (t : State) (L : List Loc) : Prop := FrameEnd s o t L nc ns
def WE (s : State) (nc ns : Nat) (o : Outcome) (t : State) (L : List Loc) : Prop := ReturnedEndW s o t L nc ns
theorem Ok.st (h : ∀ t, Steps p.tables e below (T'.setTop g') t → Steps p.tables e below (T.setTop g) t) (k : Ok p e below Fe Q T' g') : Ok p e below Fe Q T g := by
  obtain ⟨t, o, st, r⟩ := k
  exact ⟨t, o, h t st, r⟩
theorem Ok.tr (h : Steps p.tables e below (T.setTop g) (T'.setTop g')) (k : Ok p e below Fe Q T' g') : Ok p e below Fe Q T g := Ok.st (fun _ k' => h.trans k') k
theorem Ok.fr (h : g = g') (k : Ok p e below Fe Q T g') : Ok p e below Fe Q T g := h ▸ k
theorem Ok.iadd {x y : Int32} {rest : List Value} (X : Stand p l e R s m args below meth c T locs cells slots) (hx : p.tables.exec = Jvm.exec) (hd : decode c.code pc = .ok (.iadd, 1)) (hp : pc + 1 = pc')  (k : Ok p e below Fe Q T (mkF m pc' Ls (.int (x + y) :: rest))) : Ok p e below Fe Q T (mkF m pc Ls (.int y :: .int x :: rest)) := by
  subst hp
  exact Ok.st (fun t k => XS.iadd X.here hx rfl hd rfl k) k
theorem Ok.ladd {x y : Int64} {rest : List Value} (X : Stand p l e R s m args below meth c T locs cells slots) (hx : p.tables.exec = Jvm.exec) (hd : decode c.code pc = .ok (.ladd, 1)) (hp : pc + 1 = pc')  (k : Ok p e below Fe Q T (mkF m pc' Ls (.long (x + y) :: rest))) : Ok p e below Fe Q T (mkF m pc Ls (.long y :: .long x :: rest)) := by
  subst hp
  exact Ok.st (fun t k => XS.ladd X.here hx rfl hd rfl k) k
theorem Ok.isub {x y : Int32} {rest : List Value} (X : Stand p l e R s m args below meth c T locs cells slots) (hx : p.tables.exec = Jvm.exec) (hd : decode c.code pc = .ok (.isub, 1)) (hp : pc + 1 = pc')  (k : Ok p e below Fe Q T (mkF m pc' Ls (.int (x - y) :: rest))) : Ok p e below Fe Q T (mkF m pc Ls (.int y :: .int x :: rest)) := by
  subst hp
  exact Ok.st (fun t k => XS.isub X.here hx rfl hd rfl k) k
theorem Ok.lsub {x y : Int64} {rest : List Value} (X : Stand p l e R s m args below meth c T locs cells slots) (hx : p.tables.exec = Jvm.exec) (hd : decode c.code pc = .ok (.lsub, 1)) (hp : pc + 1 = pc')  (k : Ok p e below Fe Q T (mkF m pc' Ls (.long (x - y) :: rest))) : Ok p e below Fe Q T (mkF m pc Ls (.long y :: .long x :: rest)) := by
  subst hp
  exact Ok.st (fun t k => XS.lsub X.here hx rfl hd rfl k) k
theorem Ok.imul {x y : Int32} {rest : List Value} (X : Stand p l e R s m args below meth c T locs cells slots) (hx : p.tables.exec = Jvm.exec) (hd : decode c.code pc = .ok (.imul, 1)) (hp : pc + 1 = pc')  (k : Ok p e below Fe Q T (mkF m pc' Ls (.int (x * y) :: rest))) : Ok p e below Fe Q T (mkF m pc Ls (.int y :: .int x :: rest)) := by
  subst hp
  exact Ok.st (fun t k => XS.imul X.here hx rfl hd rfl k) k
theorem Ok.lmul {x y : Int64} {rest : List Value} (X : Stand p l e R s m args below meth c T locs cells slots) (hx : p.tables.exec = Jvm.exec) (hd : decode c.code pc = .ok (.lmul, 1)) (hp : pc + 1 = pc')  (k : Ok p e below Fe Q T (mkF m pc' Ls (.long (x * y) :: rest))) : Ok p e below Fe Q T (mkF m pc Ls (.long y :: .long x :: rest)) := by
  subst hp
  exact Ok.st (fun t k => XS.lmul X.here hx rfl hd rfl k) k
theorem Ok.iand {x y : Int32} {rest : List Value} (X : Stand p l e R s m args below meth c T locs cells slots) (hx : p.tables.exec = Jvm.exec) (hd : decode c.code pc = .ok (.iand, 1)) (hp : pc + 1 = pc')  (k : Ok p e below Fe Q T (mkF m pc' Ls (.int (x &&& y) :: rest))) : Ok p e below Fe Q T (mkF m pc Ls (.int y :: .int x :: rest)) := by
  subst hp
  exact Ok.st (fun t k => XS.iand X.here hx rfl hd rfl k) k
theorem Ok.land {x y : Int64} {rest : List Value} (X : Stand p l e R s m args below meth c T locs cells slots) (hx : p.tables.exec = Jvm.exec) (hd : decode c.code pc = .ok (.land, 1)) (hp : pc + 1 = pc')  (k : Ok p e below Fe Q T (mkF m pc' Ls (.long (x &&& y) :: rest))) : Ok p e below Fe Q T (mkF m pc Ls (.long y :: .long x :: rest)) := by
  subst hp
  exact Ok.st (fun t k => XS.land X.here hx rfl hd rfl k) k
theorem Ok.ior {x y : Int32} {rest : List Value} (X : Stand p l e R s m args below meth c T locs cells slots) (hx : p.tables.exec = Jvm.exec) (hd : decode c.code pc = .ok (.ior, 1)) (hp : pc + 1 = pc')  (k : Ok p e below Fe Q T (mkF m pc' Ls (.int (x ||| y) :: rest))) : Ok p e below Fe Q T (mkF m pc Ls (.int y :: .int x :: rest)) := by
  subst hp
  exact Ok.st (fun t k => XS.ior X.here hx rfl hd rfl k) k
theorem Ok.lor {x y : Int64} {rest : List Value} (X : Stand p l e R s m args below meth c T locs cells slots) (hx : p.tables.exec = Jvm.exec) (hd : decode c.code pc = .ok (.lor, 1)) (hp : pc + 1 = pc')  (k : Ok p e below Fe Q T (mkF m pc' Ls (.long (x ||| y) :: rest))) : Ok p e below Fe Q T (mkF m pc Ls (.long y :: .long x :: rest)) := by
  subst hp
  exact Ok.st (fun t k => XS.lor X.here hx rfl hd rfl k) k
theorem Ok.ixor {x y : Int32} {rest : List Value} (X : Stand p l e R s m args below meth c T locs cells slots) (hx : p.tables.exec = Jvm.exec) (hd : decode c.code pc = .ok (.ixor, 1)) (hp : pc + 1 = pc')  (k : Ok p e below Fe Q T (mkF m pc' Ls (.int (x ^^^ y) :: rest))) : Ok p e below Fe Q T (mkF m pc Ls (.int y :: .int x :: rest)) := by
  subst hp
  exact Ok.st (fun t k => XS.ixor X.here hx rfl hd rfl k) k
theorem Ok.lxor {x y : Int64} {rest : List Value} (X : Stand p l e R s m args below meth c T locs cells slots) (hx : p.tables.exec = Jvm.exec) (hd : decode c.code pc = .ok (.lxor, 1)) (hp : pc + 1 = pc')  (k : Ok p e below Fe Q T (mkF m pc' Ls (.long (x ^^^ y) :: rest))) : Ok p e below Fe Q T (mkF m pc Ls (.long y :: .long x :: rest)) := by
  subst hp
  exact Ok.st (fun t k => XS.lxor X.here hx rfl hd rfl k) k
theorem Ok.idiv {x y : Int32} {rest : List Value} (X : Stand p l e R s m args below meth c T locs cells slots) (hx : p.tables.exec = Jvm.exec) (hd : decode c.code pc = .ok (.idiv, 1)) (hp : pc + 1 = pc') (hy : y ≠ 0) (k : Ok p e below Fe Q T (mkF m pc' Ls (.int (x / y) :: rest))) : Ok p e below Fe Q T (mkF m pc Ls (.int y :: .int x :: rest)) := by
  subst hp
  exact Ok.st (fun t k => XS.idiv X.here hx rfl hd rfl hy k) k
theorem Ok.ldiv {x y : Int64} {rest : List Value} (X : Stand p l e R s m args below meth c T locs cells slots) (hx : p.tables.exec = Jvm.exec) (hd : decode c.code pc = .ok (.ldiv, 1)) (hp : pc + 1 = pc') (hy : y ≠ 0) (k : Ok p e below Fe Q T (mkF m pc' Ls (.long (x / y) :: rest))) : Ok p e below Fe Q T (mkF m pc Ls (.long y :: .long x :: rest)) := by
  subst hp
  exact Ok.st (fun t k => XS.ldiv X.here hx rfl hd rfl hy k) k
theorem Ok.irem {x y : Int32} {rest : List Value} (X : Stand p l e R s m args below meth c T locs cells slots) (hx : p.tables.exec = Jvm.exec) (hd : decode c.code pc = .ok (.irem, 1)) (hp : pc + 1 = pc') (hy : y ≠ 0) (k : Ok p e below Fe Q T (mkF m pc' Ls (.int (x % y) :: rest))) : Ok p e below Fe Q T (mkF m pc Ls (.int y :: .int x :: rest)) := by
  subst hp
  exact Ok.st (fun t k => iremM X hx rfl hd rfl hy k) k
theorem Ok.lrem {x y : Int64} {rest : List Value} (X : Stand p l e R s m args below meth c T locs cells slots) (hx : p.tables.exec = Jvm.exec) (hd : decode c.code pc = .ok (.lrem, 1)) (hp : pc + 1 = pc') (hy : y ≠ 0) (k : Ok p e below Fe Q T (mkF m pc' Ls (.long (x - (x / y) * y) :: rest))) : Ok p e below Fe Q T (mkF m pc Ls (.long y :: .long x :: rest)) := by
  subst hp
  exact Ok.st (fun t k => XS.lrem X.here hx rfl hd rfl hy k) k
theorem Ok.ishl {x y : Int32} {rest : List Value} (X : Stand p l e R s m args below meth c T locs cells slots) (hx : p.tables.exec = Jvm.exec) (hd : decode c.code pc = .ok (.ishl, 1)) (hp : pc + 1 = pc')  (k : Ok p e below Fe Q T (mkF m pc' Ls (.int (x <<< (y &&& 31)) :: rest))) : Ok p e below Fe Q T (mkF m pc Ls (.int y :: .int x :: rest)) := by
  subst hp
  exact Ok.st (fun t k => XS.ishl X.here hx rfl hd rfl k) k
theorem Ok.ishr {x y : Int32} {rest : List Value} (X : Stand p l e R s m args below meth c T locs cells slots) (hx : p.tables.exec = Jvm.exec) (hd : decode c.code pc = .ok (.ishr, 1)) (hp : pc + 1 = pc')  (k : Ok p e below Fe Q T (mkF m pc' Ls (.int (x >>> (y &&& 31)) :: rest))) : Ok p e below Fe Q T (mkF m pc Ls (.int y :: .int x :: rest)) := by
  subst hp
  exact Ok.st (fun t k => XS.ishr X.here hx rfl hd rfl k) k
theorem Ok.iushr {x y : Int32} {rest : List Value} (X : Stand p l e R s m args below meth c T locs cells slots) (hx : p.tables.exec = Jvm.exec) (hd : decode c.code pc = .ok (.iushr, 1)) (hp : pc + 1 = pc')  (k : Ok p e below Fe Q T (mkF m pc' Ls (.int ((x.toUInt32 >>> (y &&& 31).toUInt32).toInt32) :: rest))) : Ok p e below Fe Q T (mkF m pc Ls (.int y :: .int x :: rest)) := by
  subst hp
  exact Ok.st (fun t k => XS.iushr X.here hx rfl hd rfl k) k
theorem Ok.lshl {x : Int64} {y : Int32} {rest : List Value} (X : Stand p l e R s m args below meth c T locs cells slots) (hx : p.tables.exec = Jvm.exec) (hd : decode c.code pc = .ok (.lshl, 1)) (hp : pc + 1 = pc')  (k : Ok p e below Fe Q T (mkF m pc' Ls (.long (x <<< (y &&& 0x3f).toInt64) :: rest))) : Ok p e below Fe Q T (mkF m pc Ls (.int y :: .long x :: rest)) := by
  subst hp
  exact Ok.st (fun t k => XS.lshl X.here hx rfl hd rfl k) k
theorem Ok.lshr {x : Int64} {y : Int32} {rest : List Value} (X : Stand p l e R s m args below meth c T locs cells slots) (hx : p.tables.exec = Jvm.exec) (hd : decode c.code pc = .ok (.lshr, 1)) (hp : pc + 1 = pc')  (k : Ok p e below Fe Q T (mkF m pc' Ls (.long (x >>> (y &&& 0x3f).toInt64) :: rest))) : Ok p e below Fe Q T (mkF m pc Ls (.int y :: .long x :: rest)) := by
  subst hp
  exact Ok.st (fun t k => XS.lshr X.here hx rfl hd rfl k) k
theorem Ok.lushr {x : Int64} {y : Int32} {rest : List Value} (X : Stand p l e R s m args below meth c T locs cells slots) (hx : p.tables.exec = Jvm.exec) (hd : decode c.code pc = .ok (.lushr, 1)) (hp : pc + 1 = pc')  (k : Ok p e below Fe Q T (mkF m pc' Ls (.long ((x.toUInt64 >>> (y &&& 0x3f).toInt64.toUInt64).toInt64) :: rest))) : Ok p e below Fe Q T (mkF m pc Ls (.int y :: .long x :: rest)) := by
  subst hp
  exact Ok.st (fun t k => XS.lushr X.here hx rfl hd rfl k) k
theorem Ok.ineg {x : Int32} {rest : List Value} (X : Stand p l e R s m args below meth c T locs cells slots) (hx : p.tables.exec = Jvm.exec) (hd : decode c.code pc = .ok (.ineg, 1)) (hp : pc + 1 = pc')  (k : Ok p e below Fe Q T (mkF m pc' Ls (.int (-x) :: rest))) : Ok p e below Fe Q T (mkF m pc Ls (.int x :: rest)) := by
  subst hp
  exact Ok.st (fun t k => XS.ineg X.here hx rfl hd rfl k) k
theorem Ok.lneg {x : Int64} {rest : List Value} (X : Stand p l e R s m args below meth c T locs cells slots) (hx : p.tables.exec = Jvm.exec) (hd : decode c.code pc = .ok (.lneg, 1)) (hp : pc + 1 = pc')  (k : Ok p e below Fe Q T (mkF m pc' Ls (.long (-x) :: rest))) : Ok p e below Fe Q T (mkF m pc Ls (.long x :: rest)) := by
  subst hp
  exact Ok.st (fun t k => XS.lneg X.here hx rfl hd rfl k) k
theorem Ok.i2l {x : Int32} {rest : List Value} (X : Stand p l e R s m args below meth c T locs cells slots) (hx : p.tables.exec = Jvm.exec) (hd : decode c.code pc = .ok (.i2l, 1)) (hp : pc + 1 = pc')  (k : Ok p e below Fe Q T (mkF m pc' Ls (.long x.toInt64 :: rest))) : Ok p e below Fe Q T (mkF m pc Ls (.int x :: rest)) := by
  subst hp
  exact Ok.st (fun t k => XS.i2l X.here hx rfl hd rfl k) k
theorem Ok.l2i {x : Int64} {rest : List Value} (X : Stand p l e R s m args below meth c T locs cells slots) (hx : p.tables.exec = Jvm.exec) (hd : decode c.code pc = .ok (.l2i, 1)) (hp : pc + 1 = pc')  (k : Ok p e below Fe Q T (mkF m pc' Ls (.int x.toInt32 :: rest))) : Ok p e below Fe Q T (mkF m pc Ls (.long x :: rest)) := by
  subst hp
  exact Ok.st (fun t k => XS.l2i X.here hx rfl hd rfl k) k
theorem Ok.i2b {x : Int32} {rest : List Value} (X : Stand p l e R s m args below meth c T locs cells slots) (hx : p.tables.exec = Jvm.exec) (hd : decode c.code pc = .ok (.i2b, 1)) (hp : pc + 1 = pc')  (k : Ok p e below Fe Q T (mkF m pc' Ls (.int x.toInt8.toInt32 :: rest))) : Ok p e below Fe Q T (mkF m pc Ls (.int x :: rest)) := by
  subst hp
  exact Ok.st (fun t k => XS.i2b X.here hx rfl hd rfl k) k
theorem Ok.i2c {x : Int32} {rest : List Value} (X : Stand p l e R s m args below meth c T locs cells slots) (hx : p.tables.exec = Jvm.exec) (hd : decode c.code pc = .ok (.i2c, 1)) (hp : pc + 1 = pc')  (k : Ok p e below Fe Q T (mkF m pc' Ls (.int x.toUInt32.toUInt16.toUInt32.toInt32 :: rest))) : Ok p e below Fe Q T (mkF m pc Ls (.int x :: rest)) := by
  subst hp
  exact Ok.st (fun t k => XS.i2c X.here hx rfl hd rfl k) k
theorem Ok.i2s {x : Int32} {rest : List Value} (X : Stand p l e R s m args below meth c T locs cells slots) (hx : p.tables.exec = Jvm.exec) (hd : decode c.code pc = .ok (.i2s, 1)) (hp : pc + 1 = pc')  (k : Ok p e below Fe Q T (mkF m pc' Ls (.int x.toInt16.toInt32 :: rest))) : Ok p e below Fe Q T (mkF m pc Ls (.int x :: rest)) := by
  subst hp
  exact Ok.st (fun t k => XS.i2s X.here hx rfl hd rfl k) k
theorem Ok.lcmp {x y : Int64} {rest : List Value} (X : Stand p l e R s m args below meth c T locs cells slots) (hx : p.tables.exec = Jvm.exec) (hd : decode c.code pc = .ok (.lcmp, 1)) (hp : pc + 1 = pc')  (k : Ok p e below Fe Q T (mkF m pc' Ls (.int (lcmpW x y) :: rest))) : Ok p e below Fe Q T (mkF m pc Ls (.long y :: .long x :: rest)) := by
  subst hp
  exact Ok.st (fun t k => XS.lcmp X.here hx rfl hd rfl k) k
theorem Ok.iconst {i : Int} {z : Int32} {rest : List Value} (X : Stand p l e R s m args below meth c T locs cells slots) (hx : p.tables.exec = Jvm.exec) (hd : decode c.code pc = .ok (.iconst i, 1)) (hp : pc + 1 = pc') (hz : z = Int32.ofInt i) (k : Ok p e below Fe Q T (mkF m pc' Ls (.int z :: rest))) : Ok p e below Fe Q T (mkF m pc Ls rest) := by
  subst hp
  exact Ok.st (fun t k => XS.iconst X.here hx rfl hd (hz ▸ k)) k
theorem Ok.bipush {i : Int} {z : Int32} {rest : List Value} (X : Stand p l e R s m args below meth c T locs cells slots) (hx : p.tables.exec = Jvm.exec) (hd : decode c.code pc = .ok (.bipush i, 2)) (hp : pc + 2 = pc') (hz : z = (Int8.ofInt i).toInt32) (k : Ok p e below Fe Q T (mkF m pc' Ls (.int z :: rest))) : Ok p e below Fe Q T (mkF m pc Ls rest) := by
  subst hp
  exact Ok.st (fun t k => XS.bipush X.here hx rfl hd (hz ▸ k)) k
theorem Ok.sipush {i : Int} {z : Int32} {rest : List Value} (X : Stand p l e R s m args below meth c T locs cells slots) (hx : p.tables.exec = Jvm.exec) (hd : decode c.code pc = .ok (.sipush i, 3)) (hp : pc + 3 = pc') (hz : z = (Int16.ofInt i).toInt32) (k : Ok p e below Fe Q T (mkF m pc' Ls (.int z :: rest))) : Ok p e below Fe Q T (mkF m pc Ls rest) := by
  subst hp
  exact Ok.st (fun t k => XS.sipush X.here hx rfl hd (hz ▸ k)) k
theorem Ok.lconst {i : Fin 2} {z : Int64} {rest : List Value} (X : Stand p l e R s m args below meth c T locs cells slots) (hx : p.tables.exec = Jvm.exec) (hd : decode c.code pc = .ok (.lconst i, 1)) (hp : pc + 1 = pc') (hz : z = Int64.ofNat i) (k : Ok p e below Fe Q T (mkF m pc' Ls (.long z :: rest))) : Ok p e below Fe Q T (mkF m pc Ls rest) := by
  subst hp
  exact Ok.st (fun t k => XS.lconst X.here hx rfl hd (hz ▸ k)) k
theorem Ok.aconstNull {rest : List Value} (X : Stand p l e R s m args below meth c T locs cells slots) (hx : p.tables.exec = Jvm.exec) (hd : decode c.code pc = .ok (.aconst_null, 1)) (hp : pc + 1 = pc')  (k : Ok p e below Fe Q T (mkF m pc' Ls (.null :: rest))) : Ok p e below Fe Q T (mkF m pc Ls rest) := by
  subst hp
  exact Ok.st (fun t k => XS.aconstNull X.here hx rfl hd k) k
theorem Ok.dup {x : Value} {rest : List Value} (X : Stand p l e R s m args below meth c T locs cells slots) (hx : p.tables.exec = Jvm.exec) (hd : decode c.code pc = .ok (.dup, 1)) (hp : pc + 1 = pc') (hc : x.category = 1) (k : Ok p e below Fe Q T (mkF m pc' Ls (x :: x :: rest))) : Ok p e below Fe Q T (mkF m pc Ls (x :: rest)) := by
  subst hp
  exact Ok.st (fun t k => XS.dup X.here hx rfl hd rfl hc k) k
theorem Ok.pop {x : Value} {rest : List Value} (X : Stand p l e R s m args below meth c T locs cells slots) (hx : p.tables.exec = Jvm.exec) (hd : decode c.code pc = .ok (.pop, 1)) (hp : pc + 1 = pc') (hc : x.category = 1) (k : Ok p e below Fe Q T (mkF m pc' Ls rest)) : Ok p e below Fe Q T (mkF m pc Ls (x :: rest)) := by
  subst hp
  exact Ok.st (fun t k => XS.pop X.here hx rfl hd rfl hc k) k
theorem Ok.iload {i : Nat} {v : Int32} {rest : List Value} (X : Stand p l e R s m args below meth c T locs cells slots) (hx : p.tables.exec = Jvm.exec) (hd : decode c.code pc = .ok (.iload i, 2)) (hp : pc + 2 = pc') (hl : Ls[i]? = some (.val (.int v))) (k : Ok p e below Fe Q T (mkF m pc' Ls (.int v :: rest))) : Ok p e below Fe Q T (mkF m pc Ls rest) := by
  subst hp
  exact Ok.st (fun t k => XS.iload X.here hx rfl hd hl k) k
theorem Ok.iloadN {i : Fin 4} {v : Int32} {rest : List Value} (X : Stand p l e R s m args below meth c T locs cells slots) (hx : p.tables.exec = Jvm.exec) (hd : decode c.code pc = .ok (.iload_n i, 1)) (hp : pc + 1 = pc') (hl : Ls[i.val]? = some (.val (.int v))) (k : Ok p e below Fe Q T (mkF m pc' Ls (.int v :: rest))) : Ok p e below Fe Q T (mkF m pc Ls rest) := by
  subst hp
  exact Ok.st (fun t k => XS.iloadN X.here hx rfl hd hl k) k
theorem Ok.lload {i : Nat} {v : Int64} {rest : List Value} (X : Stand p l e R s m args below meth c T locs cells slots) (hx : p.tables.exec = Jvm.exec) (hd : decode c.code pc = .ok (.lload i, 2)) (hp : pc + 2 = pc') (hl : Ls[i]? = some (.val (.long v))) (k : Ok p e below Fe Q T (mkF m pc' Ls (.long v :: rest))) : Ok p e below Fe Q T (mkF m pc Ls rest) := by
  subst hp
  exact Ok.st (fun t k => XS.lload X.here hx rfl hd hl k) k
theorem Ok.lloadN {i : Fin 4} {v : Int64} {rest : List Value} (X : Stand p l e R s m args below meth c T locs cells slots) (hx : p.tables.exec = Jvm.exec) (hd : decode c.code pc = .ok (.lload_n i, 1)) (hp : pc + 1 = pc') (hl : Ls[i.val]? = some (.val (.long v))) (k : Ok p e below Fe Q T (mkF m pc' Ls (.long v :: rest))) : Ok p e below Fe Q T (mkF m pc Ls rest) := by
  subst hp
  exact Ok.st (fun t k => XS.lloadN X.here hx rfl hd hl k) k
theorem Ok.aload {i : Nat} {v : Value} {rest : List Value} (X : Stand p l e R s m args below meth c T locs cells slots) (hx : p.tables.exec = Jvm.exec) (hd : decode c.code pc = .ok (.aload i, 2)) (hp : pc + 2 = pc') (hl : Ls[i]? = some (.val v)) (hv : v.isRef = true) (k : Ok p e below Fe Q T (mkF m pc' Ls (v :: rest))) : Ok p e below Fe Q T (mkF m pc Ls rest) := by
  subst hp
  exact Ok.st (fun t k => XS.aload X.here hx rfl hd hl hv k) k
theorem Ok.aloadN {i : Fin 4} {v : Value} {rest : List Value} (X : Stand p l e R s m args below meth c T locs cells slots) (hx : p.tables.exec = Jvm.exec) (hd : decode c.code pc = .ok (.aload_n i, 1)) (hp : pc + 1 = pc') (hl : Ls[i.val]? = some (.val v)) (hv : v.isRef = true) (k : Ok p e below Fe Q T (mkF m pc' Ls (v :: rest))) : Ok p e below Fe Q T (mkF m pc Ls rest) := by
  subst hp
  exact Ok.st (fun t k => XS.aloadN X.here hx rfl hd hl hv k) k
theorem Ok.istore {i : Nat} {x : Int32} {rest : List Value} (X : Stand p l e R s m args below meth c T locs cells slots) (hx : p.tables.exec = Jvm.exec) (hd : decode c.code pc = .ok (.istore i, 2)) (hp : pc + 2 = pc') (hl : storeLocals Ls i (.int x) = some l') (k : Ok p e below Fe Q T (mkF m pc' l' rest)) : Ok p e below Fe Q T (mkF m pc Ls ((.int x) :: rest)) := by
  subst hp
  exact Ok.st (fun t k => XS.istore X.here hx rfl hd rfl hl k) k
theorem Ok.istoreN {i : Fin 4} {x : Int32} {rest : List Value} (X : Stand p l e R s m args below meth c T locs cells slots) (hx : p.tables.exec = Jvm.exec) (hd : decode c.code pc = .ok (.istore_n i, 1)) (hp : pc + 1 = pc') (hl : storeLocals Ls i.val (.int x) = some l') (k : Ok p e below Fe Q T (mkF m pc' l' rest)) : Ok p e below Fe Q T (mkF m pc Ls ((.int x) :: rest)) := by
  subst hp
  exact Ok.st (fun t k => XS.istoreN X.here hx rfl hd rfl hl k) k
theorem Ok.lstore {i : Nat} {x : Int64} {rest : List Value} (X : Stand p l e R s m args below meth c T locs cells slots) (hx : p.tables.exec = Jvm.exec) (hd : decode c.code pc = .ok (.lstore i, 2)) (hp : pc + 2 = pc') (hl : storeLocals Ls i (.long x) = some l') (k : Ok p e below Fe Q T (mkF m pc' l' rest)) : Ok p e below Fe Q T (mkF m pc Ls ((.long x) :: rest)) := by
  subst hp
  exact Ok.st (fun t k => XS.lstore X.here hx rfl hd rfl hl k) k
theorem Ok.lstoreN {i : Fin 4} {x : Int64} {rest : List Value} (X : Stand p l e R s m args below meth c T locs cells slots) (hx : p.tables.exec = Jvm.exec) (hd : decode c.code pc = .ok (.lstore_n i, 1)) (hp : pc + 1 = pc') (hl : storeLocals Ls i.val (.long x) = some l') (k : Ok p e below Fe Q T (mkF m pc' l' rest)) : Ok p e below Fe Q T (mkF m pc Ls ((.long x) :: rest)) := by
  subst hp
  exact Ok.st (fun t k => XS.lstoreN X.here hx rfl hd rfl hl k) k
theorem Ok.astore {i : Nat} {x : Value} {rest : List Value} (X : Stand p l e R s m args below meth c T locs cells slots) (hx : p.tables.exec = Jvm.exec) (hd : decode c.code pc = .ok (.astore i, 2)) (hp : pc + 2 = pc') (hv : x.isRef = true) (hl : storeLocals Ls i x = some l') (k : Ok p e below Fe Q T (mkF m pc' l' rest)) : Ok p e below Fe Q T (mkF m pc Ls (x :: rest)) := by
  subst hp
  exact Ok.st (fun t k => XS.astore X.here hx rfl hd rfl hv hl k) k
theorem Ok.astoreN {i : Fin 4} {x : Value} {rest : List Value} (X : Stand p l e R s m args below meth c T locs cells slots) (hx : p.tables.exec = Jvm.exec) (hd : decode c.code pc = .ok (.astore_n i, 1)) (hp : pc + 1 = pc') (hv : x.isRef = true) (hl : storeLocals Ls i.val x = some l') (k : Ok p e below Fe Q T (mkF m pc' l' rest)) : Ok p e below Fe Q T (mkF m pc Ls (x :: rest)) := by
  subst hp
  exact Ok.st (fun t k => XS.astoreN X.here hx rfl hd rfl hv hl k) k
theorem Ok.iinc {i : Nat} {cst : Int} {x z : Int32} {st : List Value} (X : Stand p l e R s m args below meth c T locs cells slots) (hx : p.tables.exec = Jvm.exec) (hd : decode c.code pc = .ok (.iinc i cst, 3)) (hp : pc + 3 = pc') (hl : Ls[i]? = some (.val (.int x))) (hz : z = x + Int32.ofInt cst) (hl' : storeLocals Ls i (.int z) = some l') (k : Ok p e below Fe Q T (mkF m pc' l' st)) : Ok p e below Fe Q T (mkF m pc Ls st) := by
  subst hp hz
  exact Ok.st (fun t k => XS.iinc X.here hx rfl hd hl hl' k) k
theorem Ok.goto {o : Int} {st : List Value} (X : Stand p l e R s m args below meth c T locs cells slots) (hx : p.tables.exec = Jvm.exec) (hd : decode c.code pc = .ok (.goto o, 3)) (ho : 0 ≤ (pc : Int) + o) (hp : ((pc : Int) + o).toNat = pc') (k : Ok p e below Fe Q T (mkF m pc' Ls st)) : Ok p e below Fe Q T (mkF m pc Ls st) :=
  Ok.st (fun t k => XS.goto X.here hx rfl (pc0 := pc) rfl hd ho hp k) k
theorem Ok.ifY {cd : ClassFile.Cond} {x : Int32} {rest : List Value} {o : Int} (X : Stand p l e R s m args below meth c T locs cells slots) (hx : p.tables.exec = Jvm.exec) (hd : decode c.code pc = .ok (.ifCond cd o, 3)) (hc : ifCond.holds cd x = true) (ho : 0 ≤ (pc : Int) + o) (hp : ((pc : Int) + o).toNat = pc') (k : Ok p e below Fe Q T (mkF m pc' Ls rest)) : Ok p e below Fe Q T (mkF m pc Ls (.int x :: rest)) :=
  Ok.st (fun t k => XS.ifYes X.here hx rfl (pc0 := pc) rfl hd rfl hc ho hp k) k
theorem Ok.ifN {cd : ClassFile.Cond} {x : Int32} {rest : List Value} {o : Int} (X : Stand p l e R s m args below meth c T locs cells slots) (hx : p.tables.exec = Jvm.exec) (hd : decode c.code pc = .ok (.ifCond cd o, 3)) (hc : ifCond.holds cd x = false) (hp : pc + 3 = pc') (k : Ok p e below Fe Q T (mkF m pc' Ls rest)) : Ok p e below Fe Q T (mkF m pc Ls (.int x :: rest)) := by
  subst hp
  exact Ok.st (fun t k => XS.ifNo X.here hx rfl hd rfl hc k) k
theorem Ok.icY {cd : ClassFile.Cond} {x y : Int32} {rest : List Value} {o : Int} (X : Stand p l e R s m args below meth c T locs cells slots) (hx : p.tables.exec = Jvm.exec) (hd : decode c.code pc = .ok (.if_icmp cd o, 3)) (hc : if_icmp.holds cd x y = true) (ho : 0 ≤ (pc : Int) + o) (hp : ((pc : Int) + o).toNat = pc') (k : Ok p e below Fe Q T (mkF m pc' Ls rest)) : Ok p e below Fe Q T (mkF m pc Ls (.int y :: .int x :: rest)) :=
  Ok.st (fun t k => XS.icmpYes X.here hx rfl (pc0 := pc) rfl hd rfl hc ho hp k) k
theorem Ok.icN {cd : ClassFile.Cond} {x y : Int32} {rest : List Value} {o : Int} (X : Stand p l e R s m args below meth c T locs cells slots) (hx : p.tables.exec = Jvm.exec) (hd : decode c.code pc = .ok (.if_icmp cd o, 3)) (hc : if_icmp.holds cd x y = false) (hp : pc + 3 = pc') (k : Ok p e below Fe Q T (mkF m pc' Ls rest)) : Ok p e below Fe Q T (mkF m pc Ls (.int y :: .int x :: rest)) := by
  subst hp
  exact Ok.st (fun t k => XS.icmpNo X.here hx rfl hd rfl hc k) k
theorem Ok.nullY {rest : List Value} {o : Int} (X : Stand p l e R s m args below meth c T locs cells slots) (hx : p.tables.exec = Jvm.exec) (hd : decode c.code pc = .ok (.ifnull o, 3)) (ho : 0 ≤ (pc : Int) + o) (hp : ((pc : Int) + o).toNat = pc') (k : Ok p e below Fe Q T (mkF m pc' Ls rest)) : Ok p e below Fe Q T (mkF m pc Ls (.null :: rest)) :=
  Ok.st (fun t k => XS.ifnullYes X.here hx rfl (pc0 := pc) rfl hd rfl ho hp k) k
theorem Ok.nullN {b : Addr} {rest : List Value} {o : Int} (X : Stand p l e R s m args below meth c T locs cells slots) (hx : p.tables.exec = Jvm.exec) (hd : decode c.code pc = .ok (.ifnull o, 3)) (hp : pc + 3 = pc') (k : Ok p e below Fe Q T (mkF m pc' Ls rest)) : Ok p e below Fe Q T (mkF m pc Ls (.ref b :: rest)) := by
  subst hp
  exact Ok.st (fun t k => XS.ifnullNo X.here hx rfl hd rfl k) k
theorem Ok.nonnullY {b : Addr} {rest : List Value} {o : Int} (X : Stand p l e R s m args below meth c T locs cells slots) (hx : p.tables.exec = Jvm.exec) (hd : decode c.code pc = .ok (.ifnonnull o, 3)) (ho : 0 ≤ (pc : Int) + o) (hp : ((pc : Int) + o).toNat = pc') (k : Ok p e below Fe Q T (mkF m pc' Ls rest)) : Ok p e below Fe Q T (mkF m pc Ls (.ref b :: rest)) :=
  Ok.st (fun t k => XS.ifnonnullYes X.here hx rfl (pc0 := pc) rfl hd rfl ho hp k) k
theorem Ok.nonnullN {rest : List Value} {o : Int} (X : Stand p l e R s m args below meth c T locs cells slots) (hx : p.tables.exec = Jvm.exec) (hd : decode c.code pc = .ok (.ifnonnull o, 3)) (hp : pc + 3 = pc') (k : Ok p e below Fe Q T (mkF m pc' Ls rest)) : Ok p e below Fe Q T (mkF m pc Ls (.null :: rest)) := by
  subst hp
  exact Ok.st (fun t k => XS.ifnonnullNo X.here hx rfl hd rfl k) k
theorem Ok.ldcI {own : String} {index : Nat} {v : Int32} {st : List Value} (X : Stand p l e R s m args below meth c T locs cells slots) (hx : p.tables.exec = Jvm.exec) (hZ : Z.Warmed39 s.vm) (hown : s.vm.findClass own = some m.cls) (w : (Jvm.Cond.constant own index v).before a0 Z = true) (hd : decode c.code pc = .ok (.ldc index, 2)) (hp : pc + 2 = pc') (k : Ok p e below Fe Q T (mkF m pc' Ls (.int v :: st))) : Ok p e below Fe Q T (mkF m pc Ls st) := by
  subst hp
  exact Ok.st (X.ldcInt hx hown (mvT hZ w) (g := mkF m pc Ls st) rfl hd) k
theorem Ok.ldcJ {own : String} {index : Nat} {v : Int64} {st : List Value} (X : Stand p l e R s m args below meth c T locs cells slots) (hx : p.tables.exec = Jvm.exec) (hZ : Z.Warmed39 s.vm) (hown : s.vm.findClass own = some m.cls) (w : (Jvm.Cond.constantLong own index v).before a0 Z = true) (hd : decode c.code pc = .ok (.ldc2_w index, 3)) (hp : pc + 3 = pc') (k : Ok p e below Fe Q T (mkF m pc' Ls (.long v :: st))) : Ok p e below Fe Q T (mkF m pc Ls st) := by
  subst hp
  exact Ok.st (X.ldc2Long hx hown (mvT hZ w) (g := mkF m pc Ls st) rfl hd) k
/-! the ends -/
theorem Ok.retV (X : Stand p l e R s m args below meth c T locs cells slots) (hx : p.tables.exec = Jvm.exec) (hret : meth.sig.returnType = none) (hlk : meth.locks = false) (hd : decode c.code pc = .ok (.return_, 1)) {nc ns : Nat} (hc : cells ≤ nc) (hs : slots ≤ ns) (q : Q none T.heap locs) : Ok p e below (NE s nc ns) Q T (mkF m pc Ls []) := by
  obtain ⟨fs, hr, hrun, hended, hW, hsame⟩ := X.leave (v := none) (fun _ => rfl) hlk
  exact ⟨_, _, X.returnOut hx hret hd hr, hrun, hended, _, _, rfl, q, ⟨_, rfl⟩, hW, hsame.mono hc hs⟩
theorem Ok.retI {z : Int32} {rest : List Value} {t : FieldType} (X : Stand p l e R s m args below meth c T locs cells slots) (hx : p.tables.exec = Jvm.exec) (hret : meth.sig.returnType = some t) (hlk : meth.locks = false) (ht : t = .int ∨ t = .boolean ∨ t = .byte ∨ t = .char ∨ t = .short) (hn : narrow t (.int z) = .int z) (hd : decode c.code pc = .ok (.ireturn, 1)) {nc ns : Nat} (hc : cells ≤ nc) (hs : slots ≤ ns) (q : Q (some (.int z)) T.heap locs) : Ok p e below (NE s nc ns) Q T (mkF m pc Ls (.int z :: rest)) := by
  obtain ⟨fs, hr, hrun, hended, hW, hsame⟩ := X.leave (v := some (.int z)) (fun h => by rw [hret] at h; cases h) hlk
  exact ⟨_, _, retOut X hx hret hn (Or.inl ⟨rfl, ht, _, rfl⟩) hd hr, hrun, hended, _, _, rfl, q, ⟨_, rfl⟩, hW, hsame.mono hc hs⟩
theorem Ok.retJ {z : Int64} {rest : List Value} (X : Stand p l e R s m args below meth c T locs cells slots) (hx : p.tables.exec = Jvm.exec) (hret : meth.sig.returnType = some .long) (hlk : meth.locks = false) (hd : decode c.code pc = .ok (.lreturn, 1)) {nc ns : Nat} (hc : cells ≤ nc) (hs : slots ≤ ns) (q : Q (some (.long z)) T.heap locs) : Ok p e below (NE s nc ns) Q T (mkF m pc Ls (.long z :: rest)) := by
  obtain ⟨fs, hr, hrun, hended, hW, hsame⟩ := X.leave (v := some (.long z)) (fun h => by rw [hret] at h; cases h) hlk
  exact ⟨_, _, retOut X hx hret rfl (Or.inr (Or.inl ⟨rfl, rfl, _, rfl⟩)) hd hr, hrun, hended, _, _, rfl, q, ⟨_, rfl⟩, hW, hsame.mono hc hs⟩
theorem Ok.retA {w : Value} {rest : List Value} {t : FieldType} (X : Stand p l e R s m args below meth c T locs cells slots) (hx : p.tables.exec = Jvm.exec) (hret : meth.sig.returnType = some t) (hlk : meth.locks = false) (ht : t.isReference = true) (hn : narrow t w = w) (hw : w.isRef = true) (hd : decode c.code pc = .ok (.areturn, 1)) {nc ns : Nat} (hc : cells ≤ nc) (hs : slots ≤ ns) (q : Q (some w) T.heap locs) : Ok p e below (NE s nc ns) Q T (mkF m pc Ls (w :: rest)) := by
  obtain ⟨fs, hr, hrun, hended, hW, hsame⟩ := X.leave (v := some w) (fun h => by rw [hret] at h; cases h) hlk
  exact ⟨_, _, retOut X hx hret hn (Or.inr (Or.inr (Or.inr (Or.inr ⟨rfl, ht, hw⟩)))) hd hr, hrun, hended, _, _, rfl, q, ⟨_, rfl⟩, hW, hsame.mono hc hs⟩
theorem Ok.retVW {V : Vm} {n : Nat} (X : Stand p l e R (s.setVm V) m args below meth c T locs cells slots) (hx : p.tables.exec = Jvm.exec) (hS : s.Since V n) (hSn : n ≤ T.heap.size) (hret : meth.sig.returnType = none) (hlk : meth.locks = false) (hd : decode c.code pc = .ok (.return_, 1)) {nc ns : Nat} (hc : cells ≤ nc) (hs : slots ≤ ns) (q : Q none T.heap locs) : Ok p e below (WE s nc ns) Q T (mkF m pc Ls []) := by
  obtain ⟨fs, hr, hrun, hended, h1, h2, h3, h4⟩ := X.leaveW hS hSn (v := none) (fun _ => rfl) hlk
  exact ⟨_, _, X.returnOut hx hret hd hr, hrun, hended, _, _, rfl, q, h1, h2, h3, h4.mono hc hs⟩
theorem Ok.retIW {V : Vm} {n : Nat} {z : Int32} {rest : List Value} {t : FieldType} (X : Stand p l e R (s.setVm V) m args below meth c T locs cells slots) (hx : p.tables.exec = Jvm.exec) (hS : s.Since V n) (hSn : n ≤ T.heap.size) (hret : meth.sig.returnType = some t) (hlk : meth.locks = false) (ht : t = .int ∨ t = .boolean ∨ t = .byte ∨ t = .char ∨ t = .short) (hn : narrow t (.int z) = .int z) (hd : decode c.code pc = .ok (.ireturn, 1)) {nc ns : Nat} (hc : cells ≤ nc) (hs : slots ≤ ns) (q : Q (some (.int z)) T.heap locs) : Ok p e below (WE s nc ns) Q T (mkF m pc Ls (.int z :: rest)) := by
  obtain ⟨fs, hr, hrun, hended, h1, h2, h3, h4⟩ := X.leaveW hS hSn (v := some (.int z)) (fun h => by rw [hret] at h; cases h) hlk
  exact ⟨_, _, retOut X hx hret hn (Or.inl ⟨rfl, ht, _, rfl⟩) hd hr, hrun, hended, _, _, rfl, q, h1, h2, h3, h4.mono hc hs⟩
theorem Ok.retJW {V : Vm} {n : Nat} {z : Int64} {rest : List Value} (X : Stand p l e R (s.setVm V) m args below meth c T locs cells slots) (hx : p.tables.exec = Jvm.exec) (hS : s.Since V n) (hSn : n ≤ T.heap.size) (hret : meth.sig.returnType = some .long) (hlk : meth.locks = false) (hd : decode c.code pc = .ok (.lreturn, 1)) {nc ns : Nat} (hc : cells ≤ nc) (hs : slots ≤ ns) (q : Q (some (.long z)) T.heap locs) : Ok p e below (WE s nc ns) Q T (mkF m pc Ls (.long z :: rest)) := by
  obtain ⟨fs, hr, hrun, hended, h1, h2, h3, h4⟩ := X.leaveW hS hSn (v := some (.long z)) (fun h => by rw [hret] at h; cases h) hlk
  exact ⟨_, _, retOut X hx hret rfl (Or.inr (Or.inl ⟨rfl, rfl, _, rfl⟩)) hd hr, hrun, hended, _, _, rfl, q, h1, h2, h3, h4.mono hc hs⟩
theorem Ok.retAW {V : Vm} {n : Nat} {w : Value} {rest : List Value} {t : FieldType} (X : Stand p l e R (s.setVm V) m args below meth c T locs cells slots) (hx : p.tables.exec = Jvm.exec) (hS : s.Since V n) (hSn : n ≤ T.heap.size) (hret : meth.sig.returnType = some t) (hlk : meth.locks = false) (ht : t.isReference = true) (hn : narrow t w = w) (hw : w.isRef = true) (hd : decode c.code pc = .ok (.areturn, 1)) {nc ns : Nat} (hc : cells ≤ nc) (hs : slots ≤ ns) (q : Q (some w) T.heap locs) : Ok p e below (WE s nc ns) Q T (mkF m pc Ls (w :: rest)) := by
  obtain ⟨fs, hr, hrun, hended, h1, h2, h3, h4⟩ := X.leaveW hS hSn (v := some w) (fun h => by rw [hret] at h; cases h) hlk
  exact ⟨_, _, retOut X hx hret hn (Or.inr (Or.inr (Or.inr (Or.inr ⟨rfl, ht, hw⟩)))) hd hr, hrun, hended, _, _, rfl, q, h1, h2, h3, h4.mono hc hs⟩
/-! a body's contract -/
abbrev MetN (l : Launch) (Z : State) (y : MethodName) (bytes : ByteArray) (maxL : Nat) (ret : Option FieldType) (ws : List Jvm.Cond) (rm : Room) (as' : Array Value) (h0 : Heap) (Q : Option Value → Heap → List Loc → Prop) : Prop :=
  MetFree l y (head1 (Jvm.Cond.code y bytes maxL ret :: ws) rm) (fun a U => a = as' ∧ Z.Warmed39 U.vm ∧ U.heap = h0) (fun _ _ _ _ _ => True) (fun _ U o U' => ∃ v L, o = .returned v ∧ Q v U'.heap L ∧ FrameEnd U o U' L rm.cells rm.slots)
abbrev MetW (l : Launch) (Z : State) (y : MethodName) (bytes : ByteArray) (maxL : Nat) (ret : Option FieldType) (ws : List Jvm.Cond) (rm : Room) (as' : Array Value) (h0 : Heap) (Q : Option Value → Heap → List Loc → Prop) : Prop :=
  MetFree l y (head1 (Jvm.Cond.code y bytes maxL ret :: ws) rm) (fun a U => a = as' ∧ Z.Warmed39 U.vm ∧ U.heap = h0) (fun _ _ _ _ _ => True) (fun _ U o U' => ∃ v L, o = .returned v ∧ Q v U'.heap L ∧ ReturnedEndW U o U' L rm.cells rm.slots)
theorem met_n {y : MethodName} {bytes : ByteArray} {maxL : Nat} {ret : Option FieldType} {rm : Room} {ws : List Jvm.Cond} {as' : Array Value} {h0 : Heap} {F0 : MethodId → JFrame} (hp : plainFor y = true) (hf : ∀ m, entryFrame m as' maxL = F0 m)
    (body : ∀ (p : Program) (e : Env) (s : State) (m : MethodId) (below : List Frame) (meth : Method) (c : Code) (s₁ : State), Stand p l e rm s m as' below meth c s₁ [] 0 0 → p.tables.exec = Jvm.exec → c.code = bytes → c.maxLocals = maxL → Z.Warmed39 s.vm → s.vm.findClass y.cls = some m.cls → meth.name = y.name → meth.sig.returnType = ret → meth.locks = false → s₁.heap = h0 → Ok p e below (NE s rm.cells rm.slots) Q s₁ (F0 m)) :
    MetN l Z y bytes maxL ret ws rm as' h0 Q := by
  refine MetFree.of_bodySF hp hisR ?_
  intro p e s m args below meth c s₁ Bd hml0 hP hK
  obtain ⟨rfl, hZ, hh⟩ := hP
  have e0 : s₁.heap = h0 := by rw [← hh, Bd.state]; rfl
  exact Ok.fr (hf m) (body p e s m below meth c s₁ (Stand.of_body Bd) Bd.exec Bd.bytes hml0 hZ (findClass_of_methodNamed Bd.named) (name_of_methodNamed Bd.named Bd.method).1 Bd.returns (BodyLoose.notSynchronized Bd) e0)
theorem met_w {y : MethodName} {bytes : ByteArray} {maxL : Nat} {ret : Option FieldType} {rm : Room} {ws : List Jvm.Cond} {as' : Array Value} {h0 : Heap} {F0 : MethodId → JFrame} (hp : plainFor y = true) (hf : ∀ m, entryFrame m as' maxL = F0 m)
    (body : ∀ (p : Program) (e : Env) (s : State) (m : MethodId) (below : List Frame) (meth : Method) (c : Code) (s₁ : State) (V : Vm) (n : Nat), Stand p l e rm (s.setVm V) m as' below meth c s₁ [] 0 0 → p.tables.exec = Jvm.exec → c.code = bytes → c.maxLocals = maxL → Z.Warmed39 V → V.findClass y.cls = some m.cls → meth.name = y.name → meth.sig.returnType = ret → meth.locks = false → s₁.heap = h0 → s.Since V n → n ≤ h0.size → Ok p e below (WE s rm.cells rm.slots) Q s₁ (F0 m)) :
    MetW l Z y bytes maxL ret ws rm as' h0 Q := by
  refine MetFree.of_bodySF hp hisR ?_
  intro p e s m args below meth c s₁ Bd hml0 hP hK
  obtain ⟨rfl, hZ, hh⟩ := hP
  have e0 : s₁.heap = h0 := by rw [← hh, Bd.state]; rfl
  exact Ok.fr (hf m) (body p e s m below meth c s₁ s.vm 0 (Stand.of_body Bd) Bd.exec Bd.bytes hml0 hZ (findClass_of_methodNamed Bd.named) (name_of_methodNamed Bd.named Bd.method).1 Bd.returns (BodyLoose.notSynchronized Bd) e0 ((State.WarmedH.refl s).since 0) (Nat.zero_le _))
/-! calls, by a contract -/
theorem Ok.callS {y : MethodName} {bytes : ByteArray} {maxL : Nat} {ret : Option FieldType} {rm : Room} {as' : Array Value} {h : Heap} {Qc : Option Value → Heap → List Loc → Prop} {own : String} {index : Nat} {argsL rest st : List Value} {W : Nat} (X : Stand p l e R s m args below meth c T locs cells slots) (hx : p.tables.exec = Jvm.exec) (hZ : Z.Warmed39 s.vm) (hown : s.vm.findClass own = some m.cls)
    (hM : MetN l Z y bytes maxL ret [] rm as' h Qc) (wl : (Jvm.Cond.methodLink own index y).before a0 Z = true) (ws : (Jvm.Cond.static y).before a0 Z = true) (wz : (Jvm.Cond.initialized y.cls).before a0 Z = true) (wc : (Jvm.Cond.code y bytes maxL ret).before a0 Z = true) (hy : y.cls ≠ "java/lang/invoke/MethodHandle" ∧ y.cls ≠ "java/lang/invoke/VarHandle")
    (eT : T.heap = h) (hf : rm.frames + 1 ≤ R.frames) (hl : W + (maxL + 11) + rm.locals ≤ R.locals) (hc : cells + rm.cells ≤ R.cells) (hs : slots + rm.slots ≤ R.slots) (hlen : ∀ sig, parseMethodDescriptor y.desc = some sig → argsL.length = sig.parameters.length) (has : argsL.toArray = as') (hst : st = argsL.reverse ++ rest) (hW : (rest.map fun v => v.category).sum ≤ W) (hsize : Ls.size = c.maxLocals)
    (hd : decode c.code pc = .ok (.invokestatic index, 3)) (hp : pc + 3 = pc')
    (k : ∀ (v : Option Value) (T' : State) (L : List Loc), Stand p l e R s m args below meth c T' (locs ++ L) (cells + rm.cells) (slots + rm.slots) → Qc v T'.heap L → Ok p e below Fe Q T' (mkF m pc' Ls (v.toList ++ rest))) : Ok p e below Fe Q T (mkF m pc Ls st) := by
  subst hp
  obtain ⟨v, _, ⟨T1, L1, k1, n1⟩, -, X1, ⟨Lc, hQ, l1, y1, z1⟩, st1⟩ := Jvm.LawKit.callS X hx (y := y) hown (mvT hZ wl) (mvT hZ ws) (mvT hZ wz) (mvT hZ wc) hy (backOf (W := W) hM hZ wc wz hf hl) (g := mkF m pc Ls st) rfl hsize (argsL := argsL) (rest := rest) hlen hst (by show 2 * 0 + _ ≤ _; omega) hd (fun _ _ => ⟨has, eT, hc, hs⟩)
  dsimp only [Pt.U, Pt.locs, Pt.cells, Pt.slots] at X1 l1 y1 z1 st1 hQ
  subst l1 y1 z1
  exact Ok.st st1 (k v T1 Lc X1 hQ)
theorem Ok.init {y : MethodName} {bytes : ByteArray} {maxL : Nat} {rm : Room} {as' : Array Value} {h : Heap} {Qc : Option Value → Heap → List Loc → Prop} {own : String} {index : Nat} {a : Addr} {argsL rest st : List Value} {W : Nat} (X : Stand p l e R s m args below meth c T locs cells slots) (hx : p.tables.exec = Jvm.exec) (hZ : Z.Warmed39 s.vm) (hown : s.vm.findClass own = some m.cls)
    (hM : MetN l Z y bytes maxL none [] rm as' h Qc) (hyn : y.name = "<init>") (wl : (Jvm.Cond.methodLink own index y).before a0 Z = true) (wi : (Jvm.Cond.instanceMethod y).before a0 Z = true) (wz : (Jvm.Cond.initialized y.cls).before a0 Z = true) (wc : (Jvm.Cond.code y bytes maxL none).before a0 Z = true) (hy : y.cls ≠ "java/lang/invoke/MethodHandle" ∧ y.cls ≠ "java/lang/invoke/VarHandle")
    (eT : T.heap = h) (hf : rm.frames + 1 ≤ R.frames) (hl : W + (maxL + 11) + rm.locals ≤ R.locals) (hc : cells + rm.cells ≤ R.cells) (hs : slots + rm.slots ≤ R.slots) (hlen : ∀ sig, parseMethodDescriptor y.desc = some sig → argsL.length = sig.parameters.length) (has : (.ref a :: argsL).toArray = as') (hst : st = argsL.reverse ++ .ref a :: rest) (hW : (rest.map fun v => v.category).sum ≤ W) (hsize : Ls.size = c.maxLocals)
    (hd : decode c.code pc = .ok (.invokespecial index, 3)) (hp : pc + 3 = pc')
    (k : ∀ (v : Option Value) (T' : State) (L : List Loc), Stand p l e R s m args below meth c T' (locs ++ L) (cells + rm.cells) (slots + rm.slots) → Qc v T'.heap L → Ok p e below Fe Q T' (mkF m pc' Ls (v.toList ++ rest))) : Ok p e below Fe Q T (mkF m pc Ls st) := by
  subst hp
  obtain ⟨v, _, ⟨T1, L1, k1, n1⟩, -, X1, ⟨Lc, hQ, l1, y1, z1⟩, st1⟩ := X.specialBack hx (y := y) hyn hown (mvT hZ wl) (mvT hZ wi) (mvT hZ wc) hy (backOf (W := W) hM hZ wc wz hf hl) (g := mkF m pc Ls st) rfl hsize (Steps.refl _) (a := a) (argsL := argsL) (rest := rest) hlen hst (by show 2 * 0 + _ ≤ _; omega) hd (fun _ _ => ⟨has, eT, hc, hs⟩)
  dsimp only [Pt.U, Pt.locs, Pt.cells, Pt.slots] at X1 l1 y1 z1 st1 hQ
  subst l1 y1 z1
  exact Ok.tr st1 (k v T1 Lc X1 hQ)
theorem Ok.virt {y z : MethodName} {bytes : ByteArray} {maxL : Nat} {ret : Option FieldType} {rm : Room} {as' : Array Value} {h : Heap} {Qc : Option Value → Heap → List Loc → Prop} {own C : String} {index : Nat} {a : Addr} {argsL rest st : List Value} {W : Nat} (X : Stand p l e R s m args below meth c T locs cells slots) (hx : p.tables.exec = Jvm.exec) (hZ : Z.Warmed39 s.vm) (hown : s.vm.findClass own = some m.cls)
    (hM : MetN l Z z bytes maxL ret [] rm as' h Qc) (wl : (Jvm.Cond.methodLink own index y).before a0 Z = true) (wd : (Jvm.Cond.declares y).before a0 Z = true) (hnf : NotFace s y) (wse : (Jvm.Cond.selects C y z).before a0 Z = true) (wi : (Jvm.Cond.instanceMethod z).before a0 Z = true) (wz : (Jvm.Cond.initialized z.cls).before a0 Z = true) (wc : (Jvm.Cond.code z bytes maxL ret).before a0 Z = true) (hy : y.cls ≠ "java/lang/invoke/MethodHandle" ∧ y.cls ≠ "java/lang/invoke/VarHandle")
    (eT : T.heap = h) (E : Exa Z h a C) (hf : rm.frames + 1 ≤ R.frames) (hl : W + (maxL + 11) + rm.locals ≤ R.locals) (hc : cells + rm.cells ≤ R.cells) (hs : slots + rm.slots ≤ R.slots) (hlen : ∀ sig, parseMethodDescriptor y.desc = some sig → argsL.length = sig.parameters.length) (has : (.ref a :: argsL).toArray = as') (hst : st = argsL.reverse ++ .ref a :: rest) (hW : (rest.map fun v => v.category).sum ≤ W) (hsize : Ls.size = c.maxLocals)
    (hd : decode c.code pc = .ok (.invokevirtual index, 3)) (hp : pc + 3 = pc')
    (k : ∀ (v : Option Value) (T' : State) (L : List Loc), Stand p l e R s m args below meth c T' (locs ++ L) (cells + rm.cells) (slots + rm.slots) → Qc v T'.heap L → Ok p e below Fe Q T' (mkF m pc' Ls (v.toList ++ rest))) : Ok p e below Fe Q T (mkF m pc Ls st) := by
  subst hp
  obtain ⟨cq, kq, qa, qb, qc⟩ := isOf hZ eT E
  obtain ⟨v, _, ⟨T1, L1, k1, n1⟩, -, X1, ⟨Lc, hQ, l1, y1, z1⟩, st1⟩ := X.virtualBack hx (y := y) (z := z) hown (mvT hZ wl) (mvT hZ wd) hnf (mvT hZ wse) (mvT hZ wi) hy (backOf (W := W) hM hZ wc wz hf hl) qa qc (g := mkF m pc Ls st) rfl hsize (Steps.refl _) (argsL := argsL) (rest := rest) hlen hst (by show 2 * 0 + _ ≤ _; omega) hd (fun _ _ => ⟨has, eT, hc, hs⟩)
  dsimp only [Pt.U, Pt.locs, Pt.cells, Pt.slots] at X1 l1 y1 z1 st1 hQ
  subst l1 y1 z1
  exact Ok.tr st1 (k v T1 Lc X1 hQ)
/-! calls of bodies that may intern a string, by their wide contract, from a walk that may have interned -/
theorem Ok.callSW {y : MethodName} {bytes : ByteArray} {maxL : Nat} {ret : Option FieldType} {rm : Room} {as' : Array Value} {h : Heap} {Qc : Option Value → Heap → List Loc → Prop} {own : String} {index : Nat} {argsL rest st : List Value} {W n : Nat} {V : Vm} (X : Stand p l e R (s.setVm V) m args below meth c T locs cells slots) (hx : p.tables.exec = Jvm.exec) (hZ : Z.Warmed39 V) (hown : V.findClass own = some m.cls) (hS : s.Since V n) (hSn : n ≤ h.size)
    (hM : MetW l Z y bytes maxL ret [] rm as' h Qc) (wl : (Jvm.Cond.methodLink own index y).before a0 Z = true) (ws : (Jvm.Cond.static y).before a0 Z = true) (wz : (Jvm.Cond.initialized y.cls).before a0 Z = true) (wc : (Jvm.Cond.code y bytes maxL ret).before a0 Z = true) (hy : y.cls ≠ "java/lang/invoke/MethodHandle" ∧ y.cls ≠ "java/lang/invoke/VarHandle")
    (eT : T.heap = h) (hf : rm.frames + 1 ≤ R.frames) (hl : W + (maxL + 11) + rm.locals ≤ R.locals) (hc : cells + rm.cells ≤ R.cells) (hs : slots + rm.slots ≤ R.slots) (hlen : ∀ sig, parseMethodDescriptor y.desc = some sig → argsL.length = sig.parameters.length) (has : argsL.toArray = as') (hst : st = argsL.reverse ++ rest) (hW : (rest.map fun v => v.category).sum ≤ W) (hsize : Ls.size = c.maxLocals)
    (hd : decode c.code pc = .ok (.invokestatic index, 3)) (hp : pc + 3 = pc')
    (k : ∀ (v : Option Value) (T' : State) (L : List Loc), Stand p l e R (s.setVm T'.vm) m args below meth c T' (locs ++ L) (cells + rm.cells) (slots + rm.slots) → Z.Warmed39 T'.vm → T'.vm.findClass own = some m.cls → s.Since T'.vm T'.heap.size → Qc v T'.heap L → Ok p e below Fe Q T' (mkF m pc' Ls (v.toList ++ rest))) : Ok p e below Fe Q T (mkF m pc Ls st) := by
  subst hp
  have hZ' : Z.Warmed39 (s.setVm V).vm := hZ
  obtain ⟨v, _, ⟨T1, L1, k1, n1⟩, -, X1, hS1, hgr, ⟨Lc, hQ, l1, y1, z1⟩, st1⟩ := callSS X hx (y := y) hown (mvT hZ' wl) (mvT hZ' ws) (mvT hZ' wz) (mvT hZ' wc) hy (backOfS (W := W) hM hZ' wc wz hf hl) (g := mkF m pc Ls st) rfl hsize (argsL := argsL) (rest := rest) hlen hst (by show 2 * 0 + _ ≤ _; omega) hd (fun _ _ => ⟨has, eT, hc, hs⟩)
  dsimp only [Pt.U, Pt.locs, Pt.cells, Pt.slots] at X1 l1 y1 z1 st1 hQ hS1 hgr
  subst l1 y1 z1
  refine Ok.tr st1 (k v T1 Lc X1 (State.Warmed39.trans (t := s.setVm V) hZ hS1.1) (by rw [hS1.1.alike.findClass]; exact hown) (hS.trans hS1 ?_) hQ)
  rw [eT] at hgr
  exact Nat.le_trans hSn hgr
theorem Ok.initW {y : MethodName} {bytes : ByteArray} {maxL : Nat} {rm : Room} {as' : Array Value} {h : Heap} {Qc : Option Value → Heap → List Loc → Prop} {own : String} {index : Nat} {a : Addr} {argsL rest st : List Value} {W n : Nat} {V : Vm} (X : Stand p l e R (s.setVm V) m args below meth c T locs cells slots) (hx : p.tables.exec = Jvm.exec) (hZ : Z.Warmed39 V) (hown : V.findClass own = some m.cls) (hS : s.Since V n) (hSn : n ≤ h.size)
    (hM : MetW l Z y bytes maxL none [] rm as' h Qc) (hyn : y.name = "<init>") (wl : (Jvm.Cond.methodLink own index y).before a0 Z = true) (wi : (Jvm.Cond.instanceMethod y).before a0 Z = true) (wz : (Jvm.Cond.initialized y.cls).before a0 Z = true) (wc : (Jvm.Cond.code y bytes maxL none).before a0 Z = true) (hy : y.cls ≠ "java/lang/invoke/MethodHandle" ∧ y.cls ≠ "java/lang/invoke/VarHandle")
    (eT : T.heap = h) (hf : rm.frames + 1 ≤ R.frames) (hl : W + (maxL + 11) + rm.locals ≤ R.locals) (hc : cells + rm.cells ≤ R.cells) (hs : slots + rm.slots ≤ R.slots) (hlen : ∀ sig, parseMethodDescriptor y.desc = some sig → argsL.length = sig.parameters.length) (has : (.ref a :: argsL).toArray = as') (hst : st = argsL.reverse ++ .ref a :: rest) (hW : (rest.map fun v => v.category).sum ≤ W) (hsize : Ls.size = c.maxLocals)
    (hd : decode c.code pc = .ok (.invokespecial index, 3)) (hp : pc + 3 = pc')
    (k : ∀ (v : Option Value) (T' : State) (L : List Loc), Stand p l e R (s.setVm T'.vm) m args below meth c T' (locs ++ L) (cells + rm.cells) (slots + rm.slots) → Z.Warmed39 T'.vm → T'.vm.findClass own = some m.cls → s.Since T'.vm T'.heap.size → Qc v T'.heap L → Ok p e below Fe Q T' (mkF m pc' Ls (v.toList ++ rest))) : Ok p e below Fe Q T (mkF m pc Ls st) := by
  subst hp
  have hZ' : Z.Warmed39 (s.setVm V).vm := hZ
  obtain ⟨v, _, ⟨T1, L1, k1, n1⟩, -, X1, hS1, hgr, ⟨Lc, hQ, l1, y1, z1⟩, st1⟩ := X.specialBackS hx (y := y) hyn hown (mvT hZ' wl) (mvT hZ' wi) (mvT hZ' wc) hy (backOfS (W := W) hM hZ' wc wz hf hl) (g := mkF m pc Ls st) rfl hsize (Steps.refl _) (a := a) (argsL := argsL) (rest := rest) hlen hst (by show 2 * 0 + _ ≤ _; omega) hd (fun _ _ => ⟨has, eT, hc, hs⟩)
  dsimp only [Pt.U, Pt.locs, Pt.cells, Pt.slots] at X1 l1 y1 z1 st1 hQ hS1 hgr
  subst l1 y1 z1
  refine Ok.tr st1 (k v T1 Lc X1 (State.Warmed39.trans (t := s.setVm V) hZ hS1.1) (by rw [hS1.1.alike.findClass]; exact hown) (hS.trans hS1 ?_) hQ)
  rw [eT] at hgr
  exact Nat.le_trans hSn hgr
theorem Ok.virtW {y z : MethodName} {bytes : ByteArray} {maxL : Nat} {ret : Option FieldType} {rm : Room} {as' : Array Value} {h : Heap} {Qc : Option Value → Heap → List Loc → Prop} {own C : String} {index : Nat} {a : Addr} {argsL rest st : List Value} {W n : Nat} {V : Vm} (X : Stand p l e R (s.setVm V) m args below meth c T locs cells slots) (hx : p.tables.exec = Jvm.exec) (hZ : Z.Warmed39 V) (hown : V.findClass own = some m.cls) (hS : s.Since V n) (hSn : n ≤ h.size)
    (hM : MetW l Z z bytes maxL ret [] rm as' h Qc) (wl : (Jvm.Cond.methodLink own index y).before a0 Z = true) (wd : (Jvm.Cond.declares y).before a0 Z = true) (wse : (Jvm.Cond.selects C y z).before a0 Z = true) (hnf : NotFace (s.setVm V) y) (wi : (Jvm.Cond.instanceMethod z).before a0 Z = true) (wz : (Jvm.Cond.initialized z.cls).before a0 Z = true) (wc : (Jvm.Cond.code z bytes maxL ret).before a0 Z = true) (hy : y.cls ≠ "java/lang/invoke/MethodHandle" ∧ y.cls ≠ "java/lang/invoke/VarHandle")
    (eT : T.heap = h) (E : Exa Z h a C) (hf : rm.frames + 1 ≤ R.frames) (hl : W + (maxL + 11) + rm.locals ≤ R.locals) (hc : cells + rm.cells ≤ R.cells) (hs : slots + rm.slots ≤ R.slots) (hlen : ∀ sig, parseMethodDescriptor y.desc = some sig → argsL.length = sig.parameters.length) (has : (.ref a :: argsL).toArray = as') (hst : st = argsL.reverse ++ .ref a :: rest) (hW : (rest.map fun v => v.category).sum ≤ W) (hsize : Ls.size = c.maxLocals)
    (hd : decode c.code pc = .ok (.invokevirtual index, 3)) (hp : pc + 3 = pc')
    (k : ∀ (v : Option Value) (T' : State) (L : List Loc), Stand p l e R (s.setVm T'.vm) m args below meth c T' (locs ++ L) (cells + rm.cells) (slots + rm.slots) → Z.Warmed39 T'.vm → T'.vm.findClass own = some m.cls → s.Since T'.vm T'.heap.size → Qc v T'.heap L → Ok p e below Fe Q T' (mkF m pc' Ls (v.toList ++ rest))) : Ok p e below Fe Q T (mkF m pc Ls st) := by
  subst hp
  have hZ' : Z.Warmed39 (s.setVm V).vm := hZ
  obtain ⟨cq, kq, qa, qb, qc⟩ := isOf hZ' eT E
  obtain ⟨v, _, ⟨T1, L1, k1, n1⟩, -, X1, hS1, hgr, ⟨Lc, hQ, l1, y1, z1⟩, st1⟩ := X.virtualBackS hx (y := y) (z := z) hown (mvT hZ' wl) (mvT hZ' wd) hnf (mvT hZ' wse) (mvT hZ' wi) hy (backOfS (W := W) hM hZ' wc wz hf hl) qa qc (g := mkF m pc Ls st) rfl hsize (Steps.refl _) (argsL := argsL) (rest := rest) hlen hst (by show 2 * 0 + _ ≤ _; omega) hd (fun _ _ => ⟨has, eT, hc, hs⟩)
  dsimp only [Pt.U, Pt.locs, Pt.cells, Pt.slots] at X1 l1 y1 z1 st1 hQ hS1 hgr
  subst l1 y1 z1
  refine Ok.tr st1 (k v T1 Lc X1 (State.Warmed39.trans (t := s.setVm V) hZ hS1.1) (by rw [hS1.1.alike.findClass]; exact hown) (hS.trans hS1 ?_) hQ)
  rw [eT] at hgr
  exact Nat.le_trans hSn hgr
theorem Ok.faceW {y z : MethodName} {bytes : ByteArray} {maxL : Nat} {ret : Option FieldType} {rm : Room} {as' : Array Value} {h : Heap} {Qc : Option Value → Heap → List Loc → Prop} {own C : String} {index count : Nat} {a : Addr} {argsL rest st : List Value} {W n : Nat} {V : Vm} (X : Stand p l e R (s.setVm V) m args below meth c T locs cells slots) (hx : p.tables.exec = Jvm.exec) (hZ : Z.Warmed39 V) (hown : V.findClass own = some m.cls) (hS : s.Since V n) (hSn : n ≤ h.size)
    (hM : MetW l Z z bytes maxL ret [] rm as' h Qc) (wl : (Jvm.Cond.methodLink own index y).before a0 Z = true) (wd : (Jvm.Cond.declares y).before a0 Z = true) (wf : (Jvm.Cond.interfaceMethod y.cls y.cls y.name y.desc).before a0 Z = true) (hfa : ((Jvm.Cond.interfaceMethod y.cls y.cls y.name y.desc).onTables && (Jvm.Cond.interfaceMethod y.cls y.cls y.name y.desc).keepsFace) = true) (wse : (Jvm.Cond.selects C y z).before a0 Z = true) (wi : (Jvm.Cond.instanceMethod z).before a0 Z = true) (wp : (Jvm.Cond.publicMethod z).before a0 Z = true) (wu : (Jvm.Cond.unhidden C y.name y.desc).before a0 Z = true) (wk : (Jvm.Cond.castable C y.cls).before a0 Z = true) (wz : (Jvm.Cond.initialized z.cls).before a0 Z = true) (wc : (Jvm.Cond.code z bytes maxL ret).before a0 Z = true) (hy : y.cls ≠ "java/lang/invoke/MethodHandle" ∧ y.cls ≠ "java/lang/invoke/VarHandle")
    (eT : T.heap = h) (E : Exa Z h a C) (hf : rm.frames + 1 ≤ R.frames) (hl : W + (maxL + 11) + rm.locals ≤ R.locals) (hc : cells + rm.cells ≤ R.cells) (hs : slots + rm.slots ≤ R.slots) (hlen : ∀ sig, parseMethodDescriptor y.desc = some sig → argsL.length = sig.parameters.length) (has : (.ref a :: argsL).toArray = as') (hst : st = argsL.reverse ++ .ref a :: rest) (hW : (rest.map fun v => v.category).sum ≤ W) (hsize : Ls.size = c.maxLocals)
    (hd : decode c.code pc = .ok (.invokeinterface index count, 5)) (hp : pc + 5 = pc')
    (k : ∀ (v : Option Value) (T' : State) (L : List Loc), Stand p l e R (s.setVm T'.vm) m args below meth c T' (locs ++ L) (cells + rm.cells) (slots + rm.slots) → Z.Warmed39 T'.vm → T'.vm.findClass own = some m.cls → s.Since T'.vm T'.heap.size → Qc v T'.heap L → Ok p e below Fe Q T' (mkF m pc' Ls (v.toList ++ rest))) : Ok p e below Fe Q T (mkF m pc Ls st) := by
  subst hp
  have hZ' : Z.Warmed39 (s.setVm V).vm := hZ
  obtain ⟨cq, kq, qa, qb, qc⟩ := isOf hZ' eT E
  obtain ⟨v, _, ⟨T1, L1, k1, n1⟩, -, X1, hS1, hgr, ⟨Lc, hQ, l1, y1, z1⟩, st1⟩ := X.interfaceBackS hx (xi := y) (y := z) hown (mvT hZ' wl) (mvT hZ' wd) (mvT hZ' wf hfa) (mvT hZ' wse) (mvT hZ' wi) (mvT hZ' wp) (mvT hZ' wu) (mvT hZ' wk) hy (backOfS (W := W) hM hZ' wc wz hf hl) qa qb qc (g := mkF m pc Ls st) rfl hsize (Steps.refl _) (argsL := argsL) (rest := rest) hlen hst (by show 2 * 0 + _ ≤ _; omega) hd (fun _ _ => ⟨has, eT, hc, hs⟩)
  dsimp only [Pt.U, Pt.locs, Pt.cells, Pt.slots] at X1 l1 y1 z1 st1 hQ hS1 hgr
  subst l1 y1 z1
  refine Ok.tr st1 (k v T1 Lc X1 (State.Warmed39.trans (t := s.setVm V) hZ hS1.1) (by rw [hS1.1.alike.findClass]; exact hown) (hS.trans hS1 ?_) hQ)
  rw [eT] at hgr
  exact Nat.le_trans hSn hgr
theorem Ok.ldcS {own text : String} {index n N : Nat} {h : Heap} {st : List Value} {V : Vm} (X : Stand p l e R (s.setVm V) m args below meth c T locs cells slots) (hx : p.tables.exec = Jvm.exec) (hZ : Z.Warmed39 V) (hown : V.findClass own = some m.cls) (hS : s.Since V n) (hSn : n ≤ h.size) (w : (Jvm.Cond.stringLink own index text).before a0 Z = true) (wS : ∀ a ∈ Bundle.stringAtoms, a.before a0 Z = true)
    (eT : T.heap = h) (hN : 4 * text.toList.length ≤ N) (hbig : N ≤ 536870912) (hc : cells + 2 ≤ R.cells) (hl : slots + (N + 4) ≤ R.slots) (hd : decode c.code pc = .ok (.ldc index, 2)) (hp : pc + 2 = pc')
    (k : ∀ (a : Addr) (T' : State) (h' : Heap) (n' : Nat), Stand p l e R (s.setVm T'.vm) m args below meth c T' locs (cells + 2) (slots + (N + 4)) → Z.Warmed39 T'.vm → T'.vm.findClass own = some m.cls → s.Since T'.vm n' → n' ≤ h'.size → T'.heap = h' → Ext h h' → Ok p e below Fe Q T' (mkF m pc' Ls (.ref a :: st))) : Ok p e below Fe Q T (mkF m pc Ls st) := by
  subst hp
  obtain ⟨a, T1, h1, n1, X1, e1, E1, hS1, hSn1, hZ1, hown1, st1⟩ := Jvm.RoadKit.ldcS X hx hZ hown w wS eT hS hSn (g := mkF m pc Ls st) rfl hd hN hbig hc hl
  exact Ok.st st1 (k a T1 h1 n1 X1 hZ1 hown1 hS1 hSn1 e1 E1)
theorem ic_eq (x y : Int32) : (if_icmp.holds .eq x y = true ↔ x.toInt = y.toInt) ∧ (if_icmp.holds .ne x y = true ↔ ¬ x.toInt = y.toInt) ∧ (if_icmp.holds .lt x y = true ↔ x.toInt < y.toInt) ∧ (if_icmp.holds .ge x y = true ↔ y.toInt ≤ x.toInt) ∧ (if_icmp.holds .gt x y = true ↔ y.toInt < x.toInt) ∧ (if_icmp.holds .le x y = true ↔ x.toInt ≤ y.toInt) := by
  simp [if_icmp.holds, Int32.lt_iff_toInt_lt, Int32.le_iff_toInt_le, Int32.toInt_inj]
theorem bt {b : Bool} {P : Prop} (h : b = true ↔ P) (hp : P) : b = true := h.mpr hp
theorem bf {b : Bool} {P : Prop} (h : b = true ↔ P) (hp : ¬ P) : b = false := by
  cases b
  · rfl
  · exact absurd (h.mp rfl) hp
theorem i0 (cd : ClassFile.Cond) (x : Int32) {P : Prop} (h : if_icmp.holds cd x 0 = true ↔ P) : ifCond.holds cd x = true ↔ P := by rw [if0]; exact h
theorem lc_all (x y : Int64) : (ifCond.holds .eq (lcmpW x y) = true ↔ x.toInt = y.toInt) ∧ (ifCond.holds .ne (lcmpW x y) = true ↔ ¬ x.toInt = y.toInt) ∧ (ifCond.holds .lt (lcmpW x y) = true ↔ x.toInt < y.toInt) ∧ (ifCond.holds .ge (lcmpW x y) = true ↔ y.toInt ≤ x.toInt) ∧ (ifCond.holds .gt (lcmpW x y) = true ↔ y.toInt < x.toInt) ∧ (ifCond.holds .le (lcmpW x y) = true ↔ x.toInt ≤ y.toInt) := by
  have h1 := lc_lt x y
  have h2 := lc_gt x y
  have h3 := lc_eq x y
  have h4 := lc_le x y
  have h5 := lc_ge x y
  rw [← lcW] at h1 h2 h3 h4 h5
  simp only [if0, if_icmp.holds, decide_eq_true_eq, beq_iff_eq, bne_iff_ne, ne_eq, h3, GT.gt, GE.ge]
  simp only [h1, h2, h4, h5, Int64.lt_iff_toInt_lt, Int64.le_iff_toInt_le, Int64.toInt_inj]
  simp
end Layer
section Layer2
variable {p : Program} {l : Launch} {e : Env} {R : Room} {s : State} {m : MethodId} {args : Array Value} {below : List Frame} {meth : Method} {c : Code} {T T' : State} {locs : List Loc} {cells slots : Nat} {Fe : Outcome → State → List Loc → Prop} {Q : Option Value → Heap → List Loc → Prop} {pc pc' : Nat} {Ls l' : Array Slot} {g g' : JFrame} {Z : State} {a0 : Array Value} {h : Heap} {own : String} {rest st : List Value}
theorem Ok.new {C : String} {index n : Nat} (X : Stand p l e R s m args below meth c T locs cells slots) (hx : p.tables.exec = Jvm.exec) (hZ : Z.Warmed39 s.vm) (hown : s.vm.findClass own = some m.cls) (w : (Jvm.Cond.classLink own index C).before a0 Z = true) (wi : (Jvm.Cond.instantiable C n).before a0 Z = true) (wz : (Jvm.Cond.initialized C).before a0 Z = true) (eT : T.heap = h) (hd : decode c.code pc = .ok (.new index, 3)) (hp : pc + 3 = pc') (hc : cells + 1 ≤ R.cells) (hl : slots + n ≤ R.slots)
    (k : ∀ (T' : State) (h' : Heap) (a : Addr), a = h.size → Stand p l e R s m args below meth c T' locs (cells + 1) (slots + n) → T'.heap = h' → Ext h h' → Exa Z h' a C → (∀ {O nm d : String} {ty : FieldType}, Laid Z a0 C O nm d → parseFieldDescriptor d = some ty → Fld Z h' a O nm d (defaultValue ty)) → Ok p e below Fe Q T' (mkF m pc' Ls (.ref a :: st))) : Ok p e below Fe Q T (mkF m pc Ls st) := by
  subst hp
  obtain ⟨T1, h1, X1, e1, E1, A1, D1, -, st1⟩ := newO X hx hZ hown w wi wz eT (g := mkF m pc Ls st) rfl hd hc hl
  exact Ok.st st1 (k T1 h1 _ rfl X1 e1 E1 A1 D1)
theorem Ok.initO {index : Nat} {a : Addr} {W : Nat} (X : Stand p l e R s m args below meth c T locs cells slots) (hx : p.tables.exec = Jvm.exec) (hZ : Z.Warmed39 s.vm) (hown : s.vm.findClass own = some m.cls) (w1 : (Jvm.Cond.methodLink own index Lib.objectInit).before a0 Z = true) (w2 : (Jvm.Cond.instanceMethod Lib.objectInit).before a0 Z = true) (w3 : (Jvm.Cond.code Lib.objectInit ⟨#[0xb1]⟩ 1 none).before a0 Z = true) (eT : T.heap = h) (hsize : Ls.size = c.maxLocals) (hd : decode c.code pc = .ok (.invokespecial index, 3)) (hp : pc + 3 = pc') (hf : 1 ≤ R.frames) (hW : (rest.map fun v => v.category).sum ≤ W) (hl : W + 12 ≤ R.locals)
    (k : ∀ (T' : State), Stand p l e R s m args below meth c T' locs cells slots → T'.heap = h → Ok p e below Fe Q T' (mkF m pc' Ls rest)) : Ok p e below Fe Q T (mkF m pc Ls (.ref a :: rest)) := by
  subst hp
  obtain ⟨T1, X1, e1, st1⟩ := Jvm.RoadKit.initO X hx hZ hown w1 w2 w3 eT (g := mkF m pc Ls (.ref a :: rest)) rfl hsize rfl hd hf (W := W) (by show 2 * 0 + _ ≤ _; omega) hl
  exact Ok.st st1 (k T1 X1 e1)
theorem Ok.getF {R0 O n d host : String} {index : Nat} {a : Addr} {v : Value} (X : Stand p l e R s m args below meth c T locs cells slots) (hx : p.tables.exec = Jvm.exec) (hZ : Z.Warmed39 s.vm) (hown : s.vm.findClass own = some m.cls) (w : (Jvm.Cond.fieldLink own index R0 n d).before a0 Z = true ∨ (Jvm.Cond.fieldLinkNest own index R0 n d host).before a0 Z = true) (via : Via Z R0 O n d) (eT : T.heap = h) (F : Fld Z h a O n d v) (hd : decode c.code pc = .ok (.getfield index, 3)) (hp : pc + 3 = pc')
    (k : ∀ (T' : State), Stand p l e R s m args below meth c T' locs cells slots → T'.heap = h → Ok p e below Fe Q T' (mkF m pc' Ls (v :: rest))) : Ok p e below Fe Q T (mkF m pc Ls (.ref a :: rest)) := by
  subst hp
  obtain ⟨T1, X1, e1, st1⟩ := Jvm.RoadKit.getF X hx hZ hown w via eT F (g := mkF m pc Ls (.ref a :: rest)) rfl rfl hd
  exact Ok.st st1 (k T1 X1 e1)
theorem Ok.getS {R0 O n d host : String} {index : Nat} {v : Value} (X : Stand p l e R s m args below meth c T locs cells slots) (hx : p.tables.exec = Jvm.exec) (hZ : Z.Warmed39 s.vm) (hown : s.vm.findClass own = some m.cls) (w : (Jvm.Cond.fieldLink own index R0 n d).before a0 Z = true ∨ (Jvm.Cond.fieldLinkNest own index R0 n d host).before a0 Z = true) (via : Via Z R0 O n d) (eT : T.heap = h) (F : Sta Z h O n d v) (hd : decode c.code pc = .ok (.getstatic index, 3)) (hp : pc + 3 = pc')
    (k : ∀ (T' : State), Stand p l e R s m args below meth c T' locs cells slots → T'.heap = h → Ok p e below Fe Q T' (mkF m pc' Ls (v :: st))) : Ok p e below Fe Q T (mkF m pc Ls st) := by
  subst hp
  obtain ⟨T1, X1, e1, st1⟩ := Jvm.RoadKit.getS2 X hx hZ hown w via eT F (g := mkF m pc Ls st) rfl hd
  exact Ok.st st1 (k T1 X1 e1)
theorem Ok.putF {R0 O n d host C : String} {index kk : Nat} {ty : FieldType} {a : Addr} {v old : Value} (X : Stand p l e R s m args below meth c T locs cells slots) (hx : p.tables.exec = Jvm.exec) (hZ : Z.Warmed39 s.vm) (hown : s.vm.findClass own = some m.cls) (w : (Jvm.Cond.fieldLink own index R0 n d).before a0 Z = true ∨ (Jvm.Cond.fieldLinkNest own index R0 n d host).before a0 Z = true) (via : Via Z R0 O n d) (eT : T.heap = h) (F : Fld Z h a O n d old) (E : Exa Z h a C) (L : (Jvm.Cond.lays C O n d).before a0 Z = true ∨ ((Jvm.Cond.laysFinal C O n d).before a0 Z = true ∧ own = O ∧ meth.name = "<init>")) (wi : (Jvm.Cond.instantiable C kk).before a0 Z = true)
    (hty : parseFieldDescriptor d = some ty) (hn : narrow ty v = v) (hf : fits ty v = true) (hd : decode c.code pc = .ok (.putfield index, 3)) (hp : pc + 3 = pc')
    (k : ∀ (T' : State) (h' : Heap), Stand p l e R s m args below meth c T' (locs ++ [⟨a, Jvm.RoadKit.slotOf Z O n d⟩]) cells slots → T'.heap = h' → Wr h h' a (Jvm.RoadKit.slotOf Z O n d) v → Ok p e below Fe Q T' (mkF m pc' Ls rest)) : Ok p e below Fe Q T (mkF m pc Ls (v :: .ref a :: rest)) := by
  subst hp
  obtain ⟨T1, h1, X1, e1, W1, st1⟩ := Jvm.RoadKit.putF X hx hZ hown w via eT F E L wi hty hn hf (g := mkF m pc Ls (v :: .ref a :: rest)) rfl rfl hd
  exact Ok.st st1 (k T1 h1 X1 e1 W1)
theorem Ok.castY {K : String} {index : Nat} {a : Addr} (X : Stand p l e R s m args below meth c T locs cells slots) (hx : p.tables.exec = Jvm.exec) (hZ : Z.Warmed39 s.vm) (hown : s.vm.findClass own = some m.cls) (w : (Jvm.Cond.classLink own index K).before a0 Z = true) (eT : T.heap = h) (F : Ins Z h a K true) (hd : decode c.code pc = .ok (.checkcast index, 3)) (hp : pc + 3 = pc')
    (k : ∀ (T' : State), Stand p l e R s m args below meth c T' locs cells slots → T'.heap = h → Ok p e below Fe Q T' (mkF m pc' Ls (.ref a :: rest))) : Ok p e below Fe Q T (mkF m pc Ls (.ref a :: rest)) := by
  subst hp
  obtain ⟨T1, X1, e1, st1⟩ := Jvm.RoadKit.castY X hx hZ hown w eT F (g := mkF m pc Ls (.ref a :: rest)) rfl rfl hd
  exact Ok.st st1 (k T1 X1 e1)
theorem Ok.instY {K : String} {index : Nat} {a : Addr} (X : Stand p l e R s m args below meth c T locs cells slots) (hx : p.tables.exec = Jvm.exec) (hZ : Z.Warmed39 s.vm) (hown : s.vm.findClass own = some m.cls) (w : (Jvm.Cond.classLink own index K).before a0 Z = true) (eT : T.heap = h) (F : Ins Z h a K true) (hd : decode c.code pc = .ok (.instanceof index, 3)) (hp : pc + 3 = pc')
    (k : ∀ (T' : State), Stand p l e R s m args below meth c T' locs cells slots → T'.heap = h → Ok p e below Fe Q T' (mkF m pc' Ls (.int (1 : Int32) :: rest))) : Ok p e below Fe Q T (mkF m pc Ls (.ref a :: rest)) := by
  subst hp
  obtain ⟨T1, X1, e1, st1⟩ := Jvm.RoadKit.instY X hx hZ hown w eT F (g := mkF m pc Ls (.ref a :: rest)) rfl rfl hd
  exact Ok.st st1 (k T1 X1 e1)
theorem Ok.instNo {K C : String} {index : Nat} {a : Addr} (X : Stand p l e R s m args below meth c T locs cells slots) (hx : p.tables.exec = Jvm.exec) (hZ : Z.Warmed39 s.vm) (hown : s.vm.findClass own = some m.cls) (w : (Jvm.Cond.classLink own index K).before a0 Z = true) (eT : T.heap = h) (E : Exa Z h a C) (F : ∃ c t, Z.vm.findClass C = some c ∧ Z.vm.findClass K = some t ∧ Z.vm.assignable c t = false) (hd : decode c.code pc = .ok (.instanceof index, 3)) (hp : pc + 3 = pc')
    (k : ∀ (T' : State), Stand p l e R s m args below meth c T' locs cells slots → T'.heap = h → Ok p e below Fe Q T' (mkF m pc' Ls (.int (0 : Int32) :: rest))) : Ok p e below Fe Q T (mkF m pc Ls (.ref a :: rest)) := by
  subst hp
  obtain ⟨T1, X1, e1, st1⟩ := Jvm.RoadKit.instNo X hx hZ hown w eT E F (g := mkF m pc Ls (.ref a :: rest)) rfl rfl hd
  exact Ok.st st1 (k T1 X1 e1)
theorem Ok.instNull {index : Nat} (X : Stand p l e R s m args below meth c T locs cells slots) (hx : p.tables.exec = Jvm.exec) (hd : decode c.code pc = .ok (.instanceof index, 3)) (hp : pc + 3 = pc') (k : Ok p e below Fe Q T (mkF m pc' Ls (.int (0 : Int32) :: rest))) : Ok p e below Fe Q T (mkF m pc Ls (.null :: rest)) := by
  subst hp
  exact Ok.st (X.instanceofNull hx (g := mkF m pc Ls (.null :: rest)) rfl rfl hd) k
theorem Ok.newP {aty : ArrayType} {ty : FieldType} {n : Int32} {cap : Nat} (X : Stand p l e R s m args below meth c T locs cells slots) (hx : p.tables.exec = Jvm.exec) (hZ : Z.Warmed39 s.vm) (w : (Jvm.Cond.arrayClass ty).before a0 Z = true) (hty : newarray.typeOf aty = ty) (eT : T.heap = h) (hd : decode c.code pc = .ok (.newarray aty, 2)) (hp : pc + 2 = pc') (hn : ¬ n < 0) (hcap : n.toNatClampNeg ≤ cap) (hb : cap * 8 ≤ 536870912) (hc : cells + 1 ≤ R.cells) (hl : slots + cap ≤ R.slots)
    (k : ∀ (T' : State) (h' : Heap) (a : Addr) (cA : ClassId), a = h.size → Stand p l e R s m args below meth c T' locs (cells + 1) (slots + cap) → T'.heap = h' → Ext h h' → Arv Z h' a cA ty n [] (defaultValue ty) → Ok p e below Fe Q T' (mkF m pc' Ls (.ref a :: rest))) : Ok p e below Fe Q T (mkF m pc Ls (.int n :: rest)) := by
  subst hp hty
  obtain ⟨T1, h1, cA, X1, e1, E1, A1, st1⟩ := Jvm.RoadKit.newP X hx hZ w eT (g := mkF m pc Ls (.int n :: rest)) rfl hd rfl hn hcap hb hc hl
  exact Ok.st st1 (k T1 h1 _ cA rfl X1 e1 E1 (Arv.new A1 hn))
theorem Ok.stI {a : Addr} {kc : ClassId} {z j x : Int32} {vs : List Value} {dv : Value} (X : Stand p l e R s m args below meth c T locs cells slots) (hx : p.tables.exec = Jvm.exec) (hZ : Z.Warmed39 s.vm) (eT : T.heap = h) (V : Arv Z h a kc .int z vs dv) (hj : ¬ j < 0 ∧ j < z) {i : Nat} (hji : j.toNatClampNeg = i) (hi : i < vs.length) (hd : decode c.code pc = .ok (.iastore, 1)) (hp : pc + 1 = pc')
    (k : ∀ (T' : State) (h' : Heap), Stand p l e R s m args below meth c T' (locs ++ [⟨a, j.toNatClampNeg⟩]) cells slots → T'.heap = h' → Wr h h' a j.toNatClampNeg (.int x) → Arv Z h' a kc .int z (vs.set i (.int x)) dv → Ok p e below Fe Q T' (mkF m pc' Ls rest)) : Ok p e below Fe Q T (mkF m pc Ls (.int x :: .int j :: .ref a :: rest)) := by
  subst hp
  obtain ⟨cl, Ar, q, S1, N1, H1, G1⟩ := V
  obtain ⟨T1, h1, X1, e1, W1, st1⟩ := Jvm.RoadKit.stI X hx hZ eT Ar (j := j) (inb_of S1 hj) (g := mkF m pc Ls (.int x :: .int j :: .ref a :: rest)) rfl rfl hd
  exact Ok.st st1 (k T1 h1 X1 e1 W1 (Arv.set Ar q S1 N1 H1 G1 rfl W1 i hji hi))
theorem Ok.stC {a : Addr} {kc : ClassId} {z j x : Int32} {vs : List Value} {dv : Value} (X : Stand p l e R s m args below meth c T locs cells slots) (hx : p.tables.exec = Jvm.exec) (hZ : Z.Warmed39 s.vm) (eT : T.heap = h) (V : Arv Z h a kc .char z vs dv) (hj : ¬ j < 0 ∧ j < z) {i : Nat} (hji : j.toNatClampNeg = i) (hi : i < vs.length) (hd : decode c.code pc = .ok (.castore, 1)) (hp : pc + 1 = pc')
    (k : ∀ (T' : State) (h' : Heap), Stand p l e R s m args below meth c T' (locs ++ [⟨a, j.toNatClampNeg⟩]) cells slots → T'.heap = h' → Wr h h' a j.toNatClampNeg (.int (nar .char x)) → Arv Z h' a kc .char z (vs.set i (.int (nar .char x))) dv → Ok p e below Fe Q T' (mkF m pc' Ls rest)) : Ok p e below Fe Q T (mkF m pc Ls (.int x :: .int j :: .ref a :: rest)) := by
  subst hp
  obtain ⟨cl, Ar, q, S1, N1, H1, G1⟩ := V
  obtain ⟨T1, h1, X1, e1, W1, st1⟩ := Jvm.RoadKit.stC X hx hZ eT Ar (j := j) (inb_of S1 hj) (g := mkF m pc Ls (.int x :: .int j :: .ref a :: rest)) rfl rfl hd
  exact Ok.st st1 (k T1 h1 X1 e1 W1 (Arv.set Ar q S1 N1 H1 G1 (fits_nar_char _) W1 i hji hi))
theorem Ok.stB {a : Addr} {kc : ClassId} {z j x : Int32} {vs : List Value} {dv : Value} (X : Stand p l e R s m args below meth c T locs cells slots) (hx : p.tables.exec = Jvm.exec) (hZ : Z.Warmed39 s.vm) (eT : T.heap = h) (V : Arv Z h a kc .byte z vs dv) (hj : ¬ j < 0 ∧ j < z) {i : Nat} (hji : j.toNatClampNeg = i) (hi : i < vs.length) (hd : decode c.code pc = .ok (.bastore, 1)) (hp : pc + 1 = pc')
    (k : ∀ (T' : State) (h' : Heap), Stand p l e R s m args below meth c T' (locs ++ [⟨a, j.toNatClampNeg⟩]) cells slots → T'.heap = h' → Wr h h' a j.toNatClampNeg (.int x.toInt8.toInt32) → Arv Z h' a kc .byte z (vs.set i (.int x.toInt8.toInt32)) dv → Ok p e below Fe Q T' (mkF m pc' Ls rest)) : Ok p e below Fe Q T (mkF m pc Ls (.int x :: .int j :: .ref a :: rest)) := by
  subst hp
  obtain ⟨cl, Ar, q, S1, N1, H1, G1⟩ := V
  obtain ⟨T1, h1, X1, e1, W1, st1⟩ := Jvm.RoadKit.stB X hx hZ eT Ar (j := j) (inb_of S1 hj) (g := mkF m pc Ls (.int x :: .int j :: .ref a :: rest)) rfl rfl hd
  exact Ok.st st1 (k T1 h1 X1 e1 W1 (Arv.set Ar q S1 N1 H1 G1 (fits_nar_byte _) W1 i hji hi))
theorem Ok.len {a : Addr} {kc : ClassId} {ty : FieldType} {z : Int32} {vs : List Value} {dv : Value} (X : Stand p l e R s m args below meth c T locs cells slots) (hx : p.tables.exec = Jvm.exec) (hZ : Z.Warmed39 s.vm) (eT : T.heap = h) (V : Arv Z h a kc ty z vs dv) (hd : decode c.code pc = .ok (.arraylength, 1)) (hp : pc + 1 = pc') (k : Ok p e below Fe Q T (mkF m pc' Ls (.int z :: rest))) : Ok p e below Fe Q T (mkF m pc Ls (.ref a :: rest)) := by
  subst hp
  obtain ⟨cl, Ar, q, S1, N1, H1, G1⟩ := V
  refine Ok.st (X.arraylength hx (by rw [eT]; exact Ar.1) (State.isArrayOf_alike hZ.alike Ar.2.1) (g := mkF m pc Ls (.ref a :: rest)) rfl rfl hd) ?_
  rw [len_of S1 N1]
  exact k
theorem Ok.ldI {a : Addr} {kc : ClassId} {z j : Int32} {v : Value} {vs : List Value} {dv : Value} (X : Stand p l e R s m args below meth c T locs cells slots) (hx : p.tables.exec = Jvm.exec) (hZ : Z.Warmed39 s.vm) (eT : T.heap = h) (V : Arv Z h a kc .int z vs dv) (hj : ¬ j < 0 ∧ j < z) (hv : vs.getD j.toNatClampNeg dv = v) (hd : decode c.code pc = .ok (.iaload, 1)) (hp : pc + 1 = pc') (k : Ok p e below Fe Q T (mkF m pc' Ls (v :: rest))) : Ok p e below Fe Q T (mkF m pc Ls (.int j :: .ref a :: rest)) := by
  subst hp
  obtain ⟨cl, Ar, q, S1, N1, H1, G1⟩ := V
  exact Ok.st (X.iaload hx (j := j) (v := v) (by rw [eT]; exact Ar.1) (State.isArrayOf_alike hZ.alike Ar.2.1) Ar.2.2 (inb_of S1 hj) (H1.at (inb_of S1 hj) hv) (g := mkF m pc Ls (.int j :: .ref a :: rest)) rfl rfl hd) k
theorem Ok.ldB {a : Addr} {kc : ClassId} {z j : Int32} {v : Value} {vs : List Value} {dv : Value} (X : Stand p l e R s m args below meth c T locs cells slots) (hx : p.tables.exec = Jvm.exec) (hZ : Z.Warmed39 s.vm) (eT : T.heap = h) (V : Arv Z h a kc .byte z vs dv) (hj : ¬ j < 0 ∧ j < z) (hv : vs.getD j.toNatClampNeg dv = v) (hd : decode c.code pc = .ok (.baload, 1)) (hp : pc + 1 = pc') (k : Ok p e below Fe Q T (mkF m pc' Ls (v :: rest))) : Ok p e below Fe Q T (mkF m pc Ls (.int j :: .ref a :: rest)) := by
  subst hp
  obtain ⟨cl, Ar, q, S1, N1, H1, G1⟩ := V
  exact Ok.st (X.baloadBytes hx (j := j) (v := v) (by rw [eT]; exact Ar.1) (State.isArrayOf_alike hZ.alike Ar.2.1) Ar.2.2 (inb_of S1 hj) (H1.at (inb_of S1 hj) hv) (g := mkF m pc Ls (.int j :: .ref a :: rest)) rfl rfl hd) k
theorem Ok.ldC {a : Addr} {kc : ClassId} {z j : Int32} {v : Value} {vs : List Value} {dv : Value} (X : Stand p l e R s m args below meth c T locs cells slots) (hx : p.tables.exec = Jvm.exec) (hZ : Z.Warmed39 s.vm) (eT : T.heap = h) (V : Arv Z h a kc .char z vs dv) (hj : ¬ j < 0 ∧ j < z) (hv : vs.getD j.toNatClampNeg dv = v) (hd : decode c.code pc = .ok (.caload, 1)) (hp : pc + 1 = pc') (k : Ok p e below Fe Q T (mkF m pc' Ls (v :: rest))) : Ok p e below Fe Q T (mkF m pc Ls (.int j :: .ref a :: rest)) := by
  subst hp
  obtain ⟨cl, Ar, q, S1, N1, H1, G1⟩ := V
  exact Ok.st (X.caload hx (j := j) (v := v) (by rw [eT]; exact Ar.1) (State.isArrayOf_alike hZ.alike Ar.2.1) Ar.2.2 (inb_of S1 hj) (H1.at (inb_of S1 hj) hv) (g := mkF m pc Ls (.int j :: .ref a :: rest)) rfl rfl hd) k
theorem Ok.aald {a : Addr} {cl : Cell} {ty : FieldType} {j : Int32} {v : Value} (X : Stand p l e R s m args below meth c T locs cells slots) (hx : p.tables.exec = Jvm.exec) (hZ : Z.Warmed39 s.vm) (eT : T.heap = h) (A : Arr Z h a cl ty) (hty : ty.isReference = true) (hin : ¬ (j < 0 ∨ cl.slots.size ≤ j.toNatClampNeg)) (hv : cl.slots[j.toNatClampNeg]? = some v) (hd : decode c.code pc = .ok (.aaload, 1)) (hp : pc + 1 = pc') (k : Ok p e below Fe Q T (mkF m pc' Ls (v :: rest))) : Ok p e below Fe Q T (mkF m pc Ls (.int j :: .ref a :: rest)) := by
  subst hp
  exact Ok.st (X.aaload hx (j := j) (v := v) (by rw [eT]; exact A.1) (State.isArrayOf_alike hZ.alike A.2.1) hty A.2.2 hin hv (g := mkF m pc Ls (.int j :: .ref a :: rest)) rfl rfl hd) k
theorem Ok.ldcF {index : Nat} {v : UInt32} (X : Stand p l e R s m args below meth c T locs cells slots) (hx : p.tables.exec = Jvm.exec) (hZ : Z.Warmed39 s.vm) (hown : s.vm.findClass own = some m.cls) (w : (Jvm.Cond.constantFloat own index v).before a0 Z = true) (hd : decode c.code pc = .ok (.ldc index, 2)) (hp : pc + 2 = pc') (k : Ok p e below Fe Q T (mkF m pc' Ls (.float v :: st))) : Ok p e below Fe Q T (mkF m pc Ls st) := by
  subst hp
  exact Ok.st (X.ldcFloatC hx hown (mvT hZ w) (g := mkF m pc Ls st) rfl hd) k
theorem own_root {O K : String} {n : Nat} (w : (Jvm.Cond.noSuperclass O).before a0 Z = true) (wk : (Jvm.Cond.instantiable K n).before a0 Z = true) (hn : O ≠ K) : NS Z O K := by
  obtain ⟨c, k, h1, h2, h3, -, -⟩ := Cond.noSuperclass_spec w
  obtain ⟨t, k', g1, -⟩ := Cond.instantiable_spec wk
  have ne := ids_ne h1 g1 hn
  refine ⟨c, t, h1, g1, fun fuel => ?_⟩
  cases fuel with
  | zero => rfl
  | succ f => simp [Vm.isSubclassAux, ne, h2, h3]
theorem own_no {C S K : String} {n : Nat} (w : (Jvm.Cond.superclass C S).before a0 Z = true) (wk : (Jvm.Cond.instantiable K n).before a0 Z = true) (ns : NS Z C K) (hn : C ≠ K) : ∃ c t, Z.vm.findClass C = some c ∧ Z.vm.findClass K = some t ∧ Z.vm.assignable c t = false := by
  obtain ⟨c, t, h0, g0, n3⟩ := ns
  obtain ⟨p, k, kp, h1, h2, h3, h4, h5, -, h7⟩ := Cond.superclass_spec h0 w
  obtain ⟨t', k', g1, g2, g5, g7, -⟩ := Cond.instantiable_spec wk
  cases g0.symm.trans g1
  have g8 : k'.isInterface = false := by
    cases hq : k'.isInterface
    · rfl
    · rw [hq] at g7
      cases g7
  have ne := ids_ne h0 g0 hn
  refine ⟨c, t, h0, g0, ?_⟩
  show Z.vm.assignableAux (255 + 1) c t = false
  simp [Vm.assignableAux, ne, h2, g2, h5, g5, g8, Vm.isSubclass, n3]
end Layer2
theorem i2c_id {x : Int32} (h0 : 0 ≤ x.toInt) (h1 : x.toInt ≤ 65535) : x.toUInt32.toUInt16.toUInt32.toInt32 = x := by
  have hx : x.toInt = x.toBitVec.toInt := rfl
  have hlt : x.toBitVec.toNat < 65536 := by
    rw [hx, BitVec.toInt_eq_toNat_cond] at h0 h1
    have hb := x.toBitVec.isLt
    by_cases hc : 2 * x.toBitVec.toNat < 2 ^ 32
    · rw [if_pos hc] at h1
      omega
    · rw [if_neg hc] at h0
      omega
  apply Int32.toBitVec_inj.mp
  apply BitVec.eq_of_toNat_eq
  have e : (x.toUInt32.toUInt16.toUInt32.toInt32).toBitVec.toNat = x.toBitVec.toNat % 65536 := by
    show (x.toUInt32.toUInt16.toUInt32).toNat = _
    simp
    rfl
  rw [e]
  omega
theorem nar_char_id {x : Int32} (h0 : 0 ≤ x.toInt) (h1 : x.toInt ≤ 65535) : nar .char x = x := i2c_id h0 h1
theorem narrow_char_id {x : Int32} (h0 : 0 ≤ x.toInt) (h1 : x.toInt ≤ 65535) : narrow .char (.int x) = .int x := congrArg Value.int (i2c_id h0 h1)
theorem mask255 (x : Int32) : 0 ≤ (x &&& (255 : Int32)).toInt ∧ (x &&& (255 : Int32)).toInt ≤ 255 := by
  rw [Jvm.Kit.i32_mask x 255 (k := 8) (by decide) (by decide)]
  omega
theorem char255 (x : Int32) : (x &&& (255 : Int32)).toUInt32.toUInt16.toUInt32.toInt32 = x &&& (255 : Int32) := i2c_id (mask255 x).1 (by have := (mask255 x).2; omega)
theorem byte_back {x : Int32} (h0 : 0 ≤ x.toInt) (h1 : x.toInt ≤ 255) : (x.toInt8.toInt32.toInt8.toInt32 &&& (255 : Int32)) = x := by
  have key : ∀ k : Fin 256, ((Int32.ofNat k.val).toInt8.toInt32.toInt8.toInt32 &&& (255 : Int32)) = Int32.ofNat k.val := by decide +kernel
  have e : x = Int32.ofNat x.toInt.toNat := by
    apply Int32.toInt_inj.mp
    rw [Int32.toInt_ofNat_of_lt (by omega)]
    omega
  have q := key ⟨x.toInt.toNat, by omega⟩
  simp only at q
  rw [← e] at q
  exact q
theorem len_small {args : Array Value} {s : State} {t : Term} {v : Value} {x : Addr} {cl : Cell} (h : (Term.length t).eval args s none [] s = some v) (ht : t.eval args s none [] s = some (.ref x)) (ha : s.arrayAt? x = some cl) : cl.slots.size < 2 ^ 31 := by
  rcases Nat.lt_or_ge cl.slots.size (2 ^ 31) with q | q
  · exact q
  · simp [Term.eval, ht, ha, Nat.not_lt.mpr q] at h
theorem sub_idx {args : Array Value} {s : State} {j : Int32} (hj : ¬ j < 0) : (Term.sub (.index 0) (.int 128)).eval args s none [j.toNatClampNeg] s = some (.int (j - 128)) := by
  have h := idx_at (args := args) (first := s) (o := none) (s := s) hj
  simp [Term.eval] at h ⊢
  simp [h]
theorem pd_0 : parseMethodDescriptor "(J)V" = some ⟨[.long], none⟩ := by decide +kernel
theorem pd_1 : parseMethodDescriptor "()V" = some ⟨[], none⟩ := by decide +kernel
theorem pd_2 : parseMethodDescriptor "(Ljava/lang/Object;)Z" = some ⟨[(.object "java/lang/Object")], some .boolean⟩ := by decide +kernel
theorem pd_3 : parseMethodDescriptor "(C)Z" = some ⟨[.char], some .boolean⟩ := by decide +kernel
theorem pd_4 : parseMethodDescriptor "(C)Ljava/lang/String;" = some ⟨[.char], some (.object "java/lang/String")⟩ := by decide +kernel
theorem pd_5 : parseMethodDescriptor "(C)[B" = some ⟨[.char], some (.array .byte)⟩ := by decide +kernel
theorem pd_6 : parseMethodDescriptor "([BB)V" = some ⟨[(.array .byte), .byte], none⟩ := by decide +kernel
theorem pd_7 : parseMethodDescriptor "(Ljava/lang/String;)V" = some ⟨[(.object "java/lang/String")], none⟩ := by decide +kernel
theorem pd_8 : parseMethodDescriptor "(Ljava/lang/Object;Ljava/lang/String;)Ljava/lang/Object;" = some ⟨[(.object "java/lang/Object"), (.object "java/lang/String")], some (.object "java/lang/Object")⟩ := by decide +kernel
theorem pd_9 : parseMethodDescriptor "()I" = some ⟨[], some .int⟩ := by decide +kernel
theorem pd_10 : parseMethodDescriptor "()B" = some ⟨[], some .byte⟩ := by decide +kernel
theorem pd_11 : parseMethodDescriptor "(I)C" = some ⟨[.int], some .char⟩ := by decide +kernel
theorem pd_12 : parseMethodDescriptor "()Z" = some ⟨[], some .boolean⟩ := by decide +kernel
theorem pd_13 : parseMethodDescriptor "([BI)C" = some ⟨[(.array .byte), .int], some .char⟩ := by decide +kernel
theorem pd_14 : parseMethodDescriptor "(II)V" = some ⟨[.int, .int], none⟩ := by decide +kernel
theorem pd_15 : parseMethodDescriptor "(IILjava/util/function/BiFunction;)I" = some ⟨[.int, .int, (.object "java/util/function/BiFunction")], some .int⟩ := by decide +kernel
theorem pd_16 : parseMethodDescriptor "(J)Ljava/lang/Long;" = some ⟨[.long], some (.object "java/lang/Long")⟩ := by decide +kernel
theorem wStr {Z : State} {a0 : Array Value} (hw : ∀ d ∈ tables_1, d.before a0 Z = true) : ∀ a ∈ Bundle.stringAtoms, a.before a0 Z = true := by
  intro a ha
  simp only [Bundle.stringAtoms, List.mem_cons, List.not_mem_nil, or_false] at ha
  rcases ha with rfl | rfl | rfl | rfl | rfl | rfl | rfl
  · exact (hw _ (List.mem_of_getElem? (i := 31) rfl))
  · exact (hw _ (List.mem_of_getElem? (i := 39) rfl))
  · exact (hw _ (List.mem_of_getElem? (i := 43) rfl))
  · exact (hw _ (List.mem_of_getElem? (i := 50) rfl))
  · exact (hw _ (List.mem_of_getElem? (i := 52) rfl))
  · exact (hw _ (List.mem_of_getElem? (i := 58) rfl))
  · exact (hw _ (List.mem_of_getElem? (i := 59) rfl))
theorem Sta_keep {Z : State} {h h' : Heap} {C n d : String} {w : Value} {ws : List Addr} (F : Sta Z h C n d w) (K : Keep h h' ws) (q : ∀ x ∈ ws, ∃ k, Exa Z h x k) : Sta Z h' C n d w := by
  obtain ⟨cf, i, k, f, st, cell, h1, h2, h3, h4, h5, h6, h7⟩ := F
  refine ⟨cf, i, k, f, st, cell, h1, h2, h3, h4, K.2.1 st cell h5 fun hm => ?_, h6, h7⟩
  obtain ⟨k', c', k'', g1, -, -, g4, -⟩ := q st hm
  cases h5.symm.trans g1
  rw [h6] at g4
  cases g4
theorem d2_0 : decode jdk_30_method_1_code 0 = .ok (.aload_n 0, 1) := by decide +kernel
theorem d2_1 : decode jdk_30_method_1_code 1 = .ok (.invokespecial 1, 3) := by decide +kernel
theorem d2_4 : decode jdk_30_method_1_code 4 = .ok (.return_, 1) := by decide +kernel
theorem pn_0 : plainName "java/lang/Record" = true := by first | (simp [plainName, overriddenIn]; done) | decide +kernel
theorem ef_2 (m : MethodId) (x0 : Addr) : entryFrame m #[(.ref x0)] 1 = mkF m 0 #[.val (.ref x0)] [] := by first | (simp [entryFrame, mkF, argsToLocals, Value.category]; done) | rfl
def Q2 (Z : State) (a1 : Addr) (h0 : Heap) (n0 : Nat) (v : Option Value) (h : Heap) (L : List Loc) : Prop := v = none ∧ Fr n0 L ∧ h = h0
set_option maxRecDepth 65536 in
set_option maxHeartbeats 40000000 in
theorem rm2 (l : Launch) (Z : State) (a0 : Array Value) (hw : ∀ d ∈ tables_1, d.before a0 Z = true) (a1 : Addr) (h0 : Heap) (n0 : Nat) (Z0 : n0 ≤ h0.size)  :
    MetN l Z (⟨"java/lang/Record", "<init>", "()V"⟩ : MethodName) jdk_30_method_1_code 1 none [] ({ frames := 1, cells := 0, slots := 0, locals := 12 } : Room) #[(.ref a1)] h0 (Q2 Z a1 h0 n0) := by
  refine met_n (plainFor_of_name pn_0) (fun m => ef_2 m a1) ?_
  intro p e s m below meth c s₁ X0 hx hby hml hZ hown hnm hret hlk e0
  replace hown : s.vm.findClass "java/lang/Record" = some m.cls := hown
  replace hnm : meth.name = "<init>" := hnm
  replace hret : meth.sig.returnType = none := hret
  have N0 := Fr.nil n0
  have K0 : Keep h0 h0 [] := Keep.refl _ _
  show Ok p e below _ _ s₁ (mkF m 0 #[.val (.ref a1)] [])
  refine Ok.aloadN (pc' := 1) X0 hx (hb hby d2_0) rfl rfl rfl ?_
  refine Ok.initO (pc' := 4) (W := 0) X0 hx hZ hown (hw _ (List.mem_of_getElem? (i := 11) rfl)) (hw _ (List.mem_of_getElem? (i := 12) rfl)) (hw _ (List.mem_of_getElem? (i := 13) rfl)) e0 (by rw [hml]; rfl) (hb hby d2_1) rfl (by decide) (Nat.le_of_eq rfl) (by decide) ?_
  intro T1 X1 e1
  refine Ok.retV X1 hx hret hlk (hb hby d2_4) (by decide) (by decide) ?_
  show Q2 Z a1 h0 n0 _ T1.heap _
  rw [e1]
  exact ⟨rfl, N0, rfl⟩
theorem d1_0 : decode prog_47_method_1_code 0 = .ok (.aload_n 0, 1) := by decide +kernel
theorem d1_1 : decode prog_47_method_1_code 1 = .ok (.invokespecial 1, 3) := by decide +kernel
theorem d1_4 : decode prog_47_method_1_code 4 = .ok (.aload_n 0, 1) := by decide +kernel
theorem d1_5 : decode prog_47_method_1_code 5 = .ok (.lload_n 1, 1) := by decide +kernel
theorem d1_6 : decode prog_47_method_1_code 6 = .ok (.putfield 7, 3) := by decide +kernel
theorem d1_9 : decode prog_47_method_1_code 9 = .ok (.return_, 1) := by decide +kernel
theorem pn_1 : plainName "com/example/datenschutz/datenschutz/event/IntegerValue" = true := by first | (simp [plainName, overriddenIn]; done) | decide +kernel
theorem ef_1 (m : MethodId) (x0 : Addr) (x1 : Int64) : entryFrame m #[(.ref x0), (.long x1)] 3 = mkF m 0 #[.val (.ref x0), .val (.long x1), .second] [] := by first | (simp [entryFrame, mkF, argsToLocals, Value.category]; done) | rfl
def Q1 (Z : State) (a1 : Addr) (q2 : Int64) (u_value : Value) (h0 : Heap) (n0 : Nat) (v : Option Value) (h : Heap) (L : List Loc) : Prop := v = none ∧ Fr n0 L ∧ Keep h0 h [a1] ∧ Exa Z h a1 "com/example/datenschutz/datenschutz/event/IntegerValue" ∧ Fld Z h a1 "com/example/datenschutz/datenschutz/event/IntegerValue" "value" "J" (.long q2)
set_option maxRecDepth 65536 in
set_option maxHeartbeats 40000000 in
theorem rm1 (l : Launch) (Z : State) (a0 : Array Value) (hw : ∀ d ∈ tables_1, d.before a0 Z = true) (a1 : Addr) (q2 : Int64) (u_value : Value) (h0 : Heap) (n0 : Nat) (Z0 : n0 ≤ h0.size) (E_a1 : Exa Z h0 a1 "com/example/datenschutz/datenschutz/event/IntegerValue") (g_a1 : n0 ≤ a1) (F_value : Fld Z h0 a1 "com/example/datenschutz/datenschutz/event/IntegerValue" "value" "J" u_value) :
    MetN l Z (⟨"com/example/datenschutz/datenschutz/event/IntegerValue", "<init>", "(J)V"⟩ : MethodName) prog_47_method_1_code 3 none [] ({ frames := 2, cells := 0, slots := 0, locals := 24 } : Room) #[(.ref a1), (.long q2)] h0 (Q1 Z a1 q2 u_value h0 n0) := by
  refine met_n (plainFor_of_name pn_1) (fun m => ef_1 m a1 q2) ?_
  intro p e s m below meth c s₁ X0 hx hby hml hZ hown hnm hret hlk e0
  replace hown : s.vm.findClass "com/example/datenschutz/datenschutz/event/IntegerValue" = some m.cls := hown
  replace hnm : meth.name = "<init>" := hnm
  replace hret : meth.sig.returnType = none := hret
  have N0 := Fr.nil n0
  have K0 : Keep h0 h0 [a1] := Keep.refl _ _
  show Ok p e below _ _ s₁ (mkF m 0 #[.val (.ref a1), .val (.long q2), .second] [])
  refine Ok.aloadN (pc' := 1) X0 hx (hb hby d1_0) rfl rfl rfl ?_
  refine Ok.init (pc' := 4) (W := 0) (a := a1)  (argsL := []) (rest := []) X0 hx hZ hown (rm2 l Z a0 hw a1 h0 n0 Z0 ) rfl (hw _ (List.mem_of_getElem? (i := 6) rfl)) (hw _ (List.mem_of_getElem? (i := 7) rfl)) (hw _ (List.mem_of_getElem? (i := 9) rfl)) (hw _ (List.mem_of_getElem? (i := 10) rfl)) (by decide) e0 (by decide) (by decide) (by decide) (by decide) (lenOf pd_1 rfl) rfl rfl (Nat.le_of_eq rfl) (by rw [hml]; rfl) (hb hby d1_1) rfl ?_
  intro v2 T2 L2 X2 hQ2
  obtain ⟨rfl, Nq2, eq2⟩ := hQ2
  have N2 := Fr.app N0 Nq2
  show Ok p e below _ _ T2 (mkF m 4 #[.val (.ref a1), .val (.long q2), .second] [])
  refine Ok.aloadN (pc' := 5) X2 hx (hb hby d1_4) rfl rfl rfl ?_
  refine Ok.lloadN (pc' := 6) X2 hx (hb hby d1_5) rfl rfl ?_
  refine Ok.putF (pc' := 9) (ty := .long) X2 hx hZ hown (host := "") (Or.inl (hw _ (List.mem_of_getElem? (i := 14) rfl))) Via.refl eq2 F_value E_a1 (Or.inr ⟨(hw _ (List.mem_of_getElem? (i := 15) rfl)), rfl, hnm⟩) (hw _ (List.mem_of_getElem? (i := 1) rfl)) (by decide) rfl rfl (hb hby d1_6) rfl ?_
  intro T3 h3 X3 e3 W3
  replace F_value := F_value.same W3
  replace E_a1 := E_a1.wr W3
  have N3 := Fr.snoc X3 N2 g_a1
  have K3 : Keep h0 h3 [a1] := K0.wr W3 (Or.inl (List.mem_of_getElem? (i := 0) rfl))
  have Z4 : n0 ≤ h3.size := Nat.le_trans Z0 (Keep.of_wr W3).1
  refine Ok.retV X3 hx hret hlk (hb hby d1_9) (by decide) (by decide) ?_
  show Q1 Z a1 q2 u_value h0 n0 _ T3.heap _
  rw [e3]
  exact ⟨rfl, N3, K3, E_a1, F_value⟩
theorem d3_0 : decode jdk_18_method_1_code 0 = .ok (.aload_n 0, 1) := by decide +kernel
theorem d3_1 : decode jdk_18_method_1_code 1 = .ok (.invokespecial 1, 3) := by decide +kernel
theorem d3_4 : decode jdk_18_method_1_code 4 = .ok (.return_, 1) := by decide +kernel
theorem pn_2 : plainName "java/lang/Number" = true := by first | (simp [plainName, overriddenIn]; done) | decide +kernel
theorem ef_3 (m : MethodId) (x0 : Addr) : entryFrame m #[(.ref x0)] 1 = mkF m 0 #[.val (.ref x0)] [] := by first | (simp [entryFrame, mkF, argsToLocals, Value.category]; done) | rfl
def Q3 (Z : State) (a1 : Addr) (h0 : Heap) (n0 : Nat) (v : Option Value) (h : Heap) (L : List Loc) : Prop := v = none ∧ Fr n0 L ∧ h = h0
set_option maxRecDepth 65536 in
set_option maxHeartbeats 40000000 in
theorem rm3 (l : Launch) (Z : State) (a0 : Array Value) (hw : ∀ d ∈ tables_1, d.before a0 Z = true) (a1 : Addr) (h0 : Heap) (n0 : Nat) (Z0 : n0 ≤ h0.size)  :
    MetN l Z (⟨"java/lang/Number", "<init>", "()V"⟩ : MethodName) jdk_18_method_1_code 1 none [] ({ frames := 1, cells := 0, slots := 0, locals := 12 } : Room) #[(.ref a1)] h0 (Q3 Z a1 h0 n0) := by
  refine met_n (plainFor_of_name pn_2) (fun m => ef_3 m a1) ?_
  intro p e s m below meth c s₁ X0 hx hby hml hZ hown hnm hret hlk e0
  replace hown : s.vm.findClass "java/lang/Number" = some m.cls := hown
  replace hnm : meth.name = "<init>" := hnm
  replace hret : meth.sig.returnType = none := hret
  have N0 := Fr.nil n0
  have K0 : Keep h0 h0 [] := Keep.refl _ _
  show Ok p e below _ _ s₁ (mkF m 0 #[.val (.ref a1)] [])
  refine Ok.aloadN (pc' := 1) X0 hx (hb hby d3_0) rfl rfl rfl ?_
  refine Ok.initO (pc' := 4) (W := 0) X0 hx hZ hown (hw _ (List.mem_of_getElem? (i := 123) rfl)) (hw _ (List.mem_of_getElem? (i := 12) rfl)) (hw _ (List.mem_of_getElem? (i := 13) rfl)) e0 (by rw [hml]; rfl) (hb hby d3_1) rfl (by decide) (Nat.le_of_eq rfl) (by decide) ?_
  intro T5 X5 e5
  refine Ok.retV X5 hx hret hlk (hb hby d3_4) (by decide) (by decide) ?_
  show Q3 Z a1 h0 n0 _ T5.heap _
  rw [e5]
  exact ⟨rfl, N0, rfl⟩
theorem d4_0 : decode jdk_35_method_26_code 0 = .ok (.aload_n 0, 1) := by decide +kernel
theorem d4_1 : decode jdk_35_method_26_code 1 = .ok (.invokespecial 270, 3) := by decide +kernel
theorem d4_4 : decode jdk_35_method_26_code 4 = .ok (.aload_n 0, 1) := by decide +kernel
theorem d4_5 : decode jdk_35_method_26_code 5 = .ok (.lload_n 1, 1) := by decide +kernel
theorem d4_6 : decode jdk_35_method_26_code 6 = .ok (.putfield 273, 3) := by decide +kernel
theorem d4_9 : decode jdk_35_method_26_code 9 = .ok (.return_, 1) := by decide +kernel
theorem pn_3 : plainName "java/lang/Long" = true := by first | (simp [plainName, overriddenIn]; done) | decide +kernel
theorem ef_4 (m : MethodId) (x0 : Addr) (x1 : Int64) : entryFrame m #[(.ref x0), (.long x1)] 3 = mkF m 0 #[.val (.ref x0), .val (.long x1), .second] [] := by first | (simp [entryFrame, mkF, argsToLocals, Value.category]; done) | rfl
def Q4 (Z : State) (a1 : Addr) (q2 : Int64) (u_value : Value) (h0 : Heap) (n0 : Nat) (v : Option Value) (h : Heap) (L : List Loc) : Prop := v = none ∧ Fr n0 L ∧ Keep h0 h [a1] ∧ Exa Z h a1 "java/lang/Long" ∧ Fld Z h a1 "java/lang/Long" "value" "J" (.long q2)
set_option maxRecDepth 65536 in
set_option maxHeartbeats 40000000 in
theorem rm4 (l : Launch) (Z : State) (a0 : Array Value) (hw : ∀ d ∈ tables_1, d.before a0 Z = true) (a1 : Addr) (q2 : Int64) (u_value : Value) (h0 : Heap) (n0 : Nat) (Z0 : n0 ≤ h0.size) (E_a1 : Exa Z h0 a1 "java/lang/Long") (g_a1 : n0 ≤ a1) (F_value : Fld Z h0 a1 "java/lang/Long" "value" "J" u_value) :
    MetN l Z (⟨"java/lang/Long", "<init>", "(J)V"⟩ : MethodName) jdk_35_method_26_code 3 none [] ({ frames := 2, cells := 0, slots := 0, locals := 24 } : Room) #[(.ref a1), (.long q2)] h0 (Q4 Z a1 q2 u_value h0 n0) := by
  refine met_n (plainFor_of_name pn_3) (fun m => ef_4 m a1 q2) ?_
  intro p e s m below meth c s₁ X0 hx hby hml hZ hown hnm hret hlk e0
  replace hown : s.vm.findClass "java/lang/Long" = some m.cls := hown
  replace hnm : meth.name = "<init>" := hnm
  replace hret : meth.sig.returnType = none := hret
  have N0 := Fr.nil n0
  have K0 : Keep h0 h0 [a1] := Keep.refl _ _
  show Ok p e below _ _ s₁ (mkF m 0 #[.val (.ref a1), .val (.long q2), .second] [])
  refine Ok.aloadN (pc' := 1) X0 hx (hb hby d4_0) rfl rfl rfl ?_
  refine Ok.init (pc' := 4) (W := 0) (a := a1)  (argsL := []) (rest := []) X0 hx hZ hown (rm3 l Z a0 hw a1 h0 n0 Z0 ) rfl (hw _ (List.mem_of_getElem? (i := 117) rfl)) (hw _ (List.mem_of_getElem? (i := 118) rfl)) (hw _ (List.mem_of_getElem? (i := 121) rfl)) (hw _ (List.mem_of_getElem? (i := 122) rfl)) (by decide) e0 (by decide) (by decide) (by decide) (by decide) (lenOf pd_1 rfl) rfl rfl (Nat.le_of_eq rfl) (by rw [hml]; rfl) (hb hby d4_1) rfl ?_
  intro v6 T6 L6 X6 hQ6
  obtain ⟨rfl, Nq6, eq6⟩ := hQ6
  have N6 := Fr.app N0 Nq6
  show Ok p e below _ _ T6 (mkF m 4 #[.val (.ref a1), .val (.long q2), .second] [])
  refine Ok.aloadN (pc' := 5) X6 hx (hb hby d4_4) rfl rfl rfl ?_
  refine Ok.lloadN (pc' := 6) X6 hx (hb hby d4_5) rfl rfl ?_
  refine Ok.putF (pc' := 9) (ty := .long) X6 hx hZ hown (host := "") (Or.inl (hw _ (List.mem_of_getElem? (i := 124) rfl))) Via.refl eq6 F_value E_a1 (Or.inr ⟨(hw _ (List.mem_of_getElem? (i := 125) rfl)), rfl, hnm⟩) (hw _ (List.mem_of_getElem? (i := 112) rfl)) (by decide) rfl rfl (hb hby d4_6) rfl ?_
  intro T7 h7 X7 e7 W7
  replace F_value := F_value.same W7
  replace E_a1 := E_a1.wr W7
  have N7 := Fr.snoc X7 N6 g_a1
  have K7 : Keep h0 h7 [a1] := K0.wr W7 (Or.inl (List.mem_of_getElem? (i := 0) rfl))
  have Z8 : n0 ≤ h7.size := Nat.le_trans Z0 (Keep.of_wr W7).1
  refine Ok.retV X7 hx hret hlk (hb hby d4_9) (by decide) (by decide) ?_
  show Q4 Z a1 q2 u_value h0 n0 _ T7.heap _
  rw [e7]
  exact ⟨rfl, N7, K7, E_a1, F_value⟩
theorem d5_0 : decode jdk_35_method_24_code 0 = .ok (.sipush 128, 3) := by decide +kernel
theorem d5_3 : decode jdk_35_method_24_code 3 = .ok (.istore_n 2, 1) := by decide +kernel
theorem d5_4 : decode jdk_35_method_24_code 4 = .ok (.lload_n 0, 1) := by decide +kernel
theorem d5_5 : decode jdk_35_method_24_code 5 = .ok (.ldc2_w 230, 3) := by decide +kernel
theorem d5_8 : decode jdk_35_method_24_code 8 = .ok (.lcmp, 1) := by decide +kernel
theorem d5_9 : decode jdk_35_method_24_code 9 = .ok (.ifCond .lt 22, 3) := by decide +kernel
theorem d5_12 : decode jdk_35_method_24_code 12 = .ok (.lload_n 0, 1) := by decide +kernel
theorem d5_13 : decode jdk_35_method_24_code 13 = .ok (.ldc2_w 232, 3) := by decide +kernel
theorem d5_16 : decode jdk_35_method_24_code 16 = .ok (.lcmp, 1) := by decide +kernel
theorem d5_17 : decode jdk_35_method_24_code 17 = .ok (.ifCond .gt 14, 3) := by decide +kernel
theorem d5_20 : decode jdk_35_method_24_code 20 = .ok (.getstatic 234, 3) := by decide +kernel
theorem d5_23 : decode jdk_35_method_24_code 23 = .ok (.lload_n 0, 1) := by decide +kernel
theorem d5_24 : decode jdk_35_method_24_code 24 = .ok (.l2i, 1) := by decide +kernel
theorem d5_25 : decode jdk_35_method_24_code 25 = .ok (.sipush 128, 3) := by decide +kernel
theorem d5_28 : decode jdk_35_method_24_code 28 = .ok (.iadd, 1) := by decide +kernel
theorem d5_29 : decode jdk_35_method_24_code 29 = .ok (.aaload, 1) := by decide +kernel
theorem d5_30 : decode jdk_35_method_24_code 30 = .ok (.areturn, 1) := by decide +kernel
theorem d5_31 : decode jdk_35_method_24_code 31 = .ok (.new 1, 3) := by decide +kernel
theorem d5_34 : decode jdk_35_method_24_code 34 = .ok (.dup, 1) := by decide +kernel
theorem d5_35 : decode jdk_35_method_24_code 35 = .ok (.lload_n 0, 1) := by decide +kernel
theorem d5_36 : decode jdk_35_method_24_code 36 = .ok (.invokespecial 240, 3) := by decide +kernel
theorem d5_39 : decode jdk_35_method_24_code 39 = .ok (.areturn, 1) := by decide +kernel
theorem ef_5 (m : MethodId) (x0 : Int64) : entryFrame m #[(.long x0)] 3 = mkF m 0 #[.val (.long x0), .second, .unset] [] := by first | (simp [entryFrame, mkF, argsToLocals, Value.category]; done) | rfl
def Q5 (Z : State) (q1 : Int64) (ca : Addr) (cc : Cell) (bv : Int32 → Value) (h0 : Heap) (n0 : Nat) (v : Option Value) (h : Heap) (L : List Loc) : Prop := ∃ r : Addr, v = some (.ref r) ∧ Fr n0 L ∧ Keep h0 h [] ∧ Exa Z h r "java/lang/Long"
set_option maxRecDepth 65536 in
set_option maxHeartbeats 40000000 in
theorem rm5 (l : Launch) (Z : State) (a0 : Array Value) (hw : ∀ d ∈ tables_1, d.before a0 Z = true) (q1 : Int64) (ca : Addr) (cc : Cell) (bv : Int32 → Value) (h0 : Heap) (n0 : Nat) (Z0 : n0 ≤ h0.size) (O_0 : Old Z n0 h0) (S_cache : Sta Z Z.heap "java/lang/Long$LongCache" "cache" "[Ljava/lang/Long;" (.ref ca)) (B_x : Bxs Z ca cc "java/lang/Long" "J" (256 : Int32) bv) :
    MetN l Z (⟨"java/lang/Long", "valueOf", "(J)Ljava/lang/Long;"⟩ : MethodName) jdk_35_method_24_code 3 (some (.object "java/lang/Long")) [] ({ frames := 3, cells := 1, slots := 1, locals := 39 } : Room) #[(.long q1)] h0 (Q5 Z q1 ca cc bv h0 n0) := by
  refine met_n (plainFor_of_name pn_3) (fun m => ef_5 m q1) ?_
  intro p e s m below meth c s₁ X0 hx hby hml hZ hown hnm hret hlk e0
  replace hown : s.vm.findClass "java/lang/Long" = some m.cls := hown
  replace hnm : meth.name = "valueOf" := hnm
  replace hret : meth.sig.returnType = (some (.object "java/lang/Long")) := hret
  have N0 := Fr.nil n0
  have K0 : Keep h0 h0 [] := Keep.refl _ _
  show Ok p e below _ _ s₁ (mkF m 0 #[.val (.long q1), .second, .unset] [])
  refine Ok.sipush (z := (128 : Int32)) (pc' := 3) X0 hx (hb hby d5_0) rfl rfl ?_
  refine Ok.istoreN (l' := #[.val (.long q1), .second, .val (.int (128 : Int32))]) (pc' := 4) X0 hx (hb hby d5_3) rfl rfl ?_
  refine Ok.lloadN (pc' := 5) X0 hx (hb hby d5_4) rfl rfl ?_
  refine Ok.ldcJ (pc' := 8) (v := (-128 : Int64)) X0 hx hZ hown (hw _ (List.mem_of_getElem? (i := 105) rfl)) (hb hby d5_5) rfl ?_
  refine Ok.lcmp (pc' := 9) X0 hx (hb hby d5_8) rfl ?_
  by_cases hc9 : q1.toInt < (-128)
  · refine Ok.ifY (pc' := 31) X0 hx (hb hby d5_9) (bt (lc_all q1 (-128 : Int64)).2.2.1 hc9) (by decide) (by decide) ?_
    refine Ok.new (pc' := 34) X0 hx hZ hown (hw _ (List.mem_of_getElem? (i := 111) rfl)) (hw _ (List.mem_of_getElem? (i := 112) rfl)) (hw _ (List.mem_of_getElem? (i := 103) rfl)) e0 (hb hby d5_31) rfl (by decide) (by decide) ?_
    intro T9 h9 b9 g9 X9 e9 E9 A9 D9
    replace O_0 := O_0.ext E9
    have ge_b9 : n0 ≤ b9 := Nat.le_trans Z0 (Nat.le_of_eq g9.symm)
    have sz_b9 : h0.size ≤ b9 := Nat.le_trans K0.1 (Nat.le_of_eq g9.symm)
    have K9 : Keep h0 h9 [] := K0.ext E9
    have Z10 : n0 ≤ h9.size := Nat.le_trans Z0 E9.1
    have F9_value : Fld Z h9 b9 "java/lang/Long" "value" "J" (.long (0 : Int64)) := D9 (Or.inr (hw _ (List.mem_of_getElem? (i := 125) rfl))) (ty := .long) (by decide)
    show Ok p e below _ _ T9 (mkF m 34 #[.val (.long q1), .second, .val (.int (128 : Int32))] [(.ref b9)])
    refine Ok.dup (pc' := 35) X9 hx (hb hby d5_34) rfl rfl ?_
    refine Ok.lloadN (pc' := 36) X9 hx (hb hby d5_35) rfl rfl ?_
    refine Ok.init (pc' := 39) (W := 1) (a := b9)  (argsL := [(.long q1)]) (rest := [(.ref b9)]) X9 hx hZ hown (rm4 l Z a0 hw b9 q1 (.long (0 : Int64)) h9 n0 Z10 A9 ge_b9 F9_value) rfl (hw _ (List.mem_of_getElem? (i := 113) rfl)) (hw _ (List.mem_of_getElem? (i := 114) rfl)) (hw _ (List.mem_of_getElem? (i := 103) rfl)) (hw _ (List.mem_of_getElem? (i := 116) rfl)) (by decide) e9 (by decide) (by decide) (by decide) (by decide) (lenOf pd_0 rfl) rfl rfl (Nat.le_of_eq rfl) (by rw [hml]; rfl) (hb hby d5_36) rfl ?_
    intro v11 T11 L11 X11 hQ11
    obtain ⟨rfl, Nq11, Kq11, Aq11, Fq11_value⟩ := hQ11
    have N11 := Fr.app N0 Nq11
    replace O_0 := O_0.keep Kq11 (allS ge_b9 all0)
    replace A9 := A9.keep Kq11
    have K11' : Keep h0 T11.heap [] := K9.trans Kq11 (allS (Or.inr sz_b9) all0)
    have Z12 : n0 ≤ T11.heap.size := Nat.le_trans Z10 Kq11.1
    show Ok p e below _ _ T11 (mkF m 39 #[.val (.long q1), .second, .val (.int (128 : Int32))] [(.ref b9)])
    refine Ok.retA X11 hx hret hlk rfl rfl rfl (hb hby d5_39) (by decide) (by decide) ?_
    show Q5 Z q1 ca cc bv h0 n0 _ T11.heap _
    exact ⟨_, rfl, N11, K11', A9⟩
  · refine Ok.ifN (pc' := 12) X0 hx (hb hby d5_9) (bf (lc_all q1 (-128 : Int64)).2.2.1 hc9) rfl ?_
    refine Ok.lloadN (pc' := 13) X0 hx (hb hby d5_12) rfl rfl ?_
    refine Ok.ldcJ (pc' := 16) (v := (127 : Int64)) X0 hx hZ hown (hw _ (List.mem_of_getElem? (i := 106) rfl)) (hb hby d5_13) rfl ?_
    refine Ok.lcmp (pc' := 17) X0 hx (hb hby d5_16) rfl ?_
    by_cases hc17 : 127 < q1.toInt
    · refine Ok.ifY (pc' := 31) X0 hx (hb hby d5_17) (bt (lc_all q1 (127 : Int64)).2.2.2.2.1 hc17) (by decide) (by decide) ?_
      refine Ok.new (pc' := 34) X0 hx hZ hown (hw _ (List.mem_of_getElem? (i := 111) rfl)) (hw _ (List.mem_of_getElem? (i := 112) rfl)) (hw _ (List.mem_of_getElem? (i := 103) rfl)) e0 (hb hby d5_31) rfl (by decide) (by decide) ?_
      intro T13 h13 b13 g13 X13 e13 E13 A13 D13
      replace O_0 := O_0.ext E13
      have ge_b13 : n0 ≤ b13 := Nat.le_trans Z0 (Nat.le_of_eq g13.symm)
      have sz_b13 : h0.size ≤ b13 := Nat.le_trans K0.1 (Nat.le_of_eq g13.symm)
      have K13 : Keep h0 h13 [] := K0.ext E13
      have Z14 : n0 ≤ h13.size := Nat.le_trans Z0 E13.1
      have F13_value : Fld Z h13 b13 "java/lang/Long" "value" "J" (.long (0 : Int64)) := D13 (Or.inr (hw _ (List.mem_of_getElem? (i := 125) rfl))) (ty := .long) (by decide)
      show Ok p e below _ _ T13 (mkF m 34 #[.val (.long q1), .second, .val (.int (128 : Int32))] [(.ref b13)])
      refine Ok.dup (pc' := 35) X13 hx (hb hby d5_34) rfl rfl ?_
      refine Ok.lloadN (pc' := 36) X13 hx (hb hby d5_35) rfl rfl ?_
      refine Ok.init (pc' := 39) (W := 1) (a := b13)  (argsL := [(.long q1)]) (rest := [(.ref b13)]) X13 hx hZ hown (rm4 l Z a0 hw b13 q1 (.long (0 : Int64)) h13 n0 Z14 A13 ge_b13 F13_value) rfl (hw _ (List.mem_of_getElem? (i := 113) rfl)) (hw _ (List.mem_of_getElem? (i := 114) rfl)) (hw _ (List.mem_of_getElem? (i := 103) rfl)) (hw _ (List.mem_of_getElem? (i := 116) rfl)) (by decide) e13 (by decide) (by decide) (by decide) (by decide) (lenOf pd_0 rfl) rfl rfl (Nat.le_of_eq rfl) (by rw [hml]; rfl) (hb hby d5_36) rfl ?_
      intro v15 T15 L15 X15 hQ15
      obtain ⟨rfl, Nq15, Kq15, Aq15, Fq15_value⟩ := hQ15
      have N15 := Fr.app N0 Nq15
      replace O_0 := O_0.keep Kq15 (allS ge_b13 all0)
      replace A13 := A13.keep Kq15
      have K15' : Keep h0 T15.heap [] := K13.trans Kq15 (allS (Or.inr sz_b13) all0)
      have Z16 : n0 ≤ T15.heap.size := Nat.le_trans Z14 Kq15.1
      show Ok p e below _ _ T15 (mkF m 39 #[.val (.long q1), .second, .val (.int (128 : Int32))] [(.ref b13)])
      refine Ok.retA X15 hx hret hlk rfl rfl rfl (hb hby d5_39) (by decide) (by decide) ?_
      show Q5 Z q1 ca cc bv h0 n0 _ T15.heap _
      exact ⟨_, rfl, N15, K15', A13⟩
    · refine Ok.ifN (pc' := 20) X0 hx (hb hby d5_17) (bf (lc_all q1 (127 : Int64)).2.2.2.2.1 hc17) rfl ?_
      refine Ok.getS (pc' := 23) X0 hx hZ hown (host := "") (Or.inl (hw _ (List.mem_of_getElem? (i := 107) rfl))) Via.refl e0 (S_cache.ext O_0.2) (hb hby d5_20) rfl ?_
      intro T17 X17 e17
      refine Ok.lloadN (pc' := 24) X17 hx (hb hby d5_23) rfl rfl ?_
      refine Ok.l2i (pc' := 25) X17 hx (hb hby d5_24) rfl ?_
      refine Ok.sipush (z := (128 : Int32)) (pc' := 28) X17 hx (hb hby d5_25) rfl rfl ?_
      refine Ok.iadd (pc' := 29) X17 hx (hb hby d5_28) rfl ?_
      have hjj : 0 ≤ (q1.toInt32 + (128 : Int32)).toInt ∧ (q1.toInt32 + (128 : Int32)).toInt < 256 := by
        have e1 : ((128 : Int32)).toInt = 128 := rfl
        have e2 := Jvm.Kit.i32_of_i64 (x := q1) (by omega) (by omega)
        rw [Jvm.Kit.i32_add (by rw [e1, e2]; omega) (by rw [e1, e2]; omega), e1, e2]
        omega
      have hin : ¬ ((q1.toInt32 + (128 : Int32)) < 0 ∨ cc.slots.size ≤ ((q1.toInt32 + (128 : Int32))).toNatClampNeg) := inb_of B_x.2.1 ⟨by rw [Int32.lt_iff_toInt_lt]; have z0 : ((0 : Int32)).toInt = 0 := rfl; omega, by rw [Int32.lt_iff_toInt_lt]; exact hjj.2⟩
      obtain ⟨b18, hat18, A18, -⟩ := B_x.2.2.2 _ hin
      replace A18 := A18.ext O_0.2
      refine Ok.aald (pc' := 30) (v := .ref b18) X17 hx hZ e17 (B_x.ext O_0.2).1 rfl hin hat18 (hb hby d5_29) rfl ?_
      refine Ok.retA X17 hx hret hlk rfl rfl rfl (hb hby d5_30) (by decide) (by decide) ?_
      show Q5 Z q1 ca cc bv h0 n0 _ T17.heap _
      rw [e17]
      exact ⟨_, rfl, N0, K0, A18⟩
theorem d6_0 : decode prog_47_method_2_code 0 = .ok (.aload_n 1, 1) := by decide +kernel
theorem d6_1 : decode prog_47_method_2_code 1 = .ok (.instanceof 8, 3) := by decide +kernel
theorem d6_4 : decode prog_47_method_2_code 4 = .ok (.ifCond .eq 24, 3) := by decide +kernel
theorem d6_7 : decode prog_47_method_2_code 7 = .ok (.aload_n 1, 1) := by decide +kernel
theorem d6_8 : decode prog_47_method_2_code 8 = .ok (.checkcast 8, 3) := by decide +kernel
theorem d6_11 : decode prog_47_method_2_code 11 = .ok (.astore_n 2, 1) := by decide +kernel
theorem d6_12 : decode prog_47_method_2_code 12 = .ok (.aload_n 0, 1) := by decide +kernel
theorem d6_13 : decode prog_47_method_2_code 13 = .ok (.getfield 7, 3) := by decide +kernel
theorem d6_16 : decode prog_47_method_2_code 16 = .ok (.aload_n 2, 1) := by decide +kernel
theorem d6_17 : decode prog_47_method_2_code 17 = .ok (.getfield 7, 3) := by decide +kernel
theorem d6_20 : decode prog_47_method_2_code 20 = .ok (.lcmp, 1) := by decide +kernel
theorem d6_21 : decode prog_47_method_2_code 21 = .ok (.ifCond .ne 7, 3) := by decide +kernel
theorem d6_24 : decode prog_47_method_2_code 24 = .ok (.iconst 1, 1) := by decide +kernel
theorem d6_25 : decode prog_47_method_2_code 25 = .ok (.goto 4, 3) := by decide +kernel
theorem d6_28 : decode prog_47_method_2_code 28 = .ok (.iconst 0, 1) := by decide +kernel
theorem d6_29 : decode prog_47_method_2_code 29 = .ok (.ireturn, 1) := by decide +kernel
theorem ef_6 (m : MethodId) (x0 : Addr) (x1 : Addr) : entryFrame m #[(.ref x0), (.ref x1)] 3 = mkF m 0 #[.val (.ref x0), .val (.ref x1), .unset] [] := by first | (simp [entryFrame, mkF, argsToLocals, Value.category]; done) | rfl
def Q6 (Z : State) (a1 : Addr) (a2 : Addr) (x1 : Int64) (y1 : Int64) (h0 : Heap) (n0 : Nat) (v : Option Value) (h : Heap) (L : List Loc) : Prop := ∃ b : Int32, v = some (.int b) ∧ (b.toInt = 1 ∧ (x1.toInt = y1.toInt) ∨ b.toInt = 0 ∧ ¬ (x1.toInt = y1.toInt)) ∧ Fr n0 L ∧ h = h0
set_option maxRecDepth 65536 in
set_option maxHeartbeats 40000000 in
theorem rm6 (l : Launch) (Z : State) (a0 : Array Value) (hw : ∀ d ∈ tables_1, d.before a0 Z = true) (a1 : Addr) (a2 : Addr) (x1 : Int64) (y1 : Int64) (h0 : Heap) (n0 : Nat) (Z0 : n0 ≤ h0.size) (E_a2 : Exa Z h0 a2 "com/example/datenschutz/datenschutz/event/IntegerValue") (Fa : Fld Z h0 a1 "com/example/datenschutz/datenschutz/event/IntegerValue" "value" "J" (.long x1)) (Fb : Fld Z h0 a2 "com/example/datenschutz/datenschutz/event/IntegerValue" "value" "J" (.long y1)) :
    MetN l Z (⟨"com/example/datenschutz/datenschutz/event/IntegerValue", "equals", "(Ljava/lang/Object;)Z"⟩ : MethodName) prog_47_method_2_code 3 (some .boolean) [] ({ frames := 0, cells := 0, slots := 0, locals := 0 } : Room) #[(.ref a1), (.ref a2)] h0 (Q6 Z a1 a2 x1 y1 h0 n0) := by
  refine met_n (plainFor_of_name pn_1) (fun m => ef_6 m a1 a2) ?_
  intro p e s m below meth c s₁ X0 hx hby hml hZ hown hnm hret hlk e0
  replace hown : s.vm.findClass "com/example/datenschutz/datenschutz/event/IntegerValue" = some m.cls := hown
  replace hnm : meth.name = "equals" := hnm
  replace hret : meth.sig.returnType = (some .boolean) := hret
  have N0 := Fr.nil n0
  have K0 : Keep h0 h0 [] := Keep.refl _ _
  show Ok p e below _ _ s₁ (mkF m 0 #[.val (.ref a1), .val (.ref a2), .unset] [])
  refine Ok.aloadN (pc' := 1) X0 hx (hb hby d6_0) rfl rfl rfl ?_
  refine Ok.instY (pc' := 4) X0 hx hZ hown (hw _ (List.mem_of_getElem? (i := 21) rfl)) e0 (Ins.self E_a2) (hb hby d6_1) rfl ?_
  intro T19 X19 e19
  show Ok p e below _ _ T19 (mkF m 4 #[.val (.ref a1), .val (.ref a2), .unset] [(.int (1 : Int32))])
  refine Ok.ifN (pc' := 7) X19 hx (hb hby d6_4) (bf (i0 .eq (1 : Int32) (ic_eq (1 : Int32) 0).1) (by decide)) rfl ?_
  refine Ok.aloadN (pc' := 8) X19 hx (hb hby d6_7) rfl rfl rfl ?_
  refine Ok.castY (pc' := 11) X19 hx hZ hown (hw _ (List.mem_of_getElem? (i := 21) rfl)) e19 (Ins.self E_a2) (hb hby d6_8) rfl ?_
  intro T20 X20 e20
  show Ok p e below _ _ T20 (mkF m 11 #[.val (.ref a1), .val (.ref a2), .unset] [(.ref a2)])
  refine Ok.astoreN (l' := #[.val (.ref a1), .val (.ref a2), .val (.ref a2)]) (pc' := 12) X20 hx (hb hby d6_11) rfl rfl rfl ?_
  refine Ok.aloadN (pc' := 13) X20 hx (hb hby d6_12) rfl rfl rfl ?_
  refine Ok.getF (pc' := 16) X20 hx hZ hown (host := "") (Or.inl (hw _ (List.mem_of_getElem? (i := 14) rfl))) Via.refl e20 Fa (hb hby d6_13) rfl ?_
  intro T21 X21 e21
  refine Ok.aloadN (pc' := 17) X21 hx (hb hby d6_16) rfl rfl rfl ?_
  refine Ok.getF (pc' := 20) X21 hx hZ hown (host := "") (Or.inl (hw _ (List.mem_of_getElem? (i := 14) rfl))) Via.refl e21 Fb (hb hby d6_17) rfl ?_
  intro T22 X22 e22
  refine Ok.lcmp (pc' := 21) X22 hx (hb hby d6_20) rfl ?_
  by_cases hc21 : ¬ x1.toInt = y1.toInt
  · refine Ok.ifY (pc' := 28) X22 hx (hb hby d6_21) (bt (lc_all x1 y1).2.1 hc21) (by decide) (by decide) ?_
    refine Ok.iconst (z := (0 : Int32)) (pc' := 29) X22 hx (hb hby d6_28) rfl rfl ?_
    refine Ok.retI X22 hx hret hlk (Or.inr (Or.inl rfl)) rfl (hb hby d6_29) (by decide) (by decide) ?_
    show Q6 Z a1 a2 x1 y1 h0 n0 _ T22.heap _
    rw [e22]
    exact ⟨(0 : Int32), rfl, by rw [show ((0 : Int32)).toInt = 0 from rfl]; omega, N0, rfl⟩
  · refine Ok.ifN (pc' := 24) X22 hx (hb hby d6_21) (bf (lc_all x1 y1).2.1 hc21) rfl ?_
    refine Ok.iconst (z := (1 : Int32)) (pc' := 25) X22 hx (hb hby d6_24) rfl rfl ?_
    refine Ok.goto (pc' := 29) X22 hx (hb hby d6_25) (by decide) (by decide) ?_
    refine Ok.retI X22 hx hret hlk (Or.inr (Or.inl rfl)) rfl (hb hby d6_29) (by decide) (by decide) ?_
    show Q6 Z a1 a2 x1 y1 h0 n0 _ T22.heap _
    rw [e22]
    exact ⟨(1 : Int32), rfl, by rw [show ((1 : Int32)).toInt = 1 from rfl]; omega, N0, rfl⟩
theorem d7_0 : decode prog_47_method_2_code 0 = .ok (.aload_n 1, 1) := by decide +kernel
theorem d7_1 : decode prog_47_method_2_code 1 = .ok (.instanceof 8, 3) := by decide +kernel
theorem d7_4 : decode prog_47_method_2_code 4 = .ok (.ifCond .eq 24, 3) := by decide +kernel
theorem d7_7 : decode prog_47_method_2_code 7 = .ok (.aload_n 1, 1) := by decide +kernel
theorem d7_8 : decode prog_47_method_2_code 8 = .ok (.checkcast 8, 3) := by decide +kernel
theorem d7_11 : decode prog_47_method_2_code 11 = .ok (.astore_n 2, 1) := by decide +kernel
theorem d7_12 : decode prog_47_method_2_code 12 = .ok (.aload_n 0, 1) := by decide +kernel
theorem d7_13 : decode prog_47_method_2_code 13 = .ok (.getfield 7, 3) := by decide +kernel
theorem d7_16 : decode prog_47_method_2_code 16 = .ok (.aload_n 2, 1) := by decide +kernel
theorem d7_17 : decode prog_47_method_2_code 17 = .ok (.getfield 7, 3) := by decide +kernel
theorem d7_20 : decode prog_47_method_2_code 20 = .ok (.lcmp, 1) := by decide +kernel
theorem d7_21 : decode prog_47_method_2_code 21 = .ok (.ifCond .ne 7, 3) := by decide +kernel
theorem d7_24 : decode prog_47_method_2_code 24 = .ok (.iconst 1, 1) := by decide +kernel
theorem d7_25 : decode prog_47_method_2_code 25 = .ok (.goto 4, 3) := by decide +kernel
theorem d7_28 : decode prog_47_method_2_code 28 = .ok (.iconst 0, 1) := by decide +kernel
theorem d7_29 : decode prog_47_method_2_code 29 = .ok (.ireturn, 1) := by decide +kernel
theorem ef_7 (m : MethodId) (x0 : Addr) : entryFrame m #[(.ref x0), .null] 3 = mkF m 0 #[.val (.ref x0), .val .null, .unset] [] := by first | (simp [entryFrame, mkF, argsToLocals, Value.category]; done) | rfl
def Q7 (Z : State) (a1 : Addr) (h0 : Heap) (n0 : Nat) (v : Option Value) (h : Heap) (L : List Loc) : Prop := v = some (.int (0 : Int32)) ∧ Fr n0 L ∧ h = h0
set_option maxRecDepth 65536 in
set_option maxHeartbeats 40000000 in
theorem rm7 (l : Launch) (Z : State) (a0 : Array Value) (hw : ∀ d ∈ tables_1, d.before a0 Z = true) (a1 : Addr) (h0 : Heap) (n0 : Nat) (Z0 : n0 ≤ h0.size)  :
    MetN l Z (⟨"com/example/datenschutz/datenschutz/event/IntegerValue", "equals", "(Ljava/lang/Object;)Z"⟩ : MethodName) prog_47_method_2_code 3 (some .boolean) [] ({ frames := 0, cells := 0, slots := 0, locals := 0 } : Room) #[(.ref a1), .null] h0 (Q7 Z a1 h0 n0) := by
  refine met_n (plainFor_of_name pn_1) (fun m => ef_7 m a1) ?_
  intro p e s m below meth c s₁ X0 hx hby hml hZ hown hnm hret hlk e0
  replace hown : s.vm.findClass "com/example/datenschutz/datenschutz/event/IntegerValue" = some m.cls := hown
  replace hnm : meth.name = "equals" := hnm
  replace hret : meth.sig.returnType = (some .boolean) := hret
  have N0 := Fr.nil n0
  have K0 : Keep h0 h0 [] := Keep.refl _ _
  show Ok p e below _ _ s₁ (mkF m 0 #[.val (.ref a1), .val .null, .unset] [])
  refine Ok.aloadN (pc' := 1) X0 hx (hb hby d7_0) rfl rfl rfl ?_
  refine Ok.instNull (pc' := 4) X0 hx (hb hby d7_1) rfl ?_
  refine Ok.ifY (pc' := 28) X0 hx (hb hby d7_4) (bt (i0 .eq (0 : Int32) (ic_eq (0 : Int32) 0).1) (by decide)) (by decide) (by decide) ?_
  refine Ok.iconst (z := (0 : Int32)) (pc' := 29) X0 hx (hb hby d7_28) rfl rfl ?_
  refine Ok.retI X0 hx hret hlk (Or.inr (Or.inl rfl)) rfl (hb hby d7_29) (by decide) (by decide) ?_
  show Q7 Z a1 h0 n0 _ s₁.heap _
  rw [e0]
  exact ⟨rfl, N0, rfl⟩
theorem d8_0 : decode prog_47_method_2_code 0 = .ok (.aload_n 1, 1) := by decide +kernel
theorem d8_1 : decode prog_47_method_2_code 1 = .ok (.instanceof 8, 3) := by decide +kernel
theorem d8_4 : decode prog_47_method_2_code 4 = .ok (.ifCond .eq 24, 3) := by decide +kernel
theorem d8_7 : decode prog_47_method_2_code 7 = .ok (.aload_n 1, 1) := by decide +kernel
theorem d8_8 : decode prog_47_method_2_code 8 = .ok (.checkcast 8, 3) := by decide +kernel
theorem d8_11 : decode prog_47_method_2_code 11 = .ok (.astore_n 2, 1) := by decide +kernel
theorem d8_12 : decode prog_47_method_2_code 12 = .ok (.aload_n 0, 1) := by decide +kernel
theorem d8_13 : decode prog_47_method_2_code 13 = .ok (.getfield 7, 3) := by decide +kernel
theorem d8_16 : decode prog_47_method_2_code 16 = .ok (.aload_n 2, 1) := by decide +kernel
theorem d8_17 : decode prog_47_method_2_code 17 = .ok (.getfield 7, 3) := by decide +kernel
theorem d8_20 : decode prog_47_method_2_code 20 = .ok (.lcmp, 1) := by decide +kernel
theorem d8_21 : decode prog_47_method_2_code 21 = .ok (.ifCond .ne 7, 3) := by decide +kernel
theorem d8_24 : decode prog_47_method_2_code 24 = .ok (.iconst 1, 1) := by decide +kernel
theorem d8_25 : decode prog_47_method_2_code 25 = .ok (.goto 4, 3) := by decide +kernel
theorem d8_28 : decode prog_47_method_2_code 28 = .ok (.iconst 0, 1) := by decide +kernel
theorem d8_29 : decode prog_47_method_2_code 29 = .ok (.ireturn, 1) := by decide +kernel
theorem ef_8 (m : MethodId) (x0 : Addr) (x1 : Addr) : entryFrame m #[(.ref x0), (.ref x1)] 3 = mkF m 0 #[.val (.ref x0), .val (.ref x1), .unset] [] := by first | (simp [entryFrame, mkF, argsToLocals, Value.category]; done) | rfl
def Q8 (Z : State) (a1 : Addr) (a2 : Addr) (h0 : Heap) (n0 : Nat) (v : Option Value) (h : Heap) (L : List Loc) : Prop := v = some (.int (0 : Int32)) ∧ Fr n0 L ∧ h = h0
set_option maxRecDepth 65536 in
set_option maxHeartbeats 40000000 in
theorem rm8 (l : Launch) (Z : State) (a0 : Array Value) (hw : ∀ d ∈ tables_1, d.before a0 Z = true) (a1 : Addr) (a2 : Addr) (h0 : Heap) (n0 : Nat) (Z0 : n0 ≤ h0.size) (E_a2 : Exa Z h0 a2 "com/example/datenschutz/datenschutz/event/StringValue") :
    MetN l Z (⟨"com/example/datenschutz/datenschutz/event/IntegerValue", "equals", "(Ljava/lang/Object;)Z"⟩ : MethodName) prog_47_method_2_code 3 (some .boolean) [] ({ frames := 0, cells := 0, slots := 0, locals := 0 } : Room) #[(.ref a1), (.ref a2)] h0 (Q8 Z a1 a2 h0 n0) := by
  refine met_n (plainFor_of_name pn_1) (fun m => ef_8 m a1 a2) ?_
  intro p e s m below meth c s₁ X0 hx hby hml hZ hown hnm hret hlk e0
  replace hown : s.vm.findClass "com/example/datenschutz/datenschutz/event/IntegerValue" = some m.cls := hown
  replace hnm : meth.name = "equals" := hnm
  replace hret : meth.sig.returnType = (some .boolean) := hret
  have N0 := Fr.nil n0
  have K0 : Keep h0 h0 [] := Keep.refl _ _
  show Ok p e below _ _ s₁ (mkF m 0 #[.val (.ref a1), .val (.ref a2), .unset] [])
  refine Ok.aloadN (pc' := 1) X0 hx (hb hby d8_0) rfl rfl rfl ?_
  refine Ok.instNo (pc' := 4) X0 hx hZ hown (hw _ (List.mem_of_getElem? (i := 21) rfl)) e0 E_a2 (own_no (hw _ (List.mem_of_getElem? (i := 98) rfl)) (hw _ (List.mem_of_getElem? (i := 1) rfl)) (NS.step (hw _ (List.mem_of_getElem? (i := 98) rfl)) (NS.step (hw _ (List.mem_of_getElem? (i := 99) rfl)) (own_root (hw _ (List.mem_of_getElem? (i := 100) rfl)) (hw _ (List.mem_of_getElem? (i := 1) rfl)) (by decide)) (by decide)) (by decide)) (by decide)) (hb hby d8_1) rfl ?_
  intro T23 X23 e23
  show Ok p e below _ _ T23 (mkF m 4 #[.val (.ref a1), .val (.ref a2), .unset] [(.int (0 : Int32))])
  refine Ok.ifY (pc' := 28) X23 hx (hb hby d8_4) (bt (i0 .eq (0 : Int32) (ic_eq (0 : Int32) 0).1) (by decide)) (by decide) (by decide) ?_
  refine Ok.iconst (z := (0 : Int32)) (pc' := 29) X23 hx (hb hby d8_28) rfl rfl ?_
  refine Ok.retI X23 hx hret hlk (Or.inr (Or.inl rfl)) rfl (hb hby d8_29) (by decide) (by decide) ?_
  show Q8 Z a1 a2 h0 n0 _ T23.heap _
  rw [e23]
  exact ⟨rfl, N0, rfl⟩
theorem d9_0 : decode prog_47_method_2_code 0 = .ok (.aload_n 1, 1) := by decide +kernel
theorem d9_1 : decode prog_47_method_2_code 1 = .ok (.instanceof 8, 3) := by decide +kernel
theorem d9_4 : decode prog_47_method_2_code 4 = .ok (.ifCond .eq 24, 3) := by decide +kernel
theorem d9_7 : decode prog_47_method_2_code 7 = .ok (.aload_n 1, 1) := by decide +kernel
theorem d9_8 : decode prog_47_method_2_code 8 = .ok (.checkcast 8, 3) := by decide +kernel
theorem d9_11 : decode prog_47_method_2_code 11 = .ok (.astore_n 2, 1) := by decide +kernel
theorem d9_12 : decode prog_47_method_2_code 12 = .ok (.aload_n 0, 1) := by decide +kernel
theorem d9_13 : decode prog_47_method_2_code 13 = .ok (.getfield 7, 3) := by decide +kernel
theorem d9_16 : decode prog_47_method_2_code 16 = .ok (.aload_n 2, 1) := by decide +kernel
theorem d9_17 : decode prog_47_method_2_code 17 = .ok (.getfield 7, 3) := by decide +kernel
theorem d9_20 : decode prog_47_method_2_code 20 = .ok (.lcmp, 1) := by decide +kernel
theorem d9_21 : decode prog_47_method_2_code 21 = .ok (.ifCond .ne 7, 3) := by decide +kernel
theorem d9_24 : decode prog_47_method_2_code 24 = .ok (.iconst 1, 1) := by decide +kernel
theorem d9_25 : decode prog_47_method_2_code 25 = .ok (.goto 4, 3) := by decide +kernel
theorem d9_28 : decode prog_47_method_2_code 28 = .ok (.iconst 0, 1) := by decide +kernel
theorem d9_29 : decode prog_47_method_2_code 29 = .ok (.ireturn, 1) := by decide +kernel
theorem ef_9 (m : MethodId) (x0 : Addr) (x1 : Addr) : entryFrame m #[(.ref x0), (.ref x1)] 3 = mkF m 0 #[.val (.ref x0), .val (.ref x1), .unset] [] := by first | (simp [entryFrame, mkF, argsToLocals, Value.category]; done) | rfl
def Q9 (Z : State) (a1 : Addr) (a2 : Addr) (h0 : Heap) (n0 : Nat) (v : Option Value) (h : Heap) (L : List Loc) : Prop := v = some (.int (0 : Int32)) ∧ Fr n0 L ∧ h = h0
set_option maxRecDepth 65536 in
set_option maxHeartbeats 40000000 in
theorem rm9 (l : Launch) (Z : State) (a0 : Array Value) (hw : ∀ d ∈ tables_1, d.before a0 Z = true) (a1 : Addr) (a2 : Addr) (h0 : Heap) (n0 : Nat) (Z0 : n0 ≤ h0.size) (E_a2 : Exa Z h0 a2 "java/lang/Long") :
    MetN l Z (⟨"com/example/datenschutz/datenschutz/event/IntegerValue", "equals", "(Ljava/lang/Object;)Z"⟩ : MethodName) prog_47_method_2_code 3 (some .boolean) [] ({ frames := 0, cells := 0, slots := 0, locals := 0 } : Room) #[(.ref a1), (.ref a2)] h0 (Q9 Z a1 a2 h0 n0) := by
  refine met_n (plainFor_of_name pn_1) (fun m => ef_9 m a1 a2) ?_
  intro p e s m below meth c s₁ X0 hx hby hml hZ hown hnm hret hlk e0
  replace hown : s.vm.findClass "com/example/datenschutz/datenschutz/event/IntegerValue" = some m.cls := hown
  replace hnm : meth.name = "equals" := hnm
  replace hret : meth.sig.returnType = (some .boolean) := hret
  have N0 := Fr.nil n0
  have K0 : Keep h0 h0 [] := Keep.refl _ _
  show Ok p e below _ _ s₁ (mkF m 0 #[.val (.ref a1), .val (.ref a2), .unset] [])
  refine Ok.aloadN (pc' := 1) X0 hx (hb hby d9_0) rfl rfl rfl ?_
  refine Ok.instNo (pc' := 4) X0 hx hZ hown (hw _ (List.mem_of_getElem? (i := 21) rfl)) e0 E_a2 (own_no (hw _ (List.mem_of_getElem? (i := 109) rfl)) (hw _ (List.mem_of_getElem? (i := 1) rfl)) (NS.step (hw _ (List.mem_of_getElem? (i := 109) rfl)) (NS.step (hw _ (List.mem_of_getElem? (i := 110) rfl)) (own_root (hw _ (List.mem_of_getElem? (i := 100) rfl)) (hw _ (List.mem_of_getElem? (i := 1) rfl)) (by decide)) (by decide)) (by decide)) (by decide)) (hb hby d9_1) rfl ?_
  intro T24 X24 e24
  show Ok p e below _ _ T24 (mkF m 4 #[.val (.ref a1), .val (.ref a2), .unset] [(.int (0 : Int32))])
  refine Ok.ifY (pc' := 28) X24 hx (hb hby d9_4) (bt (i0 .eq (0 : Int32) (ic_eq (0 : Int32) 0).1) (by decide)) (by decide) (by decide) ?_
  refine Ok.iconst (z := (0 : Int32)) (pc' := 29) X24 hx (hb hby d9_28) rfl rfl ?_
  refine Ok.retI X24 hx hret hlk (Or.inr (Or.inl rfl)) rfl (hb hby d9_29) (by decide) (by decide) ?_
  show Q9 Z a1 a2 h0 n0 _ T24.heap _
  rw [e24]
  exact ⟨rfl, N0, rfl⟩
theorem d10_0 : decode prog_55_method_2_code 0 = .ok (.iload_n 0, 1) := by decide +kernel
theorem d10_1 : decode prog_55_method_2_code 1 = .ok (.bipush 34, 2) := by decide +kernel
theorem d10_3 : decode prog_55_method_2_code 3 = .ok (.if_icmp .eq 19, 3) := by decide +kernel
theorem d10_6 : decode prog_55_method_2_code 6 = .ok (.iload_n 0, 1) := by decide +kernel
theorem d10_7 : decode prog_55_method_2_code 7 = .ok (.bipush 10, 2) := by decide +kernel
theorem d10_9 : decode prog_55_method_2_code 9 = .ok (.if_icmp .eq 13, 3) := by decide +kernel
theorem d10_12 : decode prog_55_method_2_code 12 = .ok (.iload_n 0, 1) := by decide +kernel
theorem d10_13 : decode prog_55_method_2_code 13 = .ok (.bipush 13, 2) := by decide +kernel
theorem d10_15 : decode prog_55_method_2_code 15 = .ok (.if_icmp .eq 7, 3) := by decide +kernel
theorem d10_18 : decode prog_55_method_2_code 18 = .ok (.iconst 1, 1) := by decide +kernel
theorem d10_19 : decode prog_55_method_2_code 19 = .ok (.goto 4, 3) := by decide +kernel
theorem d10_22 : decode prog_55_method_2_code 22 = .ok (.iconst 0, 1) := by decide +kernel
theorem d10_23 : decode prog_55_method_2_code 23 = .ok (.ireturn, 1) := by decide +kernel
theorem pn_4 : plainName "com/example/datenschutz/datenschutz/event/StringValue" = true := by first | (simp [plainName, overriddenIn]; done) | decide +kernel
theorem ef_10 (m : MethodId) (x0 : Int32) : entryFrame m #[(.int x0)] 1 = mkF m 0 #[.val (.int x0)] [] := by first | (simp [entryFrame, mkF, argsToLocals, Value.category]; done) | rfl
def Q10 (Z : State) (p1 : Int32) (h0 : Heap) (n0 : Nat) (v : Option Value) (h : Heap) (L : List Loc) : Prop := ∃ b : Int32, v = some (.int b) ∧ (b.toInt = 1 ∧ (¬ p1.toInt = 34 ∧ ¬ p1.toInt = 10 ∧ ¬ p1.toInt = 13) ∨ b.toInt = 0 ∧ ¬ (¬ p1.toInt = 34 ∧ ¬ p1.toInt = 10 ∧ ¬ p1.toInt = 13)) ∧ Fr n0 L ∧ h = h0
set_option maxRecDepth 65536 in
set_option maxHeartbeats 40000000 in
theorem rm10 (l : Launch) (Z : State) (a0 : Array Value) (hw : ∀ d ∈ tables_1, d.before a0 Z = true) (p1 : Int32) (h0 : Heap) (n0 : Nat) (Z0 : n0 ≤ h0.size)  :
    MetN l Z (⟨"com/example/datenschutz/datenschutz/event/StringValue", "canHold", "(C)Z"⟩ : MethodName) prog_55_method_2_code 1 (some .boolean) [] ({ frames := 0, cells := 0, slots := 0, locals := 0 } : Room) #[(.int p1)] h0 (Q10 Z p1 h0 n0) := by
  refine met_n (plainFor_of_name pn_4) (fun m => ef_10 m p1) ?_
  intro p e s m below meth c s₁ X0 hx hby hml hZ hown hnm hret hlk e0
  replace hown : s.vm.findClass "com/example/datenschutz/datenschutz/event/StringValue" = some m.cls := hown
  replace hnm : meth.name = "canHold" := hnm
  replace hret : meth.sig.returnType = (some .boolean) := hret
  have N0 := Fr.nil n0
  have K0 : Keep h0 h0 [] := Keep.refl _ _
  show Ok p e below _ _ s₁ (mkF m 0 #[.val (.int p1)] [])
  refine Ok.iloadN (pc' := 1) X0 hx (hb hby d10_0) rfl rfl ?_
  refine Ok.bipush (z := (34 : Int32)) (pc' := 3) X0 hx (hb hby d10_1) rfl rfl ?_
  by_cases hc3 : p1.toInt = 34
  · refine Ok.icY (pc' := 22) X0 hx (hb hby d10_3) (bt (ic_eq p1 (34 : Int32)).1 hc3) (by decide) (by decide) ?_
    refine Ok.iconst (z := (0 : Int32)) (pc' := 23) X0 hx (hb hby d10_22) rfl rfl ?_
    refine Ok.retI X0 hx hret hlk (Or.inr (Or.inl rfl)) rfl (hb hby d10_23) (by decide) (by decide) ?_
    show Q10 Z p1 h0 n0 _ s₁.heap _
    rw [e0]
    exact ⟨(0 : Int32), rfl, by rw [show ((0 : Int32)).toInt = 0 from rfl]; omega, N0, rfl⟩
  · refine Ok.icN (pc' := 6) X0 hx (hb hby d10_3) (bf (ic_eq p1 (34 : Int32)).1 hc3) rfl ?_
    refine Ok.iloadN (pc' := 7) X0 hx (hb hby d10_6) rfl rfl ?_
    refine Ok.bipush (z := (10 : Int32)) (pc' := 9) X0 hx (hb hby d10_7) rfl rfl ?_
    by_cases hc9 : p1.toInt = 10
    · refine Ok.icY (pc' := 22) X0 hx (hb hby d10_9) (bt (ic_eq p1 (10 : Int32)).1 hc9) (by decide) (by decide) ?_
      refine Ok.iconst (z := (0 : Int32)) (pc' := 23) X0 hx (hb hby d10_22) rfl rfl ?_
      refine Ok.retI X0 hx hret hlk (Or.inr (Or.inl rfl)) rfl (hb hby d10_23) (by decide) (by decide) ?_
      show Q10 Z p1 h0 n0 _ s₁.heap _
      rw [e0]
      exact ⟨(0 : Int32), rfl, by rw [show ((0 : Int32)).toInt = 0 from rfl]; omega, N0, rfl⟩
    · refine Ok.icN (pc' := 12) X0 hx (hb hby d10_9) (bf (ic_eq p1 (10 : Int32)).1 hc9) rfl ?_
      refine Ok.iloadN (pc' := 13) X0 hx (hb hby d10_12) rfl rfl ?_
      refine Ok.bipush (z := (13 : Int32)) (pc' := 15) X0 hx (hb hby d10_13) rfl rfl ?_
      by_cases hc15 : p1.toInt = 13
      · refine Ok.icY (pc' := 22) X0 hx (hb hby d10_15) (bt (ic_eq p1 (13 : Int32)).1 hc15) (by decide) (by decide) ?_
        refine Ok.iconst (z := (0 : Int32)) (pc' := 23) X0 hx (hb hby d10_22) rfl rfl ?_
        refine Ok.retI X0 hx hret hlk (Or.inr (Or.inl rfl)) rfl (hb hby d10_23) (by decide) (by decide) ?_
        show Q10 Z p1 h0 n0 _ s₁.heap _
        rw [e0]
        exact ⟨(0 : Int32), rfl, by rw [show ((0 : Int32)).toInt = 0 from rfl]; omega, N0, rfl⟩
      · refine Ok.icN (pc' := 18) X0 hx (hb hby d10_15) (bf (ic_eq p1 (13 : Int32)).1 hc15) rfl ?_
        refine Ok.iconst (z := (1 : Int32)) (pc' := 19) X0 hx (hb hby d10_18) rfl rfl ?_
        refine Ok.goto (pc' := 23) X0 hx (hb hby d10_19) (by decide) (by decide) ?_
        refine Ok.retI X0 hx hret hlk (Or.inr (Or.inl rfl)) rfl (hb hby d10_23) (by decide) (by decide) ?_
        show Q10 Z p1 h0 n0 _ s₁.heap _
        rw [e0]
        exact ⟨(1 : Int32), rfl, by rw [show ((1 : Int32)).toInt = 1 from rfl]; omega, N0, rfl⟩
theorem d11_0 : decode jdk_43_method_3_code 0 = .ok (.iload_n 0, 1) := by decide +kernel
theorem d11_1 : decode jdk_43_method_3_code 1 = .ok (.sipush 255, 3) := by decide +kernel
theorem d11_4 : decode jdk_43_method_3_code 4 = .ok (.if_icmp .gt 7, 3) := by decide +kernel
theorem d11_7 : decode jdk_43_method_3_code 7 = .ok (.iconst 1, 1) := by decide +kernel
theorem d11_8 : decode jdk_43_method_3_code 8 = .ok (.goto 4, 3) := by decide +kernel
theorem d11_11 : decode jdk_43_method_3_code 11 = .ok (.iconst 0, 1) := by decide +kernel
theorem d11_12 : decode jdk_43_method_3_code 12 = .ok (.ireturn, 1) := by decide +kernel
theorem pn_5 : plainName "java/lang/StringLatin1" = true := by first | (simp [plainName, overriddenIn]; done) | decide +kernel
theorem ef_11 (m : MethodId) (x0 : Int32) : entryFrame m #[(.int x0)] 1 = mkF m 0 #[.val (.int x0)] [] := by first | (simp [entryFrame, mkF, argsToLocals, Value.category]; done) | rfl
def Q11 (Z : State) (p1 : Int32) (h0 : Heap) (n0 : Nat) (v : Option Value) (h : Heap) (L : List Loc) : Prop := ∃ b : Int32, v = some (.int b) ∧ (b.toInt = 1 ∧ (p1.toInt ≤ 255) ∨ b.toInt = 0 ∧ ¬ (p1.toInt ≤ 255)) ∧ Fr n0 L ∧ h = h0
set_option maxRecDepth 65536 in
set_option maxHeartbeats 40000000 in
theorem rm11 (l : Launch) (Z : State) (a0 : Array Value) (hw : ∀ d ∈ tables_1, d.before a0 Z = true) (p1 : Int32) (h0 : Heap) (n0 : Nat) (Z0 : n0 ≤ h0.size)  :
    MetN l Z (⟨"java/lang/StringLatin1", "canEncode", "(C)Z"⟩ : MethodName) jdk_43_method_3_code 1 (some .boolean) [] ({ frames := 0, cells := 0, slots := 0, locals := 0 } : Room) #[(.int p1)] h0 (Q11 Z p1 h0 n0) := by
  refine met_n (plainFor_of_name pn_5) (fun m => ef_11 m p1) ?_
  intro p e s m below meth c s₁ X0 hx hby hml hZ hown hnm hret hlk e0
  replace hown : s.vm.findClass "java/lang/StringLatin1" = some m.cls := hown
  replace hnm : meth.name = "canEncode" := hnm
  replace hret : meth.sig.returnType = (some .boolean) := hret
  have N0 := Fr.nil n0
  have K0 : Keep h0 h0 [] := Keep.refl _ _
  show Ok p e below _ _ s₁ (mkF m 0 #[.val (.int p1)] [])
  refine Ok.iloadN (pc' := 1) X0 hx (hb hby d11_0) rfl rfl ?_
  refine Ok.sipush (z := (255 : Int32)) (pc' := 4) X0 hx (hb hby d11_1) rfl rfl ?_
  by_cases hc4 : 255 < p1.toInt
  · refine Ok.icY (pc' := 11) X0 hx (hb hby d11_4) (bt (ic_eq p1 (255 : Int32)).2.2.2.2.1 hc4) (by decide) (by decide) ?_
    refine Ok.iconst (z := (0 : Int32)) (pc' := 12) X0 hx (hb hby d11_11) rfl rfl ?_
    refine Ok.retI X0 hx hret hlk (Or.inr (Or.inl rfl)) rfl (hb hby d11_12) (by decide) (by decide) ?_
    show Q11 Z p1 h0 n0 _ s₁.heap _
    rw [e0]
    exact ⟨(0 : Int32), rfl, by rw [show ((0 : Int32)).toInt = 0 from rfl]; omega, N0, rfl⟩
  · refine Ok.icN (pc' := 7) X0 hx (hb hby d11_4) (bf (ic_eq p1 (255 : Int32)).2.2.2.2.1 hc4) rfl ?_
    refine Ok.iconst (z := (1 : Int32)) (pc' := 8) X0 hx (hb hby d11_7) rfl rfl ?_
    refine Ok.goto (pc' := 12) X0 hx (hb hby d11_8) (by decide) (by decide) ?_
    refine Ok.retI X0 hx hret hlk (Or.inr (Or.inl rfl)) rfl (hb hby d11_12) (by decide) (by decide) ?_
    show Q11 Z p1 h0 n0 _ s₁.heap _
    rw [e0]
    exact ⟨(1 : Int32), rfl, by rw [show ((1 : Int32)).toInt = 1 from rfl]; omega, N0, rfl⟩
theorem d12_0 : decode jdk_43_method_46_code 0 = .ok (.iconst 1, 1) := by decide +kernel
theorem d12_1 : decode jdk_43_method_46_code 1 = .ok (.newarray .byte, 2) := by decide +kernel
theorem d12_3 : decode jdk_43_method_46_code 3 = .ok (.dup, 1) := by decide +kernel
theorem d12_4 : decode jdk_43_method_46_code 4 = .ok (.iconst 0, 1) := by decide +kernel
theorem d12_5 : decode jdk_43_method_46_code 5 = .ok (.iload_n 0, 1) := by decide +kernel
theorem d12_6 : decode jdk_43_method_46_code 6 = .ok (.i2b, 1) := by decide +kernel
theorem d12_7 : decode jdk_43_method_46_code 7 = .ok (.bastore, 1) := by decide +kernel
theorem d12_8 : decode jdk_43_method_46_code 8 = .ok (.areturn, 1) := by decide +kernel
theorem ef_12 (m : MethodId) (x0 : Int32) : entryFrame m #[(.int x0)] 1 = mkF m 0 #[.val (.int x0)] [] := by first | (simp [entryFrame, mkF, argsToLocals, Value.category]; done) | rfl
def Q12 (Z : State) (p1 : Int32) (h0 : Heap) (n0 : Nat) (v : Option Value) (h : Heap) (L : List Loc) : Prop := ∃ (r : Addr) (kr : ClassId), v = some (.ref r) ∧ Fr n0 L ∧ Keep h0 h [] ∧ h0.size ≤ r ∧ Arv Z h r kr .byte (1 : Int32) [(.int p1.toInt8.toInt32.toInt8.toInt32)] (.int (0 : Int32))
set_option maxRecDepth 65536 in
set_option maxHeartbeats 40000000 in
theorem rm12 (l : Launch) (Z : State) (a0 : Array Value) (hw : ∀ d ∈ tables_1, d.before a0 Z = true) (p1 : Int32) (h0 : Heap) (n0 : Nat) (Z0 : n0 ≤ h0.size)  :
    MetN l Z (⟨"java/lang/StringLatin1", "toBytes", "(C)[B"⟩ : MethodName) jdk_43_method_46_code 1 (some (.array .byte)) [] ({ frames := 0, cells := 1, slots := 1, locals := 0 } : Room) #[(.int p1)] h0 (Q12 Z p1 h0 n0) := by
  refine met_n (plainFor_of_name pn_5) (fun m => ef_12 m p1) ?_
  intro p e s m below meth c s₁ X0 hx hby hml hZ hown hnm hret hlk e0
  replace hown : s.vm.findClass "java/lang/StringLatin1" = some m.cls := hown
  replace hnm : meth.name = "toBytes" := hnm
  replace hret : meth.sig.returnType = (some (.array .byte)) := hret
  have N0 := Fr.nil n0
  have K0 : Keep h0 h0 [] := Keep.refl _ _
  show Ok p e below _ _ s₁ (mkF m 0 #[.val (.int p1)] [])
  refine Ok.iconst (z := (1 : Int32)) (pc' := 1) X0 hx (hb hby d12_0) rfl rfl ?_
  refine Ok.newP (pc' := 3) (cap := 1) X0 hx hZ (hw _ (List.mem_of_getElem? (i := 43) rfl)) rfl e0 (hb hby d12_1) rfl (by decide) (by decide) (by decide) (by decide) (by decide) ?_
  intro T25 h25 b25 kc25 g25 X25 e25 E25 V25
  have ge_b25 : n0 ≤ b25 := Nat.le_trans Z0 (Nat.le_of_eq g25.symm)
  have sz_b25 : h0.size ≤ b25 := Nat.le_trans K0.1 (Nat.le_of_eq g25.symm)
  have K25 : Keep h0 h25 [] := K0.ext E25
  have Z26 : n0 ≤ h25.size := Nat.le_trans Z0 E25.1
  replace V25 : Arv Z h25 b25 kc25 .byte (1 : Int32) [(.int (0 : Int32))] (.int (0 : Int32)) := V25.pad (pad_rep [] (.int (0 : Int32)) 1)
  show Ok p e below _ _ T25 (mkF m 3 #[.val (.int p1)] [(.ref b25)])
  refine Ok.dup (pc' := 4) X25 hx (hb hby d12_3) rfl rfl ?_
  refine Ok.iconst (z := (0 : Int32)) (pc' := 5) X25 hx (hb hby d12_4) rfl rfl ?_
  refine Ok.iloadN (pc' := 6) X25 hx (hb hby d12_5) rfl rfl ?_
  refine Ok.i2b (pc' := 7) X25 hx (hb hby d12_6) rfl ?_
  refine Ok.stB (pc' := 8) (i := 0) X25 hx hZ e25 V25 ⟨by decide, by decide⟩ rfl (Nat.le_of_ble_eq_true rfl) (hb hby d12_7) rfl ?_
  intro T27 h27 X27 e27 W27 V27
  replace V27 : Arv Z h27 b25 kc25 .byte (1 : Int32) [(.int p1.toInt8.toInt32.toInt8.toInt32)] (.int (0 : Int32)) := V27
  have N27 := Fr.snoc X27 N0 ge_b25
  have K27 : Keep h0 h27 [] := K25.wr W27 (Or.inr sz_b25)
  have Z28 : n0 ≤ h27.size := Nat.le_trans Z26 (Keep.of_wr W27).1
  refine Ok.retA X27 hx hret hlk rfl rfl rfl (hb hby d12_8) (by decide) (by decide) ?_
  show Q12 Z p1 h0 n0 _ T27.heap _
  rw [e27]
  exact ⟨_, _, rfl, N27, K27, sz_b25, V27⟩
theorem d13_0 : decode jdk_42_method_151_code 0 = .ok (.aload_n 0, 1) := by decide +kernel
theorem d13_1 : decode jdk_42_method_151_code 1 = .ok (.invokespecial 1, 3) := by decide +kernel
theorem d13_4 : decode jdk_42_method_151_code 4 = .ok (.aload_n 0, 1) := by decide +kernel
theorem d13_5 : decode jdk_42_method_151_code 5 = .ok (.aload_n 1, 1) := by decide +kernel
theorem d13_6 : decode jdk_42_method_151_code 6 = .ok (.putfield 9, 3) := by decide +kernel
theorem d13_9 : decode jdk_42_method_151_code 9 = .ok (.aload_n 0, 1) := by decide +kernel
theorem d13_10 : decode jdk_42_method_151_code 10 = .ok (.iload_n 2, 1) := by decide +kernel
theorem d13_11 : decode jdk_42_method_151_code 11 = .ok (.putfield 15, 3) := by decide +kernel
theorem d13_14 : decode jdk_42_method_151_code 14 = .ok (.return_, 1) := by decide +kernel
theorem pn_6 : plainName "java/lang/String" = true := by first | (simp [plainName, overriddenIn]; done) | decide +kernel
theorem ef_13 (m : MethodId) (x0 : Addr) (x1 : Addr) (x2 : Int32) : entryFrame m #[(.ref x0), (.ref x1), (.int x2)] 3 = mkF m 0 #[.val (.ref x0), .val (.ref x1), .val (.int x2)] [] := by first | (simp [entryFrame, mkF, argsToLocals, Value.category]; done) | rfl
def Q13 (Z : State) (a1 : Addr) (q2 : Addr) (u_value : Value) (u_coder : Value) (h0 : Heap) (n0 : Nat) (v : Option Value) (h : Heap) (L : List Loc) : Prop := v = none ∧ Fr n0 L ∧ Keep h0 h [a1] ∧ Exa Z h a1 "java/lang/String" ∧ Fld Z h a1 "java/lang/String" "value" "[B" (.ref q2) ∧ Fld Z h a1 "java/lang/String" "coder" "B" (.int (0 : Int32))
set_option maxRecDepth 65536 in
set_option maxHeartbeats 40000000 in
theorem rm13 (l : Launch) (Z : State) (a0 : Array Value) (hw : ∀ d ∈ tables_1, d.before a0 Z = true) (a1 : Addr) (q2 : Addr) (u_value : Value) (u_coder : Value) (h0 : Heap) (n0 : Nat) (Z0 : n0 ≤ h0.size) (E_a1 : Exa Z h0 a1 "java/lang/String") (g_a1 : n0 ≤ a1) (F_value : Fld Z h0 a1 "java/lang/String" "value" "[B" u_value) (F_coder : Fld Z h0 a1 "java/lang/String" "coder" "B" u_coder) :
    MetN l Z (⟨"java/lang/String", "<init>", "([BB)V"⟩ : MethodName) jdk_42_method_151_code 3 none [] ({ frames := 1, cells := 0, slots := 0, locals := 12 } : Room) #[(.ref a1), (.ref q2), (.int (0 : Int32))] h0 (Q13 Z a1 q2 u_value u_coder h0 n0) := by
  refine met_n (plainFor_of_name pn_6) (fun m => ef_13 m a1 q2 (0 : Int32)) ?_
  intro p e s m below meth c s₁ X0 hx hby hml hZ hown hnm hret hlk e0
  replace hown : s.vm.findClass "java/lang/String" = some m.cls := hown
  replace hnm : meth.name = "<init>" := hnm
  replace hret : meth.sig.returnType = none := hret
  have N0 := Fr.nil n0
  have K0 : Keep h0 h0 [a1] := Keep.refl _ _
  show Ok p e below _ _ s₁ (mkF m 0 #[.val (.ref a1), .val (.ref q2), .val (.int (0 : Int32))] [])
  refine Ok.aloadN (pc' := 1) X0 hx (hb hby d13_0) rfl rfl rfl ?_
  refine Ok.initO (pc' := 4) (W := 0) X0 hx hZ hown (hw _ (List.mem_of_getElem? (i := 48) rfl)) (hw _ (List.mem_of_getElem? (i := 12) rfl)) (hw _ (List.mem_of_getElem? (i := 13) rfl)) e0 (by rw [hml]; rfl) (hb hby d13_1) rfl (by decide) (Nat.le_of_eq rfl) (by decide) ?_
  intro T29 X29 e29
  refine Ok.aloadN (pc' := 5) X29 hx (hb hby d13_4) rfl rfl rfl ?_
  refine Ok.aloadN (pc' := 6) X29 hx (hb hby d13_5) rfl rfl rfl ?_
  refine Ok.putF (pc' := 9) (ty := (.array .byte)) X29 hx hZ hown (host := "") (Or.inl (hw _ (List.mem_of_getElem? (i := 49) rfl))) Via.refl e29 F_value E_a1 (Or.inr ⟨(hw _ (List.mem_of_getElem? (i := 50) rfl)), rfl, hnm⟩) (hw _ (List.mem_of_getElem? (i := 39) rfl)) (by decide) rfl rfl (hb hby d13_6) rfl ?_
  intro T30 h30 X30 e30 W30
  replace F_value := F_value.same W30
  replace E_a1 := E_a1.wr W30
  replace F_coder := F_coder.other W30 (Or.inr (slot_ne (Or.inr (hw _ (List.mem_of_getElem? (i := 52) rfl))) (Or.inr (hw _ (List.mem_of_getElem? (i := 50) rfl))) (by decide) (t := .byte) (t' := (.array .byte)) (by decide) (by decide)))
  have N30 := Fr.snoc X30 N0 g_a1
  have K30 : Keep h0 h30 [a1] := K0.wr W30 (Or.inl (List.mem_of_getElem? (i := 0) rfl))
  have Z31 : n0 ≤ h30.size := Nat.le_trans Z0 (Keep.of_wr W30).1
  refine Ok.aloadN (pc' := 10) X30 hx (hb hby d13_9) rfl rfl rfl ?_
  refine Ok.iloadN (pc' := 11) X30 hx (hb hby d13_10) rfl rfl ?_
  refine Ok.putF (pc' := 14) (ty := .byte) X30 hx hZ hown (host := "") (Or.inl (hw _ (List.mem_of_getElem? (i := 51) rfl))) Via.refl e30 F_coder E_a1 (Or.inr ⟨(hw _ (List.mem_of_getElem? (i := 52) rfl)), rfl, hnm⟩) (hw _ (List.mem_of_getElem? (i := 39) rfl)) (by decide) rfl rfl (hb hby d13_11) rfl ?_
  intro T32 h32 X32 e32 W32
  replace F_coder := F_coder.same W32
  replace E_a1 := E_a1.wr W32
  replace F_value := F_value.other W32 (Or.inr (slot_ne (Or.inr (hw _ (List.mem_of_getElem? (i := 50) rfl))) (Or.inr (hw _ (List.mem_of_getElem? (i := 52) rfl))) (by decide) (t := (.array .byte)) (t' := .byte) (by decide) (by decide)))
  have N32 := Fr.snoc X32 N30 g_a1
  have K32 : Keep h0 h32 [a1] := K30.wr W32 (Or.inl (List.mem_of_getElem? (i := 0) rfl))
  have Z33 : n0 ≤ h32.size := Nat.le_trans Z31 (Keep.of_wr W32).1
  refine Ok.retV X32 hx hret hlk (hb hby d13_14) (by decide) (by decide) ?_
  show Q13 Z a1 q2 u_value u_coder h0 n0 _ T32.heap _
  rw [e32]
  exact ⟨rfl, N32, K32, E_a1, F_value, F_coder⟩
theorem d14_0 : decode jdk_42_method_139_code 0 = .ok (.getstatic 38, 3) := by decide +kernel
theorem d14_3 : decode jdk_42_method_139_code 3 = .ok (.ifCond .eq 23, 3) := by decide +kernel
theorem d14_6 : decode jdk_42_method_139_code 6 = .ok (.iload_n 0, 1) := by decide +kernel
theorem d14_7 : decode jdk_42_method_139_code 7 = .ok (.invokestatic 1015, 3) := by decide +kernel
theorem d14_10 : decode jdk_42_method_139_code 10 = .ok (.ifCond .eq 16, 3) := by decide +kernel
theorem d14_13 : decode jdk_42_method_139_code 13 = .ok (.new 10, 3) := by decide +kernel
theorem d14_16 : decode jdk_42_method_139_code 16 = .ok (.dup, 1) := by decide +kernel
theorem d14_17 : decode jdk_42_method_139_code 17 = .ok (.iload_n 0, 1) := by decide +kernel
theorem d14_18 : decode jdk_42_method_139_code 18 = .ok (.invokestatic 1018, 3) := by decide +kernel
theorem d14_21 : decode jdk_42_method_139_code 21 = .ok (.iconst 0, 1) := by decide +kernel
theorem d14_22 : decode jdk_42_method_139_code 22 = .ok (.invokespecial 209, 3) := by decide +kernel
theorem d14_25 : decode jdk_42_method_139_code 25 = .ok (.areturn, 1) := by decide +kernel
theorem d14_26 : decode jdk_42_method_139_code 26 = .ok (.new 10, 3) := by decide +kernel
theorem d14_29 : decode jdk_42_method_139_code 29 = .ok (.dup, 1) := by decide +kernel
theorem d14_30 : decode jdk_42_method_139_code 30 = .ok (.iload_n 0, 1) := by decide +kernel
theorem d14_31 : decode jdk_42_method_139_code 31 = .ok (.invokestatic 1021, 3) := by decide +kernel
theorem d14_34 : decode jdk_42_method_139_code 34 = .ok (.iconst 1, 1) := by decide +kernel
theorem d14_35 : decode jdk_42_method_139_code 35 = .ok (.invokespecial 209, 3) := by decide +kernel
theorem d14_38 : decode jdk_42_method_139_code 38 = .ok (.areturn, 1) := by decide +kernel
theorem ef_14 (m : MethodId) (x0 : Int32) : entryFrame m #[(.int x0)] 1 = mkF m 0 #[.val (.int x0)] [] := by first | (simp [entryFrame, mkF, argsToLocals, Value.category]; done) | rfl
def Q14 (Z : State) (p1 : Int32) (cs0 : Int32) (h0 : Heap) (n0 : Nat) (v : Option Value) (h : Heap) (L : List Loc) : Prop := ∃ (b r : Addr) (kr : ClassId), v = some (.ref b) ∧ Fr n0 L ∧ Keep h0 h [] ∧ h0.size ≤ b ∧ h0.size ≤ r ∧ b ≠ r ∧ Exa Z h b "java/lang/String" ∧ Fld Z h b "java/lang/String" "value" "[B" (.ref r) ∧ Fld Z h b "java/lang/String" "coder" "B" (.int (0 : Int32)) ∧ Arv Z h r kr .byte (1 : Int32) [(.int p1.toInt8.toInt32.toInt8.toInt32)] (.int (0 : Int32))
set_option maxRecDepth 65536 in
set_option maxHeartbeats 40000000 in
theorem rm14 (l : Launch) (Z : State) (a0 : Array Value) (hw : ∀ d ∈ tables_1, d.before a0 Z = true) (p1 : Int32) (cs0 : Int32) (h0 : Heap) (n0 : Nat) (Z0 : n0 ≤ h0.size) (hp1 : 0 ≤ p1.toInt ∧ p1.toInt ≤ 255) (O_0 : Old Z n0 h0) (S_cs : Sta Z Z.heap "java/lang/String" "COMPACT_STRINGS" "Z" (.int cs0)) (hcs : ¬ cs0.toInt = 0) :
    MetN l Z (⟨"java/lang/String", "valueOf", "(C)Ljava/lang/String;"⟩ : MethodName) jdk_42_method_139_code 1 (some (.object "java/lang/String")) [] ({ frames := 2, cells := 2, slots := 5, locals := 27 } : Room) #[(.int p1)] h0 (Q14 Z p1 cs0 h0 n0) := by
  refine met_n (plainFor_of_name pn_6) (fun m => ef_14 m p1) ?_
  intro p e s m below meth c s₁ X0 hx hby hml hZ hown hnm hret hlk e0
  replace hown : s.vm.findClass "java/lang/String" = some m.cls := hown
  replace hnm : meth.name = "valueOf" := hnm
  replace hret : meth.sig.returnType = (some (.object "java/lang/String")) := hret
  have N0 := Fr.nil n0
  have K0 : Keep h0 h0 [] := Keep.refl _ _
  show Ok p e below _ _ s₁ (mkF m 0 #[.val (.int p1)] [])
  refine Ok.getS (pc' := 3) X0 hx hZ hown (host := "") (Or.inl (hw _ (List.mem_of_getElem? (i := 33) rfl))) Via.refl e0 (S_cs.ext O_0.2) (hb hby d14_0) rfl ?_
  intro T34 X34 e34
  refine Ok.ifN (pc' := 6) X34 hx (hb hby d14_3) (bf (i0 .eq cs0 (ic_eq cs0 0).1) (show ¬ (cs0.toInt = 0) from hcs)) rfl ?_
  refine Ok.iloadN (pc' := 7) X34 hx (hb hby d14_6) rfl rfl ?_
  refine Ok.callS (pc' := 10) (W := 0)  (argsL := [(.int p1)]) (rest := []) X34 hx hZ hown (rm11 l Z a0 hw p1 h0 n0 Z0 ) (hw _ (List.mem_of_getElem? (i := 34) rfl)) (hw _ (List.mem_of_getElem? (i := 35) rfl)) (hw _ (List.mem_of_getElem? (i := 36) rfl)) (hw _ (List.mem_of_getElem? (i := 37) rfl)) (by decide) e34 (by decide) (by decide) (by decide) (by decide) (lenOf pd_3 rfl) rfl rfl (Nat.le_of_eq rfl) (by rw [hml]; rfl) (hb hby d14_7) rfl ?_
  intro v35 T35 L35 X35 hQ35
  obtain ⟨b35, rfl, hb35, Nq35, eq35⟩ := hQ35
  have N35 := Fr.app N0 Nq35
  show Ok p e below _ _ T35 (mkF m 10 #[.val (.int p1)] [(.int b35)])
  refine Ok.ifN (pc' := 13) X35 hx (hb hby d14_10) (bf (i0 .eq b35 (ic_eq b35 0).1) (show ¬ (b35.toInt = 0) from (by omega))) rfl ?_
  refine Ok.new (pc' := 16) X35 hx hZ hown (hw _ (List.mem_of_getElem? (i := 38) rfl)) (hw _ (List.mem_of_getElem? (i := 39) rfl)) (hw _ (List.mem_of_getElem? (i := 31) rfl)) eq35 (hb hby d14_13) rfl (by decide) (by decide) ?_
  intro T36 h36 b36 g36 X36 e36 E36 A36 D36
  replace O_0 := O_0.ext E36
  have ge_b36 : n0 ≤ b36 := Nat.le_trans Z0 (Nat.le_of_eq g36.symm)
  have sz_b36 : h0.size ≤ b36 := Nat.le_trans K0.1 (Nat.le_of_eq g36.symm)
  have K36 : Keep h0 h36 [] := K0.ext E36
  have Z37 : n0 ≤ h36.size := Nat.le_trans Z0 E36.1
  have F36_value : Fld Z h36 b36 "java/lang/String" "value" "[B" .null := D36 (Or.inr (hw _ (List.mem_of_getElem? (i := 50) rfl))) (ty := (.array .byte)) (by decide)
  have F36_coder : Fld Z h36 b36 "java/lang/String" "coder" "B" (.int (0 : Int32)) := D36 (Or.inr (hw _ (List.mem_of_getElem? (i := 52) rfl))) (ty := .byte) (by decide)
  show Ok p e below _ _ T36 (mkF m 16 #[.val (.int p1)] [(.ref b36)])
  refine Ok.dup (pc' := 17) X36 hx (hb hby d14_16) rfl rfl ?_
  refine Ok.iloadN (pc' := 18) X36 hx (hb hby d14_17) rfl rfl ?_
  refine Ok.callS (pc' := 21) (W := 2)  (argsL := [(.int p1)]) (rest := [(.ref b36), (.ref b36)]) X36 hx hZ hown (rm12 l Z a0 hw p1 h36 n0 Z37 ) (hw _ (List.mem_of_getElem? (i := 40) rfl)) (hw _ (List.mem_of_getElem? (i := 41) rfl)) (hw _ (List.mem_of_getElem? (i := 36) rfl)) (hw _ (List.mem_of_getElem? (i := 42) rfl)) (by decide) e36 (by decide) (by decide) (by decide) (by decide) (lenOf pd_5 rfl) rfl rfl (Nat.le_of_eq rfl) (by rw [hml]; rfl) (hb hby d14_18) rfl ?_
  intro v38 T38 L38 X38 hQ38
  obtain ⟨r38, kr38, rfl, Nq38, Kq38, hr38, V38⟩ := hQ38
  have ne_b36_r38 : Nq b36 r38 := Nat.ne_of_lt (Nat.lt_of_lt_of_le A36.lt hr38)
  have ge_r38 : n0 ≤ r38 := Nat.le_trans Z37 hr38
  have sz_r38 : h0.size ≤ r38 := Nat.le_trans K36.1 hr38
  have N38 := Fr.app N35 Nq38
  replace O_0 := O_0.keep Kq38 all0
  replace A36 := A36.keep Kq38
  replace F36_value := F36_value.keep Kq38 nin0
  replace F36_coder := F36_coder.keep Kq38 nin0
  have K38' : Keep h0 T38.heap [] := K36.trans Kq38 all0
  have Z39 : n0 ≤ T38.heap.size := Nat.le_trans Z37 Kq38.1
  show Ok p e below _ _ T38 (mkF m 21 #[.val (.int p1)] [(.ref r38), (.ref b36), (.ref b36)])
  refine Ok.iconst (z := (0 : Int32)) (pc' := 22) X38 hx (hb hby d14_21) rfl rfl ?_
  refine Ok.init (pc' := 25) (W := 1) (a := b36)  (argsL := [(.ref r38), (.int (0 : Int32))]) (rest := [(.ref b36)]) X38 hx hZ hown (rm13 l Z a0 hw b36 r38 .null (.int (0 : Int32)) T38.heap n0 Z39 A36 ge_b36 F36_value F36_coder) rfl (hw _ (List.mem_of_getElem? (i := 44) rfl)) (hw _ (List.mem_of_getElem? (i := 45) rfl)) (hw _ (List.mem_of_getElem? (i := 31) rfl)) (hw _ (List.mem_of_getElem? (i := 47) rfl)) (by decide) rfl (by decide) (by decide) (by decide) (by decide) (lenOf pd_6 rfl) rfl rfl (Nat.le_of_eq rfl) (by rw [hml]; rfl) (hb hby d14_22) rfl ?_
  intro v40 T40 L40 X40 hQ40
  obtain ⟨rfl, Nq40, Kq40, Aq40, Fv40, Fc40⟩ := hQ40
  have N40 := Fr.app N38 Nq40
  replace O_0 := O_0.keep Kq40 (allS ge_b36 all0)
  replace A36 := A36.keep Kq40
  replace V38 := V38.keep Kq40 (ninS (Ne.symm ne_b36_r38) nin0)
  have K40' : Keep h0 T40.heap [] := K38'.trans Kq40 (allS (Or.inr sz_b36) all0)
  have Z41 : n0 ≤ T40.heap.size := Nat.le_trans Z39 Kq40.1
  show Ok p e below _ _ T40 (mkF m 25 #[.val (.int p1)] [(.ref b36)])
  refine Ok.retA X40 hx hret hlk rfl rfl rfl (hb hby d14_25) (by decide) (by decide) ?_
  show Q14 Z p1 cs0 h0 n0 _ T40.heap _
  exact ⟨_, _, _, rfl, N40, K40', sz_b36, sz_r38, ne_b36_r38, A36, Fv40, Fc40, V38⟩
theorem d15_0 : decode jdk_42_method_152_code 0 = .ok (.getstatic 38, 3) := by decide +kernel
theorem d15_3 : decode jdk_42_method_152_code 3 = .ok (.ifCond .eq 10, 3) := by decide +kernel
theorem d15_6 : decode jdk_42_method_152_code 6 = .ok (.aload_n 0, 1) := by decide +kernel
theorem d15_7 : decode jdk_42_method_152_code 7 = .ok (.getfield 15, 3) := by decide +kernel
theorem d15_10 : decode jdk_42_method_152_code 10 = .ok (.goto 4, 3) := by decide +kernel
theorem d15_13 : decode jdk_42_method_152_code 13 = .ok (.iconst 1, 1) := by decide +kernel
theorem d15_14 : decode jdk_42_method_152_code 14 = .ok (.ireturn, 1) := by decide +kernel
theorem ef_15 (m : MethodId) (x0 : Addr) : entryFrame m #[(.ref x0)] 1 = mkF m 0 #[.val (.ref x0)] [] := by first | (simp [entryFrame, mkF, argsToLocals, Value.category]; done) | rfl
def Q15 (Z : State) (a1 : Addr) (r1 : Addr) (k1 : ClassId) (y0 : Int32) (cs0 : Int32) (h0 : Heap) (n0 : Nat) (v : Option Value) (h : Heap) (L : List Loc) : Prop := v = some (.int (0 : Int32)) ∧ Fr n0 L ∧ h = h0
set_option maxRecDepth 65536 in
set_option maxHeartbeats 40000000 in
theorem rm15 (l : Launch) (Z : State) (a0 : Array Value) (hw : ∀ d ∈ tables_1, d.before a0 Z = true) (a1 : Addr) (r1 : Addr) (k1 : ClassId) (y0 : Int32) (cs0 : Int32) (h0 : Heap) (n0 : Nat) (Z0 : n0 ≤ h0.size) (E_a1 : Exa Z h0 a1 "java/lang/String") (Fv : Fld Z h0 a1 "java/lang/String" "value" "[B" (.ref r1)) (Fc : Fld Z h0 a1 "java/lang/String" "coder" "B" (.int (0 : Int32))) (V_1 : Arv Z h0 r1 k1 .byte (1 : Int32) [(.int y0)] (.int (0 : Int32))) (O_0 : Old Z n0 h0) (S_cs : Sta Z Z.heap "java/lang/String" "COMPACT_STRINGS" "Z" (.int cs0)) (hcs : ¬ cs0.toInt = 0) :
    MetN l Z (⟨"java/lang/String", "coder", "()B"⟩ : MethodName) jdk_42_method_152_code 1 (some .byte) [] ({ frames := 0, cells := 0, slots := 0, locals := 0 } : Room) #[(.ref a1)] h0 (Q15 Z a1 r1 k1 y0 cs0 h0 n0) := by
  refine met_n (plainFor_of_name pn_6) (fun m => ef_15 m a1) ?_
  intro p e s m below meth c s₁ X0 hx hby hml hZ hown hnm hret hlk e0
  replace hown : s.vm.findClass "java/lang/String" = some m.cls := hown
  replace hnm : meth.name = "coder" := hnm
  replace hret : meth.sig.returnType = (some .byte) := hret
  have N0 := Fr.nil n0
  have K0 : Keep h0 h0 [] := Keep.refl _ _
  show Ok p e below _ _ s₁ (mkF m 0 #[.val (.ref a1)] [])
  refine Ok.getS (pc' := 3) X0 hx hZ hown (host := "") (Or.inl (hw _ (List.mem_of_getElem? (i := 33) rfl))) Via.refl e0 (S_cs.ext O_0.2) (hb hby d15_0) rfl ?_
  intro T42 X42 e42
  refine Ok.ifN (pc' := 6) X42 hx (hb hby d15_3) (bf (i0 .eq cs0 (ic_eq cs0 0).1) (show ¬ (cs0.toInt = 0) from hcs)) rfl ?_
  refine Ok.aloadN (pc' := 7) X42 hx (hb hby d15_6) rfl rfl rfl ?_
  refine Ok.getF (pc' := 10) X42 hx hZ hown (host := "") (Or.inl (hw _ (List.mem_of_getElem? (i := 51) rfl))) Via.refl e42 Fc (hb hby d15_7) rfl ?_
  intro T43 X43 e43
  refine Ok.goto (pc' := 14) X43 hx (hb hby d15_10) (by decide) (by decide) ?_
  refine Ok.retI X43 hx hret hlk (Or.inr (Or.inr (Or.inl rfl))) rfl (hb hby d15_14) (by decide) (by decide) ?_
  show Q15 Z a1 r1 k1 y0 cs0 h0 n0 _ T43.heap _
  rw [e43]
  exact ⟨rfl, N0, rfl⟩
theorem d16_0 : decode jdk_42_method_54_code 0 = .ok (.aload_n 0, 1) := by decide +kernel
theorem d16_1 : decode jdk_42_method_54_code 1 = .ok (.getfield 9, 3) := by decide +kernel
theorem d16_4 : decode jdk_42_method_54_code 4 = .ok (.arraylength, 1) := by decide +kernel
theorem d16_5 : decode jdk_42_method_54_code 5 = .ok (.aload_n 0, 1) := by decide +kernel
theorem d16_6 : decode jdk_42_method_54_code 6 = .ok (.invokevirtual 335, 3) := by decide +kernel
theorem d16_9 : decode jdk_42_method_54_code 9 = .ok (.ishr, 1) := by decide +kernel
theorem d16_10 : decode jdk_42_method_54_code 10 = .ok (.ireturn, 1) := by decide +kernel
theorem ef_16 (m : MethodId) (x0 : Addr) : entryFrame m #[(.ref x0)] 1 = mkF m 0 #[.val (.ref x0)] [] := by first | (simp [entryFrame, mkF, argsToLocals, Value.category]; done) | rfl
def Q16 (Z : State) (a1 : Addr) (r1 : Addr) (k1 : ClassId) (y0 : Int32) (cs0 : Int32) (h0 : Heap) (n0 : Nat) (v : Option Value) (h : Heap) (L : List Loc) : Prop := v = some (.int (1 : Int32)) ∧ Fr n0 L ∧ h = h0
set_option maxRecDepth 65536 in
set_option maxHeartbeats 40000000 in
theorem rm16 (l : Launch) (Z : State) (a0 : Array Value) (hw : ∀ d ∈ tables_1, d.before a0 Z = true) (a1 : Addr) (r1 : Addr) (k1 : ClassId) (y0 : Int32) (cs0 : Int32) (h0 : Heap) (n0 : Nat) (Z0 : n0 ≤ h0.size) (E_a1 : Exa Z h0 a1 "java/lang/String") (Fv : Fld Z h0 a1 "java/lang/String" "value" "[B" (.ref r1)) (Fc : Fld Z h0 a1 "java/lang/String" "coder" "B" (.int (0 : Int32))) (V_1 : Arv Z h0 r1 k1 .byte (1 : Int32) [(.int y0)] (.int (0 : Int32))) (O_0 : Old Z n0 h0) (S_cs : Sta Z Z.heap "java/lang/String" "COMPACT_STRINGS" "Z" (.int cs0)) (hcs : ¬ cs0.toInt = 0) :
    MetN l Z (⟨"java/lang/String", "length", "()I"⟩ : MethodName) jdk_42_method_54_code 1 (some .int) [] ({ frames := 1, cells := 0, slots := 0, locals := 13 } : Room) #[(.ref a1)] h0 (Q16 Z a1 r1 k1 y0 cs0 h0 n0) := by
  refine met_n (plainFor_of_name pn_6) (fun m => ef_16 m a1) ?_
  intro p e s m below meth c s₁ X0 hx hby hml hZ hown hnm hret hlk e0
  replace hown : s.vm.findClass "java/lang/String" = some m.cls := hown
  replace hnm : meth.name = "length" := hnm
  replace hret : meth.sig.returnType = (some .int) := hret
  have N0 := Fr.nil n0
  have K0 : Keep h0 h0 [] := Keep.refl _ _
  show Ok p e below _ _ s₁ (mkF m 0 #[.val (.ref a1)] [])
  refine Ok.aloadN (pc' := 1) X0 hx (hb hby d16_0) rfl rfl rfl ?_
  refine Ok.getF (pc' := 4) X0 hx hZ hown (host := "") (Or.inl (hw _ (List.mem_of_getElem? (i := 49) rfl))) Via.refl e0 Fv (hb hby d16_1) rfl ?_
  intro T44 X44 e44
  refine Ok.len (pc' := 5) X44 hx hZ e44 V_1 (hb hby d16_4) rfl ?_
  refine Ok.aloadN (pc' := 6) X44 hx (hb hby d16_5) rfl rfl rfl ?_
  refine Ok.virt (pc' := 9) (W := 1) (a := a1)  (argsL := []) (rest := [(.int (1 : Int32))]) X44 hx hZ hown (rm15 l Z a0 hw a1 r1 k1 y0 cs0 h0 n0 Z0 E_a1 Fv Fc V_1 O_0 S_cs hcs) (hw _ (List.mem_of_getElem? (i := 69) rfl)) (hw _ (List.mem_of_getElem? (i := 70) rfl)) (notFace_of_selects (args := #[]) (mvT hZ (hw _ (List.mem_of_getElem? (i := 72) rfl)))) (hw _ (List.mem_of_getElem? (i := 72) rfl)) (hw _ (List.mem_of_getElem? (i := 71) rfl)) (hw _ (List.mem_of_getElem? (i := 31) rfl)) (hw _ (List.mem_of_getElem? (i := 73) rfl)) (by decide) e44 E_a1 (by decide) (by decide) (by decide) (by decide) (lenOf pd_10 rfl) rfl rfl (Nat.le_of_eq rfl) (by rw [hml]; rfl) (hb hby d16_6) rfl ?_
  intro v45 T45 L45 X45 hQ45
  obtain ⟨rfl, Nq45, eq45⟩ := hQ45
  have N45 := Fr.app N0 Nq45
  show Ok p e below _ _ T45 (mkF m 9 #[.val (.ref a1)] [(.int (0 : Int32)), (.int (1 : Int32))])
  refine Ok.ishr (pc' := 10) X45 hx (hb hby d16_9) rfl ?_
  refine Ok.retI X45 hx hret hlk (Or.inl rfl) rfl (hb hby d16_10) (by decide) (by decide) ?_
  show Q16 Z a1 r1 k1 y0 cs0 h0 n0 _ T45.heap _
  rw [eq45]
  exact ⟨rfl, N45, rfl⟩
theorem d17_0 : decode jdk_42_method_154_code 0 = .ok (.getstatic 38, 3) := by decide +kernel
theorem d17_3 : decode jdk_42_method_154_code 3 = .ok (.ifCond .eq 14, 3) := by decide +kernel
theorem d17_6 : decode jdk_42_method_154_code 6 = .ok (.aload_n 0, 1) := by decide +kernel
theorem d17_7 : decode jdk_42_method_154_code 7 = .ok (.getfield 15, 3) := by decide +kernel
theorem d17_10 : decode jdk_42_method_154_code 10 = .ok (.ifCond .ne 7, 3) := by decide +kernel
theorem d17_13 : decode jdk_42_method_154_code 13 = .ok (.iconst 1, 1) := by decide +kernel
theorem d17_14 : decode jdk_42_method_154_code 14 = .ok (.goto 4, 3) := by decide +kernel
theorem d17_17 : decode jdk_42_method_154_code 17 = .ok (.iconst 0, 1) := by decide +kernel
theorem d17_18 : decode jdk_42_method_154_code 18 = .ok (.ireturn, 1) := by decide +kernel
theorem ef_17 (m : MethodId) (x0 : Addr) : entryFrame m #[(.ref x0)] 1 = mkF m 0 #[.val (.ref x0)] [] := by first | (simp [entryFrame, mkF, argsToLocals, Value.category]; done) | rfl
def Q17 (Z : State) (a1 : Addr) (r1 : Addr) (k1 : ClassId) (y0 : Int32) (cs0 : Int32) (gv : Value) (h0 : Heap) (n0 : Nat) (v : Option Value) (h : Heap) (L : List Loc) : Prop := v = some (.int (1 : Int32)) ∧ Fr n0 L ∧ h = h0
set_option maxRecDepth 65536 in
set_option maxHeartbeats 40000000 in
theorem rm17 (l : Launch) (Z : State) (a0 : Array Value) (hw : ∀ d ∈ tables_1, d.before a0 Z = true) (a1 : Addr) (r1 : Addr) (k1 : ClassId) (y0 : Int32) (cs0 : Int32) (gv : Value) (h0 : Heap) (n0 : Nat) (Z0 : n0 ≤ h0.size) (E_a1 : Exa Z h0 a1 "java/lang/String") (Fv : Fld Z h0 a1 "java/lang/String" "value" "[B" (.ref r1)) (Fc : Fld Z h0 a1 "java/lang/String" "coder" "B" (.int (0 : Int32))) (V_1 : Arv Z h0 r1 k1 .byte (1 : Int32) [(.int y0)] (.int (0 : Int32))) (O_0 : Old Z n0 h0) (S_cs : Sta Z Z.heap "java/lang/String" "COMPACT_STRINGS" "Z" (.int cs0)) (hcs : ¬ cs0.toInt = 0) (S_sf : Sta Z Z.heap "jdk/internal/util/Preconditions" "SIOOBE_FORMATTER" "Ljava/util/function/BiFunction;" gv) (r_gv : gv.isRef = true) :
    MetN l Z (⟨"java/lang/String", "isLatin1", "()Z"⟩ : MethodName) jdk_42_method_154_code 1 (some .boolean) [] ({ frames := 0, cells := 0, slots := 0, locals := 0 } : Room) #[(.ref a1)] h0 (Q17 Z a1 r1 k1 y0 cs0 gv h0 n0) := by
  refine met_n (plainFor_of_name pn_6) (fun m => ef_17 m a1) ?_
  intro p e s m below meth c s₁ X0 hx hby hml hZ hown hnm hret hlk e0
  replace hown : s.vm.findClass "java/lang/String" = some m.cls := hown
  replace hnm : meth.name = "isLatin1" := hnm
  replace hret : meth.sig.returnType = (some .boolean) := hret
  have N0 := Fr.nil n0
  have K0 : Keep h0 h0 [] := Keep.refl _ _
  show Ok p e below _ _ s₁ (mkF m 0 #[.val (.ref a1)] [])
  refine Ok.getS (pc' := 3) X0 hx hZ hown (host := "") (Or.inl (hw _ (List.mem_of_getElem? (i := 33) rfl))) Via.refl e0 (S_cs.ext O_0.2) (hb hby d17_0) rfl ?_
  intro T46 X46 e46
  refine Ok.ifN (pc' := 6) X46 hx (hb hby d17_3) (bf (i0 .eq cs0 (ic_eq cs0 0).1) (show ¬ (cs0.toInt = 0) from hcs)) rfl ?_
  refine Ok.aloadN (pc' := 7) X46 hx (hb hby d17_6) rfl rfl rfl ?_
  refine Ok.getF (pc' := 10) X46 hx hZ hown (host := "") (Or.inl (hw _ (List.mem_of_getElem? (i := 51) rfl))) Via.refl e46 Fc (hb hby d17_7) rfl ?_
  intro T47 X47 e47
  refine Ok.ifN (pc' := 13) X47 hx (hb hby d17_10) (bf (i0 .ne (0 : Int32) (ic_eq (0 : Int32) 0).2.1) (by decide)) rfl ?_
  refine Ok.iconst (z := (1 : Int32)) (pc' := 14) X47 hx (hb hby d17_13) rfl rfl ?_
  refine Ok.goto (pc' := 18) X47 hx (hb hby d17_14) (by decide) (by decide) ?_
  refine Ok.retI X47 hx hret hlk (Or.inr (Or.inl rfl)) rfl (hb hby d17_18) (by decide) (by decide) ?_
  show Q17 Z a1 r1 k1 y0 cs0 gv h0 n0 _ T47.heap _
  rw [e47]
  exact ⟨rfl, N0, rfl⟩
theorem d18_0 : decode jdk_41_method_11_code 0 = .ok (.iload_n 0, 1) := by decide +kernel
theorem d18_1 : decode jdk_41_method_11_code 1 = .ok (.ifCond .lt 8, 3) := by decide +kernel
theorem d18_4 : decode jdk_41_method_11_code 4 = .ok (.iload_n 0, 1) := by decide +kernel
theorem d18_5 : decode jdk_41_method_11_code 5 = .ok (.iload_n 1, 1) := by decide +kernel
theorem d18_6 : decode jdk_41_method_11_code 6 = .ok (.if_icmp .lt 10, 3) := by decide +kernel
theorem d18_9 : decode jdk_41_method_11_code 9 = .ok (.aload_n 2, 1) := by decide +kernel
theorem d18_10 : decode jdk_41_method_11_code 10 = .ok (.iload_n 0, 1) := by decide +kernel
theorem d18_11 : decode jdk_41_method_11_code 11 = .ok (.iload_n 1, 1) := by decide +kernel
theorem d18_12 : decode jdk_41_method_11_code 12 = .ok (.invokestatic 95, 3) := by decide +kernel
theorem d18_16 : decode jdk_41_method_11_code 16 = .ok (.iload_n 0, 1) := by decide +kernel
theorem d18_17 : decode jdk_41_method_11_code 17 = .ok (.ireturn, 1) := by decide +kernel
theorem pn_7 : plainName "jdk/internal/util/Preconditions" = true := by first | (simp [plainName, overriddenIn]; done) | decide +kernel
theorem ef_18 (m : MethodId) (x0 : Int32) (x1 : Int32) (x2 : Value) (r2 : x2.isRef = true) : entryFrame m #[(.int x0), (.int x1), x2] 3 = mkF m 0 #[.val (.int x0), .val (.int x1), .val x2] [] := by
  (cases x2 <;> simp [Value.isRef] at r2) <;> first | (simp [entryFrame, mkF, argsToLocals, Value.category]; done) | rfl
def Q18 (Z : State) (gv : Value) (h0 : Heap) (n0 : Nat) (v : Option Value) (h : Heap) (L : List Loc) : Prop := v = some (.int (0 : Int32)) ∧ Fr n0 L ∧ h = h0
set_option maxRecDepth 65536 in
set_option maxHeartbeats 40000000 in
theorem rm18 (l : Launch) (Z : State) (a0 : Array Value) (hw : ∀ d ∈ tables_1, d.before a0 Z = true) (gv : Value) (h0 : Heap) (n0 : Nat) (Z0 : n0 ≤ h0.size) (r_gv : gv.isRef = true) :
    MetN l Z (⟨"jdk/internal/util/Preconditions", "checkIndex", "(IILjava/util/function/BiFunction;)I"⟩ : MethodName) jdk_41_method_11_code 3 (some .int) [] ({ frames := 0, cells := 0, slots := 0, locals := 0 } : Room) #[(.int (0 : Int32)), (.int (1 : Int32)), gv] h0 (Q18 Z gv h0 n0) := by
  refine met_n (plainFor_of_name pn_7) (fun m => ef_18 m (0 : Int32) (1 : Int32) gv r_gv) ?_
  intro p e s m below meth c s₁ X0 hx hby hml hZ hown hnm hret hlk e0
  replace hown : s.vm.findClass "jdk/internal/util/Preconditions" = some m.cls := hown
  replace hnm : meth.name = "checkIndex" := hnm
  replace hret : meth.sig.returnType = (some .int) := hret
  have N0 := Fr.nil n0
  have K0 : Keep h0 h0 [] := Keep.refl _ _
  show Ok p e below _ _ s₁ (mkF m 0 #[.val (.int (0 : Int32)), .val (.int (1 : Int32)), .val gv] [])
  refine Ok.iloadN (pc' := 1) X0 hx (hb hby d18_0) rfl rfl ?_
  refine Ok.ifN (pc' := 4) X0 hx (hb hby d18_1) (bf (i0 .lt (0 : Int32) (ic_eq (0 : Int32) 0).2.2.1) (by decide)) rfl ?_
  refine Ok.iloadN (pc' := 5) X0 hx (hb hby d18_4) rfl rfl ?_
  refine Ok.iloadN (pc' := 6) X0 hx (hb hby d18_5) rfl rfl ?_
  refine Ok.icY (pc' := 16) X0 hx (hb hby d18_6) (bt (ic_eq (0 : Int32) (1 : Int32)).2.2.1 (by decide)) (by decide) (by decide) ?_
  refine Ok.iloadN (pc' := 17) X0 hx (hb hby d18_16) rfl rfl ?_
  refine Ok.retI X0 hx hret hlk (Or.inl rfl) rfl (hb hby d18_17) (by decide) (by decide) ?_
  show Q18 Z gv h0 n0 _ s₁.heap _
  rw [e0]
  exact ⟨rfl, N0, rfl⟩
theorem d19_0 : decode jdk_42_method_155_code 0 = .ok (.iload_n 0, 1) := by decide +kernel
theorem d19_1 : decode jdk_42_method_155_code 1 = .ok (.iload_n 1, 1) := by decide +kernel
theorem d19_2 : decode jdk_42_method_155_code 2 = .ok (.getstatic 1053, 3) := by decide +kernel
theorem d19_5 : decode jdk_42_method_155_code 5 = .ok (.invokestatic 1059, 3) := by decide +kernel
theorem d19_8 : decode jdk_42_method_155_code 8 = .ok (.pop, 1) := by decide +kernel
theorem d19_9 : decode jdk_42_method_155_code 9 = .ok (.return_, 1) := by decide +kernel
theorem ef_19 (m : MethodId) (x0 : Int32) (x1 : Int32) : entryFrame m #[(.int x0), (.int x1)] 2 = mkF m 0 #[.val (.int x0), .val (.int x1)] [] := by first | (simp [entryFrame, mkF, argsToLocals, Value.category]; done) | rfl
def Q19 (Z : State) (gv : Value) (h0 : Heap) (n0 : Nat) (v : Option Value) (h : Heap) (L : List Loc) : Prop := v = none ∧ Fr n0 L ∧ h = h0
set_option maxRecDepth 65536 in
set_option maxHeartbeats 40000000 in
theorem rm19 (l : Launch) (Z : State) (a0 : Array Value) (hw : ∀ d ∈ tables_1, d.before a0 Z = true) (gv : Value) (h0 : Heap) (n0 : Nat) (Z0 : n0 ≤ h0.size) (O_0 : Old Z n0 h0) (S_sf : Sta Z Z.heap "jdk/internal/util/Preconditions" "SIOOBE_FORMATTER" "Ljava/util/function/BiFunction;" gv) (r_gv : gv.isRef = true) :
    MetN l Z (⟨"java/lang/String", "checkIndex", "(II)V"⟩ : MethodName) jdk_42_method_155_code 2 none [] ({ frames := 1, cells := 0, slots := 0, locals := 14 } : Room) #[(.int (0 : Int32)), (.int (1 : Int32))] h0 (Q19 Z gv h0 n0) := by
  refine met_n (plainFor_of_name pn_6) (fun m => ef_19 m (0 : Int32) (1 : Int32)) ?_
  intro p e s m below meth c s₁ X0 hx hby hml hZ hown hnm hret hlk e0
  replace hown : s.vm.findClass "java/lang/String" = some m.cls := hown
  replace hnm : meth.name = "checkIndex" := hnm
  replace hret : meth.sig.returnType = none := hret
  have N0 := Fr.nil n0
  have K0 : Keep h0 h0 [] := Keep.refl _ _
  show Ok p e below _ _ s₁ (mkF m 0 #[.val (.int (0 : Int32)), .val (.int (1 : Int32))] [])
  refine Ok.iloadN (pc' := 1) X0 hx (hb hby d19_0) rfl rfl ?_
  refine Ok.iloadN (pc' := 2) X0 hx (hb hby d19_1) rfl rfl ?_
  refine Ok.getS (pc' := 5) X0 hx hZ hown (host := "") (Or.inl (hw _ (List.mem_of_getElem? (i := 90) rfl))) Via.refl e0 (S_sf.ext O_0.2) (hb hby d19_2) rfl ?_
  intro T48 X48 e48
  refine Ok.callS (pc' := 8) (W := 0)  (argsL := [(.int (0 : Int32)), (.int (1 : Int32)), gv]) (rest := []) X48 hx hZ hown (rm18 l Z a0 hw gv h0 n0 Z0 r_gv) (hw _ (List.mem_of_getElem? (i := 92) rfl)) (hw _ (List.mem_of_getElem? (i := 93) rfl)) (hw _ (List.mem_of_getElem? (i := 91) rfl)) (hw _ (List.mem_of_getElem? (i := 94) rfl)) (by decide) e48 (by decide) (by decide) (by decide) (by decide) (lenOf pd_15 rfl) rfl rfl (Nat.le_of_eq rfl) (by rw [hml]; rfl) (hb hby d19_5) rfl ?_
  intro v49 T49 L49 X49 hQ49
  obtain ⟨rfl, Nq49, eq49⟩ := hQ49
  have N49 := Fr.app N0 Nq49
  show Ok p e below _ _ T49 (mkF m 8 #[.val (.int (0 : Int32)), .val (.int (1 : Int32))] [(.int (0 : Int32))])
  refine Ok.pop (pc' := 9) X49 hx (hb hby d19_8) rfl rfl ?_
  refine Ok.retV X49 hx hret hlk (hb hby d19_9) (by decide) (by decide) ?_
  show Q19 Z gv h0 n0 _ T49.heap _
  rw [eq49]
  exact ⟨rfl, N49, rfl⟩
theorem d20_0 : decode jdk_43_method_2_code 0 = .ok (.iload_n 1, 1) := by decide +kernel
theorem d20_1 : decode jdk_43_method_2_code 1 = .ok (.aload_n 0, 1) := by decide +kernel
theorem d20_2 : decode jdk_43_method_2_code 2 = .ok (.arraylength, 1) := by decide +kernel
theorem d20_3 : decode jdk_43_method_2_code 3 = .ok (.invokestatic 9, 3) := by decide +kernel
theorem d20_6 : decode jdk_43_method_2_code 6 = .ok (.aload_n 0, 1) := by decide +kernel
theorem d20_7 : decode jdk_43_method_2_code 7 = .ok (.iload_n 1, 1) := by decide +kernel
theorem d20_8 : decode jdk_43_method_2_code 8 = .ok (.baload, 1) := by decide +kernel
theorem d20_9 : decode jdk_43_method_2_code 9 = .ok (.sipush 255, 3) := by decide +kernel
theorem d20_12 : decode jdk_43_method_2_code 12 = .ok (.iand, 1) := by decide +kernel
theorem d20_13 : decode jdk_43_method_2_code 13 = .ok (.i2c, 1) := by decide +kernel
theorem d20_14 : decode jdk_43_method_2_code 14 = .ok (.ireturn, 1) := by decide +kernel
theorem ef_20 (m : MethodId) (x0 : Addr) (x1 : Int32) : entryFrame m #[(.ref x0), (.int x1)] 2 = mkF m 0 #[.val (.ref x0), .val (.int x1)] [] := by first | (simp [entryFrame, mkF, argsToLocals, Value.category]; done) | rfl
def Q20 (Z : State) (r1 : Addr) (k1 : ClassId) (y0 : Int32) (gv : Value) (h0 : Heap) (n0 : Nat) (v : Option Value) (h : Heap) (L : List Loc) : Prop := v = some (.int (y0 &&& (255 : Int32))) ∧ Fr n0 L ∧ h = h0
set_option maxRecDepth 65536 in
set_option maxHeartbeats 40000000 in
theorem rm20 (l : Launch) (Z : State) (a0 : Array Value) (hw : ∀ d ∈ tables_1, d.before a0 Z = true) (r1 : Addr) (k1 : ClassId) (y0 : Int32) (gv : Value) (h0 : Heap) (n0 : Nat) (Z0 : n0 ≤ h0.size) (V_1 : Arv Z h0 r1 k1 .byte (1 : Int32) [(.int y0)] (.int (0 : Int32))) (O_0 : Old Z n0 h0) (S_sf : Sta Z Z.heap "jdk/internal/util/Preconditions" "SIOOBE_FORMATTER" "Ljava/util/function/BiFunction;" gv) (r_gv : gv.isRef = true) :
    MetN l Z (⟨"java/lang/StringLatin1", "charAt", "([BI)C"⟩ : MethodName) jdk_43_method_2_code 2 (some .char) [] ({ frames := 2, cells := 0, slots := 0, locals := 27 } : Room) #[(.ref r1), (.int (0 : Int32))] h0 (Q20 Z r1 k1 y0 gv h0 n0) := by
  refine met_n (plainFor_of_name pn_5) (fun m => ef_20 m r1 (0 : Int32)) ?_
  intro p e s m below meth c s₁ X0 hx hby hml hZ hown hnm hret hlk e0
  replace hown : s.vm.findClass "java/lang/StringLatin1" = some m.cls := hown
  replace hnm : meth.name = "charAt" := hnm
  replace hret : meth.sig.returnType = (some .char) := hret
  have N0 := Fr.nil n0
  have K0 : Keep h0 h0 [] := Keep.refl _ _
  show Ok p e below _ _ s₁ (mkF m 0 #[.val (.ref r1), .val (.int (0 : Int32))] [])
  refine Ok.iloadN (pc' := 1) X0 hx (hb hby d20_0) rfl rfl ?_
  refine Ok.aloadN (pc' := 2) X0 hx (hb hby d20_1) rfl rfl rfl ?_
  refine Ok.len (pc' := 3) X0 hx hZ e0 V_1 (hb hby d20_2) rfl ?_
  refine Ok.callS (pc' := 6) (W := 0)  (argsL := [(.int (0 : Int32)), (.int (1 : Int32))]) (rest := []) X0 hx hZ hown (rm19 l Z a0 hw gv h0 n0 Z0 O_0 S_sf r_gv) (hw _ (List.mem_of_getElem? (i := 87) rfl)) (hw _ (List.mem_of_getElem? (i := 88) rfl)) (hw _ (List.mem_of_getElem? (i := 31) rfl)) (hw _ (List.mem_of_getElem? (i := 89) rfl)) (by decide) e0 (by decide) (by decide) (by decide) (by decide) (lenOf pd_14 rfl) rfl rfl (Nat.le_of_eq rfl) (by rw [hml]; rfl) (hb hby d20_3) rfl ?_
  intro v50 T50 L50 X50 hQ50
  obtain ⟨rfl, Nq50, eq50⟩ := hQ50
  have N50 := Fr.app N0 Nq50
  show Ok p e below _ _ T50 (mkF m 6 #[.val (.ref r1), .val (.int (0 : Int32))] [])
  refine Ok.aloadN (pc' := 7) X50 hx (hb hby d20_6) rfl rfl rfl ?_
  refine Ok.iloadN (pc' := 8) X50 hx (hb hby d20_7) rfl rfl ?_
  refine Ok.ldB (pc' := 9) (v := (.int y0)) X50 hx hZ eq50 V_1 ⟨by decide, by decide⟩ rfl (hb hby d20_8) rfl ?_
  refine Ok.sipush (z := (255 : Int32)) (pc' := 12) X50 hx (hb hby d20_9) rfl rfl ?_
  refine Ok.iand (pc' := 13) X50 hx (hb hby d20_12) rfl ?_
  refine Ok.i2c (pc' := 14) X50 hx (hb hby d20_13) rfl ?_
  rw [char255]
  refine Ok.retI X50 hx hret hlk (Or.inr (Or.inr (Or.inr (Or.inl rfl)))) (narrow_char_id (mask255 _).1 (by have := (mask255 y0).2; omega)) (hb hby d20_14) (by decide) (by decide) ?_
  show Q20 Z r1 k1 y0 gv h0 n0 _ T50.heap _
  rw [eq50]
  exact ⟨rfl, N50, rfl⟩
theorem d21_0 : decode jdk_42_method_56_code 0 = .ok (.aload_n 0, 1) := by decide +kernel
theorem d21_1 : decode jdk_42_method_56_code 1 = .ok (.invokevirtual 492, 3) := by decide +kernel
theorem d21_4 : decode jdk_42_method_56_code 4 = .ok (.ifCond .eq 12, 3) := by decide +kernel
theorem d21_7 : decode jdk_42_method_56_code 7 = .ok (.aload_n 0, 1) := by decide +kernel
theorem d21_8 : decode jdk_42_method_56_code 8 = .ok (.getfield 9, 3) := by decide +kernel
theorem d21_11 : decode jdk_42_method_56_code 11 = .ok (.iload_n 1, 1) := by decide +kernel
theorem d21_12 : decode jdk_42_method_56_code 12 = .ok (.invokestatic 495, 3) := by decide +kernel
theorem d21_15 : decode jdk_42_method_56_code 15 = .ok (.ireturn, 1) := by decide +kernel
theorem d21_16 : decode jdk_42_method_56_code 16 = .ok (.aload_n 0, 1) := by decide +kernel
theorem d21_17 : decode jdk_42_method_56_code 17 = .ok (.getfield 9, 3) := by decide +kernel
theorem d21_20 : decode jdk_42_method_56_code 20 = .ok (.iload_n 1, 1) := by decide +kernel
theorem d21_21 : decode jdk_42_method_56_code 21 = .ok (.invokestatic 498, 3) := by decide +kernel
theorem d21_24 : decode jdk_42_method_56_code 24 = .ok (.ireturn, 1) := by decide +kernel
theorem ef_21 (m : MethodId) (x0 : Addr) (x1 : Int32) : entryFrame m #[(.ref x0), (.int x1)] 2 = mkF m 0 #[.val (.ref x0), .val (.int x1)] [] := by first | (simp [entryFrame, mkF, argsToLocals, Value.category]; done) | rfl
def Q21 (Z : State) (a1 : Addr) (r1 : Addr) (k1 : ClassId) (y0 : Int32) (cs0 : Int32) (gv : Value) (h0 : Heap) (n0 : Nat) (v : Option Value) (h : Heap) (L : List Loc) : Prop := v = some (.int (y0 &&& (255 : Int32))) ∧ Fr n0 L ∧ h = h0
set_option maxRecDepth 65536 in
set_option maxHeartbeats 40000000 in
theorem rm21 (l : Launch) (Z : State) (a0 : Array Value) (hw : ∀ d ∈ tables_1, d.before a0 Z = true) (a1 : Addr) (r1 : Addr) (k1 : ClassId) (y0 : Int32) (cs0 : Int32) (gv : Value) (h0 : Heap) (n0 : Nat) (Z0 : n0 ≤ h0.size) (E_a1 : Exa Z h0 a1 "java/lang/String") (Fv : Fld Z h0 a1 "java/lang/String" "value" "[B" (.ref r1)) (Fc : Fld Z h0 a1 "java/lang/String" "coder" "B" (.int (0 : Int32))) (V_1 : Arv Z h0 r1 k1 .byte (1 : Int32) [(.int y0)] (.int (0 : Int32))) (O_0 : Old Z n0 h0) (S_cs : Sta Z Z.heap "java/lang/String" "COMPACT_STRINGS" "Z" (.int cs0)) (hcs : ¬ cs0.toInt = 0) (S_sf : Sta Z Z.heap "jdk/internal/util/Preconditions" "SIOOBE_FORMATTER" "Ljava/util/function/BiFunction;" gv) (r_gv : gv.isRef = true) :
    MetN l Z (⟨"java/lang/String", "charAt", "(I)C"⟩ : MethodName) jdk_42_method_56_code 2 (some .char) [] ({ frames := 3, cells := 0, slots := 0, locals := 40 } : Room) #[(.ref a1), (.int (0 : Int32))] h0 (Q21 Z a1 r1 k1 y0 cs0 gv h0 n0) := by
  refine met_n (plainFor_of_name pn_6) (fun m => ef_21 m a1 (0 : Int32)) ?_
  intro p e s m below meth c s₁ X0 hx hby hml hZ hown hnm hret hlk e0
  replace hown : s.vm.findClass "java/lang/String" = some m.cls := hown
  replace hnm : meth.name = "charAt" := hnm
  replace hret : meth.sig.returnType = (some .char) := hret
  have N0 := Fr.nil n0
  have K0 : Keep h0 h0 [] := Keep.refl _ _
  show Ok p e below _ _ s₁ (mkF m 0 #[.val (.ref a1), .val (.int (0 : Int32))] [])
  refine Ok.aloadN (pc' := 1) X0 hx (hb hby d21_0) rfl rfl rfl ?_
  refine Ok.virt (pc' := 4) (W := 0) (a := a1)  (argsL := []) (rest := []) X0 hx hZ hown (rm17 l Z a0 hw a1 r1 k1 y0 cs0 gv h0 n0 Z0 E_a1 Fv Fc V_1 O_0 S_cs hcs S_sf r_gv) (hw _ (List.mem_of_getElem? (i := 79) rfl)) (hw _ (List.mem_of_getElem? (i := 80) rfl)) (notFace_of_selects (args := #[]) (mvT hZ (hw _ (List.mem_of_getElem? (i := 82) rfl)))) (hw _ (List.mem_of_getElem? (i := 82) rfl)) (hw _ (List.mem_of_getElem? (i := 81) rfl)) (hw _ (List.mem_of_getElem? (i := 31) rfl)) (hw _ (List.mem_of_getElem? (i := 83) rfl)) (by decide) e0 E_a1 (by decide) (by decide) (by decide) (by decide) (lenOf pd_12 rfl) rfl rfl (Nat.le_of_eq rfl) (by rw [hml]; rfl) (hb hby d21_1) rfl ?_
  intro v51 T51 L51 X51 hQ51
  obtain ⟨rfl, Nq51, eq51⟩ := hQ51
  have N51 := Fr.app N0 Nq51
  show Ok p e below _ _ T51 (mkF m 4 #[.val (.ref a1), .val (.int (0 : Int32))] [(.int (1 : Int32))])
  refine Ok.ifN (pc' := 7) X51 hx (hb hby d21_4) (bf (i0 .eq (1 : Int32) (ic_eq (1 : Int32) 0).1) (by decide)) rfl ?_
  refine Ok.aloadN (pc' := 8) X51 hx (hb hby d21_7) rfl rfl rfl ?_
  refine Ok.getF (pc' := 11) X51 hx hZ hown (host := "") (Or.inl (hw _ (List.mem_of_getElem? (i := 49) rfl))) Via.refl eq51 Fv (hb hby d21_8) rfl ?_
  intro T52 X52 e52
  refine Ok.iloadN (pc' := 12) X52 hx (hb hby d21_11) rfl rfl ?_
  refine Ok.callS (pc' := 15) (W := 0)  (argsL := [(.ref r1), (.int (0 : Int32))]) (rest := []) X52 hx hZ hown (rm20 l Z a0 hw r1 k1 y0 gv h0 n0 Z0 V_1 O_0 S_sf r_gv) (hw _ (List.mem_of_getElem? (i := 84) rfl)) (hw _ (List.mem_of_getElem? (i := 85) rfl)) (hw _ (List.mem_of_getElem? (i := 36) rfl)) (hw _ (List.mem_of_getElem? (i := 86) rfl)) (by decide) e52 (by decide) (by decide) (by decide) (by decide) (lenOf pd_13 rfl) rfl rfl (Nat.le_of_eq rfl) (by rw [hml]; rfl) (hb hby d21_12) rfl ?_
  intro v53 T53 L53 X53 hQ53
  obtain ⟨rfl, Nq53, eq53⟩ := hQ53
  have N53 := Fr.app N51 Nq53
  show Ok p e below _ _ T53 (mkF m 15 #[.val (.ref a1), .val (.int (0 : Int32))] [(.int (y0 &&& (255 : Int32)))])
  refine Ok.retI X53 hx hret hlk (Or.inr (Or.inr (Or.inr (Or.inl rfl)))) (narrow_char_id (mask255 _).1 (by have := (mask255 y0).2; omega)) (hb hby d21_15) (by decide) (by decide) ?_
  show Q21 Z a1 r1 k1 y0 cs0 gv h0 n0 _ T53.heap _
  rw [eq53]
  exact ⟨rfl, N53, rfl⟩
theorem d22_0 : decode jdk_31_method_11_code 0 = .ok (.aload_n 0, 1) := by decide +kernel
theorem d22_1 : decode jdk_31_method_11_code 1 = .ok (.ifnonnull 12, 3) := by decide +kernel
theorem d22_4 : decode jdk_31_method_11_code 4 = .ok (.new 84, 3) := by decide +kernel
theorem d22_7 : decode jdk_31_method_11_code 7 = .ok (.dup, 1) := by decide +kernel
theorem d22_8 : decode jdk_31_method_11_code 8 = .ok (.aload_n 1, 1) := by decide +kernel
theorem d22_9 : decode jdk_31_method_11_code 9 = .ok (.invokespecial 87, 3) := by decide +kernel
theorem d22_13 : decode jdk_31_method_11_code 13 = .ok (.aload_n 0, 1) := by decide +kernel
theorem d22_14 : decode jdk_31_method_11_code 14 = .ok (.areturn, 1) := by decide +kernel
theorem pn_8 : plainName "java/util/Objects" = true := by first | (simp [plainName, overriddenIn]; done) | decide +kernel
theorem ef_22 (m : MethodId) (x0 : Addr) (x1 : Addr) : entryFrame m #[(.ref x0), (.ref x1)] 2 = mkF m 0 #[.val (.ref x0), .val (.ref x1)] [] := by first | (simp [entryFrame, mkF, argsToLocals, Value.category]; done) | rfl
def Q22 (Z : State) (a1 : Addr) (a2 : Addr) (h0 : Heap) (n0 : Nat) (v : Option Value) (h : Heap) (L : List Loc) : Prop := v = some (.ref a1) ∧ Fr n0 L ∧ h = h0
set_option maxRecDepth 65536 in
set_option maxHeartbeats 40000000 in
theorem rm22 (l : Launch) (Z : State) (a0 : Array Value) (hw : ∀ d ∈ tables_1, d.before a0 Z = true) (a1 : Addr) (a2 : Addr) (h0 : Heap) (n0 : Nat) (Z0 : n0 ≤ h0.size)  :
    MetN l Z (⟨"java/util/Objects", "requireNonNull", "(Ljava/lang/Object;Ljava/lang/String;)Ljava/lang/Object;"⟩ : MethodName) jdk_31_method_11_code 2 (some (.object "java/lang/Object")) [] ({ frames := 0, cells := 0, slots := 0, locals := 0 } : Room) #[(.ref a1), (.ref a2)] h0 (Q22 Z a1 a2 h0 n0) := by
  refine met_n (plainFor_of_name pn_8) (fun m => ef_22 m a1 a2) ?_
  intro p e s m below meth c s₁ X0 hx hby hml hZ hown hnm hret hlk e0
  replace hown : s.vm.findClass "java/util/Objects" = some m.cls := hown
  replace hnm : meth.name = "requireNonNull" := hnm
  replace hret : meth.sig.returnType = (some (.object "java/lang/Object")) := hret
  have N0 := Fr.nil n0
  have K0 : Keep h0 h0 [] := Keep.refl _ _
  show Ok p e below _ _ s₁ (mkF m 0 #[.val (.ref a1), .val (.ref a2)] [])
  refine Ok.aloadN (pc' := 1) X0 hx (hb hby d22_0) rfl rfl rfl ?_
  refine Ok.nonnullY (pc' := 13) X0 hx (hb hby d22_1) (by decide) (by decide) ?_
  refine Ok.aloadN (pc' := 14) X0 hx (hb hby d22_13) rfl rfl rfl ?_
  refine Ok.retA X0 hx hret hlk rfl rfl rfl (hb hby d22_14) (by decide) (by decide) ?_
  show Q22 Z a1 a2 h0 n0 _ s₁.heap _
  rw [e0]
  exact ⟨rfl, N0, rfl⟩
theorem d23_0 : decode prog_55_method_1_code 0 = .ok (.aload_n 0, 1) := by decide +kernel
theorem d23_1 : decode prog_55_method_1_code 1 = .ok (.invokespecial 1, 3) := by decide +kernel
theorem d23_4 : decode prog_55_method_1_code 4 = .ok (.aload_n 1, 1) := by decide +kernel
theorem d23_5 : decode prog_55_method_1_code 5 = .ok (.ldc 7, 2) := by decide +kernel
theorem d23_7 : decode prog_55_method_1_code 7 = .ok (.invokestatic 9, 3) := by decide +kernel
theorem d23_10 : decode prog_55_method_1_code 10 = .ok (.pop, 1) := by decide +kernel
theorem d23_11 : decode prog_55_method_1_code 11 = .ok (.iconst 0, 1) := by decide +kernel
theorem d23_12 : decode prog_55_method_1_code 12 = .ok (.istore_n 2, 1) := by decide +kernel
theorem d23_13 : decode prog_55_method_1_code 13 = .ok (.iload_n 2, 1) := by decide +kernel
theorem d23_14 : decode prog_55_method_1_code 14 = .ok (.aload_n 1, 1) := by decide +kernel
theorem d23_15 : decode prog_55_method_1_code 15 = .ok (.invokevirtual 15, 3) := by decide +kernel
theorem d23_18 : decode prog_55_method_1_code 18 = .ok (.if_icmp .ge 48, 3) := by decide +kernel
theorem d23_21 : decode prog_55_method_1_code 21 = .ok (.aload_n 1, 1) := by decide +kernel
theorem d23_22 : decode prog_55_method_1_code 22 = .ok (.iload_n 2, 1) := by decide +kernel
theorem d23_23 : decode prog_55_method_1_code 23 = .ok (.invokevirtual 21, 3) := by decide +kernel
theorem d23_26 : decode prog_55_method_1_code 26 = .ok (.invokestatic 25, 3) := by decide +kernel
theorem d23_29 : decode prog_55_method_1_code 29 = .ok (.ifCond .ne 31, 3) := by decide +kernel
theorem d23_32 : decode prog_55_method_1_code 32 = .ok (.new 31, 3) := by decide +kernel
theorem d23_35 : decode prog_55_method_1_code 35 = .ok (.dup, 1) := by decide +kernel
theorem d23_36 : decode prog_55_method_1_code 36 = .ok (.aload_n 1, 1) := by decide +kernel
theorem d23_37 : decode prog_55_method_1_code 37 = .ok (.ldc 33, 2) := by decide +kernel
theorem d23_39 : decode prog_55_method_1_code 39 = .ok (.ldc 35, 2) := by decide +kernel
theorem d23_41 : decode prog_55_method_1_code 41 = .ok (.invokevirtual 37, 3) := by decide +kernel
theorem d23_44 : decode prog_55_method_1_code 44 = .ok (.ldc 41, 2) := by decide +kernel
theorem d23_46 : decode prog_55_method_1_code 46 = .ok (.ldc 43, 2) := by decide +kernel
theorem d23_48 : decode prog_55_method_1_code 48 = .ok (.invokevirtual 37, 3) := by decide +kernel
theorem d23_56 : decode prog_55_method_1_code 56 = .ok (.invokespecial 49, 3) := by decide +kernel
theorem d23_60 : decode prog_55_method_1_code 60 = .ok (.iinc 2 1, 3) := by decide +kernel
theorem d23_63 : decode prog_55_method_1_code 63 = .ok (.goto (-50), 3) := by decide +kernel
theorem d23_66 : decode prog_55_method_1_code 66 = .ok (.aload_n 0, 1) := by decide +kernel
theorem d23_67 : decode prog_55_method_1_code 67 = .ok (.aload_n 1, 1) := by decide +kernel
theorem d23_68 : decode prog_55_method_1_code 68 = .ok (.putfield 52, 3) := by decide +kernel
theorem d23_71 : decode prog_55_method_1_code 71 = .ok (.return_, 1) := by decide +kernel
theorem ef_23 (m : MethodId) (x0 : Addr) (x1 : Addr) : entryFrame m #[(.ref x0), (.ref x1)] 3 = mkF m 0 #[.val (.ref x0), .val (.ref x1), .unset] [] := by first | (simp [entryFrame, mkF, argsToLocals, Value.category]; done) | rfl
def Q23 (Z : State) (a1 : Addr) (a2 : Addr) (r2 : Addr) (k2 : ClassId) (c0 : Int32) (u_text : Value) (cs0 : Int32) (gv : Value) (h0 : Heap) (n0 : Nat) (v : Option Value) (h : Heap) (L : List Loc) : Prop := v = none ∧ Fr n0 L ∧ Keep h0 h [a1] ∧ Exa Z h a1 "com/example/datenschutz/datenschutz/event/StringValue"
set_option maxRecDepth 65536 in
set_option maxHeartbeats 40000000 in
theorem rm23 (l : Launch) (Z : State) (a0 : Array Value) (hw : ∀ d ∈ tables_1, d.before a0 Z = true) (a1 : Addr) (a2 : Addr) (r2 : Addr) (k2 : ClassId) (c0 : Int32) (u_text : Value) (cs0 : Int32) (gv : Value) (h0 : Heap) (n0 : Nat) (Z0 : n0 ≤ h0.size) (E_a1 : Exa Z h0 a1 "com/example/datenschutz/datenschutz/event/StringValue") (g_a1 : n0 ≤ a1) (F_text : Fld Z h0 a1 "com/example/datenschutz/datenschutz/event/StringValue" "text" "Ljava/lang/String;" u_text) (E_a2 : Exa Z h0 a2 "java/lang/String") (Fv : Fld Z h0 a2 "java/lang/String" "value" "[B" (.ref r2)) (Fc : Fld Z h0 a2 "java/lang/String" "coder" "B" (.int (0 : Int32))) (V_2 : Arv Z h0 r2 k2 .byte (1 : Int32) [(.int c0.toInt8.toInt32.toInt8.toInt32)] (.int (0 : Int32))) (hc0 : 0 ≤ c0.toInt ∧ c0.toInt ≤ 255) (hch : ¬ c0.toInt = 34 ∧ ¬ c0.toInt = 10 ∧ ¬ c0.toInt = 13) (O_0 : Old Z n0 h0) (S_cs : Sta Z Z.heap "java/lang/String" "COMPACT_STRINGS" "Z" (.int cs0)) (hcs : ¬ cs0.toInt = 0) (S_sf : Sta Z Z.heap "jdk/internal/util/Preconditions" "SIOOBE_FORMATTER" "Ljava/util/function/BiFunction;" gv) (r_gv : gv.isRef = true) :
    MetW l Z (⟨"com/example/datenschutz/datenschutz/event/StringValue", "<init>", "(Ljava/lang/String;)V"⟩ : MethodName) prog_55_method_1_code 3 none [] ({ frames := 4, cells := 2, slots := 20, locals := 53 } : Room) #[(.ref a1), (.ref a2)] h0 (Q23 Z a1 a2 r2 k2 c0 u_text cs0 gv h0 n0) := by
  refine met_w (plainFor_of_name pn_4) (fun m => ef_23 m a1 a2) ?_
  intro p e s m below meth c s₁ V0 nS0 X0 hx hby hml hZ0 hown0 hnm hret hlk e0 hS0 hSn0
  replace hown0 : V0.findClass "com/example/datenschutz/datenschutz/event/StringValue" = some m.cls := hown0
  replace hnm : meth.name = "<init>" := hnm
  replace hret : meth.sig.returnType = none := hret
  have N0 := Fr.nil n0
  have K0 : Keep h0 h0 [a1] := Keep.refl _ _
  show Ok p e below _ _ s₁ (mkF m 0 #[.val (.ref a1), .val (.ref a2), .unset] [])
  refine Ok.aloadN (pc' := 1) X0 hx (hb hby d23_0) rfl rfl rfl ?_
  refine Ok.init (pc' := 4) (W := 0) (a := a1)  (argsL := []) (rest := []) X0 hx hZ0 hown0 (rm2 l Z a0 hw a1 h0 n0 Z0 ) rfl (hw _ (List.mem_of_getElem? (i := 56) rfl)) (hw _ (List.mem_of_getElem? (i := 7) rfl)) (hw _ (List.mem_of_getElem? (i := 9) rfl)) (hw _ (List.mem_of_getElem? (i := 10) rfl)) (by decide) e0 (by decide) (by decide) (by decide) (by decide) (lenOf pd_1 rfl) rfl rfl (Nat.le_of_eq rfl) (by rw [hml]; rfl) (hb hby d23_1) rfl ?_
  intro v54 T54 L54 X54 hQ54
  obtain ⟨rfl, Nq54, eq54⟩ := hQ54
  have N54 := Fr.app N0 Nq54
  show Ok p e below _ _ T54 (mkF m 4 #[.val (.ref a1), .val (.ref a2), .unset] [])
  refine Ok.aloadN (pc' := 5) X54 hx (hb hby d23_4) rfl rfl rfl ?_
  refine Ok.ldcS (pc' := 7) (N := 16) X54 hx hZ0 hown0 hS0 hSn0 (hw _ (List.mem_of_getElem? (i := 57) rfl)) (wStr hw) eq54 (by decide) (by decide) (by decide) (by decide) (hb hby d23_5) rfl ?_
  intro lc55 T55 h55 nS55 X55 hZ55 hown55 hS55 hSn55 e55 E55
  replace E_a1 := E_a1.ext E55
  replace F_text := F_text.ext E55
  replace E_a2 := E_a2.ext E55
  replace Fv := Fv.ext E55
  replace Fc := Fc.ext E55
  replace V_2 := V_2.ext E55
  replace O_0 := O_0.ext E55
  have K55 : Keep h0 h55 [a1] := K0.ext E55
  have Z56 : n0 ≤ h55.size := Nat.le_trans Z0 E55.1
  show Ok p e below _ _ T55 (mkF m 7 #[.val (.ref a1), .val (.ref a2), .unset] [(.ref lc55), (.ref a2)])
  refine Ok.callS (pc' := 10) (W := 0)  (argsL := [(.ref a2), (.ref lc55)]) (rest := []) X55 hx hZ55 hown55 (rm22 l Z a0 hw a2 lc55 h55 n0 Z56 ) (hw _ (List.mem_of_getElem? (i := 60) rfl)) (hw _ (List.mem_of_getElem? (i := 61) rfl)) (hw _ (List.mem_of_getElem? (i := 62) rfl)) (hw _ (List.mem_of_getElem? (i := 63) rfl)) (by decide) e55 (by decide) (by decide) (by decide) (by decide) (lenOf pd_8 rfl) rfl rfl (Nat.le_of_eq rfl) (by rw [hml]; rfl) (hb hby d23_7) rfl ?_
  intro v57 T57 L57 X57 hQ57
  obtain ⟨rfl, Nq57, eq57⟩ := hQ57
  have N57 := Fr.app N54 Nq57
  show Ok p e below _ _ T57 (mkF m 10 #[.val (.ref a1), .val (.ref a2), .unset] [(.ref a2)])
  refine Ok.pop (pc' := 11) X57 hx (hb hby d23_10) rfl rfl ?_
  refine Ok.iconst (z := (0 : Int32)) (pc' := 12) X57 hx (hb hby d23_11) rfl rfl ?_
  refine Ok.istoreN (l' := #[.val (.ref a1), .val (.ref a2), .val (.int (0 : Int32))]) (pc' := 13) X57 hx (hb hby d23_12) rfl rfl ?_
  refine Ok.iloadN (pc' := 14) X57 hx (hb hby d23_13) rfl rfl ?_
  refine Ok.aloadN (pc' := 15) X57 hx (hb hby d23_14) rfl rfl rfl ?_
  refine Ok.virt (pc' := 18) (W := 1) (a := a2)  (argsL := []) (rest := [(.int (0 : Int32))]) X57 hx hZ55 hown55 (rm16 l Z a0 hw a2 r2 k2 c0.toInt8.toInt32.toInt8.toInt32 cs0 h55 n0 Z56 E_a2 Fv Fc V_2 O_0 S_cs hcs) (hw _ (List.mem_of_getElem? (i := 64) rfl)) (hw _ (List.mem_of_getElem? (i := 65) rfl)) (notFace_of_selects (args := #[]) (mvT (s := s.setVm _) hZ55 (hw _ (List.mem_of_getElem? (i := 67) rfl)))) (hw _ (List.mem_of_getElem? (i := 67) rfl)) (hw _ (List.mem_of_getElem? (i := 66) rfl)) (hw _ (List.mem_of_getElem? (i := 31) rfl)) (hw _ (List.mem_of_getElem? (i := 68) rfl)) (by decide) eq57 E_a2 (by decide) (by decide) (by decide) (by decide) (lenOf pd_9 rfl) rfl rfl (Nat.le_of_eq rfl) (by rw [hml]; rfl) (hb hby d23_15) rfl ?_
  intro v58 T58 L58 X58 hQ58
  obtain ⟨rfl, Nq58, eq58⟩ := hQ58
  have N58 := Fr.app N57 Nq58
  show Ok p e below _ _ T58 (mkF m 18 #[.val (.ref a1), .val (.ref a2), .val (.int (0 : Int32))] [(.int (1 : Int32)), (.int (0 : Int32))])
  refine Ok.icN (pc' := 21) X58 hx (hb hby d23_18) (bf (ic_eq (0 : Int32) (1 : Int32)).2.2.2.1 (by decide)) rfl ?_
  refine Ok.aloadN (pc' := 22) X58 hx (hb hby d23_21) rfl rfl rfl ?_
  refine Ok.iloadN (pc' := 23) X58 hx (hb hby d23_22) rfl rfl ?_
  refine Ok.virt (pc' := 26) (W := 0) (a := a2)  (argsL := [(.int (0 : Int32))]) (rest := []) X58 hx hZ55 hown55 (rm21 l Z a0 hw a2 r2 k2 c0.toInt8.toInt32.toInt8.toInt32 cs0 gv h55 n0 Z56 E_a2 Fv Fc V_2 O_0 S_cs hcs S_sf r_gv) (hw _ (List.mem_of_getElem? (i := 74) rfl)) (hw _ (List.mem_of_getElem? (i := 75) rfl)) (notFace_of_selects (args := #[]) (mvT (s := s.setVm _) hZ55 (hw _ (List.mem_of_getElem? (i := 77) rfl)))) (hw _ (List.mem_of_getElem? (i := 77) rfl)) (hw _ (List.mem_of_getElem? (i := 76) rfl)) (hw _ (List.mem_of_getElem? (i := 31) rfl)) (hw _ (List.mem_of_getElem? (i := 78) rfl)) (by decide) eq58 E_a2 (by decide) (by decide) (by decide) (by decide) (lenOf pd_11 rfl) rfl rfl (Nat.le_of_eq rfl) (by rw [hml]; rfl) (hb hby d23_23) rfl ?_
  intro v59 T59 L59 X59 hQ59
  obtain ⟨rfl, Nq59, eq59⟩ := hQ59
  have N59 := Fr.app N58 Nq59
  show Ok p e below _ _ T59 (mkF m 26 #[.val (.ref a1), .val (.ref a2), .val (.int (0 : Int32))] [(.int (c0.toInt8.toInt32.toInt8.toInt32 &&& (255 : Int32)))])
  rw [byte_back hc0.1 hc0.2]
  refine Ok.callS (pc' := 29) (W := 0)  (argsL := [(.int c0)]) (rest := []) X59 hx hZ55 hown55 (rm10 l Z a0 hw c0 h55 n0 Z56 ) (hw _ (List.mem_of_getElem? (i := 95) rfl)) (hw _ (List.mem_of_getElem? (i := 24) rfl)) (hw _ (List.mem_of_getElem? (i := 25) rfl)) (hw _ (List.mem_of_getElem? (i := 26) rfl)) (by decide) eq59 (by decide) (by decide) (by decide) (by decide) (lenOf pd_3 rfl) rfl rfl (Nat.le_of_eq rfl) (by rw [hml]; rfl) (hb hby d23_26) rfl ?_
  intro v60 T60 L60 X60 hQ60
  obtain ⟨b60, rfl, hb60, Nq60, eq60⟩ := hQ60
  have N60 := Fr.app N59 Nq60
  show Ok p e below _ _ T60 (mkF m 29 #[.val (.ref a1), .val (.ref a2), .val (.int (0 : Int32))] [(.int b60)])
  refine Ok.ifY (pc' := 60) X60 hx (hb hby d23_29) (bt (i0 .ne b60 (ic_eq b60 0).2.1) (show ¬ b60.toInt = 0 from (by omega))) (by decide) (by decide) ?_
  refine Ok.iinc (z := (1 : Int32)) (l' := #[.val (.ref a1), .val (.ref a2), .val (.int (1 : Int32))]) (pc' := 63) X60 hx (hb hby d23_60) rfl rfl rfl rfl ?_
  refine Ok.goto (pc' := 13) X60 hx (hb hby d23_63) (by decide) (by decide) ?_
  refine Ok.iloadN (pc' := 14) X60 hx (hb hby d23_13) rfl rfl ?_
  refine Ok.aloadN (pc' := 15) X60 hx (hb hby d23_14) rfl rfl rfl ?_
  refine Ok.virt (pc' := 18) (W := 1) (a := a2)  (argsL := []) (rest := [(.int (1 : Int32))]) X60 hx hZ55 hown55 (rm16 l Z a0 hw a2 r2 k2 c0.toInt8.toInt32.toInt8.toInt32 cs0 h55 n0 Z56 E_a2 Fv Fc V_2 O_0 S_cs hcs) (hw _ (List.mem_of_getElem? (i := 64) rfl)) (hw _ (List.mem_of_getElem? (i := 65) rfl)) (notFace_of_selects (args := #[]) (mvT (s := s.setVm _) hZ55 (hw _ (List.mem_of_getElem? (i := 67) rfl)))) (hw _ (List.mem_of_getElem? (i := 67) rfl)) (hw _ (List.mem_of_getElem? (i := 66) rfl)) (hw _ (List.mem_of_getElem? (i := 31) rfl)) (hw _ (List.mem_of_getElem? (i := 68) rfl)) (by decide) eq60 E_a2 (by decide) (by decide) (by decide) (by decide) (lenOf pd_9 rfl) rfl rfl (Nat.le_of_eq rfl) (by rw [hml]; rfl) (hb hby d23_15) rfl ?_
  intro v61 T61 L61 X61 hQ61
  obtain ⟨rfl, Nq61, eq61⟩ := hQ61
  have N61 := Fr.app N60 Nq61
  show Ok p e below _ _ T61 (mkF m 18 #[.val (.ref a1), .val (.ref a2), .val (.int (1 : Int32))] [(.int (1 : Int32)), (.int (1 : Int32))])
  refine Ok.icY (pc' := 66) X61 hx (hb hby d23_18) (bt (ic_eq (1 : Int32) (1 : Int32)).2.2.2.1 (by decide)) (by decide) (by decide) ?_
  refine Ok.aloadN (pc' := 67) X61 hx (hb hby d23_66) rfl rfl rfl ?_
  refine Ok.aloadN (pc' := 68) X61 hx (hb hby d23_67) rfl rfl rfl ?_
  refine Ok.putF (pc' := 71) (ty := (.object "java/lang/String")) X61 hx hZ55 hown55 (host := "") (Or.inl (hw _ (List.mem_of_getElem? (i := 96) rfl))) Via.refl eq61 F_text E_a1 (Or.inr ⟨(hw _ (List.mem_of_getElem? (i := 97) rfl)), rfl, hnm⟩) (hw _ (List.mem_of_getElem? (i := 28) rfl)) (by decide) rfl rfl (hb hby d23_68) rfl ?_
  intro T62 h62 X62 e62 W62
  replace F_text := F_text.same W62
  replace E_a1 := E_a1.wr W62
  replace O_0 := O_0.wr W62 g_a1
  have N62 := Fr.snoc X62 N61 g_a1
  have K62 : Keep h0 h62 [a1] := K55.wr W62 (Or.inl (List.mem_of_getElem? (i := 0) rfl))
  have Z63 : n0 ≤ h62.size := Nat.le_trans Z56 (Keep.of_wr W62).1
  have hSn63 : _ ≤ h62.size := Nat.le_trans hSn55 (Keep.of_wr W62).1
  refine Ok.retVW X62 hx hS55 (by rw [e62]; exact hSn63) hret hlk (hb hby d23_71) (by decide) (by decide) ?_
  show Q23 Z a1 a2 r2 k2 c0 u_text cs0 gv h0 n0 _ T62.heap _
  rw [e62]
  exact ⟨rfl, N62, K62, E_a1⟩
theorem pn_9 : plainName "com/example/datenschutz/datenschutz/event/IntegerValueEqualsPinLaw" = true := by first | (simp [plainName, overriddenIn]; done) | decide +kernel
theorem ef_0 (m : MethodId) (x0 : Int64) (x1 : Int64) (x2 : Int32) (x3 : Int32) : entryFrame m #[(.long x0), (.long x1), (.int x2), (.int x3)] maxLocals = mkF m 0 #[.val (.long x0), .second, .val (.long x1), .second, .val (.int x2), .val (.int x3), .unset, .unset, .unset, .unset, .unset, .unset, .unset] [] := by first | (simp [entryFrame, mkF, argsToLocals, Value.category, maxLocals]; done) | rfl
def Q0 (Z : State) (p1 : Int64) (p2 : Int64) (p3 : Int32) (p4 : Int32) (cs0 : Int32) (gv : Value) (ca : Addr) (cc : Cell) (bv : Int32 → Value) (h0 : Heap) (n0 : Nat) (v : Option Value) (h : Heap) (L : List Loc) : Prop := v = some (.int (1 : Int32)) ∧ Fr n0 L
set_option maxRecDepth 65536 in
set_option maxHeartbeats 40000000 in
theorem rm0 (l : Launch) (Z : State) (a0 : Array Value) (hw : ∀ d ∈ tables_1, d.before a0 Z = true) (ws : List Jvm.Cond) (p1 : Int64) (p2 : Int64) (p3 : Int32) (p4 : Int32) (cs0 : Int32) (gv : Value) (ca : Addr) (cc : Cell) (bv : Int32 → Value) (h0 : Heap) (n0 : Nat) (Z0 : n0 ≤ h0.size) (O_0 : Old Z n0 h0) (S_cs : Sta Z Z.heap "java/lang/String" "COMPACT_STRINGS" "Z" (.int cs0)) (hcs : ¬ cs0.toInt = 0) (S_sf : Sta Z Z.heap "jdk/internal/util/Preconditions" "SIOOBE_FORMATTER" "Ljava/util/function/BiFunction;" gv) (r_gv : gv.isRef = true) (S_cache : Sta Z Z.heap "java/lang/Long$LongCache" "cache" "[Ljava/lang/Long;" (.ref ca)) (B_x : Bxs Z ca cc "java/lang/Long" "J" (256 : Int32) bv) :
    MetW l Z x code maxLocals ret ws room_1 #[(.long p1), (.long p2), (.int p3), (.int p4)] h0 (Q0 Z p1 p2 p3 p4 cs0 gv ca cc bv h0 n0) := by
  refine met_w (plainFor_of_name pn_9) (fun m => ef_0 m p1 p2 p3 p4) ?_
  intro p e s m below meth c s₁ V0 nS0 X0 hx hby hml hZ0 hown0 hnm hret hlk e0 hS0 hSn0
  replace hown0 : V0.findClass "com/example/datenschutz/datenschutz/event/IntegerValueEqualsPinLaw" = some m.cls := hown0
  replace hnm : meth.name = "law" := hnm
  replace hret : meth.sig.returnType = (some .boolean) := hret
  have N0 := Fr.nil n0
  have K0 : Keep h0 h0 [] := Keep.refl _ _
  show Ok p e below _ _ s₁ (mkF m 0 #[.val (.long p1), .second, .val (.long p2), .second, .val (.int p3), .val (.int p4), .unset, .unset, .unset, .unset, .unset, .unset, .unset] [])
  refine Ok.new (pc' := 3) X0 hx hZ0 hown0 (hw _ (List.mem_of_getElem? (i := 0) rfl)) (hw _ (List.mem_of_getElem? (i := 1) rfl)) (hw _ (List.mem_of_getElem? (i := 2) rfl)) e0 (hb hby at_0) rfl (by decide) (by decide) ?_
  intro T64 h64 b64 g64 X64 e64 E64 A64 D64
  replace O_0 := O_0.ext E64
  have ge_b64 : n0 ≤ b64 := Nat.le_trans Z0 (Nat.le_of_eq g64.symm)
  have sz_b64 : h0.size ≤ b64 := Nat.le_trans K0.1 (Nat.le_of_eq g64.symm)
  have K64 : Keep h0 h64 [] := K0.ext E64
  have Z65 : n0 ≤ h64.size := Nat.le_trans Z0 E64.1
  have hSn65 : _ ≤ h64.size := Nat.le_trans hSn0 E64.1
  have F64_value : Fld Z h64 b64 "com/example/datenschutz/datenschutz/event/IntegerValue" "value" "J" (.long (0 : Int64)) := D64 (Or.inr (hw _ (List.mem_of_getElem? (i := 15) rfl))) (ty := .long) (by decide)
  show Ok p e below _ _ T64 (mkF m 3 #[.val (.long p1), .second, .val (.long p2), .second, .val (.int p3), .val (.int p4), .unset, .unset, .unset, .unset, .unset, .unset, .unset] [(.ref b64)])
  refine Ok.dup (pc' := 4) X64 hx (hb hby at_3) rfl rfl ?_
  refine Ok.lloadN (pc' := 5) X64 hx (hb hby at_4) rfl rfl ?_
  refine Ok.init (pc' := 8) (W := 1) (a := b64)  (argsL := [(.long p1)]) (rest := [(.ref b64)]) X64 hx hZ0 hown0 (rm1 l Z a0 hw b64 p1 (.long (0 : Int64)) h64 n0 Z65 A64 ge_b64 F64_value) rfl (hw _ (List.mem_of_getElem? (i := 3) rfl)) (hw _ (List.mem_of_getElem? (i := 4) rfl)) (hw _ (List.mem_of_getElem? (i := 2) rfl)) (hw _ (List.mem_of_getElem? (i := 5) rfl)) (by decide) e64 (by decide) (by decide) (by decide) (by decide) (lenOf pd_0 rfl) rfl rfl (Nat.le_of_eq rfl) (by rw [hml]; rfl) (hb hby at_5) rfl ?_
  intro v66 T66 L66 X66 hQ66
  obtain ⟨rfl, Nq66, Kq66, Aq66, Fq66_value⟩ := hQ66
  have N66 := Fr.app N0 Nq66
  replace O_0 := O_0.keep Kq66 (allS ge_b64 all0)
  replace A64 := A64.keep Kq66
  have K66' : Keep h0 T66.heap [] := K64.trans Kq66 (allS (Or.inr sz_b64) all0)
  have Z67 : n0 ≤ T66.heap.size := Nat.le_trans Z65 Kq66.1
  have hSn67 : _ ≤ T66.heap.size := Nat.le_trans hSn65 Kq66.1
  show Ok p e below _ _ T66 (mkF m 8 #[.val (.long p1), .second, .val (.long p2), .second, .val (.int p3), .val (.int p4), .unset, .unset, .unset, .unset, .unset, .unset, .unset] [(.ref b64)])
  refine Ok.astore (l' := #[.val (.long p1), .second, .val (.long p2), .second, .val (.int p3), .val (.int p4), .val (.ref b64), .unset, .unset, .unset, .unset, .unset, .unset]) (pc' := 10) X66 hx (hb hby at_8) rfl rfl rfl ?_
  have k22 : ∀ (bb : Int64), Ok p e below (WE s room_1.cells room_1.slots) (Q0 Z p1 p2 p3 p4 cs0 gv ca cc bv h0 n0) T66 (mkF m 22 #[.val (.long p1), .second, .val (.long p2), .second, .val (.int p3), .val (.int p4), .val (.ref b64), .unset, .unset, .unset, .unset, .unset, .unset] [(.long bb)]) := by
    intro bb
    refine Ok.lstore (l' := #[.val (.long p1), .second, .val (.long p2), .second, .val (.int p3), .val (.int p4), .val (.ref b64), .val (.long bb), .second, .unset, .unset, .unset, .unset]) (pc' := 24) X66 hx (hb hby at_22) rfl rfl ?_
    refine Ok.iload (pc' := 26) X66 hx (hb hby at_24) rfl rfl ?_
    refine Ok.iconst (z := (1 : Int32)) (pc' := 27) X66 hx (hb hby at_26) rfl rfl ?_
    refine Ok.iushr (pc' := 28) X66 hx (hb hby at_27) rfl ?_
    refine Ok.iconst (z := (3 : Int32)) (pc' := 29) X66 hx (hb hby at_28) rfl rfl ?_
    refine Ok.iand (pc' := 30) X66 hx (hb hby at_29) rfl ?_
    refine Ok.istore (l' := #[.val (.long p1), .second, .val (.long p2), .second, .val (.int p3), .val (.int p4), .val (.ref b64), .val (.long bb), .second, .val (.int (((p3.toUInt32 >>> ((1 : Int32) &&& 31).toUInt32).toInt32) &&& (3 : Int32))), .unset, .unset, .unset]) (pc' := 32) X66 hx (hb hby at_30) rfl rfl ?_
    refine Ok.iload (pc' := 34) X66 hx (hb hby at_32) rfl rfl ?_
    by_cases hc34 : ¬ (((p3.toUInt32 >>> ((1 : Int32) &&& 31).toUInt32).toInt32) &&& (3 : Int32)).toInt = 0
    · refine Ok.ifY (pc' := 65) X66 hx (hb hby at_34) (bt (i0 .ne (((p3.toUInt32 >>> ((1 : Int32) &&& 31).toUInt32).toInt32) &&& (3 : Int32)) (ic_eq (((p3.toUInt32 >>> ((1 : Int32) &&& 31).toUInt32).toInt32) &&& (3 : Int32)) 0).2.1) hc34) (by decide) (by decide) ?_
      refine Ok.iload (pc' := 67) X66 hx (hb hby at_65) rfl rfl ?_
      refine Ok.iconst (z := (1 : Int32)) (pc' := 68) X66 hx (hb hby at_67) rfl rfl ?_
      by_cases hc68 : ¬ (((p3.toUInt32 >>> ((1 : Int32) &&& 31).toUInt32).toInt32) &&& (3 : Int32)).toInt = 1
      · refine Ok.icY (pc' := 80) X66 hx (hb hby at_68) (bt (ic_eq (((p3.toUInt32 >>> ((1 : Int32) &&& 31).toUInt32).toInt32) &&& (3 : Int32)) (1 : Int32)).2.1 hc68) (by decide) (by decide) ?_
        refine Ok.iload (pc' := 82) X66 hx (hb hby at_80) rfl rfl ?_
        refine Ok.iconst (z := (2 : Int32)) (pc' := 83) X66 hx (hb hby at_82) rfl rfl ?_
        by_cases hc83 : ¬ (((p3.toUInt32 >>> ((1 : Int32) &&& 31).toUInt32).toInt32) &&& (3 : Int32)).toInt = 2
        · refine Ok.icY (pc' := 127) X66 hx (hb hby at_83) (bt (ic_eq (((p3.toUInt32 >>> ((1 : Int32) &&& 31).toUInt32).toInt32) &&& (3 : Int32)) (2 : Int32)).2.1 hc83) (by decide) (by decide) ?_
          refine Ok.lloadN (pc' := 128) X66 hx (hb hby at_127) rfl rfl ?_
          refine Ok.callS (pc' := 131) (W := 0)  (argsL := [(.long p1)]) (rest := []) X66 hx hZ0 hown0 (rm5 l Z a0 hw p1 ca cc bv T66.heap n0 Z67 O_0 S_cache B_x) (hw _ (List.mem_of_getElem? (i := 101) rfl)) (hw _ (List.mem_of_getElem? (i := 102) rfl)) (hw _ (List.mem_of_getElem? (i := 103) rfl)) (hw _ (List.mem_of_getElem? (i := 104) rfl)) (by decide) rfl (by decide) (by decide) (by decide) (by decide) (lenOf pd_16 rfl) rfl rfl (Nat.le_of_eq rfl) (by rw [hml]; rfl) (hb hby at_128) rfl ?_
          intro v68 T68 L68 X68 hQ68
          obtain ⟨r68, rfl, Nq68, Kq68, A68⟩ := hQ68
          have N68 := Fr.app N66 Nq68
          replace O_0 := O_0.keep Kq68 all0
          replace A64 := A64.keep Kq68
          replace Fq66_value := Fq66_value.keep Kq68 nin0
          have K68' : Keep h0 T68.heap [] := K66'.trans Kq68 all0
          have Z69 : n0 ≤ T68.heap.size := Nat.le_trans Z67 Kq68.1
          have hSn69 : _ ≤ T68.heap.size := Nat.le_trans hSn67 Kq68.1
          show Ok p e below _ _ T68 (mkF m 131 #[.val (.long p1), .second, .val (.long p2), .second, .val (.int p3), .val (.int p4), .val (.ref b64), .val (.long bb), .second, .val (.int (((p3.toUInt32 >>> ((1 : Int32) &&& 31).toUInt32).toInt32) &&& (3 : Int32))), .unset, .unset, .unset] [(.ref r68)])
          refine Ok.astore (l' := #[.val (.long p1), .second, .val (.long p2), .second, .val (.int p3), .val (.int p4), .val (.ref b64), .val (.long bb), .second, .val (.int (((p3.toUInt32 >>> ((1 : Int32) &&& 31).toUInt32).toInt32) &&& (3 : Int32))), .val (.ref r68), .unset, .unset]) (pc' := 133) X68 hx (hb hby at_131) rfl rfl rfl ?_
          refine Ok.iconst (z := (0 : Int32)) (pc' := 134) X68 hx (hb hby at_133) rfl rfl ?_
          refine Ok.istore (l' := #[.val (.long p1), .second, .val (.long p2), .second, .val (.int p3), .val (.int p4), .val (.ref b64), .val (.long bb), .second, .val (.int (((p3.toUInt32 >>> ((1 : Int32) &&& 31).toUInt32).toInt32) &&& (3 : Int32))), .val (.ref r68), .val (.int (0 : Int32)), .unset]) (pc' := 136) X68 hx (hb hby at_134) rfl rfl ?_
          refine Ok.aload (pc' := 138) X68 hx (hb hby at_136) rfl rfl rfl ?_
          refine Ok.aload (pc' := 140) X68 hx (hb hby at_138) rfl rfl rfl ?_
          refine Ok.virt (pc' := 143) (W := 0) (a := b64)  (argsL := [(.ref r68)]) (rest := []) X68 hx hZ0 hown0 (rm9 l Z a0 hw b64 r68 T68.heap n0 Z69 A68) (hw _ (List.mem_of_getElem? (i := 16) rfl)) (hw _ (List.mem_of_getElem? (i := 17) rfl)) (notFace_of_selects (args := #[]) (mvT (s := s.setVm _) hZ0 (hw _ (List.mem_of_getElem? (i := 19) rfl)))) (hw _ (List.mem_of_getElem? (i := 19) rfl)) (hw _ (List.mem_of_getElem? (i := 18) rfl)) (hw _ (List.mem_of_getElem? (i := 2) rfl)) (hw _ (List.mem_of_getElem? (i := 20) rfl)) (by decide) rfl A64 (by decide) (by decide) (by decide) (by decide) (lenOf pd_2 rfl) rfl rfl (Nat.le_of_eq rfl) (by rw [hml]; rfl) (hb hby at_140) rfl ?_
          intro v70 T70 L70 X70 hQ70
          obtain ⟨rfl, Nq70, eq70⟩ := hQ70
          have N70 := Fr.app N68 Nq70
          show Ok p e below _ _ T70 (mkF m 143 #[.val (.long p1), .second, .val (.long p2), .second, .val (.int p3), .val (.int p4), .val (.ref b64), .val (.long bb), .second, .val (.int (((p3.toUInt32 >>> ((1 : Int32) &&& 31).toUInt32).toInt32) &&& (3 : Int32))), .val (.ref r68), .val (.int (0 : Int32)), .unset] [(.int (0 : Int32))])
          refine Ok.iload (pc' := 145) X70 hx (hb hby at_143) rfl rfl ?_
          refine Ok.icN (pc' := 148) X70 hx (hb hby at_145) (bf (ic_eq (0 : Int32) (0 : Int32)).2.1 (by decide)) rfl ?_
          refine Ok.aload (pc' := 150) X70 hx (hb hby at_148) rfl rfl rfl ?_
          refine Ok.aload (pc' := 152) X70 hx (hb hby at_150) rfl rfl rfl ?_
          refine Ok.virt (pc' := 155) (W := 0) (a := b64)  (argsL := [(.ref b64)]) (rest := []) X70 hx hZ0 hown0 (rm6 l Z a0 hw b64 b64 p1 p1 T68.heap n0 Z69 A64 Fq66_value Fq66_value) (hw _ (List.mem_of_getElem? (i := 16) rfl)) (hw _ (List.mem_of_getElem? (i := 17) rfl)) (notFace_of_selects (args := #[]) (mvT (s := s.setVm _) hZ0 (hw _ (List.mem_of_getElem? (i := 19) rfl)))) (hw _ (List.mem_of_getElem? (i := 19) rfl)) (hw _ (List.mem_of_getElem? (i := 18) rfl)) (hw _ (List.mem_of_getElem? (i := 2) rfl)) (hw _ (List.mem_of_getElem? (i := 20) rfl)) (by decide) eq70 A64 (by decide) (by decide) (by decide) (by decide) (lenOf pd_2 rfl) rfl rfl (Nat.le_of_eq rfl) (by rw [hml]; rfl) (hb hby at_152) rfl ?_
          intro v71 T71 L71 X71 hQ71
          obtain ⟨b71, rfl, hb71, Nq71, eq71⟩ := hQ71
          have N71 := Fr.app N70 Nq71
          show Ok p e below _ _ T71 (mkF m 155 #[.val (.long p1), .second, .val (.long p2), .second, .val (.int p3), .val (.int p4), .val (.ref b64), .val (.long bb), .second, .val (.int (((p3.toUInt32 >>> ((1 : Int32) &&& 31).toUInt32).toInt32) &&& (3 : Int32))), .val (.ref r68), .val (.int (0 : Int32)), .unset] [(.int b71)])
          by_cases hc155 : b71.toInt = 0
          · refine Ok.ifY (pc' := 162) X71 hx (hb hby at_155) (bt (i0 .eq b71 (ic_eq b71 0).1) hc155) (by decide) (by decide) ?_
            refine Ok.iconst (z := (0 : Int32)) (pc' := 163) X71 hx (hb hby at_162) rfl rfl ?_
            exfalso
            omega
          · refine Ok.ifN (pc' := 158) X71 hx (hb hby at_155) (bf (i0 .eq b71 (ic_eq b71 0).1) hc155) rfl ?_
            refine Ok.iconst (z := (1 : Int32)) (pc' := 159) X71 hx (hb hby at_158) rfl rfl ?_
            refine Ok.goto (pc' := 163) X71 hx (hb hby at_159) (by decide) (by decide) ?_
            refine Ok.retIW X71 hx hS0 (by rw [eq71]; exact hSn69) hret hlk (Or.inr (Or.inl rfl)) rfl (hb hby at_163) (by decide) (by decide) ?_
            show Q0 Z p1 p2 p3 p4 cs0 gv ca cc bv h0 n0 _ T71.heap _
            rw [eq71]
            exact ⟨rfl, N71⟩
        · refine Ok.icN (pc' := 86) X66 hx (hb hby at_83) (bf (ic_eq (((p3.toUInt32 >>> ((1 : Int32) &&& 31).toUInt32).toInt32) &&& (3 : Int32)) (2 : Int32)).2.1 hc83) rfl ?_
          refine Ok.iload (pc' := 88) X66 hx (hb hby at_86) rfl rfl ?_
          refine Ok.sipush (z := (255 : Int32)) (pc' := 91) X66 hx (hb hby at_88) rfl rfl ?_
          refine Ok.iand (pc' := 92) X66 hx (hb hby at_91) rfl ?_
          refine Ok.i2c (pc' := 93) X66 hx (hb hby at_92) rfl ?_
          rw [char255]
          refine Ok.istore (l' := #[.val (.long p1), .second, .val (.long p2), .second, .val (.int p3), .val (.int p4), .val (.ref b64), .val (.long bb), .second, .val (.int (((p3.toUInt32 >>> ((1 : Int32) &&& 31).toUInt32).toInt32) &&& (3 : Int32))), .unset, .unset, .val (.int (p4 &&& (255 : Int32)))]) (pc' := 95) X66 hx (hb hby at_93) rfl rfl ?_
          have hm := mask255 p4
          have k107 : ∀ (Tj107 : State) (Lj107 : List Loc) (Xj107 : Stand p l e room_1 (s.setVm V0) m #[(.long p1), (.long p2), (.int p3), (.int p4)] below meth c Tj107 Lj107 1 1) (ej107 : Tj107.heap = T66.heap) (Nj107 : Fr n0 Lj107) (cv : Int32) (hcv : 0 ≤ cv.toInt ∧ cv.toInt ≤ 255) (hch : ¬ cv.toInt = 34 ∧ ¬ cv.toInt = 10 ∧ ¬ cv.toInt = 13), Ok p e below (WE s room_1.cells room_1.slots) (Q0 Z p1 p2 p3 p4 cs0 gv ca cc bv h0 n0) Tj107 (mkF m 107 #[.val (.long p1), .second, .val (.long p2), .second, .val (.int p3), .val (.int p4), .val (.ref b64), .val (.long bb), .second, .val (.int (((p3.toUInt32 >>> ((1 : Int32) &&& 31).toUInt32).toInt32) &&& (3 : Int32))), .unset, .unset, .val (.int cv)] []) := by
            intro Tj107 Lj107 Xj107 ej107 Nj107 cv hcv hch
            refine Ok.new (pc' := 110) Xj107 hx hZ0 hown0 (hw _ (List.mem_of_getElem? (i := 27) rfl)) (hw _ (List.mem_of_getElem? (i := 28) rfl)) (hw _ (List.mem_of_getElem? (i := 25) rfl)) ej107 (hb hby at_107) rfl (by decide) (by decide) ?_
            intro T72 h72 b72 g72 X72 e72 E72 A72 D72
            have ne_b64_b72 : Nq b64 b72 := Nat.ne_of_lt (Nat.lt_of_lt_of_eq A64.lt g72.symm)
            replace O_0 := O_0.ext E72
            replace A64 := A64.ext E72
            replace Fq66_value := Fq66_value.ext E72
            have ge_b72 : n0 ≤ b72 := Nat.le_trans Z67 (Nat.le_of_eq g72.symm)
            have sz_b72 : h0.size ≤ b72 := Nat.le_trans K66'.1 (Nat.le_of_eq g72.symm)
            have K72 : Keep h0 h72 [] := K66'.ext E72
            have Z73 : n0 ≤ h72.size := Nat.le_trans Z67 E72.1
            have hSn73 : _ ≤ h72.size := Nat.le_trans hSn67 E72.1
            have F72_text : Fld Z h72 b72 "com/example/datenschutz/datenschutz/event/StringValue" "text" "Ljava/lang/String;" .null := D72 (Or.inr (hw _ (List.mem_of_getElem? (i := 97) rfl))) (ty := (.object "java/lang/String")) (by decide)
            show Ok p e below _ _ T72 (mkF m 110 #[.val (.long p1), .second, .val (.long p2), .second, .val (.int p3), .val (.int p4), .val (.ref b64), .val (.long bb), .second, .val (.int (((p3.toUInt32 >>> ((1 : Int32) &&& 31).toUInt32).toInt32) &&& (3 : Int32))), .unset, .unset, .val (.int cv)] [(.ref b72)])
            refine Ok.dup (pc' := 111) X72 hx (hb hby at_110) rfl rfl ?_
            refine Ok.iload (pc' := 113) X72 hx (hb hby at_111) rfl rfl ?_
            refine Ok.callS (pc' := 116) (W := 2)  (argsL := [(.int cv)]) (rest := [(.ref b72), (.ref b72)]) X72 hx hZ0 hown0 (rm14 l Z a0 hw cv cs0 h72 n0 Z73 hcv O_0 S_cs hcs) (hw _ (List.mem_of_getElem? (i := 29) rfl)) (hw _ (List.mem_of_getElem? (i := 30) rfl)) (hw _ (List.mem_of_getElem? (i := 31) rfl)) (hw _ (List.mem_of_getElem? (i := 32) rfl)) (by decide) e72 (by decide) (by decide) (by decide) (by decide) (lenOf pd_4 rfl) rfl rfl (Nat.le_of_eq rfl) (by rw [hml]; rfl) (hb hby at_113) rfl ?_
            intro v74 T74 L74 X74 hQ74
            obtain ⟨b74, r74, kr74, rfl, Nq74, Kq74, hbb74, hr74, nbr74, A74, Fv74, Fc74, V74⟩ := hQ74
            replace nbr74 : Nq b74 r74 := nbr74
            have ne_b64_b74 : Nq b64 b74 := Nat.ne_of_lt (Nat.lt_of_lt_of_le A64.lt hbb74)
            have ne_b72_b74 : Nq b72 b74 := Nat.ne_of_lt (Nat.lt_of_lt_of_le A72.lt hbb74)
            have ge_b74 : n0 ≤ b74 := Nat.le_trans Z73 hbb74
            have sz_b74 : h0.size ≤ b74 := Nat.le_trans K72.1 hbb74
            have ne_b64_r74 : Nq b64 r74 := Nat.ne_of_lt (Nat.lt_of_lt_of_le A64.lt hr74)
            have ne_b72_r74 : Nq b72 r74 := Nat.ne_of_lt (Nat.lt_of_lt_of_le A72.lt hr74)
            have ge_r74 : n0 ≤ r74 := Nat.le_trans Z73 hr74
            have sz_r74 : h0.size ≤ r74 := Nat.le_trans K72.1 hr74
            have N74 := Fr.app Nj107 Nq74
            replace O_0 := O_0.keep Kq74 all0
            replace A64 := A64.keep Kq74
            replace Fq66_value := Fq66_value.keep Kq74 nin0
            replace A72 := A72.keep Kq74
            replace F72_text := F72_text.keep Kq74 nin0
            have K74' : Keep h0 T74.heap [] := K72.trans Kq74 all0
            have Z75 : n0 ≤ T74.heap.size := Nat.le_trans Z73 Kq74.1
            have hSn75 : _ ≤ T74.heap.size := Nat.le_trans hSn73 Kq74.1
            show Ok p e below _ _ T74 (mkF m 116 #[.val (.long p1), .second, .val (.long p2), .second, .val (.int p3), .val (.int p4), .val (.ref b64), .val (.long bb), .second, .val (.int (((p3.toUInt32 >>> ((1 : Int32) &&& 31).toUInt32).toInt32) &&& (3 : Int32))), .unset, .unset, .val (.int cv)] [(.ref b74), (.ref b72), (.ref b72)])
            refine Ok.initW (pc' := 119) (W := 1) (a := b72)  (argsL := [(.ref b74)]) (rest := [(.ref b72)]) X74 hx hZ0 hown0 hS0 hSn75 (rm23 l Z a0 hw b72 b74 r74 kr74 cv .null cs0 gv T74.heap n0 Z75 A72 ge_b72 F72_text A74 Fv74 Fc74 V74 hcv hch O_0 S_cs hcs S_sf r_gv) rfl (hw _ (List.mem_of_getElem? (i := 53) rfl)) (hw _ (List.mem_of_getElem? (i := 54) rfl)) (hw _ (List.mem_of_getElem? (i := 25) rfl)) (hw _ (List.mem_of_getElem? (i := 55) rfl)) (by decide) rfl (by decide) (by decide) (by decide) (by decide) (lenOf pd_7 rfl) rfl rfl (Nat.le_of_eq rfl) (by rw [hml]; rfl) (hb hby at_116) rfl ?_
            intro v76 T76 L76 X76 hZ76 hown76 hS76 hQ76
            obtain ⟨rfl, Nq76, Kq76, Aq76⟩ := hQ76
            have N76 := Fr.app N74 Nq76
            replace O_0 := O_0.keep Kq76 (allS ge_b72 all0)
            replace A64 := A64.keep Kq76
            replace Fq66_value := Fq66_value.keep Kq76 (ninS ne_b64_b72 nin0)
            replace A72 := A72.keep Kq76
            have K76' : Keep h0 T76.heap [] := K74'.trans Kq76 (allS (Or.inr sz_b72) all0)
            have Z77 : n0 ≤ T76.heap.size := Nat.le_trans Z75 Kq76.1
            show Ok p e below _ _ T76 (mkF m 119 #[.val (.long p1), .second, .val (.long p2), .second, .val (.int p3), .val (.int p4), .val (.ref b64), .val (.long bb), .second, .val (.int (((p3.toUInt32 >>> ((1 : Int32) &&& 31).toUInt32).toInt32) &&& (3 : Int32))), .unset, .unset, .val (.int cv)] [(.ref b72)])
            refine Ok.astore (l' := #[.val (.long p1), .second, .val (.long p2), .second, .val (.int p3), .val (.int p4), .val (.ref b64), .val (.long bb), .second, .val (.int (((p3.toUInt32 >>> ((1 : Int32) &&& 31).toUInt32).toInt32) &&& (3 : Int32))), .val (.ref b72), .unset, .val (.int cv)]) (pc' := 121) X76 hx (hb hby at_119) rfl rfl rfl ?_
            refine Ok.iconst (z := (0 : Int32)) (pc' := 122) X76 hx (hb hby at_121) rfl rfl ?_
            refine Ok.istore (l' := #[.val (.long p1), .second, .val (.long p2), .second, .val (.int p3), .val (.int p4), .val (.ref b64), .val (.long bb), .second, .val (.int (((p3.toUInt32 >>> ((1 : Int32) &&& 31).toUInt32).toInt32) &&& (3 : Int32))), .val (.ref b72), .val (.int (0 : Int32)), .val (.int cv)]) (pc' := 124) X76 hx (hb hby at_122) rfl rfl ?_
            refine Ok.goto (pc' := 136) X76 hx (hb hby at_124) (by decide) (by decide) ?_
            refine Ok.aload (pc' := 138) X76 hx (hb hby at_136) rfl rfl rfl ?_
            refine Ok.aload (pc' := 140) X76 hx (hb hby at_138) rfl rfl rfl ?_
            refine Ok.virt (pc' := 143) (W := 0) (a := b64)  (argsL := [(.ref b72)]) (rest := []) X76 hx hZ76 hown76 (rm8 l Z a0 hw b64 b72 T76.heap n0 Z77 A72) (hw _ (List.mem_of_getElem? (i := 16) rfl)) (hw _ (List.mem_of_getElem? (i := 17) rfl)) (notFace_of_selects (args := #[]) (mvT (s := s.setVm _) hZ76 (hw _ (List.mem_of_getElem? (i := 19) rfl)))) (hw _ (List.mem_of_getElem? (i := 19) rfl)) (hw _ (List.mem_of_getElem? (i := 18) rfl)) (hw _ (List.mem_of_getElem? (i := 2) rfl)) (hw _ (List.mem_of_getElem? (i := 20) rfl)) (by decide) rfl A64 (by decide) (by decide) (by decide) (by decide) (lenOf pd_2 rfl) rfl rfl (Nat.le_of_eq rfl) (by rw [hml]; rfl) (hb hby at_140) rfl ?_
            intro v78 T78 L78 X78 hQ78
            obtain ⟨rfl, Nq78, eq78⟩ := hQ78
            have N78 := Fr.app N76 Nq78
            show Ok p e below _ _ T78 (mkF m 143 #[.val (.long p1), .second, .val (.long p2), .second, .val (.int p3), .val (.int p4), .val (.ref b64), .val (.long bb), .second, .val (.int (((p3.toUInt32 >>> ((1 : Int32) &&& 31).toUInt32).toInt32) &&& (3 : Int32))), .val (.ref b72), .val (.int (0 : Int32)), .val (.int cv)] [(.int (0 : Int32))])
            refine Ok.iload (pc' := 145) X78 hx (hb hby at_143) rfl rfl ?_
            refine Ok.icN (pc' := 148) X78 hx (hb hby at_145) (bf (ic_eq (0 : Int32) (0 : Int32)).2.1 (by decide)) rfl ?_
            refine Ok.aload (pc' := 150) X78 hx (hb hby at_148) rfl rfl rfl ?_
            refine Ok.aload (pc' := 152) X78 hx (hb hby at_150) rfl rfl rfl ?_
            refine Ok.virt (pc' := 155) (W := 0) (a := b64)  (argsL := [(.ref b64)]) (rest := []) X78 hx hZ76 hown76 (rm6 l Z a0 hw b64 b64 p1 p1 T76.heap n0 Z77 A64 Fq66_value Fq66_value) (hw _ (List.mem_of_getElem? (i := 16) rfl)) (hw _ (List.mem_of_getElem? (i := 17) rfl)) (notFace_of_selects (args := #[]) (mvT (s := s.setVm _) hZ76 (hw _ (List.mem_of_getElem? (i := 19) rfl)))) (hw _ (List.mem_of_getElem? (i := 19) rfl)) (hw _ (List.mem_of_getElem? (i := 18) rfl)) (hw _ (List.mem_of_getElem? (i := 2) rfl)) (hw _ (List.mem_of_getElem? (i := 20) rfl)) (by decide) eq78 A64 (by decide) (by decide) (by decide) (by decide) (lenOf pd_2 rfl) rfl rfl (Nat.le_of_eq rfl) (by rw [hml]; rfl) (hb hby at_152) rfl ?_
            intro v79 T79 L79 X79 hQ79
            obtain ⟨b79, rfl, hb79, Nq79, eq79⟩ := hQ79
            have N79 := Fr.app N78 Nq79
            show Ok p e below _ _ T79 (mkF m 155 #[.val (.long p1), .second, .val (.long p2), .second, .val (.int p3), .val (.int p4), .val (.ref b64), .val (.long bb), .second, .val (.int (((p3.toUInt32 >>> ((1 : Int32) &&& 31).toUInt32).toInt32) &&& (3 : Int32))), .val (.ref b72), .val (.int (0 : Int32)), .val (.int cv)] [(.int b79)])
            by_cases hc155 : b79.toInt = 0
            · refine Ok.ifY (pc' := 162) X79 hx (hb hby at_155) (bt (i0 .eq b79 (ic_eq b79 0).1) hc155) (by decide) (by decide) ?_
              refine Ok.iconst (z := (0 : Int32)) (pc' := 163) X79 hx (hb hby at_162) rfl rfl ?_
              exfalso
              omega
            · refine Ok.ifN (pc' := 158) X79 hx (hb hby at_155) (bf (i0 .eq b79 (ic_eq b79 0).1) hc155) rfl ?_
              refine Ok.iconst (z := (1 : Int32)) (pc' := 159) X79 hx (hb hby at_158) rfl rfl ?_
              refine Ok.goto (pc' := 163) X79 hx (hb hby at_159) (by decide) (by decide) ?_
              refine Ok.retIW X79 hx hS76 (by rw [eq79]; exact (Nat.le_refl _)) hret hlk (Or.inr (Or.inl rfl)) rfl (hb hby at_163) (by decide) (by decide) ?_
              show Q0 Z p1 p2 p3 p4 cs0 gv ca cc bv h0 n0 _ T79.heap _
              rw [eq79]
              exact ⟨rfl, N79⟩
          refine Ok.iload (pc' := 97) X66 hx (hb hby at_95) rfl rfl ?_
          refine Ok.callS (pc' := 100) (W := 0)  (argsL := [(.int (p4 &&& (255 : Int32)))]) (rest := []) X66 hx hZ0 hown0 (rm10 l Z a0 hw (p4 &&& (255 : Int32)) T66.heap n0 Z67 ) (hw _ (List.mem_of_getElem? (i := 23) rfl)) (hw _ (List.mem_of_getElem? (i := 24) rfl)) (hw _ (List.mem_of_getElem? (i := 25) rfl)) (hw _ (List.mem_of_getElem? (i := 26) rfl)) (by decide) rfl (by decide) (by decide) (by decide) (by decide) (lenOf pd_3 rfl) rfl rfl (Nat.le_of_eq rfl) (by rw [hml]; rfl) (hb hby at_97) rfl ?_
          intro v80 T80 L80 X80 hQ80
          obtain ⟨b80, rfl, hb80, Nq80, eq80⟩ := hQ80
          have N80 := Fr.app N66 Nq80
          show Ok p e below _ _ T80 (mkF m 100 #[.val (.long p1), .second, .val (.long p2), .second, .val (.int p3), .val (.int p4), .val (.ref b64), .val (.long bb), .second, .val (.int (((p3.toUInt32 >>> ((1 : Int32) &&& 31).toUInt32).toInt32) &&& (3 : Int32))), .unset, .unset, .val (.int (p4 &&& (255 : Int32)))] [(.int b80)])
          by_cases hc100 : ¬ b80.toInt = 0
          · refine Ok.ifY (pc' := 107) X80 hx (hb hby at_100) (bt (i0 .ne b80 (ic_eq b80 0).2.1) hc100) (by decide) (by decide) ?_
            exact k107 T80 _ X80 eq80 N80 _ hm (by omega)
          · refine Ok.ifN (pc' := 103) X80 hx (hb hby at_100) (bf (i0 .ne b80 (ic_eq b80 0).2.1) hc100) rfl ?_
            refine Ok.bipush (z := (48 : Int32)) (pc' := 105) X80 hx (hb hby at_103) rfl rfl ?_
            refine Ok.istore (l' := #[.val (.long p1), .second, .val (.long p2), .second, .val (.int p3), .val (.int p4), .val (.ref b64), .val (.long bb), .second, .val (.int (((p3.toUInt32 >>> ((1 : Int32) &&& 31).toUInt32).toInt32) &&& (3 : Int32))), .unset, .unset, .val (.int (48 : Int32))]) (pc' := 107) X80 hx (hb hby at_105) rfl rfl ?_
            exact k107 T80 _ X80 eq80 N80 (48 : Int32) (by decide) (by decide)
      · refine Ok.icN (pc' := 71) X66 hx (hb hby at_68) (bf (ic_eq (((p3.toUInt32 >>> ((1 : Int32) &&& 31).toUInt32).toInt32) &&& (3 : Int32)) (1 : Int32)).2.1 hc68) rfl ?_
        refine Ok.aconstNull (pc' := 72) X66 hx (hb hby at_71) rfl ?_
        refine Ok.astore (l' := #[.val (.long p1), .second, .val (.long p2), .second, .val (.int p3), .val (.int p4), .val (.ref b64), .val (.long bb), .second, .val (.int (((p3.toUInt32 >>> ((1 : Int32) &&& 31).toUInt32).toInt32) &&& (3 : Int32))), .val .null, .unset, .unset]) (pc' := 74) X66 hx (hb hby at_72) rfl rfl rfl ?_
        refine Ok.iconst (z := (0 : Int32)) (pc' := 75) X66 hx (hb hby at_74) rfl rfl ?_
        refine Ok.istore (l' := #[.val (.long p1), .second, .val (.long p2), .second, .val (.int p3), .val (.int p4), .val (.ref b64), .val (.long bb), .second, .val (.int (((p3.toUInt32 >>> ((1 : Int32) &&& 31).toUInt32).toInt32) &&& (3 : Int32))), .val .null, .val (.int (0 : Int32)), .unset]) (pc' := 77) X66 hx (hb hby at_75) rfl rfl ?_
        refine Ok.goto (pc' := 136) X66 hx (hb hby at_77) (by decide) (by decide) ?_
        refine Ok.aload (pc' := 138) X66 hx (hb hby at_136) rfl rfl rfl ?_
        refine Ok.aload (pc' := 140) X66 hx (hb hby at_138) rfl rfl rfl ?_
        refine Ok.virt (pc' := 143) (W := 0) (a := b64)  (argsL := [.null]) (rest := []) X66 hx hZ0 hown0 (rm7 l Z a0 hw b64 T66.heap n0 Z67 ) (hw _ (List.mem_of_getElem? (i := 16) rfl)) (hw _ (List.mem_of_getElem? (i := 17) rfl)) (notFace_of_selects (args := #[]) (mvT (s := s.setVm _) hZ0 (hw _ (List.mem_of_getElem? (i := 19) rfl)))) (hw _ (List.mem_of_getElem? (i := 19) rfl)) (hw _ (List.mem_of_getElem? (i := 18) rfl)) (hw _ (List.mem_of_getElem? (i := 2) rfl)) (hw _ (List.mem_of_getElem? (i := 20) rfl)) (by decide) rfl A64 (by decide) (by decide) (by decide) (by decide) (lenOf pd_2 rfl) rfl rfl (Nat.le_of_eq rfl) (by rw [hml]; rfl) (hb hby at_140) rfl ?_
        intro v81 T81 L81 X81 hQ81
        obtain ⟨rfl, Nq81, eq81⟩ := hQ81
        have N81 := Fr.app N66 Nq81
        show Ok p e below _ _ T81 (mkF m 143 #[.val (.long p1), .second, .val (.long p2), .second, .val (.int p3), .val (.int p4), .val (.ref b64), .val (.long bb), .second, .val (.int (((p3.toUInt32 >>> ((1 : Int32) &&& 31).toUInt32).toInt32) &&& (3 : Int32))), .val .null, .val (.int (0 : Int32)), .unset] [(.int (0 : Int32))])
        refine Ok.iload (pc' := 145) X81 hx (hb hby at_143) rfl rfl ?_
        refine Ok.icN (pc' := 148) X81 hx (hb hby at_145) (bf (ic_eq (0 : Int32) (0 : Int32)).2.1 (by decide)) rfl ?_
        refine Ok.aload (pc' := 150) X81 hx (hb hby at_148) rfl rfl rfl ?_
        refine Ok.aload (pc' := 152) X81 hx (hb hby at_150) rfl rfl rfl ?_
        refine Ok.virt (pc' := 155) (W := 0) (a := b64)  (argsL := [(.ref b64)]) (rest := []) X81 hx hZ0 hown0 (rm6 l Z a0 hw b64 b64 p1 p1 T66.heap n0 Z67 A64 Fq66_value Fq66_value) (hw _ (List.mem_of_getElem? (i := 16) rfl)) (hw _ (List.mem_of_getElem? (i := 17) rfl)) (notFace_of_selects (args := #[]) (mvT (s := s.setVm _) hZ0 (hw _ (List.mem_of_getElem? (i := 19) rfl)))) (hw _ (List.mem_of_getElem? (i := 19) rfl)) (hw _ (List.mem_of_getElem? (i := 18) rfl)) (hw _ (List.mem_of_getElem? (i := 2) rfl)) (hw _ (List.mem_of_getElem? (i := 20) rfl)) (by decide) eq81 A64 (by decide) (by decide) (by decide) (by decide) (lenOf pd_2 rfl) rfl rfl (Nat.le_of_eq rfl) (by rw [hml]; rfl) (hb hby at_152) rfl ?_
        intro v82 T82 L82 X82 hQ82
        obtain ⟨b82, rfl, hb82, Nq82, eq82⟩ := hQ82
        have N82 := Fr.app N81 Nq82
        show Ok p e below _ _ T82 (mkF m 155 #[.val (.long p1), .second, .val (.long p2), .second, .val (.int p3), .val (.int p4), .val (.ref b64), .val (.long bb), .second, .val (.int (((p3.toUInt32 >>> ((1 : Int32) &&& 31).toUInt32).toInt32) &&& (3 : Int32))), .val .null, .val (.int (0 : Int32)), .unset] [(.int b82)])
        by_cases hc155 : b82.toInt = 0
        · refine Ok.ifY (pc' := 162) X82 hx (hb hby at_155) (bt (i0 .eq b82 (ic_eq b82 0).1) hc155) (by decide) (by decide) ?_
          refine Ok.iconst (z := (0 : Int32)) (pc' := 163) X82 hx (hb hby at_162) rfl rfl ?_
          exfalso
          omega
        · refine Ok.ifN (pc' := 158) X82 hx (hb hby at_155) (bf (i0 .eq b82 (ic_eq b82 0).1) hc155) rfl ?_
          refine Ok.iconst (z := (1 : Int32)) (pc' := 159) X82 hx (hb hby at_158) rfl rfl ?_
          refine Ok.goto (pc' := 163) X82 hx (hb hby at_159) (by decide) (by decide) ?_
          refine Ok.retIW X82 hx hS0 (by rw [eq82]; exact hSn67) hret hlk (Or.inr (Or.inl rfl)) rfl (hb hby at_163) (by decide) (by decide) ?_
          show Q0 Z p1 p2 p3 p4 cs0 gv ca cc bv h0 n0 _ T82.heap _
          rw [eq82]
          exact ⟨rfl, N82⟩
    · refine Ok.ifN (pc' := 37) X66 hx (hb hby at_34) (bf (i0 .ne (((p3.toUInt32 >>> ((1 : Int32) &&& 31).toUInt32).toInt32) &&& (3 : Int32)) (ic_eq (((p3.toUInt32 >>> ((1 : Int32) &&& 31).toUInt32).toInt32) &&& (3 : Int32)) 0).2.1) hc34) rfl ?_
      refine Ok.new (pc' := 40) X66 hx hZ0 hown0 (hw _ (List.mem_of_getElem? (i := 0) rfl)) (hw _ (List.mem_of_getElem? (i := 1) rfl)) (hw _ (List.mem_of_getElem? (i := 2) rfl)) rfl (hb hby at_37) rfl (by decide) (by decide) ?_
      intro T83 h83 b83 g83 X83 e83 E83 A83 D83
      have ne_b64_b83 : Nq b64 b83 := Nat.ne_of_lt (Nat.lt_of_lt_of_eq A64.lt g83.symm)
      replace O_0 := O_0.ext E83
      replace A64 := A64.ext E83
      replace Fq66_value := Fq66_value.ext E83
      have ge_b83 : n0 ≤ b83 := Nat.le_trans Z67 (Nat.le_of_eq g83.symm)
      have sz_b83 : h0.size ≤ b83 := Nat.le_trans K66'.1 (Nat.le_of_eq g83.symm)
      have K83 : Keep h0 h83 [] := K66'.ext E83
      have Z84 : n0 ≤ h83.size := Nat.le_trans Z67 E83.1
      have hSn84 : _ ≤ h83.size := Nat.le_trans hSn67 E83.1
      have F83_value : Fld Z h83 b83 "com/example/datenschutz/datenschutz/event/IntegerValue" "value" "J" (.long (0 : Int64)) := D83 (Or.inr (hw _ (List.mem_of_getElem? (i := 15) rfl))) (ty := .long) (by decide)
      show Ok p e below _ _ T83 (mkF m 40 #[.val (.long p1), .second, .val (.long p2), .second, .val (.int p3), .val (.int p4), .val (.ref b64), .val (.long bb), .second, .val (.int (((p3.toUInt32 >>> ((1 : Int32) &&& 31).toUInt32).toInt32) &&& (3 : Int32))), .unset, .unset, .unset] [(.ref b83)])
      refine Ok.dup (pc' := 41) X83 hx (hb hby at_40) rfl rfl ?_
      refine Ok.lload (pc' := 43) X83 hx (hb hby at_41) rfl rfl ?_
      refine Ok.init (pc' := 46) (W := 1) (a := b83)  (argsL := [(.long bb)]) (rest := [(.ref b83)]) X83 hx hZ0 hown0 (rm1 l Z a0 hw b83 bb (.long (0 : Int64)) h83 n0 Z84 A83 ge_b83 F83_value) rfl (hw _ (List.mem_of_getElem? (i := 3) rfl)) (hw _ (List.mem_of_getElem? (i := 4) rfl)) (hw _ (List.mem_of_getElem? (i := 2) rfl)) (hw _ (List.mem_of_getElem? (i := 5) rfl)) (by decide) e83 (by decide) (by decide) (by decide) (by decide) (lenOf pd_0 rfl) rfl rfl (Nat.le_of_eq rfl) (by rw [hml]; rfl) (hb hby at_43) rfl ?_
      intro v85 T85 L85 X85 hQ85
      obtain ⟨rfl, Nq85, Kq85, Aq85, Fq85_value⟩ := hQ85
      have N85 := Fr.app N66 Nq85
      replace O_0 := O_0.keep Kq85 (allS ge_b83 all0)
      replace A64 := A64.keep Kq85
      replace Fq66_value := Fq66_value.keep Kq85 (ninS ne_b64_b83 nin0)
      replace A83 := A83.keep Kq85
      have K85' : Keep h0 T85.heap [] := K83.trans Kq85 (allS (Or.inr sz_b83) all0)
      have Z86 : n0 ≤ T85.heap.size := Nat.le_trans Z84 Kq85.1
      have hSn86 : _ ≤ T85.heap.size := Nat.le_trans hSn84 Kq85.1
      show Ok p e below _ _ T85 (mkF m 46 #[.val (.long p1), .second, .val (.long p2), .second, .val (.int p3), .val (.int p4), .val (.ref b64), .val (.long bb), .second, .val (.int (((p3.toUInt32 >>> ((1 : Int32) &&& 31).toUInt32).toInt32) &&& (3 : Int32))), .unset, .unset, .unset] [(.ref b83)])
      refine Ok.astore (l' := #[.val (.long p1), .second, .val (.long p2), .second, .val (.int p3), .val (.int p4), .val (.ref b64), .val (.long bb), .second, .val (.int (((p3.toUInt32 >>> ((1 : Int32) &&& 31).toUInt32).toInt32) &&& (3 : Int32))), .val (.ref b83), .unset, .unset]) (pc' := 48) X85 hx (hb hby at_46) rfl rfl rfl ?_
      have k60 : ∀ (ex : Int32) (hex : ex.toInt = 1 ∧ p1.toInt = bb.toInt ∨ ex.toInt = 0 ∧ ¬ p1.toInt = bb.toInt), Ok p e below (WE s room_1.cells room_1.slots) (Q0 Z p1 p2 p3 p4 cs0 gv ca cc bv h0 n0) T85 (mkF m 60 #[.val (.long p1), .second, .val (.long p2), .second, .val (.int p3), .val (.int p4), .val (.ref b64), .val (.long bb), .second, .val (.int (((p3.toUInt32 >>> ((1 : Int32) &&& 31).toUInt32).toInt32) &&& (3 : Int32))), .val (.ref b83), .unset, .unset] [(.int ex)]) := by
        intro ex hex
        refine Ok.istore (l' := #[.val (.long p1), .second, .val (.long p2), .second, .val (.int p3), .val (.int p4), .val (.ref b64), .val (.long bb), .second, .val (.int (((p3.toUInt32 >>> ((1 : Int32) &&& 31).toUInt32).toInt32) &&& (3 : Int32))), .val (.ref b83), .val (.int ex), .unset]) (pc' := 62) X85 hx (hb hby at_60) rfl rfl ?_
        refine Ok.goto (pc' := 136) X85 hx (hb hby at_62) (by decide) (by decide) ?_
        refine Ok.aload (pc' := 138) X85 hx (hb hby at_136) rfl rfl rfl ?_
        refine Ok.aload (pc' := 140) X85 hx (hb hby at_138) rfl rfl rfl ?_
        refine Ok.virt (pc' := 143) (W := 0) (a := b64)  (argsL := [(.ref b83)]) (rest := []) X85 hx hZ0 hown0 (rm6 l Z a0 hw b64 b83 p1 bb T85.heap n0 Z86 A83 Fq66_value Fq85_value) (hw _ (List.mem_of_getElem? (i := 16) rfl)) (hw _ (List.mem_of_getElem? (i := 17) rfl)) (notFace_of_selects (args := #[]) (mvT (s := s.setVm _) hZ0 (hw _ (List.mem_of_getElem? (i := 19) rfl)))) (hw _ (List.mem_of_getElem? (i := 19) rfl)) (hw _ (List.mem_of_getElem? (i := 18) rfl)) (hw _ (List.mem_of_getElem? (i := 2) rfl)) (hw _ (List.mem_of_getElem? (i := 20) rfl)) (by decide) rfl A64 (by decide) (by decide) (by decide) (by decide) (lenOf pd_2 rfl) rfl rfl (Nat.le_of_eq rfl) (by rw [hml]; rfl) (hb hby at_140) rfl ?_
        intro v87 T87 L87 X87 hQ87
        obtain ⟨b87, rfl, hb87, Nq87, eq87⟩ := hQ87
        have N87 := Fr.app N85 Nq87
        show Ok p e below _ _ T87 (mkF m 143 #[.val (.long p1), .second, .val (.long p2), .second, .val (.int p3), .val (.int p4), .val (.ref b64), .val (.long bb), .second, .val (.int (((p3.toUInt32 >>> ((1 : Int32) &&& 31).toUInt32).toInt32) &&& (3 : Int32))), .val (.ref b83), .val (.int ex), .unset] [(.int b87)])
        refine Ok.iload (pc' := 145) X87 hx (hb hby at_143) rfl rfl ?_
        by_cases hc145 : ¬ b87.toInt = ex.toInt
        · refine Ok.icY (pc' := 162) X87 hx (hb hby at_145) (bt (ic_eq b87 ex).2.1 hc145) (by decide) (by decide) ?_
          refine Ok.iconst (z := (0 : Int32)) (pc' := 163) X87 hx (hb hby at_162) rfl rfl ?_
          exfalso
          omega
        · refine Ok.icN (pc' := 148) X87 hx (hb hby at_145) (bf (ic_eq b87 ex).2.1 hc145) rfl ?_
          refine Ok.aload (pc' := 150) X87 hx (hb hby at_148) rfl rfl rfl ?_
          refine Ok.aload (pc' := 152) X87 hx (hb hby at_150) rfl rfl rfl ?_
          refine Ok.virt (pc' := 155) (W := 0) (a := b64)  (argsL := [(.ref b64)]) (rest := []) X87 hx hZ0 hown0 (rm6 l Z a0 hw b64 b64 p1 p1 T85.heap n0 Z86 A64 Fq66_value Fq66_value) (hw _ (List.mem_of_getElem? (i := 16) rfl)) (hw _ (List.mem_of_getElem? (i := 17) rfl)) (notFace_of_selects (args := #[]) (mvT (s := s.setVm _) hZ0 (hw _ (List.mem_of_getElem? (i := 19) rfl)))) (hw _ (List.mem_of_getElem? (i := 19) rfl)) (hw _ (List.mem_of_getElem? (i := 18) rfl)) (hw _ (List.mem_of_getElem? (i := 2) rfl)) (hw _ (List.mem_of_getElem? (i := 20) rfl)) (by decide) eq87 A64 (by decide) (by decide) (by decide) (by decide) (lenOf pd_2 rfl) rfl rfl (Nat.le_of_eq rfl) (by rw [hml]; rfl) (hb hby at_152) rfl ?_
          intro v88 T88 L88 X88 hQ88
          obtain ⟨b88, rfl, hb88, Nq88, eq88⟩ := hQ88
          have N88 := Fr.app N87 Nq88
          show Ok p e below _ _ T88 (mkF m 155 #[.val (.long p1), .second, .val (.long p2), .second, .val (.int p3), .val (.int p4), .val (.ref b64), .val (.long bb), .second, .val (.int (((p3.toUInt32 >>> ((1 : Int32) &&& 31).toUInt32).toInt32) &&& (3 : Int32))), .val (.ref b83), .val (.int ex), .unset] [(.int b88)])
          by_cases hc155 : b88.toInt = 0
          · refine Ok.ifY (pc' := 162) X88 hx (hb hby at_155) (bt (i0 .eq b88 (ic_eq b88 0).1) hc155) (by decide) (by decide) ?_
            refine Ok.iconst (z := (0 : Int32)) (pc' := 163) X88 hx (hb hby at_162) rfl rfl ?_
            exfalso
            omega
          · refine Ok.ifN (pc' := 158) X88 hx (hb hby at_155) (bf (i0 .eq b88 (ic_eq b88 0).1) hc155) rfl ?_
            refine Ok.iconst (z := (1 : Int32)) (pc' := 159) X88 hx (hb hby at_158) rfl rfl ?_
            refine Ok.goto (pc' := 163) X88 hx (hb hby at_159) (by decide) (by decide) ?_
            refine Ok.retIW X88 hx hS0 (by rw [eq88]; exact hSn86) hret hlk (Or.inr (Or.inl rfl)) rfl (hb hby at_163) (by decide) (by decide) ?_
            show Q0 Z p1 p2 p3 p4 cs0 gv ca cc bv h0 n0 _ T88.heap _
            rw [eq88]
            exact ⟨rfl, N88⟩
      refine Ok.lloadN (pc' := 49) X85 hx (hb hby at_48) rfl rfl ?_
      refine Ok.lload (pc' := 51) X85 hx (hb hby at_49) rfl rfl ?_
      refine Ok.lcmp (pc' := 52) X85 hx (hb hby at_51) rfl ?_
      by_cases hc52 : ¬ p1.toInt = bb.toInt
      · refine Ok.ifY (pc' := 59) X85 hx (hb hby at_52) (bt (lc_all p1 bb).2.1 hc52) (by decide) (by decide) ?_
        refine Ok.iconst (z := (0 : Int32)) (pc' := 60) X85 hx (hb hby at_59) rfl rfl ?_
        exact k60 _ (by rw [show ((0 : Int32)).toInt = 0 from rfl]; omega)
      · refine Ok.ifN (pc' := 55) X85 hx (hb hby at_52) (bf (lc_all p1 bb).2.1 hc52) rfl ?_
        refine Ok.iconst (z := (1 : Int32)) (pc' := 56) X85 hx (hb hby at_55) rfl rfl ?_
        refine Ok.goto (pc' := 60) X85 hx (hb hby at_56) (by decide) (by decide) ?_
        exact k60 _ (by rw [show ((1 : Int32)).toInt = 1 from rfl]; omega)
  refine Ok.iload (pc' := 12) X66 hx (hb hby at_10) rfl rfl ?_
  refine Ok.iconst (z := (1 : Int32)) (pc' := 13) X66 hx (hb hby at_12) rfl rfl ?_
  refine Ok.iand (pc' := 14) X66 hx (hb hby at_13) rfl ?_
  by_cases hc14 : (p3 &&& (1 : Int32)).toInt = 0
  · refine Ok.ifY (pc' := 21) X66 hx (hb hby at_14) (bt (i0 .eq (p3 &&& (1 : Int32)) (ic_eq (p3 &&& (1 : Int32)) 0).1) hc14) (by decide) (by decide) ?_
    refine Ok.lloadN (pc' := 22) X66 hx (hb hby at_21) rfl rfl ?_
    exact k22 p2
  · refine Ok.ifN (pc' := 17) X66 hx (hb hby at_14) (bf (i0 .eq (p3 &&& (1 : Int32)) (ic_eq (p3 &&& (1 : Int32)) 0).1) hc14) rfl ?_
    refine Ok.lloadN (pc' := 18) X66 hx (hb hby at_17) rfl rfl ?_
    refine Ok.goto (pc' := 22) X66 hx (hb hby at_18) (by decide) (by decide) ?_
    exact k22 p1
set_option maxRecDepth 65536 in
set_option maxHeartbeats 40000000 in
theorem comes_1 {Post : Tables → Env → Array Value → State → Outcome → State → Prop} (hpost : ∀ tb e args s v u, (limb_1_1.after args s (.returned v) u = true ∧ limb_1_2.after args s (.returned v) u = true ∧ True) → ReturnedEndW s (.returned v) u (Jvm.fieldLocs frame_1_writes args s ++ Jvm.arrayLocs frame_1_arrays args s ++ Jvm.staticLocs frame_1_statics s) 24 1152 → Post tb e args s (.returned v) u) :
    ArmFor flags0 classFile x code maxLocals ret World_1 tables_1 room_1 Calls_1 rest_1 Pre_1 Post := by
  intro l hfl _ _ p e ha hc hk s m args below hf hA hF happ hP
  obtain ⟨hcalls, hrest, hpre⟩ := hP
  obtain ⟨-, -, -, hnamed, -, -, -, hat⟩ := (Spec.applies_iff hf).mp happ
  obtain ⟨hg, hn⟩ := and_e (Cond.before_iff.mp (show (Jvm.Cond.and given_1 narrow_1).before args s = true from hpre))
  obtain ⟨hcount, hg0⟩ := and_e hg
  obtain ⟨hk0, hg1⟩ := and_e hg0
  obtain ⟨hk1, hg2⟩ := and_e hg1
  obtain ⟨hk2, hg3⟩ := and_e hg2
  have hk3 := hg3
  obtain ⟨w0, w1, w2, w3, rfl⟩ : ∃ w0 w1 w2 w3 : Value, args = #[w0, w1, w2, w3] := by
    have hs : args.size = 4 := by simpa [Cond.value, given_1] using hcount
    obtain ⟨L⟩ := args
    match L, hs with
    | [w0, w1, w2, w3], _ => exact ⟨w0, w1, w2, w3, rfl⟩
  have hw := fun d (hd : d ∈ tables_1) => atoms_spec (ws := Jvm.Cond.code x code maxLocals ret :: tables_1) hat d (List.mem_cons_of_mem _ hd)
  have hfit : Fit s := fun {y c} hc i hi => by
    obtain ⟨ha, rfl⟩ := Array.getElem?_eq_some_iff.mp hc
    have q := List.all_eq_true.mp ((Array.all_eq_true_iff_forall_mem.mp hF) _ (Array.getElem_mem ha)) i (List.mem_range.mpr hi)
    simpa [Array.getElem?_eq_getElem hi] using q
  obtain ⟨hsets, hown0⟩ := atoms_of _ (rest_1_c_eq ▸ (show rest_1_c.before _ s = true from hrest))
  obtain ⟨i0, ei0⟩ := isL_v hk0
  obtain rfl : w0 = (.long i0) := Option.some.inj ei0
  obtain ⟨i1, ei1⟩ := isL_v hk1
  obtain rfl : w1 = (.long i1) := Option.some.inj ei1
  obtain ⟨i2, ei2⟩ := is_v hk2
  obtain rfl : w2 = (.int i2) := Option.some.inj ei2
  obtain ⟨i3, ei3⟩ := is_v hk3
  obtain rfl : w3 = (.int i3) := Option.some.inj ei3
  obtain ⟨cs0, ecs⟩ := is_v (Cond.before_iff.mp (hsets _ (List.mem_of_getElem? (i := 1) rfl)))
  have S_cs := Sta.start ecs (Or.inl (hsets _ (List.mem_of_getElem? (i := 0) rfl)))
  have hcs : ¬ cs0.toInt = 0 := fun q => by
    have h0 := not_v (Cond.before_iff.mp (hsets _ (List.mem_of_getElem? (i := 2) rfl)))
    have h1 := Cond.eq_ints ecs (Term.int_eval (0))
    rw [h0] at h1
    have h2 : cs0 = 0 := Int32.toInt_inj.mp (by rw [q]; rfl)
    simp [h2] at h1
  obtain ⟨gv, egv, r_gv⟩ := isR_v (Cond.before_iff.mp (hsets _ (List.mem_of_getElem? (i := 8) rfl)))
  have S_sf := Sta.start egv (Or.inl (hsets _ (List.mem_of_getElem? (i := 7) rfl)))
  obtain ⟨ca, eca⟩ := arr_v (Cond.before_iff.mp (hsets _ (List.mem_of_getElem? (i := 11) rfl)))
  obtain ⟨cc, Acc⟩ := Arr.start eca (Cond.before_iff.mp (hsets _ (List.mem_of_getElem? (i := 11) rfl)))
  have S_cache := Sta.start eca (Or.inl (hsets _ (List.mem_of_getElem? (i := 10) rfl)))
  have hlen := eqv_i (Term.int_eval (256)) (Cond.before_iff.mp (hsets _ (List.mem_of_getElem? (i := 13) rfl)))
  obtain ⟨_, ccl, u1, u2, u3⟩ := Term.length_spec hlen
  obtain rfl := Value.ref.inj (Option.some.inj (eca.symm.trans u1))
  obtain rfl := Option.some.inj ((Acc.fin (Vm.Alike.refl _)).symm.trans u2)
  have hsz : cc.slots.size < 2 ^ 31 := len_small hlen eca (Acc.fin (Vm.Alike.refl _))
  have B_x : Bxs s ca cc "java/lang/Long" "J" (256 : Int32) (fun j => .long ((j - 128).toInt64)) := Bxs.start (fun _ => eca) Acc hsz (Value.int.inj u3).symm (by decide) (Cond.before_iff.mp (hsets _ (List.mem_of_getElem? (i := 14) rfl))) (fun X j hj hq => eqv_l (i2l_at (sub_idx hj)) hq)
  obtain ⟨n, o, h1, h2, h3, _, L, rfl, ⟨rfl, N⟩, hq⟩ := rm0 l s _ hw tables_1 i0 i1 i2 i3 cs0 gv ca cc _ s.heap s.heap.size (Nat.le_refl _) (Old.start s) S_cs hcs S_sf r_gv S_cache B_x p e ha hc hk s m _ below hf ((Spec.applies_iff_loose hf).mp happ).1 ⟨rfl, State.Warmed39.refl s, rfl⟩ trivial
  refine ⟨n, _, h1, h2, h3, hpost _ _ _ _ _ _ ⟨Cond.after_iff.mpr rfl, Cond.after_iff.mpr (eq_i res_at (Term.int_eval (1)) rfl), trivial⟩ ⟨hq.1, hq.2.1, hq.2.2.1, (hq.2.2.2.sift fun y hy => Or.inr (N y hy)).mono (by decide) (by decide)⟩⟩
theorem main_1_1 : Claimed_1_1 := comes_1 fun _ _ _ _ _ _ h hF => ⟨h.1, hF⟩
theorem main_1_2 : Claimed_1_2 := comes_1 fun _ _ _ _ _ _ h hF => ⟨h.2.1, hF⟩
end Jvm.Pilot.@@N@@
namespace Jvm.Pilot.@@N@@
open Jvm Jvm.ClassFile Sem Op Lib Jvm.Free Jvm.Stand Jvm.Pilot.@@N@@.Jvm.D
/-! MADE BY PROGRAM (witnessworld.py) out of the Statement's table words and the real class files: 25 classes; the members and pool entries that the words name. The judged class is class 1, her method 1. -/
namespace start1
open Jvm.ClassFile
def u (s : String) : CpInfo := .utf8 (stringToUtf16 s)
/-- a pool by its gaps: so many unusable entries, then the entry; so many at the end -/
def gap : Nat → List CpInfo → List CpInfo
  | 0, r => r
  | n + 1, r => .unusable :: gap n r
def poolList (es : List (Nat × CpInfo)) (last : Nat) : List CpInfo := es.foldr (fun e r => gap e.1 (e.2 :: r)) (gap last [])
def pool (es : List (Nat × CpInfo)) (last : Nat) : Array CpInfo := ⟨poolList es last⟩
def fileOf (pool : Array CpInfo) (this : Nat) (attrs : Array Attribute := #[]) (ms : Array MethodInfo := #[]) (fl : Nat := 33) (sup : Nat := 0) (ifs : Array Nat := #[]) (fds : Array FieldInfo := #[]) : ClassFile where
  minorVersion := 0
  majorVersion := 65
  constantPool := pool
  accessFlags := fl
  thisClass := this
  superClass := sup
  interfaces := ifs
  fields := fds
  methods := ms
  attributes := attrs
def plain (name : String) (sup : Option ClassId) : Class where
  name := name
  kind := .ordinary
  loader := none
  accessFlags := 33
  super := sup
  interfaces := #[]
  cf := none
  fields := #[]
  methods := #[]
  instanceTypes := #[]
  staticTypes := #[]
  resolved := #[]
  callSites := []
  init := .initialized
  statics := none
  mirror := none

def pool0 : Array CpInfo := pool [(5, u "<init>"), (0, u "()V"), (1, .class_ 10), (1, u "java/lang/Object")] 113

def k0c0 : Code := { maxStack := 0, maxLocals := 1, code := object_method_1_code, exceptionTable := #[], attributes := #[] }
def k0m0 : Method := { name := "<init>", desc := "()V", sig := { parameters := [], returnType := none }, accessFlags := 1, code := some k0c0 }
/-- java/lang/Object -/
def k0 : Class := { plain "java/lang/Object" none with
  accessFlags := 33
  interfaces := #[]
  cf := some (fileOf pool0 8 #[] #[{ accessFlags := 1, nameIndex := 5, descriptorIndex := 6, attributes := #[] }] 33 0 #[] #[])
  fields := #[]
  methods := #[k0m0]
  instanceTypes := #[]
  staticTypes := #[]
  resolved := Array.replicate 124 none
  statics := none }

def pool1 : Array CpInfo := pool [(2, .class_ 4), (1, u "java/lang/Object"), (0, u "<init>"), (0, u "()V"), (0, .class_ 8), (0, u "com/example/datenschutz/datenschutz/event/IntegerValue"), (0, .methodref 7 10), (0, .nameAndType 5 11), (0, u "(J)V"), (0, .methodref 13 14), (0, .class_ 15), (0, .nameAndType 16 17), (0, u "com/example/datenschutz/datenschutz/event/StringValue"), (0, u "canHold"), (0, u "(C)Z"), (0, .methodref 19 20), (0, .class_ 21), (0, .nameAndType 22 23), (0, u "java/lang/String"), (0, u "valueOf"), (0, u "(C)Ljava/lang/String;"), (0, .methodref 13 25), (0, .nameAndType 5 26), (0, u "(Ljava/lang/String;)V"), (0, .methodref 28 29), (0, .class_ 30), (0, .nameAndType 22 31), (0, u "java/lang/Long"), (0, u "(J)Ljava/lang/Long;"), (0, .methodref 7 33), (0, .nameAndType 34 35), (0, u "equals"), (0, u "(Ljava/lang/Object;)Z"), (0, .class_ 37), (0, u "com/example/datenschutz/datenschutz/event/IntegerValueEqualsPinLaw"), (2, u "law"), (0, u "(JJII)Z")] 3

def k1m0 : Method := { name := "<init>", desc := "()V", sig := { parameters := [], returnType := none }, accessFlags := 1, code := none }
def k1c1 : Code := { maxStack := 4, maxLocals := 13, code := code, exceptionTable := #[], attributes := #[] }
def k1m1 : Method := { name := "law", desc := "(JJII)Z", sig := { parameters := [.long, .long, .int, .int], returnType := some .boolean }, accessFlags := 9, code := some k1c1 }
/-- com/example/datenschutz/datenschutz/event/IntegerValueEqualsPinLaw -/
def k1 : Class := { plain "com/example/datenschutz/datenschutz/event/IntegerValueEqualsPinLaw" (some 0) with
  accessFlags := 49
  interfaces := #[]
  cf := some (fileOf pool1 36 #[] #[{ accessFlags := 1, nameIndex := 5, descriptorIndex := 6, attributes := #[] }, { accessFlags := 9, nameIndex := 40, descriptorIndex := 41, attributes := #[] }] 49 2 #[] #[])
  fields := #[]
  methods := #[k1m0, k1m1]
  instanceTypes := #[]
  staticTypes := #[]
  resolved := Array.replicate 45 none
  statics := none }

def pool2 : Array CpInfo := pool [(1, .methodref 2 3), (0, .class_ 4), (0, .nameAndType 5 6), (0, u "java/lang/Object"), (0, u "<init>"), (0, u "()V"), (0, .class_ 8), (0, u "java/lang/Record")] 13

def k2c0 : Code := { maxStack := 1, maxLocals := 1, code := jdk_30_method_1_code, exceptionTable := #[], attributes := #[] }
def k2m0 : Method := { name := "<init>", desc := "()V", sig := { parameters := [], returnType := none }, accessFlags := 4, code := some k2c0 }
/-- java/lang/Record -/
def k2 : Class := { plain "java/lang/Record" (some 0) with
  accessFlags := 1057
  interfaces := #[]
  cf := some (fileOf pool2 7 #[] #[{ accessFlags := 4, nameIndex := 5, descriptorIndex := 6, attributes := #[] }] 1057 2 #[] #[])
  fields := #[]
  methods := #[k2m0]
  instanceTypes := #[]
  staticTypes := #[]
  resolved := Array.replicate 22 none
  statics := none }

def pool3 : Array CpInfo := pool [(1, .class_ 2), (0, u "com/example/datenschutz/datenschutz/event/Value"), (0, .class_ 4), (0, u "java/lang/Object")] 7

/-- com/example/datenschutz/datenschutz/event/Value -/
def k3 : Class := { plain "com/example/datenschutz/datenschutz/event/Value" (some 0) with
  accessFlags := 1537
  interfaces := #[]
  cf := some (fileOf pool3 1 #[] #[] 1537 3 #[] #[])
  fields := #[]
  methods := #[]
  instanceTypes := #[]
  staticTypes := #[]
  resolved := Array.replicate 12 none
  statics := none }

def pool4 : Array CpInfo := pool [(1, .methodref 2 3), (0, .class_ 4), (0, .nameAndType 5 6), (0, u "java/lang/Record"), (0, u "<init>"), (0, u "()V"), (0, .fieldref 8 9), (0, .class_ 10), (0, .nameAndType 11 12), (0, u "com/example/datenschutz/datenschutz/event/IntegerValue"), (0, u "value"), (0, u "J"), (10, .class_ 24), (0, u "com/example/datenschutz/datenschutz/event/Value"), (0, u "(J)V"), (3, u "equals"), (0, u "(Ljava/lang/Object;)Z")] 7

def k4c0 : Code := { maxStack := 3, maxLocals := 3, code := prog_47_method_1_code, exceptionTable := #[], attributes := #[] }
def k4m0 : Method := { name := "<init>", desc := "(J)V", sig := { parameters := [.long], returnType := none }, accessFlags := 1, code := some k4c0 }
def k4c1 : Code := { maxStack := 4, maxLocals := 3, code := prog_47_method_2_code, exceptionTable := #[], attributes := #[] }
def k4m1 : Method := { name := "equals", desc := "(Ljava/lang/Object;)Z", sig := { parameters := [(.object "java/lang/Object")], returnType := some .boolean }, accessFlags := 1, code := some k4c1 }
/-- com/example/datenschutz/datenschutz/event/IntegerValue -/
def k4 : Class := { plain "com/example/datenschutz/datenschutz/event/IntegerValue" (some 2) with
  accessFlags := 49
  interfaces := #[3]
  cf := some (fileOf pool4 8 #[] #[{ accessFlags := 1, nameIndex := 5, descriptorIndex := 25, attributes := #[] }, { accessFlags := 1, nameIndex := 29, descriptorIndex := 30, attributes := #[] }] 49 2 #[23] #[{ accessFlags := 18, nameIndex := 11, descriptorIndex := 12, attributes := #[] }])
  fields := #[{ name := "value", type := .long, accessFlags := 18, slot := 0, constantValue := 0 }]
  methods := #[k4m0, k4m1]
  instanceTypes := #[.long]
  staticTypes := #[]
  resolved := Array.replicate 38 none
  statics := none }

def pool5 : Array CpInfo := pool [(1, .methodref 2 3), (0, .class_ 4), (0, .nameAndType 5 6), (0, u "java/lang/Record"), (0, u "<init>"), (0, u "()V"), (0, .string 8), (0, u "text"), (0, .methodref 10 11), (0, .class_ 12), (0, .nameAndType 13 14), (0, u "java/util/Objects"), (0, u "requireNonNull"), (0, u "(Ljava/lang/Object;Ljava/lang/String;)Ljava/lang/Object;"), (0, .methodref 16 17), (0, .class_ 18), (0, .nameAndType 19 20), (0, u "java/lang/String"), (0, u "length"), (0, u "()I"), (0, .methodref 16 22), (0, .nameAndType 23 24), (0, u "charAt"), (0, u "(I)C"), (0, .methodref 26 27), (0, .class_ 28), (0, .nameAndType 29 30), (0, u "com/example/datenschutz/datenschutz/event/StringValue"), (0, u "canHold"), (0, u "(C)Z"), (20, u "(Ljava/lang/String;)V"), (0, .fieldref 26 53), (0, .nameAndType 8 54), (0, u "Ljava/lang/String;"), (8, .class_ 64), (0, u "com/example/datenschutz/datenschutz/event/Value")] 26

def k5c0 : Code := { maxStack := 5, maxLocals := 3, code := prog_55_method_1_code, exceptionTable := #[], attributes := #[] }
def k5m0 : Method := { name := "<init>", desc := "(Ljava/lang/String;)V", sig := { parameters := [(.object "java/lang/String")], returnType := none }, accessFlags := 1, code := some k5c0 }
def k5c1 : Code := { maxStack := 2, maxLocals := 1, code := prog_55_method_2_code, exceptionTable := #[], attributes := #[] }
def k5m1 : Method := { name := "canHold", desc := "(C)Z", sig := { parameters := [.char], returnType := some .boolean }, accessFlags := 9, code := some k5c1 }
/-- com/example/datenschutz/datenschutz/event/StringValue -/
def k5 : Class := { plain "com/example/datenschutz/datenschutz/event/StringValue" (some 2) with
  accessFlags := 49
  interfaces := #[3]
  cf := some (fileOf pool5 26 #[] #[{ accessFlags := 1, nameIndex := 5, descriptorIndex := 51, attributes := #[] }, { accessFlags := 9, nameIndex := 29, descriptorIndex := 30, attributes := #[] }] 49 2 #[63] #[{ accessFlags := 18, nameIndex := 8, descriptorIndex := 54, attributes := #[] }])
  fields := #[{ name := "text", type := (.object "java/lang/String"), accessFlags := 18, slot := 0, constantValue := 0 }]
  methods := #[k5m0, k5m1]
  instanceTypes := #[(.object "java/lang/String")]
  staticTypes := #[]
  resolved := Array.replicate 91 none
  statics := none }

def pool6 : Array CpInfo := pool [(1, .class_ 2), (0, u "java/io/Serializable"), (0, .class_ 4), (0, u "java/lang/Object")] 2

/-- java/io/Serializable -/
def k6 : Class := { plain "java/io/Serializable" (some 0) with
  accessFlags := 1537
  interfaces := #[]
  cf := some (fileOf pool6 1 #[] #[] 1537 3 #[] #[])
  fields := #[]
  methods := #[]
  instanceTypes := #[]
  staticTypes := #[]
  resolved := Array.replicate 7 none
  statics := none }

def pool7 : Array CpInfo := pool [(1, .class_ 2), (0, u "java/lang/Comparable"), (0, .class_ 4), (0, u "java/lang/Object")] 7

/-- java/lang/Comparable -/
def k7 : Class := { plain "java/lang/Comparable" (some 0) with
  accessFlags := 1537
  interfaces := #[]
  cf := some (fileOf pool7 1 #[] #[] 1537 3 #[] #[])
  fields := #[]
  methods := #[]
  instanceTypes := #[]
  staticTypes := #[]
  resolved := Array.replicate 12 none
  statics := none }

def pool8 : Array CpInfo := pool [(2, .class_ 4), (1, u "java/lang/CharSequence"), (42, .class_ 48), (0, u "java/lang/CharSequence$1CodePointIterator"), (10, .class_ 60), (0, u "java/lang/CharSequence$1CharIterator"), (5, .class_ 67), (0, u "java/lang/Object")] 63

/-- java/lang/CharSequence -/
def k8 : Class := { plain "java/lang/CharSequence" (some 0) with
  accessFlags := 1537
  interfaces := #[]
  cf := some (fileOf pool8 2 #[.nestMembers #[47, 59]] #[] 1537 66 #[] #[])
  fields := #[]
  methods := #[]
  instanceTypes := #[]
  staticTypes := #[]
  resolved := Array.replicate 131 none
  statics := none }

def pool9 : Array CpInfo := pool [(1, .class_ 2), (0, u "java/lang/constant/Constable"), (0, .class_ 4), (0, u "java/lang/Object")] 6

/-- java/lang/constant/Constable -/
def k9 : Class := { plain "java/lang/constant/Constable" (some 0) with
  accessFlags := 1537
  interfaces := #[]
  cf := some (fileOf pool9 1 #[] #[] 1537 3 #[] #[])
  fields := #[]
  methods := #[]
  instanceTypes := #[]
  staticTypes := #[]
  resolved := Array.replicate 11 none
  statics := none }

def pool10 : Array CpInfo := pool [(1, .class_ 2), (0, u "java/lang/constant/ConstantDesc"), (0, .class_ 4), (0, u "java/lang/Object")] 32

/-- java/lang/constant/ConstantDesc -/
def k10 : Class := { plain "java/lang/constant/ConstantDesc" (some 0) with
  accessFlags := 1537
  interfaces := #[]
  cf := some (fileOf pool10 1 #[] #[] 1537 3 #[] #[])
  fields := #[]
  methods := #[]
  instanceTypes := #[]
  staticTypes := #[]
  resolved := Array.replicate 37 none
  statics := none }

def pool11 : Array CpInfo := pool [(1, .methodref 2 3), (0, .class_ 4), (0, .nameAndType 5 6), (0, u "java/lang/Object"), (0, u "<init>"), (0, u "()V"), (2, .fieldref 10 11), (0, .class_ 12), (0, .nameAndType 13 14), (0, u "java/lang/String"), (0, u "value"), (0, u "[B"), (0, .fieldref 10 16), (0, .nameAndType 17 18), (0, u "coder"), (0, u "B"), (2, u "hash"), (0, u "I"), (2, u "hashIsZero"), (0, u "Z"), (11, .fieldref 10 39), (0, .nameAndType 40 26), (0, u "COMPACT_STRINGS"), (12, u "toBytes"), (53, .class_ 109), (1, u "java/lang/StringLatin1"), (32, u "()Z"), (66, .methodref 10 210), (0, .nameAndType 5 211), (0, u "([BB)V"), (122, u "()I"), (0, .methodref 10 336), (0, .nameAndType 17 337), (0, u "()B"), (25, u "([BI)C"), (5, u "(C)Z"), (21, u "(II)V"), (35, u "(I)C"), (64, .methodref 10 493), (0, .nameAndType 494 142), (0, u "isLatin1"), (0, .methodref 107 496), (0, .nameAndType 497 363), (0, u "charAt"), (3, u "checkIndex"), (5, u "length"), (67, .class_ 576), (0, u "java/lang/CharSequence"), (22, u "CASE_INSENSITIVE_ORDER"), (0, u "Ljava/util/Comparator;"), (181, u "valueOf"), (0, u "(C)Ljava/lang/String;"), (231, .methodref 107 1016), (0, .nameAndType 1017 369), (0, u "canEncode"), (0, .methodref 107 1019), (0, .nameAndType 53 1020), (0, u "(C)[B"), (32, .fieldref 1054 1055), (0, .class_ 1056), (0, .nameAndType 1057 1058), (0, u "jdk/internal/util/Preconditions"), (0, u "SIOOBE_FORMATTER"), (0, u "Ljava/util/function/BiFunction;"), (0, .methodref 1054 1060), (0, .nameAndType 501 1061), (0, u "(IILjava/util/function/BiFunction;)I"), (39, u "serialPersistentFields"), (0, u "[Ljava/io/ObjectStreamField;"), (0, .class_ 1104), (0, u "java/lang/String$CaseInsensitiveComparator"), (1, .class_ 1107), (0, u "java/io/Serializable"), (0, .class_ 1109), (0, u "java/lang/Comparable"), (0, .class_ 1111), (0, u "java/lang/constant/Constable"), (0, .class_ 1113), (0, u "java/lang/constant/ConstantDesc"), (2, u "serialVersionUID"), (0, u "J"), (3, u "REPL"), (0, u "C"), (2, u "LATIN1"), (1, u "UTF16")] 323

def k11m0 : Method := { name := "<init>", desc := "()V", sig := { parameters := [], returnType := none }, accessFlags := 1, code := none }
def k11c1 : Code := { maxStack := 2, maxLocals := 1, code := jdk_42_method_54_code, exceptionTable := #[], attributes := #[] }
def k11m1 : Method := { name := "length", desc := "()I", sig := { parameters := [], returnType := some .int }, accessFlags := 1, code := some k11c1 }
def k11c2 : Code := { maxStack := 2, maxLocals := 2, code := jdk_42_method_56_code, exceptionTable := #[], attributes := #[] }
def k11m2 : Method := { name := "charAt", desc := "(I)C", sig := { parameters := [.int], returnType := some .char }, accessFlags := 1, code := some k11c2 }
def k11c3 : Code := { maxStack := 4, maxLocals := 1, code := jdk_42_method_139_code, exceptionTable := #[], attributes := #[] }
def k11m3 : Method := { name := "valueOf", desc := "(C)Ljava/lang/String;", sig := { parameters := [.char], returnType := some (.object "java/lang/String") }, accessFlags := 9, code := some k11c3 }
def k11c4 : Code := { maxStack := 2, maxLocals := 3, code := jdk_42_method_151_code, exceptionTable := #[], attributes := #[] }
def k11m4 : Method := { name := "<init>", desc := "([BB)V", sig := { parameters := [(.array .byte), .byte], returnType := none }, accessFlags := 0, code := some k11c4 }
def k11c5 : Code := { maxStack := 1, maxLocals := 1, code := jdk_42_method_152_code, exceptionTable := #[], attributes := #[] }
def k11m5 : Method := { name := "coder", desc := "()B", sig := { parameters := [], returnType := some .byte }, accessFlags := 0, code := some k11c5 }
def k11c6 : Code := { maxStack := 1, maxLocals := 1, code := jdk_42_method_154_code, exceptionTable := #[], attributes := #[] }
def k11m6 : Method := { name := "isLatin1", desc := "()Z", sig := { parameters := [], returnType := some .boolean }, accessFlags := 0, code := some k11c6 }
def k11c7 : Code := { maxStack := 3, maxLocals := 2, code := jdk_42_method_155_code, exceptionTable := #[], attributes := #[] }
def k11m7 : Method := { name := "checkIndex", desc := "(II)V", sig := { parameters := [.int, .int], returnType := none }, accessFlags := 8, code := some k11c7 }
/-- java/lang/String -/
def k11 : Class := { plain "java/lang/String" (some 0) with
  accessFlags := 49
  interfaces := #[6, 7, 8, 9, 10]
  cf := some (fileOf pool11 10 #[.nestMembers #[1103]] #[{ accessFlags := 1, nameIndex := 5, descriptorIndex := 6, attributes := #[] }, { accessFlags := 1, nameIndex := 507, descriptorIndex := 334, attributes := #[] }, { accessFlags := 1, nameIndex := 497, descriptorIndex := 427, attributes := #[] }, { accessFlags := 9, nameIndex := 782, descriptorIndex := 783, attributes := #[] }, { accessFlags := 0, nameIndex := 5, descriptorIndex := 211, attributes := #[] }, { accessFlags := 0, nameIndex := 17, descriptorIndex := 337, attributes := #[] }, { accessFlags := 0, nameIndex := 494, descriptorIndex := 142, attributes := #[] }, { accessFlags := 8, nameIndex := 501, descriptorIndex := 391, attributes := #[] }] 49 2 #[1106, 1108, 575, 1110, 1112] #[{ accessFlags := 18, nameIndex := 13, descriptorIndex := 14, attributes := #[] }, { accessFlags := 18, nameIndex := 17, descriptorIndex := 18, attributes := #[] }, { accessFlags := 2, nameIndex := 21, descriptorIndex := 22, attributes := #[] }, { accessFlags := 2, nameIndex := 25, descriptorIndex := 26, attributes := #[] }, { accessFlags := 26, nameIndex := 1116, descriptorIndex := 1117, attributes := #[] }, { accessFlags := 24, nameIndex := 40, descriptorIndex := 26, attributes := #[] }, { accessFlags := 26, nameIndex := 1101, descriptorIndex := 1102, attributes := #[] }, { accessFlags := 26, nameIndex := 1121, descriptorIndex := 1122, attributes := #[] }, { accessFlags := 25, nameIndex := 599, descriptorIndex := 600, attributes := #[] }, { accessFlags := 24, nameIndex := 1125, descriptorIndex := 18, attributes := #[] }, { accessFlags := 24, nameIndex := 1127, descriptorIndex := 18, attributes := #[] }])
  fields := #[{ name := "value", type := (.array .byte), accessFlags := 18, slot := 0, constantValue := 0 }, { name := "coder", type := .byte, accessFlags := 18, slot := 1, constantValue := 0 }, { name := "hash", type := .int, accessFlags := 2, slot := 2, constantValue := 0 }, { name := "hashIsZero", type := .boolean, accessFlags := 2, slot := 3, constantValue := 0 }, { name := "serialVersionUID", type := .long, accessFlags := 26, slot := 0, constantValue := 0 }, { name := "COMPACT_STRINGS", type := .boolean, accessFlags := 24, slot := 1, constantValue := 0 }, { name := "serialPersistentFields", type := (.array (.object "java/io/ObjectStreamField")), accessFlags := 26, slot := 2, constantValue := 0 }, { name := "REPL", type := .char, accessFlags := 26, slot := 3, constantValue := 0 }, { name := "CASE_INSENSITIVE_ORDER", type := (.object "java/util/Comparator"), accessFlags := 25, slot := 4, constantValue := 0 }, { name := "LATIN1", type := .byte, accessFlags := 24, slot := 5, constantValue := 0 }, { name := "UTF16", type := .byte, accessFlags := 24, slot := 6, constantValue := 0 }]
  methods := #[k11m0, k11m1, k11m2, k11m3, k11m4, k11m5, k11m6, k11m7]
  instanceTypes := #[(.array .byte), .byte, .int, .boolean]
  staticTypes := #[.long, .boolean, (.array (.object "java/io/ObjectStreamField")), .char, (.object "java/util/Comparator"), .byte, .byte]
  resolved := Array.replicate 1451 none
  statics := some 0 }

def pool12 : Array CpInfo := pool [(1, .class_ 2), (0, u "java/lang/String"), (1, .class_ 6), (1, u "java/lang/Object"), (0, u "<init>"), (0, u "()V"), (0, .methodref 1 10), (0, .nameAndType 11 12), (0, u "checkIndex"), (0, u "(II)V"), (1, .class_ 16), (1, u "java/lang/StringLatin1"), (36, u "([BI)C"), (36, u "canEncode"), (14, u "(C)Z"), (15, u "$assertionsDisabled"), (0, u "Z"), (98, .class_ 223), (1, u "java/lang/StringLatin1$LinesSpliterator"), (28, u "charAt"), (127, u "toBytes"), (1, u "(C)[B"), (7, .class_ 391), (0, u "java/lang/StringLatin1$CharsSpliterator")] 3

def k12m0 : Method := { name := "<init>", desc := "()V", sig := { parameters := [], returnType := none }, accessFlags := 0, code := none }
def k12c1 : Code := { maxStack := 2, maxLocals := 2, code := jdk_43_method_2_code, exceptionTable := #[], attributes := #[] }
def k12m1 : Method := { name := "charAt", desc := "([BI)C", sig := { parameters := [(.array .byte), .int], returnType := some .char }, accessFlags := 9, code := some k12c1 }
def k12c2 : Code := { maxStack := 2, maxLocals := 1, code := jdk_43_method_3_code, exceptionTable := #[], attributes := #[] }
def k12m2 : Method := { name := "canEncode", desc := "(C)Z", sig := { parameters := [.char], returnType := some .boolean }, accessFlags := 9, code := some k12c2 }
def k12c3 : Code := { maxStack := 4, maxLocals := 1, code := jdk_43_method_46_code, exceptionTable := #[], attributes := #[] }
def k12m3 : Method := { name := "toBytes", desc := "(C)[B", sig := { parameters := [.char], returnType := some (.array .byte) }, accessFlags := 9, code := some k12c3 }
/-- java/lang/StringLatin1 -/
def k12 : Class := { plain "java/lang/StringLatin1" (some 0) with
  accessFlags := 48
  interfaces := #[]
  cf := some (fileOf pool12 14 #[.nestMembers #[390, 221]] #[{ accessFlags := 0, nameIndex := 7, descriptorIndex := 8, attributes := #[] }, { accessFlags := 9, nameIndex := 252, descriptorIndex := 53, attributes := #[] }, { accessFlags := 9, nameIndex := 90, descriptorIndex := 105, attributes := #[] }, { accessFlags := 9, nameIndex := 380, descriptorIndex := 382, attributes := #[] }] 48 4 #[] #[{ accessFlags := 4120, nameIndex := 121, descriptorIndex := 122, attributes := #[] }])
  fields := #[{ name := "$assertionsDisabled", type := .boolean, accessFlags := 4120, slot := 0, constantValue := 0 }]
  methods := #[k12m0, k12m1, k12m2, k12m3]
  instanceTypes := #[]
  staticTypes := #[.boolean]
  resolved := Array.replicate 395 none
  statics := none }

def pool13 : Array CpInfo := pool [(2, .class_ 4), (1, u "java/lang/Object"), (0, u "<init>"), (0, u "()V"), (35, .class_ 44), (1, u "java/util/Objects"), (0, u "requireNonNull"), (48, u "(Ljava/lang/Object;Ljava/lang/String;)Ljava/lang/Object;")] 89

def k13m0 : Method := { name := "<init>", desc := "()V", sig := { parameters := [], returnType := none }, accessFlags := 2, code := none }
def k13c1 : Code := { maxStack := 3, maxLocals := 2, code := jdk_31_method_11_code, exceptionTable := #[], attributes := #[] }
def k13m1 : Method := { name := "requireNonNull", desc := "(Ljava/lang/Object;Ljava/lang/String;)Ljava/lang/Object;", sig := { parameters := [(.object "java/lang/Object"), (.object "java/lang/String")], returnType := some (.object "java/lang/Object") }, accessFlags := 9, code := some k13c1 }
/-- java/util/Objects -/
def k13 : Class := { plain "java/util/Objects" (some 0) with
  accessFlags := 49
  interfaces := #[]
  cf := some (fileOf pool13 42 #[] #[{ accessFlags := 2, nameIndex := 5, descriptorIndex := 6, attributes := #[] }, { accessFlags := 9, nameIndex := 45, descriptorIndex := 94, attributes := #[] }] 49 2 #[] #[])
  fields := #[]
  methods := #[k13m0, k13m1]
  instanceTypes := #[]
  staticTypes := #[]
  resolved := Array.replicate 184 none
  statics := none }

def pool14 : Array CpInfo := pool [(2, .class_ 4), (1, u "java/lang/Object"), (0, u "<init>"), (0, u "()V"), (17, .class_ 26), (1, u "jdk/internal/util/Preconditions"), (6, u "checkIndex"), (21, .class_ 56), (0, u "jdk/internal/util/Preconditions$4"), (57, .class_ 115), (0, u "jdk/internal/util/Preconditions$1"), (7, u "SIOOBE_FORMATTER"), (0, u "Ljava/util/function/BiFunction;"), (0, .class_ 126), (0, u "jdk/internal/util/Preconditions$2"), (3, u "AIOOBE_FORMATTER"), (0, .class_ 132), (0, u "jdk/internal/util/Preconditions$3"), (3, u "IOOBE_FORMATTER"), (41, u "(IILjava/util/function/BiFunction;)I")] 15

def k14m0 : Method := { name := "<init>", desc := "()V", sig := { parameters := [], returnType := none }, accessFlags := 1, code := none }
def k14c1 : Code := { maxStack := 3, maxLocals := 3, code := jdk_41_method_11_code, exceptionTable := #[], attributes := #[] }
def k14m1 : Method := { name := "checkIndex", desc := "(IILjava/util/function/BiFunction;)I", sig := { parameters := [.int, .int, (.object "java/util/function/BiFunction")], returnType := some .int }, accessFlags := 9, code := some k14c1 }
/-- jdk/internal/util/Preconditions -/
def k14 : Class := { plain "jdk/internal/util/Preconditions" (some 0) with
  accessFlags := 33
  interfaces := #[]
  cf := some (fileOf pool14 24 #[.nestMembers #[55, 131, 125, 114]] #[{ accessFlags := 1, nameIndex := 5, descriptorIndex := 6, attributes := #[] }, { accessFlags := 9, nameIndex := 33, descriptorIndex := 178, attributes := #[] }] 33 2 #[] #[{ accessFlags := 25, nameIndex := 123, descriptorIndex := 124, attributes := #[] }, { accessFlags := 25, nameIndex := 130, descriptorIndex := 124, attributes := #[] }, { accessFlags := 25, nameIndex := 136, descriptorIndex := 124, attributes := #[] }])
  fields := #[{ name := "SIOOBE_FORMATTER", type := (.object "java/util/function/BiFunction"), accessFlags := 25, slot := 0, constantValue := 0 }, { name := "AIOOBE_FORMATTER", type := (.object "java/util/function/BiFunction"), accessFlags := 25, slot := 1, constantValue := 0 }, { name := "IOOBE_FORMATTER", type := (.object "java/util/function/BiFunction"), accessFlags := 25, slot := 2, constantValue := 0 }]
  methods := #[k14m0, k14m1]
  instanceTypes := #[]
  staticTypes := #[(.object "java/util/function/BiFunction"), (.object "java/util/function/BiFunction"), (.object "java/util/function/BiFunction")]
  resolved := Array.replicate 194 none
  statics := some 1 }

def pool15 : Array CpInfo := pool [(1, .methodref 2 3), (0, .class_ 4), (0, .nameAndType 5 6), (0, u "java/lang/Object"), (0, u "<init>"), (0, u "()V"), (1, .class_ 10), (1, u "java/lang/Number"), (2, .class_ 14), (0, u "java/io/Serializable"), (0, u "serialVersionUID"), (0, u "J")] 20

def k15c0 : Code := { maxStack := 1, maxLocals := 1, code := jdk_18_method_1_code, exceptionTable := #[], attributes := #[] }
def k15m0 : Method := { name := "<init>", desc := "()V", sig := { parameters := [], returnType := none }, accessFlags := 1, code := some k15c0 }
/-- java/lang/Number -/
def k15 : Class := { plain "java/lang/Number" (some 0) with
  accessFlags := 1057
  interfaces := #[6]
  cf := some (fileOf pool15 8 #[] #[{ accessFlags := 1, nameIndex := 5, descriptorIndex := 6, attributes := #[] }] 1057 2 #[13] #[{ accessFlags := 26, nameIndex := 15, descriptorIndex := 16, attributes := #[] }])
  fields := #[{ name := "serialVersionUID", type := .long, accessFlags := 26, slot := 0, constantValue := 0 }]
  methods := #[k15m0]
  instanceTypes := #[]
  staticTypes := #[.long]
  resolved := Array.replicate 37 none
  statics := none }

def pool16 : Array CpInfo := pool [(1, .class_ 2), (0, u "java/lang/Long"), (55, .nameAndType 59 60), (0, u "<init>"), (0, u "()V"), (24, u "valueOf"), (143, u "(J)Ljava/lang/Long;"), (0, .long 18446744073709551488), (1, .long 127), (1, .fieldref 235 236), (0, .class_ 237), (0, .nameAndType 238 239), (0, u "java/lang/Long$LongCache"), (0, u "cache"), (0, u "[Ljava/lang/Long;"), (0, .methodref 1 241), (0, .nameAndType 59 242), (0, u "(J)V"), (27, .methodref 271 58), (0, .class_ 272), (0, u "java/lang/Number"), (0, .fieldref 1 274), (0, .nameAndType 275 276), (0, u "value"), (0, u "J"), (84, u "TYPE"), (0, u "Ljava/lang/Class;"), (0, .class_ 364), (0, u "java/lang/Comparable"), (0, .class_ 366), (0, u "java/lang/constant/Constable"), (0, .class_ 368), (0, u "java/lang/constant/ConstantDesc"), (0, u "MIN_VALUE"), (1, u "MAX_VALUE"), (4, u "SIZE"), (0, u "I"), (1, u "BYTES"), (1, u "serialVersionUID")] 142

def k16c0 : Code := { maxStack := 4, maxLocals := 3, code := jdk_35_method_24_code, exceptionTable := #[], attributes := #[] }
def k16m0 : Method := { name := "valueOf", desc := "(J)Ljava/lang/Long;", sig := { parameters := [.long], returnType := some (.object "java/lang/Long") }, accessFlags := 9, code := some k16c0 }
def k16c1 : Code := { maxStack := 3, maxLocals := 3, code := jdk_35_method_26_code, exceptionTable := #[], attributes := #[] }
def k16m1 : Method := { name := "<init>", desc := "(J)V", sig := { parameters := [.long], returnType := none }, accessFlags := 1, code := some k16c1 }
/-- java/lang/Long -/
def k16 : Class := { plain "java/lang/Long" (some 15) with
  accessFlags := 49
  interfaces := #[7, 9, 10]
  cf := some (fileOf pool16 1 #[.nestMembers #[235]] #[{ accessFlags := 9, nameIndex := 85, descriptorIndex := 229, attributes := #[] }, { accessFlags := 1, nameIndex := 59, descriptorIndex := 242, attributes := #[] }] 49 271 #[363, 365, 367] #[{ accessFlags := 25, nameIndex := 369, descriptorIndex := 276, attributes := #[] }, { accessFlags := 25, nameIndex := 371, descriptorIndex := 276, attributes := #[] }, { accessFlags := 25, nameIndex := 361, descriptorIndex := 362, attributes := #[] }, { accessFlags := 18, nameIndex := 275, descriptorIndex := 276, attributes := #[] }, { accessFlags := 25, nameIndex := 376, descriptorIndex := 377, attributes := #[] }, { accessFlags := 25, nameIndex := 379, descriptorIndex := 377, attributes := #[] }, { accessFlags := 26, nameIndex := 381, descriptorIndex := 276, attributes := #[] }])
  fields := #[{ name := "MIN_VALUE", type := .long, accessFlags := 25, slot := 0, constantValue := 0 }, { name := "MAX_VALUE", type := .long, accessFlags := 25, slot := 1, constantValue := 0 }, { name := "TYPE", type := (.object "java/lang/Class"), accessFlags := 25, slot := 2, constantValue := 0 }, { name := "value", type := .long, accessFlags := 18, slot := 0, constantValue := 0 }, { name := "SIZE", type := .int, accessFlags := 25, slot := 3, constantValue := 0 }, { name := "BYTES", type := .int, accessFlags := 25, slot := 4, constantValue := 0 }, { name := "serialVersionUID", type := .long, accessFlags := 26, slot := 5, constantValue := 0 }]
  methods := #[k16m0, k16m1]
  instanceTypes := #[.long]
  staticTypes := #[.long, .long, (.object "java/lang/Class"), .int, .int, .long]
  resolved := Array.replicate 524 none
  statics := none }

def pool17 : Array CpInfo := pool [(2, .class_ 4), (1, u "java/lang/Object"), (0, u "<init>"), (0, u "()V"), (0, .class_ 8), (0, u "java/lang/Long"), (7, .class_ 18), (1, u "java/lang/Long$LongCache"), (0, u "$assertionsDisabled"), (0, u "Z"), (8, u "archivedCache"), (0, u "[Ljava/lang/Long;"), (7, u "cache")] 24

def k17m0 : Method := { name := "<init>", desc := "()V", sig := { parameters := [], returnType := none }, accessFlags := 2, code := none }
/-- java/lang/Long$LongCache -/
def k17 : Class := { plain "java/lang/Long$LongCache" (some 0) with
  accessFlags := 48
  interfaces := #[]
  cf := some (fileOf pool17 16 #[.nestHost 7] #[{ accessFlags := 2, nameIndex := 5, descriptorIndex := 6, attributes := #[] }] 48 2 #[] #[{ accessFlags := 24, nameIndex := 38, descriptorIndex := 30, attributes := #[] }, { accessFlags := 8, nameIndex := 29, descriptorIndex := 30, attributes := #[] }, { accessFlags := 4120, nameIndex := 19, descriptorIndex := 20, attributes := #[] }])
  fields := #[{ name := "cache", type := (.array (.object "java/lang/Long")), accessFlags := 24, slot := 0, constantValue := 0 }, { name := "archivedCache", type := (.array (.object "java/lang/Long")), accessFlags := 8, slot := 1, constantValue := 0 }, { name := "$assertionsDisabled", type := .boolean, accessFlags := 4120, slot := 2, constantValue := 0 }]
  methods := #[k17m0]
  instanceTypes := #[]
  staticTypes := #[(.array (.object "java/lang/Long")), (.array (.object "java/lang/Long")), .boolean]
  resolved := Array.replicate 63 none
  statics := some 2 }

def pool18 : Array CpInfo := pool [(9, u "<init>"), (6, .class_ 18), (1, u "java/lang/Object"), (0, u "()V"), (1, .class_ 23), (1, u "jdk/internal/util/ArraysSupport"), (0, u "LOG2_ARRAY_LONG_INDEX_SCALE"), (0, u "I"), (2, u "U"), (0, u "Ljdk/internal/misc/Unsafe;"), (8, u "BIG_ENDIAN"), (0, u "Z"), (8, u "LOG2_BYTE_BIT_SIZE"), (4, u "LOG2_ARRAY_INT_INDEX_SCALE"), (54, u "JLA"), (0, u "Ljdk/internal/access/JavaLangAccess;"), (11, u "LOG2_ARRAY_BOOLEAN_INDEX_SCALE"), (9, u "LOG2_ARRAY_BYTE_INDEX_SCALE"), (5, u "LOG2_ARRAY_CHAR_INDEX_SCALE"), (5, u "LOG2_ARRAY_SHORT_INDEX_SCALE"), (18, u "LOG2_ARRAY_FLOAT_INDEX_SCALE"), (24, u "LOG2_ARRAY_DOUBLE_INDEX_SCALE"), (89, u "T_BOOLEAN"), (2, u "T_CHAR"), (1, u "T_FLOAT"), (1, u "T_DOUBLE"), (1, u "T_BYTE"), (1, u "T_SHORT"), (1, u "T_INT"), (1, u "T_LONG"), (1, u "SOFT_MAX_ARRAY_LENGTH")] 83

def k18m0 : Method := { name := "<init>", desc := "()V", sig := { parameters := [], returnType := none }, accessFlags := 2, code := none }
/-- jdk/internal/util/ArraysSupport -/
def k18 : Class := { plain "jdk/internal/util/ArraysSupport" (some 0) with
  accessFlags := 33
  interfaces := #[]
  cf := some (fileOf pool18 21 #[] #[{ accessFlags := 2, nameIndex := 9, descriptorIndex := 19, attributes := #[] }] 33 16 #[] #[{ accessFlags := 24, nameIndex := 28, descriptorIndex := 29, attributes := #[] }, { accessFlags := 26, nameIndex := 38, descriptorIndex := 39, attributes := #[] }, { accessFlags := 25, nameIndex := 121, descriptorIndex := 25, attributes := #[] }, { accessFlags := 25, nameIndex := 131, descriptorIndex := 25, attributes := #[] }, { accessFlags := 25, nameIndex := 137, descriptorIndex := 25, attributes := #[] }, { accessFlags := 25, nameIndex := 143, descriptorIndex := 25, attributes := #[] }, { accessFlags := 25, nameIndex := 53, descriptorIndex := 25, attributes := #[] }, { accessFlags := 25, nameIndex := 24, descriptorIndex := 25, attributes := #[] }, { accessFlags := 25, nameIndex := 162, descriptorIndex := 25, attributes := #[] }, { accessFlags := 25, nameIndex := 187, descriptorIndex := 25, attributes := #[] }, { accessFlags := 26, nameIndex := 48, descriptorIndex := 25, attributes := #[] }, { accessFlags := 25, nameIndex := 277, descriptorIndex := 25, attributes := #[] }, { accessFlags := 25, nameIndex := 280, descriptorIndex := 25, attributes := #[] }, { accessFlags := 25, nameIndex := 282, descriptorIndex := 25, attributes := #[] }, { accessFlags := 25, nameIndex := 284, descriptorIndex := 25, attributes := #[] }, { accessFlags := 25, nameIndex := 286, descriptorIndex := 25, attributes := #[] }, { accessFlags := 25, nameIndex := 288, descriptorIndex := 25, attributes := #[] }, { accessFlags := 25, nameIndex := 290, descriptorIndex := 25, attributes := #[] }, { accessFlags := 25, nameIndex := 292, descriptorIndex := 25, attributes := #[] }, { accessFlags := 26, nameIndex := 108, descriptorIndex := 109, attributes := #[] }, { accessFlags := 25, nameIndex := 294, descriptorIndex := 25, attributes := #[] }])
  fields := #[{ name := "U", type := (.object "jdk/internal/misc/Unsafe"), accessFlags := 24, slot := 0, constantValue := 0 }, { name := "BIG_ENDIAN", type := .boolean, accessFlags := 26, slot := 1, constantValue := 0 }, { name := "LOG2_ARRAY_BOOLEAN_INDEX_SCALE", type := .int, accessFlags := 25, slot := 2, constantValue := 0 }, { name := "LOG2_ARRAY_BYTE_INDEX_SCALE", type := .int, accessFlags := 25, slot := 3, constantValue := 0 }, { name := "LOG2_ARRAY_CHAR_INDEX_SCALE", type := .int, accessFlags := 25, slot := 4, constantValue := 0 }, { name := "LOG2_ARRAY_SHORT_INDEX_SCALE", type := .int, accessFlags := 25, slot := 5, constantValue := 0 }, { name := "LOG2_ARRAY_INT_INDEX_SCALE", type := .int, accessFlags := 25, slot := 6, constantValue := 0 }, { name := "LOG2_ARRAY_LONG_INDEX_SCALE", type := .int, accessFlags := 25, slot := 7, constantValue := 0 }, { name := "LOG2_ARRAY_FLOAT_INDEX_SCALE", type := .int, accessFlags := 25, slot := 8, constantValue := 0 }, { name := "LOG2_ARRAY_DOUBLE_INDEX_SCALE", type := .int, accessFlags := 25, slot := 9, constantValue := 0 }, { name := "LOG2_BYTE_BIT_SIZE", type := .int, accessFlags := 26, slot := 10, constantValue := 0 }, { name := "T_BOOLEAN", type := .int, accessFlags := 25, slot := 11, constantValue := 0 }, { name := "T_CHAR", type := .int, accessFlags := 25, slot := 12, constantValue := 0 }, { name := "T_FLOAT", type := .int, accessFlags := 25, slot := 13, constantValue := 0 }, { name := "T_DOUBLE", type := .int, accessFlags := 25, slot := 14, constantValue := 0 }, { name := "T_BYTE", type := .int, accessFlags := 25, slot := 15, constantValue := 0 }, { name := "T_SHORT", type := .int, accessFlags := 25, slot := 16, constantValue := 0 }, { name := "T_INT", type := .int, accessFlags := 25, slot := 17, constantValue := 0 }, { name := "T_LONG", type := .int, accessFlags := 25, slot := 18, constantValue := 0 }, { name := "JLA", type := (.object "jdk/internal/access/JavaLangAccess"), accessFlags := 26, slot := 19, constantValue := 0 }, { name := "SOFT_MAX_ARRAY_LENGTH", type := .int, accessFlags := 25, slot := 20, constantValue := 0 }]
  methods := #[k18m0]
  instanceTypes := #[]
  staticTypes := #[(.object "jdk/internal/misc/Unsafe"), .boolean, .int, .int, .int, .int, .int, .int, .int, .int, .int, .int, .int, .int, .int, .int, .int, .int, .int, (.object "jdk/internal/access/JavaLangAccess"), .int]
  resolved := Array.replicate 378 none
  statics := none }

def pool19 : Array CpInfo := pool [(1, u "java/lang/Cloneable"), (0, .class_ 1), (0, u "java/lang/Object"), (0, .class_ 3)] 3

/-- java/lang/Cloneable -/
def k19 : Class := { plain "java/lang/Cloneable" (some 0) with
  accessFlags := 1537
  interfaces := #[]
  cf := some (fileOf pool19 2 #[] #[] 1537 4 #[] #[])
  fields := #[]
  methods := #[]
  instanceTypes := #[]
  staticTypes := #[]
  resolved := Array.replicate 8 none
  statics := none }

/-- the primitive byte -/
def k20 : Class := { plain "byte" none with kind := .primitive 'B', accessFlags := 0x411 }
/-- [B -/
def k21 : Class := { plain "[B" (some 0) with kind := .array 20 .byte, interfaces := #[19, 6], accessFlags := 1041 }

/-- the primitive int -/
def k22 : Class := { plain "int" none with kind := .primitive 'I', accessFlags := 0x411 }
/-- [I -/
def k23 : Class := { plain "[I" (some 0) with kind := .array 22 .int, interfaces := #[19, 6], accessFlags := 1041 }

/-- [Ljava/lang/Long; -/
def k24 : Class := { plain "[Ljava/lang/Long;" (some 0) with kind := .array 16 (.object "java/lang/Long"), interfaces := #[19, 6], accessFlags := 1041 }

def heap : Heap := #[{ cls := 11, slots := #[.long 0, .int 1, .null, .int 0, .null, .int 0, .int 0], vm := .statics 11 },
  { cls := 14, slots := #[.null, .null, .null], vm := .statics 14 },
  { cls := 17, slots := #[.ref 3, .null, .int 0], vm := .statics 17 },
  { cls := 24, slots := #[.ref 4, .ref 5, .ref 6, .ref 7, .ref 8, .ref 9, .ref 10, .ref 11, .ref 12, .ref 13, .ref 14, .ref 15, .ref 16, .ref 17, .ref 18, .ref 19, .ref 20, .ref 21, .ref 22, .ref 23, .ref 24, .ref 25, .ref 26, .ref 27, .ref 28, .ref 29, .ref 30, .ref 31, .ref 32, .ref 33, .ref 34, .ref 35, .ref 36, .ref 37, .ref 38, .ref 39, .ref 40, .ref 41, .ref 42, .ref 43, .ref 44, .ref 45, .ref 46, .ref 47, .ref 48, .ref 49, .ref 50, .ref 51, .ref 52, .ref 53, .ref 54, .ref 55, .ref 56, .ref 57, .ref 58, .ref 59, .ref 60, .ref 61, .ref 62, .ref 63, .ref 64, .ref 65, .ref 66, .ref 67, .ref 68, .ref 69, .ref 70, .ref 71, .ref 72, .ref 73, .ref 74, .ref 75, .ref 76, .ref 77, .ref 78, .ref 79, .ref 80, .ref 81, .ref 82, .ref 83, .ref 84, .ref 85, .ref 86, .ref 87, .ref 88, .ref 89, .ref 90, .ref 91, .ref 92, .ref 93, .ref 94, .ref 95, .ref 96, .ref 97, .ref 98, .ref 99, .ref 100, .ref 101, .ref 102, .ref 103, .ref 104, .ref 105, .ref 106, .ref 107, .ref 108, .ref 109, .ref 110, .ref 111, .ref 112, .ref 113, .ref 114, .ref 115, .ref 116, .ref 117, .ref 118, .ref 119, .ref 120, .ref 121, .ref 122, .ref 123, .ref 124, .ref 125, .ref 126, .ref 127, .ref 128, .ref 129, .ref 130, .ref 131, .ref 132, .ref 133, .ref 134, .ref 135, .ref 136, .ref 137, .ref 138, .ref 139, .ref 140, .ref 141, .ref 142, .ref 143, .ref 144, .ref 145, .ref 146, .ref 147, .ref 148, .ref 149, .ref 150, .ref 151, .ref 152, .ref 153, .ref 154, .ref 155, .ref 156, .ref 157, .ref 158, .ref 159, .ref 160, .ref 161, .ref 162, .ref 163, .ref 164, .ref 165, .ref 166, .ref 167, .ref 168, .ref 169, .ref 170, .ref 171, .ref 172, .ref 173, .ref 174, .ref 175, .ref 176, .ref 177, .ref 178, .ref 179, .ref 180, .ref 181, .ref 182, .ref 183, .ref 184, .ref 185, .ref 186, .ref 187, .ref 188, .ref 189, .ref 190, .ref 191, .ref 192, .ref 193, .ref 194, .ref 195, .ref 196, .ref 197, .ref 198, .ref 199, .ref 200, .ref 201, .ref 202, .ref 203, .ref 204, .ref 205, .ref 206, .ref 207, .ref 208, .ref 209, .ref 210, .ref 211, .ref 212, .ref 213, .ref 214, .ref 215, .ref 216, .ref 217, .ref 218, .ref 219, .ref 220, .ref 221, .ref 222, .ref 223, .ref 224, .ref 225, .ref 226, .ref 227, .ref 228, .ref 229, .ref 230, .ref 231, .ref 232, .ref 233, .ref 234, .ref 235, .ref 236, .ref 237, .ref 238, .ref 239, .ref 240, .ref 241, .ref 242, .ref 243, .ref 244, .ref 245, .ref 246, .ref 247, .ref 248, .ref 249, .ref 250, .ref 251, .ref 252, .ref 253, .ref 254, .ref 255, .ref 256, .ref 257, .ref 258, .ref 259], vm := .none },
  { cls := 16, slots := #[.long (-128)], vm := .none },
  { cls := 16, slots := #[.long (-127)], vm := .none },
  { cls := 16, slots := #[.long (-126)], vm := .none },
  { cls := 16, slots := #[.long (-125)], vm := .none },
  { cls := 16, slots := #[.long (-124)], vm := .none },
  { cls := 16, slots := #[.long (-123)], vm := .none },
  { cls := 16, slots := #[.long (-122)], vm := .none },
  { cls := 16, slots := #[.long (-121)], vm := .none },
  { cls := 16, slots := #[.long (-120)], vm := .none },
  { cls := 16, slots := #[.long (-119)], vm := .none },
  { cls := 16, slots := #[.long (-118)], vm := .none },
  { cls := 16, slots := #[.long (-117)], vm := .none },
  { cls := 16, slots := #[.long (-116)], vm := .none },
  { cls := 16, slots := #[.long (-115)], vm := .none },
  { cls := 16, slots := #[.long (-114)], vm := .none },
  { cls := 16, slots := #[.long (-113)], vm := .none },
  { cls := 16, slots := #[.long (-112)], vm := .none },
  { cls := 16, slots := #[.long (-111)], vm := .none },
  { cls := 16, slots := #[.long (-110)], vm := .none },
  { cls := 16, slots := #[.long (-109)], vm := .none },
  { cls := 16, slots := #[.long (-108)], vm := .none },
  { cls := 16, slots := #[.long (-107)], vm := .none },
  { cls := 16, slots := #[.long (-106)], vm := .none },
  { cls := 16, slots := #[.long (-105)], vm := .none },
  { cls := 16, slots := #[.long (-104)], vm := .none },
  { cls := 16, slots := #[.long (-103)], vm := .none },
  { cls := 16, slots := #[.long (-102)], vm := .none },
  { cls := 16, slots := #[.long (-101)], vm := .none },
  { cls := 16, slots := #[.long (-100)], vm := .none },
  { cls := 16, slots := #[.long (-99)], vm := .none },
  { cls := 16, slots := #[.long (-98)], vm := .none },
  { cls := 16, slots := #[.long (-97)], vm := .none },
  { cls := 16, slots := #[.long (-96)], vm := .none },
  { cls := 16, slots := #[.long (-95)], vm := .none },
  { cls := 16, slots := #[.long (-94)], vm := .none },
  { cls := 16, slots := #[.long (-93)], vm := .none },
  { cls := 16, slots := #[.long (-92)], vm := .none },
  { cls := 16, slots := #[.long (-91)], vm := .none },
  { cls := 16, slots := #[.long (-90)], vm := .none },
  { cls := 16, slots := #[.long (-89)], vm := .none },
  { cls := 16, slots := #[.long (-88)], vm := .none },
  { cls := 16, slots := #[.long (-87)], vm := .none },
  { cls := 16, slots := #[.long (-86)], vm := .none },
  { cls := 16, slots := #[.long (-85)], vm := .none },
  { cls := 16, slots := #[.long (-84)], vm := .none },
  { cls := 16, slots := #[.long (-83)], vm := .none },
  { cls := 16, slots := #[.long (-82)], vm := .none },
  { cls := 16, slots := #[.long (-81)], vm := .none },
  { cls := 16, slots := #[.long (-80)], vm := .none },
  { cls := 16, slots := #[.long (-79)], vm := .none },
  { cls := 16, slots := #[.long (-78)], vm := .none },
  { cls := 16, slots := #[.long (-77)], vm := .none },
  { cls := 16, slots := #[.long (-76)], vm := .none },
  { cls := 16, slots := #[.long (-75)], vm := .none },
  { cls := 16, slots := #[.long (-74)], vm := .none },
  { cls := 16, slots := #[.long (-73)], vm := .none },
  { cls := 16, slots := #[.long (-72)], vm := .none },
  { cls := 16, slots := #[.long (-71)], vm := .none },
  { cls := 16, slots := #[.long (-70)], vm := .none },
  { cls := 16, slots := #[.long (-69)], vm := .none },
  { cls := 16, slots := #[.long (-68)], vm := .none },
  { cls := 16, slots := #[.long (-67)], vm := .none },
  { cls := 16, slots := #[.long (-66)], vm := .none },
  { cls := 16, slots := #[.long (-65)], vm := .none },
  { cls := 16, slots := #[.long (-64)], vm := .none },
  { cls := 16, slots := #[.long (-63)], vm := .none },
  { cls := 16, slots := #[.long (-62)], vm := .none },
  { cls := 16, slots := #[.long (-61)], vm := .none },
  { cls := 16, slots := #[.long (-60)], vm := .none },
  { cls := 16, slots := #[.long (-59)], vm := .none },
  { cls := 16, slots := #[.long (-58)], vm := .none },
  { cls := 16, slots := #[.long (-57)], vm := .none },
  { cls := 16, slots := #[.long (-56)], vm := .none },
  { cls := 16, slots := #[.long (-55)], vm := .none },
  { cls := 16, slots := #[.long (-54)], vm := .none },
  { cls := 16, slots := #[.long (-53)], vm := .none },
  { cls := 16, slots := #[.long (-52)], vm := .none },
  { cls := 16, slots := #[.long (-51)], vm := .none },
  { cls := 16, slots := #[.long (-50)], vm := .none },
  { cls := 16, slots := #[.long (-49)], vm := .none },
  { cls := 16, slots := #[.long (-48)], vm := .none },
  { cls := 16, slots := #[.long (-47)], vm := .none },
  { cls := 16, slots := #[.long (-46)], vm := .none },
  { cls := 16, slots := #[.long (-45)], vm := .none },
  { cls := 16, slots := #[.long (-44)], vm := .none },
  { cls := 16, slots := #[.long (-43)], vm := .none },
  { cls := 16, slots := #[.long (-42)], vm := .none },
  { cls := 16, slots := #[.long (-41)], vm := .none },
  { cls := 16, slots := #[.long (-40)], vm := .none },
  { cls := 16, slots := #[.long (-39)], vm := .none },
  { cls := 16, slots := #[.long (-38)], vm := .none },
  { cls := 16, slots := #[.long (-37)], vm := .none },
  { cls := 16, slots := #[.long (-36)], vm := .none },
  { cls := 16, slots := #[.long (-35)], vm := .none },
  { cls := 16, slots := #[.long (-34)], vm := .none },
  { cls := 16, slots := #[.long (-33)], vm := .none },
  { cls := 16, slots := #[.long (-32)], vm := .none },
  { cls := 16, slots := #[.long (-31)], vm := .none },
  { cls := 16, slots := #[.long (-30)], vm := .none },
  { cls := 16, slots := #[.long (-29)], vm := .none },
  { cls := 16, slots := #[.long (-28)], vm := .none },
  { cls := 16, slots := #[.long (-27)], vm := .none },
  { cls := 16, slots := #[.long (-26)], vm := .none },
  { cls := 16, slots := #[.long (-25)], vm := .none },
  { cls := 16, slots := #[.long (-24)], vm := .none },
  { cls := 16, slots := #[.long (-23)], vm := .none },
  { cls := 16, slots := #[.long (-22)], vm := .none },
  { cls := 16, slots := #[.long (-21)], vm := .none },
  { cls := 16, slots := #[.long (-20)], vm := .none },
  { cls := 16, slots := #[.long (-19)], vm := .none },
  { cls := 16, slots := #[.long (-18)], vm := .none },
  { cls := 16, slots := #[.long (-17)], vm := .none },
  { cls := 16, slots := #[.long (-16)], vm := .none },
  { cls := 16, slots := #[.long (-15)], vm := .none },
  { cls := 16, slots := #[.long (-14)], vm := .none },
  { cls := 16, slots := #[.long (-13)], vm := .none },
  { cls := 16, slots := #[.long (-12)], vm := .none },
  { cls := 16, slots := #[.long (-11)], vm := .none },
  { cls := 16, slots := #[.long (-10)], vm := .none },
  { cls := 16, slots := #[.long (-9)], vm := .none },
  { cls := 16, slots := #[.long (-8)], vm := .none },
  { cls := 16, slots := #[.long (-7)], vm := .none },
  { cls := 16, slots := #[.long (-6)], vm := .none },
  { cls := 16, slots := #[.long (-5)], vm := .none },
  { cls := 16, slots := #[.long (-4)], vm := .none },
  { cls := 16, slots := #[.long (-3)], vm := .none },
  { cls := 16, slots := #[.long (-2)], vm := .none },
  { cls := 16, slots := #[.long (-1)], vm := .none },
  { cls := 16, slots := #[.long (0)], vm := .none },
  { cls := 16, slots := #[.long (1)], vm := .none },
  { cls := 16, slots := #[.long (2)], vm := .none },
  { cls := 16, slots := #[.long (3)], vm := .none },
  { cls := 16, slots := #[.long (4)], vm := .none },
  { cls := 16, slots := #[.long (5)], vm := .none },
  { cls := 16, slots := #[.long (6)], vm := .none },
  { cls := 16, slots := #[.long (7)], vm := .none },
  { cls := 16, slots := #[.long (8)], vm := .none },
  { cls := 16, slots := #[.long (9)], vm := .none },
  { cls := 16, slots := #[.long (10)], vm := .none },
  { cls := 16, slots := #[.long (11)], vm := .none },
  { cls := 16, slots := #[.long (12)], vm := .none },
  { cls := 16, slots := #[.long (13)], vm := .none },
  { cls := 16, slots := #[.long (14)], vm := .none },
  { cls := 16, slots := #[.long (15)], vm := .none },
  { cls := 16, slots := #[.long (16)], vm := .none },
  { cls := 16, slots := #[.long (17)], vm := .none },
  { cls := 16, slots := #[.long (18)], vm := .none },
  { cls := 16, slots := #[.long (19)], vm := .none },
  { cls := 16, slots := #[.long (20)], vm := .none },
  { cls := 16, slots := #[.long (21)], vm := .none },
  { cls := 16, slots := #[.long (22)], vm := .none },
  { cls := 16, slots := #[.long (23)], vm := .none },
  { cls := 16, slots := #[.long (24)], vm := .none },
  { cls := 16, slots := #[.long (25)], vm := .none },
  { cls := 16, slots := #[.long (26)], vm := .none },
  { cls := 16, slots := #[.long (27)], vm := .none },
  { cls := 16, slots := #[.long (28)], vm := .none },
  { cls := 16, slots := #[.long (29)], vm := .none },
  { cls := 16, slots := #[.long (30)], vm := .none },
  { cls := 16, slots := #[.long (31)], vm := .none },
  { cls := 16, slots := #[.long (32)], vm := .none },
  { cls := 16, slots := #[.long (33)], vm := .none },
  { cls := 16, slots := #[.long (34)], vm := .none },
  { cls := 16, slots := #[.long (35)], vm := .none },
  { cls := 16, slots := #[.long (36)], vm := .none },
  { cls := 16, slots := #[.long (37)], vm := .none },
  { cls := 16, slots := #[.long (38)], vm := .none },
  { cls := 16, slots := #[.long (39)], vm := .none },
  { cls := 16, slots := #[.long (40)], vm := .none },
  { cls := 16, slots := #[.long (41)], vm := .none },
  { cls := 16, slots := #[.long (42)], vm := .none },
  { cls := 16, slots := #[.long (43)], vm := .none },
  { cls := 16, slots := #[.long (44)], vm := .none },
  { cls := 16, slots := #[.long (45)], vm := .none },
  { cls := 16, slots := #[.long (46)], vm := .none },
  { cls := 16, slots := #[.long (47)], vm := .none },
  { cls := 16, slots := #[.long (48)], vm := .none },
  { cls := 16, slots := #[.long (49)], vm := .none },
  { cls := 16, slots := #[.long (50)], vm := .none },
  { cls := 16, slots := #[.long (51)], vm := .none },
  { cls := 16, slots := #[.long (52)], vm := .none },
  { cls := 16, slots := #[.long (53)], vm := .none },
  { cls := 16, slots := #[.long (54)], vm := .none },
  { cls := 16, slots := #[.long (55)], vm := .none },
  { cls := 16, slots := #[.long (56)], vm := .none },
  { cls := 16, slots := #[.long (57)], vm := .none },
  { cls := 16, slots := #[.long (58)], vm := .none },
  { cls := 16, slots := #[.long (59)], vm := .none },
  { cls := 16, slots := #[.long (60)], vm := .none },
  { cls := 16, slots := #[.long (61)], vm := .none },
  { cls := 16, slots := #[.long (62)], vm := .none },
  { cls := 16, slots := #[.long (63)], vm := .none },
  { cls := 16, slots := #[.long (64)], vm := .none },
  { cls := 16, slots := #[.long (65)], vm := .none },
  { cls := 16, slots := #[.long (66)], vm := .none },
  { cls := 16, slots := #[.long (67)], vm := .none },
  { cls := 16, slots := #[.long (68)], vm := .none },
  { cls := 16, slots := #[.long (69)], vm := .none },
  { cls := 16, slots := #[.long (70)], vm := .none },
  { cls := 16, slots := #[.long (71)], vm := .none },
  { cls := 16, slots := #[.long (72)], vm := .none },
  { cls := 16, slots := #[.long (73)], vm := .none },
  { cls := 16, slots := #[.long (74)], vm := .none },
  { cls := 16, slots := #[.long (75)], vm := .none },
  { cls := 16, slots := #[.long (76)], vm := .none },
  { cls := 16, slots := #[.long (77)], vm := .none },
  { cls := 16, slots := #[.long (78)], vm := .none },
  { cls := 16, slots := #[.long (79)], vm := .none },
  { cls := 16, slots := #[.long (80)], vm := .none },
  { cls := 16, slots := #[.long (81)], vm := .none },
  { cls := 16, slots := #[.long (82)], vm := .none },
  { cls := 16, slots := #[.long (83)], vm := .none },
  { cls := 16, slots := #[.long (84)], vm := .none },
  { cls := 16, slots := #[.long (85)], vm := .none },
  { cls := 16, slots := #[.long (86)], vm := .none },
  { cls := 16, slots := #[.long (87)], vm := .none },
  { cls := 16, slots := #[.long (88)], vm := .none },
  { cls := 16, slots := #[.long (89)], vm := .none },
  { cls := 16, slots := #[.long (90)], vm := .none },
  { cls := 16, slots := #[.long (91)], vm := .none },
  { cls := 16, slots := #[.long (92)], vm := .none },
  { cls := 16, slots := #[.long (93)], vm := .none },
  { cls := 16, slots := #[.long (94)], vm := .none },
  { cls := 16, slots := #[.long (95)], vm := .none },
  { cls := 16, slots := #[.long (96)], vm := .none },
  { cls := 16, slots := #[.long (97)], vm := .none },
  { cls := 16, slots := #[.long (98)], vm := .none },
  { cls := 16, slots := #[.long (99)], vm := .none },
  { cls := 16, slots := #[.long (100)], vm := .none },
  { cls := 16, slots := #[.long (101)], vm := .none },
  { cls := 16, slots := #[.long (102)], vm := .none },
  { cls := 16, slots := #[.long (103)], vm := .none },
  { cls := 16, slots := #[.long (104)], vm := .none },
  { cls := 16, slots := #[.long (105)], vm := .none },
  { cls := 16, slots := #[.long (106)], vm := .none },
  { cls := 16, slots := #[.long (107)], vm := .none },
  { cls := 16, slots := #[.long (108)], vm := .none },
  { cls := 16, slots := #[.long (109)], vm := .none },
  { cls := 16, slots := #[.long (110)], vm := .none },
  { cls := 16, slots := #[.long (111)], vm := .none },
  { cls := 16, slots := #[.long (112)], vm := .none },
  { cls := 16, slots := #[.long (113)], vm := .none },
  { cls := 16, slots := #[.long (114)], vm := .none },
  { cls := 16, slots := #[.long (115)], vm := .none },
  { cls := 16, slots := #[.long (116)], vm := .none },
  { cls := 16, slots := #[.long (117)], vm := .none },
  { cls := 16, slots := #[.long (118)], vm := .none },
  { cls := 16, slots := #[.long (119)], vm := .none },
  { cls := 16, slots := #[.long (120)], vm := .none },
  { cls := 16, slots := #[.long (121)], vm := .none },
  { cls := 16, slots := #[.long (122)], vm := .none },
  { cls := 16, slots := #[.long (123)], vm := .none },
  { cls := 16, slots := #[.long (124)], vm := .none },
  { cls := 16, slots := #[.long (125)], vm := .none },
  { cls := 16, slots := #[.long (126)], vm := .none },
  { cls := 16, slots := #[.long (127)], vm := .none }]
def classes : Array Class := #[k0, k1, k2, k3, k4, k5, k6, k7, k8, k9, k10, k11, k12, k13, k14, k15, k16, k17, k18, k19, k20, k21, k22, k23, k24]
def interned : List (Array UInt16 × Addr) := []
def slotsUsed : Nat := 525
def theMethod : MethodId := ⟨1, 1⟩
def args0 : Array Value := #[.long 5, .long 6, .int 3, .int 4]
def aboutOver (below : List Frame) : State where
  vm := { classes := classes, interned := interned.toArray }
  heap := heap
  slotsUsed := slotsUsed
  threads := #[{ frames := .invoking theMethod args0 :: below }]
def below0 : List Frame := [.native { method := ⟨0, 0⟩, args := #[] }]
def about1 : State := aboutOver below0
def p0 : Program := .bare "" "" ""
def e0 : Env := launch0.env 0 0 0
theorem w_frames : about1.frames = Frame.invoking theMethod args0 :: below0 := rfl
set_option maxRecDepth 65536 in
theorem w_args : argsFit about1.vm theMethod args0 = true := by decide +kernel
set_option maxRecDepth 65536 in
theorem w_heap : heapFits about1 = true := by decide +kernel
set_option maxRecDepth 65536 in
theorem w_runnable : about1.curStatus? = some .runnable := by decide +kernel
set_option maxRecDepth 65536 in
theorem w_alone : about1.alone = true := by decide +kernel
set_option maxRecDepth 65536 in
theorem w_named : about1.methodNamed? x = some theMethod := by decide +kernel
set_option maxRecDepth 65536 in
theorem w_hears : about1.hears theMethod below0 = true := by decide +kernel
set_option maxRecDepth 65536 in
theorem w_ripe : about1.ripe theMethod args0 below0 = true := by decide +kernel
theorem w_running : about1.status = .running := rfl
set_option maxRecDepth 65536 in
theorem w_room : about1.hasRoom e0.platform room_1 = true :=
  launch0.hasRoom_least _ room_1 (by decide +kernel) (by decide +kernel) (by decide +kernel) (by decide +kernel) (by decide +kernel) (by decide +kernel)
theorem allAtoms_all (ts : List Jvm.Cond) (a : Array Jvm.Value) (st : Jvm.State) : (allAtoms ts).before a st = ts.all (fun c => c.before a st) := by
  induction ts with
  | nil => rfl
  | cons c t ih =>
    show (Jvm.Cond.and c (allAtoms t)).before a st = _
    rw [Jvm.Cond.before_and, ih, List.all_cons]
def words1 : List Jvm.Cond := Jvm.Cond.code x code maxLocals ret :: tables_1
/-- a 'code' word, met by the world's own term for the bytes: nothing is compared byte by byte -/
theorem code_word {y : MethodName} {bytes : ByteArray} {mx : Nat} {rt : Option FieldType} {a : Array Value} {s : State} {m : MethodId} {meth : Method} {c : Code} (h1 : s.methodNamed? y = some m) (h2 : s.vm.method? m = some meth) (h3 : meth.code = some c) (h4 : c.code = bytes)
    (h5 : (c.maxLocals == mx && c.exceptionTable.isEmpty && decide (c.maxStack ≤ mostOperands) && decide (meth.sig.returnType = rt) && !meth.locks && decide (parseMethodDescriptor y.desc = some meth.sig)) = true) : (Jvm.Cond.code y bytes mx rt).before a s = true := by
  simp only [Bool.and_eq_true, beq_iff_eq, Bool.not_eq_true', decide_eq_true_eq] at h5
  obtain ⟨⟨⟨⟨⟨g1, g2⟩, g3⟩, g4⟩, g5⟩, g6⟩ := h5
  simp [Cond.before, Cond.holds, Cond.value, h1, h2, h3, h4, g1, g2, g3, g4, g5, g6]
def isCode : Jvm.Cond → Bool
  | .code _ _ _ _ => true
  | _ => false
theorem all_split {L : List Jvm.Cond} {P : Jvm.Cond → Bool} (h1 : L.all (fun c => isCode c || P c) = true) (h2 : ∀ c ∈ L.filter isCode, P c = true) : L.all P = true := by
  refine List.all_eq_true.mpr fun c hc => ?_
  have h := List.all_eq_true.mp h1 c hc
  rcases Bool.eq_false_or_eq_true (isCode c) with hi | hi
  · exact h2 c (List.mem_filter.mpr ⟨hc, hi⟩)
  · simpa [hi] using h
set_option maxRecDepth 65536 in
theorem w_c0 : (Jvm.Cond.code x code maxLocals ret).before args0 about1 = true := code_word (m := ⟨1, 1⟩) (meth := k1m1) (c := k1c1) (by decide +kernel) rfl rfl rfl (by decide +kernel)
set_option maxRecDepth 65536 in
theorem w_c1 : (Jvm.Cond.code ({ cls := "com/example/datenschutz/datenschutz/event/IntegerValue", name := "<init>", desc := "(J)V" } : Jvm.MethodName) prog_47_method_1_code (3 : Nat) (Option.none : Option Jvm.ClassFile.FieldType)).before args0 about1 = true := code_word (m := ⟨4, 0⟩) (meth := k4m0) (c := k4c0) (by decide +kernel) rfl rfl rfl (by decide +kernel)
set_option maxRecDepth 65536 in
theorem w_c2 : (Jvm.Cond.code ({ cls := "java/lang/Record", name := "<init>", desc := "()V" } : Jvm.MethodName) jdk_30_method_1_code (1 : Nat) (Option.none : Option Jvm.ClassFile.FieldType)).before args0 about1 = true := code_word (m := ⟨2, 0⟩) (meth := k2m0) (c := k2c0) (by decide +kernel) rfl rfl rfl (by decide +kernel)
set_option maxRecDepth 65536 in
theorem w_c3 : (Jvm.Cond.code ({ cls := "java/lang/Object", name := "<init>", desc := "()V" } : Jvm.MethodName) object_method_1_code (1 : Nat) (Option.none : Option Jvm.ClassFile.FieldType)).before args0 about1 = true := code_word (m := ⟨0, 0⟩) (meth := k0m0) (c := k0c0) (by decide +kernel) rfl rfl rfl (by decide +kernel)
set_option maxRecDepth 65536 in
theorem w_c4 : (Jvm.Cond.code ({ cls := "com/example/datenschutz/datenschutz/event/IntegerValue", name := "equals", desc := "(Ljava/lang/Object;)Z" } : Jvm.MethodName) prog_47_method_2_code (3 : Nat) (Option.some Jvm.ClassFile.FieldType.boolean)).before args0 about1 = true := code_word (m := ⟨4, 1⟩) (meth := k4m1) (c := k4c1) (by decide +kernel) rfl rfl rfl (by decide +kernel)
set_option maxRecDepth 65536 in
theorem w_c5 : (Jvm.Cond.code ({ cls := "com/example/datenschutz/datenschutz/event/StringValue", name := "canHold", desc := "(C)Z" } : Jvm.MethodName) prog_55_method_2_code (1 : Nat) (Option.some Jvm.ClassFile.FieldType.boolean)).before args0 about1 = true := code_word (m := ⟨5, 1⟩) (meth := k5m1) (c := k5c1) (by decide +kernel) rfl rfl rfl (by decide +kernel)
set_option maxRecDepth 65536 in
theorem w_c6 : (Jvm.Cond.code ({ cls := "java/lang/String", name := "valueOf", desc := "(C)Ljava/lang/String;" } : Jvm.MethodName) jdk_42_method_139_code (1 : Nat) (Option.some (Jvm.ClassFile.FieldType.object "java/lang/String"))).before args0 about1 = true := code_word (m := ⟨11, 3⟩) (meth := k11m3) (c := k11c3) (by decide +kernel) rfl rfl rfl (by decide +kernel)
set_option maxRecDepth 65536 in
theorem w_c7 : (Jvm.Cond.code ({ cls := "java/lang/StringLatin1", name := "canEncode", desc := "(C)Z" } : Jvm.MethodName) jdk_43_method_3_code (1 : Nat) (Option.some Jvm.ClassFile.FieldType.boolean)).before args0 about1 = true := code_word (m := ⟨12, 2⟩) (meth := k12m2) (c := k12c2) (by decide +kernel) rfl rfl rfl (by decide +kernel)
set_option maxRecDepth 65536 in
theorem w_c8 : (Jvm.Cond.code ({ cls := "java/lang/StringLatin1", name := "toBytes", desc := "(C)[B" } : Jvm.MethodName) jdk_43_method_46_code (1 : Nat) (Option.some (Jvm.ClassFile.FieldType.array Jvm.ClassFile.FieldType.byte))).before args0 about1 = true := code_word (m := ⟨12, 3⟩) (meth := k12m3) (c := k12c3) (by decide +kernel) rfl rfl rfl (by decide +kernel)
set_option maxRecDepth 65536 in
theorem w_c9 : (Jvm.Cond.code ({ cls := "java/lang/String", name := "<init>", desc := "([BB)V" } : Jvm.MethodName) jdk_42_method_151_code (3 : Nat) (Option.none : Option Jvm.ClassFile.FieldType)).before args0 about1 = true := code_word (m := ⟨11, 4⟩) (meth := k11m4) (c := k11c4) (by decide +kernel) rfl rfl rfl (by decide +kernel)
set_option maxRecDepth 65536 in
theorem w_c10 : (Jvm.Cond.code ({ cls := "com/example/datenschutz/datenschutz/event/StringValue", name := "<init>", desc := "(Ljava/lang/String;)V" } : Jvm.MethodName) prog_55_method_1_code (3 : Nat) (Option.none : Option Jvm.ClassFile.FieldType)).before args0 about1 = true := code_word (m := ⟨5, 0⟩) (meth := k5m0) (c := k5c0) (by decide +kernel) rfl rfl rfl (by decide +kernel)
set_option maxRecDepth 65536 in
theorem w_c11 : (Jvm.Cond.code ({ cls := "java/util/Objects", name := "requireNonNull", desc := "(Ljava/lang/Object;Ljava/lang/String;)Ljava/lang/Object;" } : Jvm.MethodName) jdk_31_method_11_code (2 : Nat) (Option.some (Jvm.ClassFile.FieldType.object "java/lang/Object"))).before args0 about1 = true := code_word (m := ⟨13, 1⟩) (meth := k13m1) (c := k13c1) (by decide +kernel) rfl rfl rfl (by decide +kernel)
set_option maxRecDepth 65536 in
theorem w_c12 : (Jvm.Cond.code ({ cls := "java/lang/String", name := "length", desc := "()I" } : Jvm.MethodName) jdk_42_method_54_code (1 : Nat) (Option.some Jvm.ClassFile.FieldType.int)).before args0 about1 = true := code_word (m := ⟨11, 1⟩) (meth := k11m1) (c := k11c1) (by decide +kernel) rfl rfl rfl (by decide +kernel)
set_option maxRecDepth 65536 in
theorem w_c13 : (Jvm.Cond.code ({ cls := "java/lang/String", name := "coder", desc := "()B" } : Jvm.MethodName) jdk_42_method_152_code (1 : Nat) (Option.some Jvm.ClassFile.FieldType.byte)).before args0 about1 = true := code_word (m := ⟨11, 5⟩) (meth := k11m5) (c := k11c5) (by decide +kernel) rfl rfl rfl (by decide +kernel)
set_option maxRecDepth 65536 in
theorem w_c14 : (Jvm.Cond.code ({ cls := "java/lang/String", name := "charAt", desc := "(I)C" } : Jvm.MethodName) jdk_42_method_56_code (2 : Nat) (Option.some Jvm.ClassFile.FieldType.char)).before args0 about1 = true := code_word (m := ⟨11, 2⟩) (meth := k11m2) (c := k11c2) (by decide +kernel) rfl rfl rfl (by decide +kernel)
set_option maxRecDepth 65536 in
theorem w_c15 : (Jvm.Cond.code ({ cls := "java/lang/String", name := "isLatin1", desc := "()Z" } : Jvm.MethodName) jdk_42_method_154_code (1 : Nat) (Option.some Jvm.ClassFile.FieldType.boolean)).before args0 about1 = true := code_word (m := ⟨11, 6⟩) (meth := k11m6) (c := k11c6) (by decide +kernel) rfl rfl rfl (by decide +kernel)
set_option maxRecDepth 65536 in
theorem w_c16 : (Jvm.Cond.code ({ cls := "java/lang/StringLatin1", name := "charAt", desc := "([BI)C" } : Jvm.MethodName) jdk_43_method_2_code (2 : Nat) (Option.some Jvm.ClassFile.FieldType.char)).before args0 about1 = true := code_word (m := ⟨12, 1⟩) (meth := k12m1) (c := k12c1) (by decide +kernel) rfl rfl rfl (by decide +kernel)
set_option maxRecDepth 65536 in
theorem w_c17 : (Jvm.Cond.code ({ cls := "java/lang/String", name := "checkIndex", desc := "(II)V" } : Jvm.MethodName) jdk_42_method_155_code (2 : Nat) (Option.none : Option Jvm.ClassFile.FieldType)).before args0 about1 = true := code_word (m := ⟨11, 7⟩) (meth := k11m7) (c := k11c7) (by decide +kernel) rfl rfl rfl (by decide +kernel)
set_option maxRecDepth 65536 in
theorem w_c18 : (Jvm.Cond.code ({ cls := "jdk/internal/util/Preconditions", name := "checkIndex", desc := "(IILjava/util/function/BiFunction;)I" } : Jvm.MethodName) jdk_41_method_11_code (3 : Nat) (Option.some Jvm.ClassFile.FieldType.int)).before args0 about1 = true := code_word (m := ⟨14, 1⟩) (meth := k14m1) (c := k14c1) (by decide +kernel) rfl rfl rfl (by decide +kernel)
set_option maxRecDepth 65536 in
theorem w_c19 : (Jvm.Cond.code ({ cls := "java/lang/Long", name := "valueOf", desc := "(J)Ljava/lang/Long;" } : Jvm.MethodName) jdk_35_method_24_code (3 : Nat) (Option.some (Jvm.ClassFile.FieldType.object "java/lang/Long"))).before args0 about1 = true := code_word (m := ⟨16, 0⟩) (meth := k16m0) (c := k16c0) (by decide +kernel) rfl rfl rfl (by decide +kernel)
set_option maxRecDepth 65536 in
theorem w_c20 : (Jvm.Cond.code ({ cls := "java/lang/Long", name := "<init>", desc := "(J)V" } : Jvm.MethodName) jdk_35_method_26_code (3 : Nat) (Option.none : Option Jvm.ClassFile.FieldType)).before args0 about1 = true := code_word (m := ⟨16, 1⟩) (meth := k16m1) (c := k16c1) (by decide +kernel) rfl rfl rfl (by decide +kernel)
set_option maxRecDepth 65536 in
theorem w_c21 : (Jvm.Cond.code ({ cls := "java/lang/Number", name := "<init>", desc := "()V" } : Jvm.MethodName) jdk_18_method_1_code (1 : Nat) (Option.none : Option Jvm.ClassFile.FieldType)).before args0 about1 = true := code_word (m := ⟨15, 0⟩) (meth := k15m0) (c := k15c0) (by decide +kernel) rfl rfl rfl (by decide +kernel)
def codes1 : List Jvm.Cond := [Jvm.Cond.code x code maxLocals ret, Jvm.Cond.code ({ cls := "com/example/datenschutz/datenschutz/event/IntegerValue", name := "<init>", desc := "(J)V" } : Jvm.MethodName) prog_47_method_1_code (3 : Nat) (Option.none : Option Jvm.ClassFile.FieldType), Jvm.Cond.code ({ cls := "java/lang/Record", name := "<init>", desc := "()V" } : Jvm.MethodName) jdk_30_method_1_code (1 : Nat) (Option.none : Option Jvm.ClassFile.FieldType), Jvm.Cond.code ({ cls := "java/lang/Object", name := "<init>", desc := "()V" } : Jvm.MethodName) object_method_1_code (1 : Nat) (Option.none : Option Jvm.ClassFile.FieldType), Jvm.Cond.code ({ cls := "com/example/datenschutz/datenschutz/event/IntegerValue", name := "equals", desc := "(Ljava/lang/Object;)Z" } : Jvm.MethodName) prog_47_method_2_code (3 : Nat) (Option.some Jvm.ClassFile.FieldType.boolean), Jvm.Cond.code ({ cls := "com/example/datenschutz/datenschutz/event/StringValue", name := "canHold", desc := "(C)Z" } : Jvm.MethodName) prog_55_method_2_code (1 : Nat) (Option.some Jvm.ClassFile.FieldType.boolean), Jvm.Cond.code ({ cls := "java/lang/String", name := "valueOf", desc := "(C)Ljava/lang/String;" } : Jvm.MethodName) jdk_42_method_139_code (1 : Nat) (Option.some (Jvm.ClassFile.FieldType.object "java/lang/String")), Jvm.Cond.code ({ cls := "java/lang/StringLatin1", name := "canEncode", desc := "(C)Z" } : Jvm.MethodName) jdk_43_method_3_code (1 : Nat) (Option.some Jvm.ClassFile.FieldType.boolean), Jvm.Cond.code ({ cls := "java/lang/StringLatin1", name := "toBytes", desc := "(C)[B" } : Jvm.MethodName) jdk_43_method_46_code (1 : Nat) (Option.some (Jvm.ClassFile.FieldType.array Jvm.ClassFile.FieldType.byte)), Jvm.Cond.code ({ cls := "java/lang/String", name := "<init>", desc := "([BB)V" } : Jvm.MethodName) jdk_42_method_151_code (3 : Nat) (Option.none : Option Jvm.ClassFile.FieldType), Jvm.Cond.code ({ cls := "com/example/datenschutz/datenschutz/event/StringValue", name := "<init>", desc := "(Ljava/lang/String;)V" } : Jvm.MethodName) prog_55_method_1_code (3 : Nat) (Option.none : Option Jvm.ClassFile.FieldType), Jvm.Cond.code ({ cls := "java/util/Objects", name := "requireNonNull", desc := "(Ljava/lang/Object;Ljava/lang/String;)Ljava/lang/Object;" } : Jvm.MethodName) jdk_31_method_11_code (2 : Nat) (Option.some (Jvm.ClassFile.FieldType.object "java/lang/Object")), Jvm.Cond.code ({ cls := "java/lang/String", name := "length", desc := "()I" } : Jvm.MethodName) jdk_42_method_54_code (1 : Nat) (Option.some Jvm.ClassFile.FieldType.int), Jvm.Cond.code ({ cls := "java/lang/String", name := "coder", desc := "()B" } : Jvm.MethodName) jdk_42_method_152_code (1 : Nat) (Option.some Jvm.ClassFile.FieldType.byte), Jvm.Cond.code ({ cls := "java/lang/String", name := "charAt", desc := "(I)C" } : Jvm.MethodName) jdk_42_method_56_code (2 : Nat) (Option.some Jvm.ClassFile.FieldType.char), Jvm.Cond.code ({ cls := "java/lang/String", name := "isLatin1", desc := "()Z" } : Jvm.MethodName) jdk_42_method_154_code (1 : Nat) (Option.some Jvm.ClassFile.FieldType.boolean), Jvm.Cond.code ({ cls := "java/lang/StringLatin1", name := "charAt", desc := "([BI)C" } : Jvm.MethodName) jdk_43_method_2_code (2 : Nat) (Option.some Jvm.ClassFile.FieldType.char), Jvm.Cond.code ({ cls := "java/lang/String", name := "checkIndex", desc := "(II)V" } : Jvm.MethodName) jdk_42_method_155_code (2 : Nat) (Option.none : Option Jvm.ClassFile.FieldType), Jvm.Cond.code ({ cls := "jdk/internal/util/Preconditions", name := "checkIndex", desc := "(IILjava/util/function/BiFunction;)I" } : Jvm.MethodName) jdk_41_method_11_code (3 : Nat) (Option.some Jvm.ClassFile.FieldType.int), Jvm.Cond.code ({ cls := "java/lang/Long", name := "valueOf", desc := "(J)Ljava/lang/Long;" } : Jvm.MethodName) jdk_35_method_24_code (3 : Nat) (Option.some (Jvm.ClassFile.FieldType.object "java/lang/Long")), Jvm.Cond.code ({ cls := "java/lang/Long", name := "<init>", desc := "(J)V" } : Jvm.MethodName) jdk_35_method_26_code (3 : Nat) (Option.none : Option Jvm.ClassFile.FieldType), Jvm.Cond.code ({ cls := "java/lang/Number", name := "<init>", desc := "()V" } : Jvm.MethodName) jdk_18_method_1_code (1 : Nat) (Option.none : Option Jvm.ClassFile.FieldType)]
set_option maxRecDepth 65536 in
theorem codes_eq : words1.filter isCode = codes1 := rfl
theorem w_codes : ∀ c ∈ words1.filter isCode, c.before args0 about1 = true := by
  rw [codes_eq]
  intro c hc
  simp only [codes1, List.mem_cons, List.not_mem_nil, or_false] at hc
  rcases hc with rfl | rfl | rfl | rfl | rfl | rfl | rfl | rfl | rfl | rfl | rfl | rfl | rfl | rfl | rfl | rfl | rfl | rfl | rfl | rfl | rfl | rfl
  · exact w_c0
  · exact w_c1
  · exact w_c2
  · exact w_c3
  · exact w_c4
  · exact w_c5
  · exact w_c6
  · exact w_c7
  · exact w_c8
  · exact w_c9
  · exact w_c10
  · exact w_c11
  · exact w_c12
  · exact w_c13
  · exact w_c14
  · exact w_c15
  · exact w_c16
  · exact w_c17
  · exact w_c18
  · exact w_c19
  · exact w_c20
  · exact w_c21
set_option maxRecDepth 65536 in
theorem w_t1 : (words1.take 24).all (fun c => isCode c || c.before args0 about1) = true := by decide +kernel
set_option maxRecDepth 65536 in
theorem w_t2 : ((words1.drop 24).take 24).all (fun c => isCode c || c.before args0 about1) = true := by decide +kernel
set_option maxRecDepth 65536 in
theorem w_t3 : (((words1.drop 24).drop 24).take 24).all (fun c => isCode c || c.before args0 about1) = true := by decide +kernel
set_option maxRecDepth 65536 in
theorem w_t4 : ((((words1.drop 24).drop 24).drop 24).take 24).all (fun c => isCode c || c.before args0 about1) = true := by decide +kernel
set_option maxRecDepth 65536 in
theorem w_t5 : (((((words1.drop 24).drop 24).drop 24).drop 24).take 24).all (fun c => isCode c || c.before args0 about1) = true := by decide +kernel
set_option maxRecDepth 65536 in
theorem w_t6 : (((((words1.drop 24).drop 24).drop 24).drop 24).drop 24).all (fun c => isCode c || c.before args0 about1) = true := by decide +kernel
theorem w_tables : (allAtoms (Jvm.Cond.code x code maxLocals ret :: tables_1)).before args0 about1 = true := by
  rw [allAtoms_all]
  show words1.all (fun c => c.before args0 about1) = true
  refine all_split ?_ w_codes
  rw [← List.take_append_drop 24 words1, List.all_append, w_t1, ← List.take_append_drop 24 (words1.drop 24), List.all_append, w_t2, ← List.take_append_drop 24 ((words1.drop 24).drop 24), List.all_append, w_t3, ← List.take_append_drop 24 (((words1.drop 24).drop 24).drop 24), List.all_append, w_t4, ← List.take_append_drop 24 ((((words1.drop 24).drop 24).drop 24).drop 24), List.all_append, w_t5, w_t6]
  rfl
set_option maxRecDepth 65536 in
theorem w_rest : rest_1_c.before args0 about1 = true := by decide +kernel
set_option maxRecDepth 65536 in
theorem w_case : (Jvm.Cond.and given_1 narrow_1).before args0 about1 = true := by decide +kernel
theorem w_applies : (headSpec (Jvm.Cond.code x code maxLocals ret :: tables_1) room_1).applies x e0.platform about1 = true :=
  (Spec.applies_iff w_frames).mpr ⟨w_running, w_runnable, w_alone, w_named, w_hears, w_ripe, w_room, w_tables⟩
theorem atStart : AtStart classFile x code maxLocals ret World_1 tables_1 room_1 Calls_1 rest_1 Pre_1 launch0 p0 e0 about1 theMethod args0 below0 :=
  ⟨lists_1, trivial, launch0.admits_env _ _ _, launch0.least_env, fairChoices_fair.cas, fairChoices_fair.clock, w_frames, w_args, w_heap, w_applies, trivial, w_rest, w_case⟩
end start1
theorem witness_1 : WitnessClaimed_1 := ⟨start1.p0, start1.e0, start1.about1, start1.theMethod, start1.args0, start1.below0, start1.atStart⟩
end Jvm.Pilot.@@N@@
