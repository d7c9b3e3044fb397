import JvmDerived
import JvmDerived.Pilot.@@N@@Statement
import JvmDerived.Pilot.@@N@@Code
set_option linter.unusedVariables false
set_option linter.unusedSimpArgs false
@@BLOCK:NumsL.lean.txt@@
namespace Jvm.Pilot.@@N@@
open Jvm Jvm.ClassFile Sem Op Lib Jvm.Free Jvm.Stand Jvm.LawKit Jvm.RoadKit Bundle Jvm.Pilot.@@N@@.Jvm.D
def Nq (a b : Addr) : Prop := a ≠ b
section Layer
variable {p : Program} {l : Launch} {e : Env} {R : Room} {s : State} {m : MethodId} {args : Array Value} {below : List Frame} {meth : Method} {c : Code} {T T' : State} {locs : List Loc} {cells slots : Nat} {Fe : Outcome → State → List Loc → Prop} {Q : Option Value → Heap → List Loc → Prop} {pc pc' : Nat} {Ls l' : Array Slot} {g g' : JFrame} {Z : State} {a0 : Array Value}
/-- from the frame g over T the run comes to a return of which Q and the frame's condition Fe hold -/
def Ok (p : Program) (e : Env) (below : List Frame) (Fe : Outcome → State → List Loc → Prop) (Q : Option Value → Heap → List Loc → Prop) (T : State) (g : JFrame) : Prop :=
  ∃ s₂ o, Steps p.tables e below (T.setTop g) s₂ ∧ s₂.status = .running ∧ Ended s₂ below o ∧ ∃ v L, o = .returned v ∧ Q v s₂.heap L ∧ Fe o s₂ L
def NE (s : State) (nc ns : Nat) (o : Outcome) (t : State) (L : List Loc) : Prop := FrameEnd s o t L nc ns
def WE (s : State) (nc ns : Nat) (o : Outcome) (t : State) (L : List Loc) : Prop := ReturnedEndW s o t L nc ns
theorem Ok.st (h : ∀ t, Steps p.tables e below (T'.setTop g') t → Steps p.tables e below (T.setTop g) t) (k : Ok p e below Fe Q T' g') : Ok p e below Fe Q T g := by
  obtain ⟨t, o, st, r⟩ := k
  exact ⟨t, o, h t st, r⟩
theorem Ok.tr (h : Steps p.tables e below (T.setTop g) (T'.setTop g')) (k : Ok p e below Fe Q T' g') : Ok p e below Fe Q T g := Ok.st (fun _ k' => h.trans k') k
theorem Ok.fr (h : g = g') (k : Ok p e below Fe Q T g') : Ok p e below Fe Q T g := h ▸ k
theorem Ok.iadd {x y : Int32} {rest : List Value} (X : Stand p l e R s m args below meth c T locs cells slots) (hx : p.tables.exec = Jvm.exec) (hd : decode c.code pc = .ok (.iadd, 1)) (hp : pc + 1 = pc')  (k : Ok p e below Fe Q T (mkF m pc' Ls (.int (x + y) :: rest))) : Ok p e below Fe Q T (mkF m pc Ls (.int y :: .int x :: rest)) := by
  subst hp
  exact Ok.st (fun t k => XS.iadd X.here hx rfl hd rfl k) k
theorem Ok.ladd {x y : Int64} {rest : List Value} (X : Stand p l e R s m args below meth c T locs cells slots) (hx : p.tables.exec = Jvm.exec) (hd : decode c.code pc = .ok (.ladd, 1)) (hp : pc + 1 = pc')  (k : Ok p e below Fe Q T (mkF m pc' Ls (.long (x + y) :: rest))) : Ok p e below Fe Q T (mkF m pc Ls (.long y :: .long x :: rest)) := by
  subst hp
  exact Ok.st (fun t k => XS.ladd X.here hx rfl hd rfl k) k
theorem Ok.isub {x y : Int32} {rest : List Value} (X : Stand p l e R s m args below meth c T locs cells slots) (hx : p.tables.exec = Jvm.exec) (hd : decode c.code pc = .ok (.isub, 1)) (hp : pc + 1 = pc')  (k : Ok p e below Fe Q T (mkF m pc' Ls (.int (x - y) :: rest))) : Ok p e below Fe Q T (mkF m pc Ls (.int y :: .int x :: rest)) := by
  subst hp
  exact Ok.st (fun t k => XS.isub X.here hx rfl hd rfl k) k
theorem Ok.lsub {x y : Int64} {rest : List Value} (X : Stand p l e R s m args below meth c T locs cells slots) (hx : p.tables.exec = Jvm.exec) (hd : decode c.code pc = .ok (.lsub, 1)) (hp : pc + 1 = pc')  (k : Ok p e below Fe Q T (mkF m pc' Ls (.long (x - y) :: rest))) : Ok p e below Fe Q T (mkF m pc Ls (.long y :: .long x :: rest)) := by
  subst hp
  exact Ok.st (fun t k => XS.lsub X.here hx rfl hd rfl k) k
theorem Ok.imul {x y : Int32} {rest : List Value} (X : Stand p l e R s m args below meth c T locs cells slots) (hx : p.tables.exec = Jvm.exec) (hd : decode c.code pc = .ok (.imul, 1)) (hp : pc + 1 = pc')  (k : Ok p e below Fe Q T (mkF m pc' Ls (.int (x * y) :: rest))) : Ok p e below Fe Q T (mkF m pc Ls (.int y :: .int x :: rest)) := by
  subst hp
  exact Ok.st (fun t k => XS.imul X.here hx rfl hd rfl k) k
theorem Ok.lmul {x y : Int64} {rest : List Value} (X : Stand p l e R s m args below meth c T locs cells slots) (hx : p.tables.exec = Jvm.exec) (hd : decode c.code pc = .ok (.lmul, 1)) (hp : pc + 1 = pc')  (k : Ok p e below Fe Q T (mkF m pc' Ls (.long (x * y) :: rest))) : Ok p e below Fe Q T (mkF m pc Ls (.long y :: .long x :: rest)) := by
  subst hp
  exact Ok.st (fun t k => XS.lmul X.here hx rfl hd rfl k) k
theorem Ok.iand {x y : Int32} {rest : List Value} (X : Stand p l e R s m args below meth c T locs cells slots) (hx : p.tables.exec = Jvm.exec) (hd : decode c.code pc = .ok (.iand, 1)) (hp : pc + 1 = pc')  (k : Ok p e below Fe Q T (mkF m pc' Ls (.int (x &&& y) :: rest))) : Ok p e below Fe Q T (mkF m pc Ls (.int y :: .int x :: rest)) := by
  subst hp
  exact Ok.st (fun t k => XS.iand X.here hx rfl hd rfl k) k
theorem Ok.land {x y : Int64} {rest : List Value} (X : Stand p l e R s m args below meth c T locs cells slots) (hx : p.tables.exec = Jvm.exec) (hd : decode c.code pc = .ok (.land, 1)) (hp : pc + 1 = pc')  (k : Ok p e below Fe Q T (mkF m pc' Ls (.long (x &&& y) :: rest))) : Ok p e below Fe Q T (mkF m pc Ls (.long y :: .long x :: rest)) := by
  subst hp
  exact Ok.st (fun t k => XS.land X.here hx rfl hd rfl k) k
theorem Ok.ior {x y : Int32} {rest : List Value} (X : Stand p l e R s m args below meth c T locs cells slots) (hx : p.tables.exec = Jvm.exec) (hd : decode c.code pc = .ok (.ior, 1)) (hp : pc + 1 = pc')  (k : Ok p e below Fe Q T (mkF m pc' Ls (.int (x ||| y) :: rest))) : Ok p e below Fe Q T (mkF m pc Ls (.int y :: .int x :: rest)) := by
  subst hp
  exact Ok.st (fun t k => XS.ior X.here hx rfl hd rfl k) k
theorem Ok.lor {x y : Int64} {rest : List Value} (X : Stand p l e R s m args below meth c T locs cells slots) (hx : p.tables.exec = Jvm.exec) (hd : decode c.code pc = .ok (.lor, 1)) (hp : pc + 1 = pc')  (k : Ok p e below Fe Q T (mkF m pc' Ls (.long (x ||| y) :: rest))) : Ok p e below Fe Q T (mkF m pc Ls (.long y :: .long x :: rest)) := by
  subst hp
  exact Ok.st (fun t k => XS.lor X.here hx rfl hd rfl k) k
theorem Ok.ixor {x y : Int32} {rest : List Value} (X : Stand p l e R s m args below meth c T locs cells slots) (hx : p.tables.exec = Jvm.exec) (hd : decode c.code pc = .ok (.ixor, 1)) (hp : pc + 1 = pc')  (k : Ok p e below Fe Q T (mkF m pc' Ls (.int (x ^^^ y) :: rest))) : Ok p e below Fe Q T (mkF m pc Ls (.int y :: .int x :: rest)) := by
  subst hp
  exact Ok.st (fun t k => XS.ixor X.here hx rfl hd rfl k) k
theorem Ok.lxor {x y : Int64} {rest : List Value} (X : Stand p l e R s m args below meth c T locs cells slots) (hx : p.tables.exec = Jvm.exec) (hd : decode c.code pc = .ok (.lxor, 1)) (hp : pc + 1 = pc')  (k : Ok p e below Fe Q T (mkF m pc' Ls (.long (x ^^^ y) :: rest))) : Ok p e below Fe Q T (mkF m pc Ls (.long y :: .long x :: rest)) := by
  subst hp
  exact Ok.st (fun t k => XS.lxor X.here hx rfl hd rfl k) k
theorem Ok.idiv {x y : Int32} {rest : List Value} (X : Stand p l e R s m args below meth c T locs cells slots) (hx : p.tables.exec = Jvm.exec) (hd : decode c.code pc = .ok (.idiv, 1)) (hp : pc + 1 = pc') (hy : y ≠ 0) (k : Ok p e below Fe Q T (mkF m pc' Ls (.int (x / y) :: rest))) : Ok p e below Fe Q T (mkF m pc Ls (.int y :: .int x :: rest)) := by
  subst hp
  exact Ok.st (fun t k => XS.idiv X.here hx rfl hd rfl hy k) k
theorem Ok.ldiv {x y : Int64} {rest : List Value} (X : Stand p l e R s m args below meth c T locs cells slots) (hx : p.tables.exec = Jvm.exec) (hd : decode c.code pc = .ok (.ldiv, 1)) (hp : pc + 1 = pc') (hy : y ≠ 0) (k : Ok p e below Fe Q T (mkF m pc' Ls (.long (x / y) :: rest))) : Ok p e below Fe Q T (mkF m pc Ls (.long y :: .long x :: rest)) := by
  subst hp
  exact Ok.st (fun t k => XS.ldiv X.here hx rfl hd rfl hy k) k
theorem Ok.irem {x y : Int32} {rest : List Value} (X : Stand p l e R s m args below meth c T locs cells slots) (hx : p.tables.exec = Jvm.exec) (hd : decode c.code pc = .ok (.irem, 1)) (hp : pc + 1 = pc') (hy : y ≠ 0) (k : Ok p e below Fe Q T (mkF m pc' Ls (.int (x % y) :: rest))) : Ok p e below Fe Q T (mkF m pc Ls (.int y :: .int x :: rest)) := by
  subst hp
  exact Ok.st (fun t k => iremM X hx rfl hd rfl hy k) k
theorem Ok.lrem {x y : Int64} {rest : List Value} (X : Stand p l e R s m args below meth c T locs cells slots) (hx : p.tables.exec = Jvm.exec) (hd : decode c.code pc = .ok (.lrem, 1)) (hp : pc + 1 = pc') (hy : y ≠ 0) (k : Ok p e below Fe Q T (mkF m pc' Ls (.long (x - (x / y) * y) :: rest))) : Ok p e below Fe Q T (mkF m pc Ls (.long y :: .long x :: rest)) := by
  subst hp
  exact Ok.st (fun t k => XS.lrem X.here hx rfl hd rfl hy k) k
theorem Ok.ishl {x y : Int32} {rest : List Value} (X : Stand p l e R s m args below meth c T locs cells slots) (hx : p.tables.exec = Jvm.exec) (hd : decode c.code pc = .ok (.ishl, 1)) (hp : pc + 1 = pc')  (k : Ok p e below Fe Q T (mkF m pc' Ls (.int (x <<< (y &&& 31)) :: rest))) : Ok p e below Fe Q T (mkF m pc Ls (.int y :: .int x :: rest)) := by
  subst hp
  exact Ok.st (fun t k => XS.ishl X.here hx rfl hd rfl k) k
theorem Ok.ishr {x y : Int32} {rest : List Value} (X : Stand p l e R s m args below meth c T locs cells slots) (hx : p.tables.exec = Jvm.exec) (hd : decode c.code pc = .ok (.ishr, 1)) (hp : pc + 1 = pc')  (k : Ok p e below Fe Q T (mkF m pc' Ls (.int (x >>> (y &&& 31)) :: rest))) : Ok p e below Fe Q T (mkF m pc Ls (.int y :: .int x :: rest)) := by
  subst hp
  exact Ok.st (fun t k => XS.ishr X.here hx rfl hd rfl k) k
theorem Ok.iushr {x y : Int32} {rest : List Value} (X : Stand p l e R s m args below meth c T locs cells slots) (hx : p.tables.exec = Jvm.exec) (hd : decode c.code pc = .ok (.iushr, 1)) (hp : pc + 1 = pc')  (k : Ok p e below Fe Q T (mkF m pc' Ls (.int ((x.toUInt32 >>> (y &&& 31).toUInt32).toInt32) :: rest))) : Ok p e below Fe Q T (mkF m pc Ls (.int y :: .int x :: rest)) := by
  subst hp
  exact Ok.st (fun t k => XS.iushr X.here hx rfl hd rfl k) k
theorem Ok.lshl {x : Int64} {y : Int32} {rest : List Value} (X : Stand p l e R s m args below meth c T locs cells slots) (hx : p.tables.exec = Jvm.exec) (hd : decode c.code pc = .ok (.lshl, 1)) (hp : pc + 1 = pc')  (k : Ok p e below Fe Q T (mkF m pc' Ls (.long (x <<< (y &&& 0x3f).toInt64) :: rest))) : Ok p e below Fe Q T (mkF m pc Ls (.int y :: .long x :: rest)) := by
  subst hp
  exact Ok.st (fun t k => XS.lshl X.here hx rfl hd rfl k) k
theorem Ok.lshr {x : Int64} {y : Int32} {rest : List Value} (X : Stand p l e R s m args below meth c T locs cells slots) (hx : p.tables.exec = Jvm.exec) (hd : decode c.code pc = .ok (.lshr, 1)) (hp : pc + 1 = pc')  (k : Ok p e below Fe Q T (mkF m pc' Ls (.long (x >>> (y &&& 0x3f).toInt64) :: rest))) : Ok p e below Fe Q T (mkF m pc Ls (.int y :: .long x :: rest)) := by
  subst hp
  exact Ok.st (fun t k => XS.lshr X.here hx rfl hd rfl k) k
theorem Ok.lushr {x : Int64} {y : Int32} {rest : List Value} (X : Stand p l e R s m args below meth c T locs cells slots) (hx : p.tables.exec = Jvm.exec) (hd : decode c.code pc = .ok (.lushr, 1)) (hp : pc + 1 = pc')  (k : Ok p e below Fe Q T (mkF m pc' Ls (.long ((x.toUInt64 >>> (y &&& 0x3f).toInt64.toUInt64).toInt64) :: rest))) : Ok p e below Fe Q T (mkF m pc Ls (.int y :: .long x :: rest)) := by
  subst hp
  exact Ok.st (fun t k => XS.lushr X.here hx rfl hd rfl k) k
theorem Ok.ineg {x : Int32} {rest : List Value} (X : Stand p l e R s m args below meth c T locs cells slots) (hx : p.tables.exec = Jvm.exec) (hd : decode c.code pc = .ok (.ineg, 1)) (hp : pc + 1 = pc')  (k : Ok p e below Fe Q T (mkF m pc' Ls (.int (-x) :: rest))) : Ok p e below Fe Q T (mkF m pc Ls (.int x :: rest)) := by
  subst hp
  exact Ok.st (fun t k => XS.ineg X.here hx rfl hd rfl k) k
theorem Ok.lneg {x : Int64} {rest : List Value} (X : Stand p l e R s m args below meth c T locs cells slots) (hx : p.tables.exec = Jvm.exec) (hd : decode c.code pc = .ok (.lneg, 1)) (hp : pc + 1 = pc')  (k : Ok p e below Fe Q T (mkF m pc' Ls (.long (-x) :: rest))) : Ok p e below Fe Q T (mkF m pc Ls (.long x :: rest)) := by
  subst hp
  exact Ok.st (fun t k => XS.lneg X.here hx rfl hd rfl k) k
theorem Ok.i2l {x : Int32} {rest : List Value} (X : Stand p l e R s m args below meth c T locs cells slots) (hx : p.tables.exec = Jvm.exec) (hd : decode c.code pc = .ok (.i2l, 1)) (hp : pc + 1 = pc')  (k : Ok p e below Fe Q T (mkF m pc' Ls (.long x.toInt64 :: rest))) : Ok p e below Fe Q T (mkF m pc Ls (.int x :: rest)) := by
  subst hp
  exact Ok.st (fun t k => XS.i2l X.here hx rfl hd rfl k) k
theorem Ok.l2i {x : Int64} {rest : List Value} (X : Stand p l e R s m args below meth c T locs cells slots) (hx : p.tables.exec = Jvm.exec) (hd : decode c.code pc = .ok (.l2i, 1)) (hp : pc + 1 = pc')  (k : Ok p e below Fe Q T (mkF m pc' Ls (.int x.toInt32 :: rest))) : Ok p e below Fe Q T (mkF m pc Ls (.long x :: rest)) := by
  subst hp
  exact Ok.st (fun t k => XS.l2i X.here hx rfl hd rfl k) k
theorem Ok.i2b {x : Int32} {rest : List Value} (X : Stand p l e R s m args below meth c T locs cells slots) (hx : p.tables.exec = Jvm.exec) (hd : decode c.code pc = .ok (.i2b, 1)) (hp : pc + 1 = pc')  (k : Ok p e below Fe Q T (mkF m pc' Ls (.int x.toInt8.toInt32 :: rest))) : Ok p e below Fe Q T (mkF m pc Ls (.int x :: rest)) := by
  subst hp
  exact Ok.st (fun t k => XS.i2b X.here hx rfl hd rfl k) k
theorem Ok.i2c {x : Int32} {rest : List Value} (X : Stand p l e R s m args below meth c T locs cells slots) (hx : p.tables.exec = Jvm.exec) (hd : decode c.code pc = .ok (.i2c, 1)) (hp : pc + 1 = pc')  (k : Ok p e below Fe Q T (mkF m pc' Ls (.int x.toUInt32.toUInt16.toUInt32.toInt32 :: rest))) : Ok p e below Fe Q T (mkF m pc Ls (.int x :: rest)) := by
  subst hp
  exact Ok.st (fun t k => XS.i2c X.here hx rfl hd rfl k) k
theorem Ok.i2s {x : Int32} {rest : List Value} (X : Stand p l e R s m args below meth c T locs cells slots) (hx : p.tables.exec = Jvm.exec) (hd : decode c.code pc = .ok (.i2s, 1)) (hp : pc + 1 = pc')  (k : Ok p e below Fe Q T (mkF m pc' Ls (.int x.toInt16.toInt32 :: rest))) : Ok p e below Fe Q T (mkF m pc Ls (.int x :: rest)) := by
  subst hp
  exact Ok.st (fun t k => XS.i2s X.here hx rfl hd rfl k) k
theorem Ok.lcmp {x y : Int64} {rest : List Value} (X : Stand p l e R s m args below meth c T locs cells slots) (hx : p.tables.exec = Jvm.exec) (hd : decode c.code pc = .ok (.lcmp, 1)) (hp : pc + 1 = pc')  (k : Ok p e below Fe Q T (mkF m pc' Ls (.int (lcmpW x y) :: rest))) : Ok p e below Fe Q T (mkF m pc Ls (.long y :: .long x :: rest)) := by
  subst hp
  exact Ok.st (fun t k => XS.lcmp X.here hx rfl hd rfl k) k
theorem Ok.iconst {i : Int} {z : Int32} {rest : List Value} (X : Stand p l e R s m args below meth c T locs cells slots) (hx : p.tables.exec = Jvm.exec) (hd : decode c.code pc = .ok (.iconst i, 1)) (hp : pc + 1 = pc') (hz : z = Int32.ofInt i) (k : Ok p e below Fe Q T (mkF m pc' Ls (.int z :: rest))) : Ok p e below Fe Q T (mkF m pc Ls rest) := by
  subst hp
  exact Ok.st (fun t k => XS.iconst X.here hx rfl hd (hz ▸ k)) k
theorem Ok.bipush {i : Int} {z : Int32} {rest : List Value} (X : Stand p l e R s m args below meth c T locs cells slots) (hx : p.tables.exec = Jvm.exec) (hd : decode c.code pc = .ok (.bipush i, 2)) (hp : pc + 2 = pc') (hz : z = (Int8.ofInt i).toInt32) (k : Ok p e below Fe Q T (mkF m pc' Ls (.int z :: rest))) : Ok p e below Fe Q T (mkF m pc Ls rest) := by
  subst hp
  exact Ok.st (fun t k => XS.bipush X.here hx rfl hd (hz ▸ k)) k
theorem Ok.sipush {i : Int} {z : Int32} {rest : List Value} (X : Stand p l e R s m args below meth c T locs cells slots) (hx : p.tables.exec = Jvm.exec) (hd : decode c.code pc = .ok (.sipush i, 3)) (hp : pc + 3 = pc') (hz : z = (Int16.ofInt i).toInt32) (k : Ok p e below Fe Q T (mkF m pc' Ls (.int z :: rest))) : Ok p e below Fe Q T (mkF m pc Ls rest) := by
  subst hp
  exact Ok.st (fun t k => XS.sipush X.here hx rfl hd (hz ▸ k)) k
theorem Ok.lconst {i : Fin 2} {z : Int64} {rest : List Value} (X : Stand p l e R s m args below meth c T locs cells slots) (hx : p.tables.exec = Jvm.exec) (hd : decode c.code pc = .ok (.lconst i, 1)) (hp : pc + 1 = pc') (hz : z = Int64.ofNat i) (k : Ok p e below Fe Q T (mkF m pc' Ls (.long z :: rest))) : Ok p e below Fe Q T (mkF m pc Ls rest) := by
  subst hp
  exact Ok.st (fun t k => XS.lconst X.here hx rfl hd (hz ▸ k)) k
theorem Ok.aconstNull {rest : List Value} (X : Stand p l e R s m args below meth c T locs cells slots) (hx : p.tables.exec = Jvm.exec) (hd : decode c.code pc = .ok (.aconst_null, 1)) (hp : pc + 1 = pc')  (k : Ok p e below Fe Q T (mkF m pc' Ls (.null :: rest))) : Ok p e below Fe Q T (mkF m pc Ls rest) := by
  subst hp
  exact Ok.st (fun t k => XS.aconstNull X.here hx rfl hd k) k
theorem Ok.dup {x : Value} {rest : List Value} (X : Stand p l e R s m args below meth c T locs cells slots) (hx : p.tables.exec = Jvm.exec) (hd : decode c.code pc = .ok (.dup, 1)) (hp : pc + 1 = pc') (hc : x.category = 1) (k : Ok p e below Fe Q T (mkF m pc' Ls (x :: x :: rest))) : Ok p e below Fe Q T (mkF m pc Ls (x :: rest)) := by
  subst hp
  exact Ok.st (fun t k => XS.dup X.here hx rfl hd rfl hc k) k
theorem Ok.pop {x : Value} {rest : List Value} (X : Stand p l e R s m args below meth c T locs cells slots) (hx : p.tables.exec = Jvm.exec) (hd : decode c.code pc = .ok (.pop, 1)) (hp : pc + 1 = pc') (hc : x.category = 1) (k : Ok p e below Fe Q T (mkF m pc' Ls rest)) : Ok p e below Fe Q T (mkF m pc Ls (x :: rest)) := by
  subst hp
  exact Ok.st (fun t k => XS.pop X.here hx rfl hd rfl hc k) k
theorem Ok.iload {i : Nat} {v : Int32} {rest : List Value} (X : Stand p l e R s m args below meth c T locs cells slots) (hx : p.tables.exec = Jvm.exec) (hd : decode c.code pc = .ok (.iload i, 2)) (hp : pc + 2 = pc') (hl : Ls[i]? = some (.val (.int v))) (k : Ok p e below Fe Q T (mkF m pc' Ls (.int v :: rest))) : Ok p e below Fe Q T (mkF m pc Ls rest) := by
  subst hp
  exact Ok.st (fun t k => XS.iload X.here hx rfl hd hl k) k
theorem Ok.iloadN {i : Fin 4} {v : Int32} {rest : List Value} (X : Stand p l e R s m args below meth c T locs cells slots) (hx : p.tables.exec = Jvm.exec) (hd : decode c.code pc = .ok (.iload_n i, 1)) (hp : pc + 1 = pc') (hl : Ls[i.val]? = some (.val (.int v))) (k : Ok p e below Fe Q T (mkF m pc' Ls (.int v :: rest))) : Ok p e below Fe Q T (mkF m pc Ls rest) := by
  subst hp
  exact Ok.st (fun t k => XS.iloadN X.here hx rfl hd hl k) k
theorem Ok.lload {i : Nat} {v : Int64} {rest : List Value} (X : Stand p l e R s m args below meth c T locs cells slots) (hx : p.tables.exec = Jvm.exec) (hd : decode c.code pc = .ok (.lload i, 2)) (hp : pc + 2 = pc') (hl : Ls[i]? = some (.val (.long v))) (k : Ok p e below Fe Q T (mkF m pc' Ls (.long v :: rest))) : Ok p e below Fe Q T (mkF m pc Ls rest) := by
  subst hp
  exact Ok.st (fun t k => XS.lload X.here hx rfl hd hl k) k
theorem Ok.lloadN {i : Fin 4} {v : Int64} {rest : List Value} (X : Stand p l e R s m args below meth c T locs cells slots) (hx : p.tables.exec = Jvm.exec) (hd : decode c.code pc = .ok (.lload_n i, 1)) (hp : pc + 1 = pc') (hl : Ls[i.val]? = some (.val (.long v))) (k : Ok p e below Fe Q T (mkF m pc' Ls (.long v :: rest))) : Ok p e below Fe Q T (mkF m pc Ls rest) := by
  subst hp
  exact Ok.st (fun t k => XS.lloadN X.here hx rfl hd hl k) k
theorem Ok.aload {i : Nat} {v : Value} {rest : List Value} (X : Stand p l e R s m args below meth c T locs cells slots) (hx : p.tables.exec = Jvm.exec) (hd : decode c.code pc = .ok (.aload i, 2)) (hp : pc + 2 = pc') (hl : Ls[i]? = some (.val v)) (hv : v.isRef = true) (k : Ok p e below Fe Q T (mkF m pc' Ls (v :: rest))) : Ok p e below Fe Q T (mkF m pc Ls rest) := by
  subst hp
  exact Ok.st (fun t k => XS.aload X.here hx rfl hd hl hv k) k
theorem Ok.aloadN {i : Fin 4} {v : Value} {rest : List Value} (X : Stand p l e R s m args below meth c T locs cells slots) (hx : p.tables.exec = Jvm.exec) (hd : decode c.code pc = .ok (.aload_n i, 1)) (hp : pc + 1 = pc') (hl : Ls[i.val]? = some (.val v)) (hv : v.isRef = true) (k : Ok p e below Fe Q T (mkF m pc' Ls (v :: rest))) : Ok p e below Fe Q T (mkF m pc Ls rest) := by
  subst hp
  exact Ok.st (fun t k => XS.aloadN X.here hx rfl hd hl hv k) k
theorem Ok.istore {i : Nat} {x : Int32} {rest : List Value} (X : Stand p l e R s m args below meth c T locs cells slots) (hx : p.tables.exec = Jvm.exec) (hd : decode c.code pc = .ok (.istore i, 2)) (hp : pc + 2 = pc') (hl : storeLocals Ls i (.int x) = some l') (k : Ok p e below Fe Q T (mkF m pc' l' rest)) : Ok p e below Fe Q T (mkF m pc Ls ((.int x) :: rest)) := by
  subst hp
  exact Ok.st (fun t k => XS.istore X.here hx rfl hd rfl hl k) k
theorem Ok.istoreN {i : Fin 4} {x : Int32} {rest : List Value} (X : Stand p l e R s m args below meth c T locs cells slots) (hx : p.tables.exec = Jvm.exec) (hd : decode c.code pc = .ok (.istore_n i, 1)) (hp : pc + 1 = pc') (hl : storeLocals Ls i.val (.int x) = some l') (k : Ok p e below Fe Q T (mkF m pc' l' rest)) : Ok p e below Fe Q T (mkF m pc Ls ((.int x) :: rest)) := by
  subst hp
  exact Ok.st (fun t k => XS.istoreN X.here hx rfl hd rfl hl k) k
theorem Ok.lstore {i : Nat} {x : Int64} {rest : List Value} (X : Stand p l e R s m args below meth c T locs cells slots) (hx : p.tables.exec = Jvm.exec) (hd : decode c.code pc = .ok (.lstore i, 2)) (hp : pc + 2 = pc') (hl : storeLocals Ls i (.long x) = some l') (k : Ok p e below Fe Q T (mkF m pc' l' rest)) : Ok p e below Fe Q T (mkF m pc Ls ((.long x) :: rest)) := by
  subst hp
  exact Ok.st (fun t k => XS.lstore X.here hx rfl hd rfl hl k) k
theorem Ok.lstoreN {i : Fin 4} {x : Int64} {rest : List Value} (X : Stand p l e R s m args below meth c T locs cells slots) (hx : p.tables.exec = Jvm.exec) (hd : decode c.code pc = .ok (.lstore_n i, 1)) (hp : pc + 1 = pc') (hl : storeLocals Ls i.val (.long x) = some l') (k : Ok p e below Fe Q T (mkF m pc' l' rest)) : Ok p e below Fe Q T (mkF m pc Ls ((.long x) :: rest)) := by
  subst hp
  exact Ok.st (fun t k => XS.lstoreN X.here hx rfl hd rfl hl k) k
theorem Ok.astore {i : Nat} {x : Value} {rest : List Value} (X : Stand p l e R s m args below meth c T locs cells slots) (hx : p.tables.exec = Jvm.exec) (hd : decode c.code pc = .ok (.astore i, 2)) (hp : pc + 2 = pc') (hv : x.isRef = true) (hl : storeLocals Ls i x = some l') (k : Ok p e below Fe Q T (mkF m pc' l' rest)) : Ok p e below Fe Q T (mkF m pc Ls (x :: rest)) := by
  subst hp
  exact Ok.st (fun t k => XS.astore X.here hx rfl hd rfl hv hl k) k
theorem Ok.astoreN {i : Fin 4} {x : Value} {rest : List Value} (X : Stand p l e R s m args below meth c T locs cells slots) (hx : p.tables.exec = Jvm.exec) (hd : decode c.code pc = .ok (.astore_n i, 1)) (hp : pc + 1 = pc') (hv : x.isRef = true) (hl : storeLocals Ls i.val x = some l') (k : Ok p e below Fe Q T (mkF m pc' l' rest)) : Ok p e below Fe Q T (mkF m pc Ls (x :: rest)) := by
  subst hp
  exact Ok.st (fun t k => XS.astoreN X.here hx rfl hd rfl hv hl k) k
theorem Ok.iinc {i : Nat} {cst : Int} {x z : Int32} {st : List Value} (X : Stand p l e R s m args below meth c T locs cells slots) (hx : p.tables.exec = Jvm.exec) (hd : decode c.code pc = .ok (.iinc i cst, 3)) (hp : pc + 3 = pc') (hl : Ls[i]? = some (.val (.int x))) (hz : z = x + Int32.ofInt cst) (hl' : storeLocals Ls i (.int z) = some l') (k : Ok p e below Fe Q T (mkF m pc' l' st)) : Ok p e below Fe Q T (mkF m pc Ls st) := by
  subst hp hz
  exact Ok.st (fun t k => XS.iinc X.here hx rfl hd hl hl' k) k
theorem Ok.goto {o : Int} {st : List Value} (X : Stand p l e R s m args below meth c T locs cells slots) (hx : p.tables.exec = Jvm.exec) (hd : decode c.code pc = .ok (.goto o, 3)) (ho : 0 ≤ (pc : Int) + o) (hp : ((pc : Int) + o).toNat = pc') (k : Ok p e below Fe Q T (mkF m pc' Ls st)) : Ok p e below Fe Q T (mkF m pc Ls st) :=
  Ok.st (fun t k => XS.goto X.here hx rfl (pc0 := pc) rfl hd ho hp k) k
theorem Ok.ifY {cd : ClassFile.Cond} {x : Int32} {rest : List Value} {o : Int} (X : Stand p l e R s m args below meth c T locs cells slots) (hx : p.tables.exec = Jvm.exec) (hd : decode c.code pc = .ok (.ifCond cd o, 3)) (hc : ifCond.holds cd x = true) (ho : 0 ≤ (pc : Int) + o) (hp : ((pc : Int) + o).toNat = pc') (k : Ok p e below Fe Q T (mkF m pc' Ls rest)) : Ok p e below Fe Q T (mkF m pc Ls (.int x :: rest)) :=
  Ok.st (fun t k => XS.ifYes X.here hx rfl (pc0 := pc) rfl hd rfl hc ho hp k) k
theorem Ok.ifN {cd : ClassFile.Cond} {x : Int32} {rest : List Value} {o : Int} (X : Stand p l e R s m args below meth c T locs cells slots) (hx : p.tables.exec = Jvm.exec) (hd : decode c.code pc = .ok (.ifCond cd o, 3)) (hc : ifCond.holds cd x = false) (hp : pc + 3 = pc') (k : Ok p e below Fe Q T (mkF m pc' Ls rest)) : Ok p e below Fe Q T (mkF m pc Ls (.int x :: rest)) := by
  subst hp
  exact Ok.st (fun t k => XS.ifNo X.here hx rfl hd rfl hc k) k
theorem Ok.icY {cd : ClassFile.Cond} {x y : Int32} {rest : List Value} {o : Int} (X : Stand p l e R s m args below meth c T locs cells slots) (hx : p.tables.exec = Jvm.exec) (hd : decode c.code pc = .ok (.if_icmp cd o, 3)) (hc : if_icmp.holds cd x y = true) (ho : 0 ≤ (pc : Int) + o) (hp : ((pc : Int) + o).toNat = pc') (k : Ok p e below Fe Q T (mkF m pc' Ls rest)) : Ok p e below Fe Q T (mkF m pc Ls (.int y :: .int x :: rest)) :=
  Ok.st (fun t k => XS.icmpYes X.here hx rfl (pc0 := pc) rfl hd rfl hc ho hp k) k
theorem Ok.icN {cd : ClassFile.Cond} {x y : Int32} {rest : List Value} {o : Int} (X : Stand p l e R s m args below meth c T locs cells slots) (hx : p.tables.exec = Jvm.exec) (hd : decode c.code pc = .ok (.if_icmp cd o, 3)) (hc : if_icmp.holds cd x y = false) (hp : pc + 3 = pc') (k : Ok p e below Fe Q T (mkF m pc' Ls rest)) : Ok p e below Fe Q T (mkF m pc Ls (.int y :: .int x :: rest)) := by
  subst hp
  exact Ok.st (fun t k => XS.icmpNo X.here hx rfl hd rfl hc k) k
theorem Ok.nullY {rest : List Value} {o : Int} (X : Stand p l e R s m args below meth c T locs cells slots) (hx : p.tables.exec = Jvm.exec) (hd : decode c.code pc = .ok (.ifnull o, 3)) (ho : 0 ≤ (pc : Int) + o) (hp : ((pc : Int) + o).toNat = pc') (k : Ok p e below Fe Q T (mkF m pc' Ls rest)) : Ok p e below Fe Q T (mkF m pc Ls (.null :: rest)) :=
  Ok.st (fun t k => XS.ifnullYes X.here hx rfl (pc0 := pc) rfl hd rfl ho hp k) k
theorem Ok.nullN {b : Addr} {rest : List Value} {o : Int} (X : Stand p l e R s m args below meth c T locs cells slots) (hx : p.tables.exec = Jvm.exec) (hd : decode c.code pc = .ok (.ifnull o, 3)) (hp : pc + 3 = pc') (k : Ok p e below Fe Q T (mkF m pc' Ls rest)) : Ok p e below Fe Q T (mkF m pc Ls (.ref b :: rest)) := by
  subst hp
  exact Ok.st (fun t k => XS.ifnullNo X.here hx rfl hd rfl k) k
theorem Ok.nonnullY {b : Addr} {rest : List Value} {o : Int} (X : Stand p l e R s m args below meth c T locs cells slots) (hx : p.tables.exec = Jvm.exec) (hd : decode c.code pc = .ok (.ifnonnull o, 3)) (ho : 0 ≤ (pc : Int) + o) (hp : ((pc : Int) + o).toNat = pc') (k : Ok p e below Fe Q T (mkF m pc' Ls rest)) : Ok p e below Fe Q T (mkF m pc Ls (.ref b :: rest)) :=
  Ok.st (fun t k => XS.ifnonnullYes X.here hx rfl (pc0 := pc) rfl hd rfl ho hp k) k
theorem Ok.nonnullN {rest : List Value} {o : Int} (X : Stand p l e R s m args below meth c T locs cells slots) (hx : p.tables.exec = Jvm.exec) (hd : decode c.code pc = .ok (.ifnonnull o, 3)) (hp : pc + 3 = pc') (k : Ok p e below Fe Q T (mkF m pc' Ls rest)) : Ok p e below Fe Q T (mkF m pc Ls (.null :: rest)) := by
  subst hp
  exact Ok.st (fun t k => XS.ifnonnullNo X.here hx rfl hd rfl k) k
theorem Ok.ldcI {own : String} {index : Nat} {v : Int32} {st : List Value} (X : Stand p l e R s m args below meth c T locs cells slots) (hx : p.tables.exec = Jvm.exec) (hZ : Z.Warmed39 s.vm) (hown : s.vm.findClass own = some m.cls) (w : (Jvm.Cond.constant own index v).before a0 Z = true) (hd : decode c.code pc = .ok (.ldc index, 2)) (hp : pc + 2 = pc') (k : Ok p e below Fe Q T (mkF m pc' Ls (.int v :: st))) : Ok p e below Fe Q T (mkF m pc Ls st) := by
  subst hp
  exact Ok.st (X.ldcInt hx hown (mvT hZ w) (g := mkF m pc Ls st) rfl hd) k
theorem Ok.ldcJ {own : String} {index : Nat} {v : Int64} {st : List Value} (X : Stand p l e R s m args below meth c T locs cells slots) (hx : p.tables.exec = Jvm.exec) (hZ : Z.Warmed39 s.vm) (hown : s.vm.findClass own = some m.cls) (w : (Jvm.Cond.constantLong own index v).before a0 Z = true) (hd : decode c.code pc = .ok (.ldc2_w index, 3)) (hp : pc + 3 = pc') (k : Ok p e below Fe Q T (mkF m pc' Ls (.long v :: st))) : Ok p e below Fe Q T (mkF m pc Ls st) := by
  subst hp
  exact Ok.st (X.ldc2Long hx hown (mvT hZ w) (g := mkF m pc Ls st) rfl hd) k
/-! the ends -/
theorem Ok.retV (X : Stand p l e R s m args below meth c T locs cells slots) (hx : p.tables.exec = Jvm.exec) (hret : meth.sig.returnType = none) (hlk : meth.locks = false) (hd : decode c.code pc = .ok (.return_, 1)) {nc ns : Nat} (hc : cells ≤ nc) (hs : slots ≤ ns) (q : Q none T.heap locs) : Ok p e below (NE s nc ns) Q T (mkF m pc Ls []) := by
  obtain ⟨fs, hr, hrun, hended, hW, hsame⟩ := X.leave (v := none) (fun _ => rfl) hlk
  exact ⟨_, _, X.returnOut hx hret hd hr, hrun, hended, _, _, rfl, q, ⟨_, rfl⟩, hW, hsame.mono hc hs⟩
theorem Ok.retI {z : Int32} {rest : List Value} {t : FieldType} (X : Stand p l e R s m args below meth c T locs cells slots) (hx : p.tables.exec = Jvm.exec) (hret : meth.sig.returnType = some t) (hlk : meth.locks = false) (ht : t = .int ∨ t = .boolean ∨ t = .byte ∨ t = .char ∨ t = .short) (hn : narrow t (.int z) = .int z) (hd : decode c.code pc = .ok (.ireturn, 1)) {nc ns : Nat} (hc : cells ≤ nc) (hs : slots ≤ ns) (q : Q (some (.int z)) T.heap locs) : Ok p e below (NE s nc ns) Q T (mkF m pc Ls (.int z :: rest)) := by
  obtain ⟨fs, hr, hrun, hended, hW, hsame⟩ := X.leave (v := some (.int z)) (fun h => by rw [hret] at h; cases h) hlk
  exact ⟨_, _, retOut X hx hret hn (Or.inl ⟨rfl, ht, _, rfl⟩) hd hr, hrun, hended, _, _, rfl, q, ⟨_, rfl⟩, hW, hsame.mono hc hs⟩
theorem Ok.retJ {z : Int64} {rest : List Value} (X : Stand p l e R s m args below meth c T locs cells slots) (hx : p.tables.exec = Jvm.exec) (hret : meth.sig.returnType = some .long) (hlk : meth.locks = false) (hd : decode c.code pc = .ok (.lreturn, 1)) {nc ns : Nat} (hc : cells ≤ nc) (hs : slots ≤ ns) (q : Q (some (.long z)) T.heap locs) : Ok p e below (NE s nc ns) Q T (mkF m pc Ls (.long z :: rest)) := by
  obtain ⟨fs, hr, hrun, hended, hW, hsame⟩ := X.leave (v := some (.long z)) (fun h => by rw [hret] at h; cases h) hlk
  exact ⟨_, _, retOut X hx hret rfl (Or.inr (Or.inl ⟨rfl, rfl, _, rfl⟩)) hd hr, hrun, hended, _, _, rfl, q, ⟨_, rfl⟩, hW, hsame.mono hc hs⟩
theorem Ok.retA {w : Value} {rest : List Value} {t : FieldType} (X : Stand p l e R s m args below meth c T locs cells slots) (hx : p.tables.exec = Jvm.exec) (hret : meth.sig.returnType = some t) (hlk : meth.locks = false) (ht : t.isReference = true) (hn : narrow t w = w) (hw : w.isRef = true) (hd : decode c.code pc = .ok (.areturn, 1)) {nc ns : Nat} (hc : cells ≤ nc) (hs : slots ≤ ns) (q : Q (some w) T.heap locs) : Ok p e below (NE s nc ns) Q T (mkF m pc Ls (w :: rest)) := by
  obtain ⟨fs, hr, hrun, hended, hW, hsame⟩ := X.leave (v := some w) (fun h => by rw [hret] at h; cases h) hlk
  exact ⟨_, _, retOut X hx hret hn (Or.inr (Or.inr (Or.inr (Or.inr ⟨rfl, ht, hw⟩)))) hd hr, hrun, hended, _, _, rfl, q, ⟨_, rfl⟩, hW, hsame.mono hc hs⟩
theorem Ok.retVW {V : Vm} {n : Nat} (X : Stand p l e R (s.setVm V) m args below meth c T locs cells slots) (hx : p.tables.exec = Jvm.exec) (hS : s.Since V n) (hSn : n ≤ T.heap.size) (hret : meth.sig.returnType = none) (hlk : meth.locks = false) (hd : decode c.code pc = .ok (.return_, 1)) {nc ns : Nat} (hc : cells ≤ nc) (hs : slots ≤ ns) (q : Q none T.heap locs) : Ok p e below (WE s nc ns) Q T (mkF m pc Ls []) := by
  obtain ⟨fs, hr, hrun, hended, h1, h2, h3, h4⟩ := X.leaveW hS hSn (v := none) (fun _ => rfl) hlk
  exact ⟨_, _, X.returnOut hx hret hd hr, hrun, hended, _, _, rfl, q, h1, h2, h3, h4.mono hc hs⟩
theorem Ok.retIW {V : Vm} {n : Nat} {z : Int32} {rest : List Value} {t : FieldType} (X : Stand p l e R (s.setVm V) m args below meth c T locs cells slots) (hx : p.tables.exec = Jvm.exec) (hS : s.Since V n) (hSn : n ≤ T.heap.size) (hret : meth.sig.returnType = some t) (hlk : meth.locks = false) (ht : t = .int ∨ t = .boolean ∨ t = .byte ∨ t = .char ∨ t = .short) (hn : narrow t (.int z) = .int z) (hd : decode c.code pc = .ok (.ireturn, 1)) {nc ns : Nat} (hc : cells ≤ nc) (hs : slots ≤ ns) (q : Q (some (.int z)) T.heap locs) : Ok p e below (WE s nc ns) Q T (mkF m pc Ls (.int z :: rest)) := by
  obtain ⟨fs, hr, hrun, hended, h1, h2, h3, h4⟩ := X.leaveW hS hSn (v := some (.int z)) (fun h => by rw [hret] at h; cases h) hlk
  exact ⟨_, _, retOut X hx hret hn (Or.inl ⟨rfl, ht, _, rfl⟩) hd hr, hrun, hended, _, _, rfl, q, h1, h2, h3, h4.mono hc hs⟩
theorem Ok.retJW {V : Vm} {n : Nat} {z : Int64} {rest : List Value} (X : Stand p l e R (s.setVm V) m args below meth c T locs cells slots) (hx : p.tables.exec = Jvm.exec) (hS : s.Since V n) (hSn : n ≤ T.heap.size) (hret : meth.sig.returnType = some .long) (hlk : meth.locks = false) (hd : decode c.code pc = .ok (.lreturn, 1)) {nc ns : Nat} (hc : cells ≤ nc) (hs : slots ≤ ns) (q : Q (some (.long z)) T.heap locs) : Ok p e below (WE s nc ns) Q T (mkF m pc Ls (.long z :: rest)) := by
  obtain ⟨fs, hr, hrun, hended, h1, h2, h3, h4⟩ := X.leaveW hS hSn (v := some (.long z)) (fun h => by rw [hret] at h; cases h) hlk
  exact ⟨_, _, retOut X hx hret rfl (Or.inr (Or.inl ⟨rfl, rfl, _, rfl⟩)) hd hr, hrun, hended, _, _, rfl, q, h1, h2, h3, h4.mono hc hs⟩
theorem Ok.retAW {V : Vm} {n : Nat} {w : Value} {rest : List Value} {t : FieldType} (X : Stand p l e R (s.setVm V) m args below meth c T locs cells slots) (hx : p.tables.exec = Jvm.exec) (hS : s.Since V n) (hSn : n ≤ T.heap.size) (hret : meth.sig.returnType = some t) (hlk : meth.locks = false) (ht : t.isReference = true) (hn : narrow t w = w) (hw : w.isRef = true) (hd : decode c.code pc = .ok (.areturn, 1)) {nc ns : Nat} (hc : cells ≤ nc) (hs : slots ≤ ns) (q : Q (some w) T.heap locs) : Ok p e below (WE s nc ns) Q T (mkF m pc Ls (w :: rest)) := by
  obtain ⟨fs, hr, hrun, hended, h1, h2, h3, h4⟩ := X.leaveW hS hSn (v := some w) (fun h => by rw [hret] at h; cases h) hlk
  exact ⟨_, _, retOut X hx hret hn (Or.inr (Or.inr (Or.inr (Or.inr ⟨rfl, ht, hw⟩)))) hd hr, hrun, hended, _, _, rfl, q, h1, h2, h3, h4.mono hc hs⟩
/-! a body's contract -/
abbrev MetN (l : Launch) (Z : State) (y : MethodName) (bytes : ByteArray) (maxL : Nat) (ret : Option FieldType) (ws : List Jvm.Cond) (rm : Room) (as' : Array Value) (h0 : Heap) (Q : Option Value → Heap → List Loc → Prop) : Prop :=
  MetFree l y (head1 (Jvm.Cond.code y bytes maxL ret :: ws) rm) (fun a U => a = as' ∧ Z.Warmed39 U.vm ∧ U.heap = h0) (fun _ _ _ _ _ => True) (fun _ U o U' => ∃ v L, o = .returned v ∧ Q v U'.heap L ∧ FrameEnd U o U' L rm.cells rm.slots)
abbrev MetW (l : Launch) (Z : State) (y : MethodName) (bytes : ByteArray) (maxL : Nat) (ret : Option FieldType) (ws : List Jvm.Cond) (rm : Room) (as' : Array Value) (h0 : Heap) (Q : Option Value → Heap → List Loc → Prop) : Prop :=
  MetFree l y (head1 (Jvm.Cond.code y bytes maxL ret :: ws) rm) (fun a U => a = as' ∧ Z.Warmed39 U.vm ∧ U.heap = h0) (fun _ _ _ _ _ => True) (fun _ U o U' => ∃ v L, o = .returned v ∧ Q v U'.heap L ∧ ReturnedEndW U o U' L rm.cells rm.slots)
theorem met_n {y : MethodName} {bytes : ByteArray} {maxL : Nat} {ret : Option FieldType} {rm : Room} {ws : List Jvm.Cond} {as' : Array Value} {h0 : Heap} {F0 : MethodId → JFrame} (hp : plainFor y = true) (hf : ∀ m, entryFrame m as' maxL = F0 m)
    (body : ∀ (p : Program) (e : Env) (s : State) (m : MethodId) (below : List Frame) (meth : Method) (c : Code) (s₁ : State), Stand p l e rm s m as' below meth c s₁ [] 0 0 → p.tables.exec = Jvm.exec → c.code = bytes → c.maxLocals = maxL → Z.Warmed39 s.vm → s.vm.findClass y.cls = some m.cls → meth.name = y.name → meth.sig.returnType = ret → meth.locks = false → s₁.heap = h0 → Ok p e below (NE s rm.cells rm.slots) Q s₁ (F0 m)) :
    MetN l Z y bytes maxL ret ws rm as' h0 Q := by
  refine MetFree.of_bodySF hp hisR ?_
  intro p e s m args below meth c s₁ Bd hml0 hP hK
  obtain ⟨rfl, hZ, hh⟩ := hP
  have e0 : s₁.heap = h0 := by rw [← hh, Bd.state]; rfl
  exact Ok.fr (hf m) (body p e s m below meth c s₁ (Stand.of_body Bd) Bd.exec Bd.bytes hml0 hZ (findClass_of_methodNamed Bd.named) (name_of_methodNamed Bd.named Bd.method).1 Bd.returns (BodyLoose.notSynchronized Bd) e0)
theorem met_w {y : MethodName} {bytes : ByteArray} {maxL : Nat} {ret : Option FieldType} {rm : Room} {ws : List Jvm.Cond} {as' : Array Value} {h0 : Heap} {F0 : MethodId → JFrame} (hp : plainFor y = true) (hf : ∀ m, entryFrame m as' maxL = F0 m)
    (body : ∀ (p : Program) (e : Env) (s : State) (m : MethodId) (below : List Frame) (meth : Method) (c : Code) (s₁ : State) (V : Vm) (n : Nat), Stand p l e rm (s.setVm V) m as' below meth c s₁ [] 0 0 → p.tables.exec = Jvm.exec → c.code = bytes → c.maxLocals = maxL → Z.Warmed39 V → V.findClass y.cls = some m.cls → meth.name = y.name → meth.sig.returnType = ret → meth.locks = false → s₁.heap = h0 → s.Since V n → n ≤ h0.size → Ok p e below (WE s rm.cells rm.slots) Q s₁ (F0 m)) :
    MetW l Z y bytes maxL ret ws rm as' h0 Q := by
  refine MetFree.of_bodySF hp hisR ?_
  intro p e s m args below meth c s₁ Bd hml0 hP hK
  obtain ⟨rfl, hZ, hh⟩ := hP
  have e0 : s₁.heap = h0 := by rw [← hh, Bd.state]; rfl
  exact Ok.fr (hf m) (body p e s m below meth c s₁ s.vm 0 (Stand.of_body Bd) Bd.exec Bd.bytes hml0 hZ (findClass_of_methodNamed Bd.named) (name_of_methodNamed Bd.named Bd.method).1 Bd.returns (BodyLoose.notSynchronized Bd) e0 ((State.WarmedH.refl s).since 0) (Nat.zero_le _))
/-! calls, by a contract -/
theorem Ok.callS {y : MethodName} {bytes : ByteArray} {maxL : Nat} {ret : Option FieldType} {rm : Room} {as' : Array Value} {h : Heap} {Qc : Option Value → Heap → List Loc → Prop} {own : String} {index : Nat} {argsL rest st : List Value} {W : Nat} (X : Stand p l e R s m args below meth c T locs cells slots) (hx : p.tables.exec = Jvm.exec) (hZ : Z.Warmed39 s.vm) (hown : s.vm.findClass own = some m.cls)
    (hM : MetN l Z y bytes maxL ret [] rm as' h Qc) (wl : (Jvm.Cond.methodLink own index y).before a0 Z = true) (ws : (Jvm.Cond.static y).before a0 Z = true) (wz : (Jvm.Cond.initialized y.cls).before a0 Z = true) (wc : (Jvm.Cond.code y bytes maxL ret).before a0 Z = true) (hy : y.cls ≠ "java/lang/invoke/MethodHandle" ∧ y.cls ≠ "java/lang/invoke/VarHandle")
    (eT : T.heap = h) (hf : rm.frames + 1 ≤ R.frames) (hl : W + (maxL + 11) + rm.locals ≤ R.locals) (hc : cells + rm.cells ≤ R.cells) (hs : slots + rm.slots ≤ R.slots) (hlen : ∀ sig, parseMethodDescriptor y.desc = some sig → argsL.length = sig.parameters.length) (has : argsL.toArray = as') (hst : st = argsL.reverse ++ rest) (hW : (rest.map fun v => v.category).sum ≤ W) (hsize : Ls.size = c.maxLocals)
    (hd : decode c.code pc = .ok (.invokestatic index, 3)) (hp : pc + 3 = pc')
    (k : ∀ (v : Option Value) (T' : State) (L : List Loc), Stand p l e R s m args below meth c T' (locs ++ L) (cells + rm.cells) (slots + rm.slots) → Qc v T'.heap L → Ok p e below Fe Q T' (mkF m pc' Ls (v.toList ++ rest))) : Ok p e below Fe Q T (mkF m pc Ls st) := by
  subst hp
  obtain ⟨v, _, ⟨T1, L1, k1, n1⟩, -, X1, ⟨Lc, hQ, l1, y1, z1⟩, st1⟩ := Jvm.LawKit.callS X hx (y := y) hown (mvT hZ wl) (mvT hZ ws) (mvT hZ wz) (mvT hZ wc) hy (backOf (W := W) hM hZ wc wz hf hl) (g := mkF m pc Ls st) rfl hsize (argsL := argsL) (rest := rest) hlen hst (by show 2 * 0 + _ ≤ _; omega) hd (fun _ _ => ⟨has, eT, hc, hs⟩)
  dsimp only [Pt.U, Pt.locs, Pt.cells, Pt.slots] at X1 l1 y1 z1 st1 hQ
  subst l1 y1 z1
  exact Ok.st st1 (k v T1 Lc X1 hQ)
theorem Ok.init {y : MethodName} {bytes : ByteArray} {maxL : Nat} {rm : Room} {as' : Array Value} {h : Heap} {Qc : Option Value → Heap → List Loc → Prop} {own : String} {index : Nat} {a : Addr} {argsL rest st : List Value} {W : Nat} (X : Stand p l e R s m args below meth c T locs cells slots) (hx : p.tables.exec = Jvm.exec) (hZ : Z.Warmed39 s.vm) (hown : s.vm.findClass own = some m.cls)
    (hM : MetN l Z y bytes maxL none [] rm as' h Qc) (hyn : y.name = "<init>") (wl : (Jvm.Cond.methodLink own index y).before a0 Z = true) (wi : (Jvm.Cond.instanceMethod y).before a0 Z = true) (wz : (Jvm.Cond.initialized y.cls).before a0 Z = true) (wc : (Jvm.Cond.code y bytes maxL none).before a0 Z = true) (hy : y.cls ≠ "java/lang/invoke/MethodHandle" ∧ y.cls ≠ "java/lang/invoke/VarHandle")
    (eT : T.heap = h) (hf : rm.frames + 1 ≤ R.frames) (hl : W + (maxL + 11) + rm.locals ≤ R.locals) (hc : cells + rm.cells ≤ R.cells) (hs : slots + rm.slots ≤ R.slots) (hlen : ∀ sig, parseMethodDescriptor y.desc = some sig → argsL.length = sig.parameters.length) (has : (.ref a :: argsL).toArray = as') (hst : st = argsL.reverse ++ .ref a :: rest) (hW : (rest.map fun v => v.category).sum ≤ W) (hsize : Ls.size = c.maxLocals)
    (hd : decode c.code pc = .ok (.invokespecial index, 3)) (hp : pc + 3 = pc')
    (k : ∀ (v : Option Value) (T' : State) (L : List Loc), Stand p l e R s m args below meth c T' (locs ++ L) (cells + rm.cells) (slots + rm.slots) → Qc v T'.heap L → Ok p e below Fe Q T' (mkF m pc' Ls (v.toList ++ rest))) : Ok p e below Fe Q T (mkF m pc Ls st) := by
  subst hp
  obtain ⟨v, _, ⟨T1, L1, k1, n1⟩, -, X1, ⟨Lc, hQ, l1, y1, z1⟩, st1⟩ := X.specialBack hx (y := y) hyn hown (mvT hZ wl) (mvT hZ wi) (mvT hZ wc) hy (backOf (W := W) hM hZ wc wz hf hl) (g := mkF m pc Ls st) rfl hsize (Steps.refl _) (a := a) (argsL := argsL) (rest := rest) hlen hst (by show 2 * 0 + _ ≤ _; omega) hd (fun _ _ => ⟨has, eT, hc, hs⟩)
  dsimp only [Pt.U, Pt.locs, Pt.cells, Pt.slots] at X1 l1 y1 z1 st1 hQ
  subst l1 y1 z1
  exact Ok.tr st1 (k v T1 Lc X1 hQ)
theorem Ok.virt {y z : MethodName} {bytes : ByteArray} {maxL : Nat} {ret : Option FieldType} {rm : Room} {as' : Array Value} {h : Heap} {Qc : Option Value → Heap → List Loc → Prop} {own C : String} {index : Nat} {a : Addr} {argsL rest st : List Value} {W : Nat} (X : Stand p l e R s m args below meth c T locs cells slots) (hx : p.tables.exec = Jvm.exec) (hZ : Z.Warmed39 s.vm) (hown : s.vm.findClass own = some m.cls)
    (hM : MetN l Z z bytes maxL ret [] rm as' h Qc) (wl : (Jvm.Cond.methodLink own index y).before a0 Z = true) (wd : (Jvm.Cond.declares y).before a0 Z = true) (hnf : NotFace s y) (wse : (Jvm.Cond.selects C y z).before a0 Z = true) (wi : (Jvm.Cond.instanceMethod z).before a0 Z = true) (wz : (Jvm.Cond.initialized z.cls).before a0 Z = true) (wc : (Jvm.Cond.code z bytes maxL ret).before a0 Z = true) (hy : y.cls ≠ "java/lang/invoke/MethodHandle" ∧ y.cls ≠ "java/lang/invoke/VarHandle")
    (eT : T.heap = h) (E : Exa Z h a C) (hf : rm.frames + 1 ≤ R.frames) (hl : W + (maxL + 11) + rm.locals ≤ R.locals) (hc : cells + rm.cells ≤ R.cells) (hs : slots + rm.slots ≤ R.slots) (hlen : ∀ sig, parseMethodDescriptor y.desc = some sig → argsL.length = sig.parameters.length) (has : (.ref a :: argsL).toArray = as') (hst : st = argsL.reverse ++ .ref a :: rest) (hW : (rest.map fun v => v.category).sum ≤ W) (hsize : Ls.size = c.maxLocals)
    (hd : decode c.code pc = .ok (.invokevirtual index, 3)) (hp : pc + 3 = pc')
    (k : ∀ (v : Option Value) (T' : State) (L : List Loc), Stand p l e R s m args below meth c T' (locs ++ L) (cells + rm.cells) (slots + rm.slots) → Qc v T'.heap L → Ok p e below Fe Q T' (mkF m pc' Ls (v.toList ++ rest))) : Ok p e below Fe Q T (mkF m pc Ls st) := by
  subst hp
  obtain ⟨cq, kq, qa, qb, qc⟩ := isOf hZ eT E
  obtain ⟨v, _, ⟨T1, L1, k1, n1⟩, -, X1, ⟨Lc, hQ, l1, y1, z1⟩, st1⟩ := X.virtualBack hx (y := y) (z := z) hown (mvT hZ wl) (mvT hZ wd) hnf (mvT hZ wse) (mvT hZ wi) hy (backOf (W := W) hM hZ wc wz hf hl) qa qc (g := mkF m pc Ls st) rfl hsize (Steps.refl _) (argsL := argsL) (rest := rest) hlen hst (by show 2 * 0 + _ ≤ _; omega) hd (fun _ _ => ⟨has, eT, hc, hs⟩)
  dsimp only [Pt.U, Pt.locs, Pt.cells, Pt.slots] at X1 l1 y1 z1 st1 hQ
  subst l1 y1 z1
  exact Ok.tr st1 (k v T1 Lc X1 hQ)
/-! calls of bodies that may intern a string, by their wide contract, from a walk that may have interned -/
theorem Ok.callSW {y : MethodName} {bytes : ByteArray} {maxL : Nat} {ret : Option FieldType} {rm : Room} {as' : Array Value} {h : Heap} {Qc : Option Value → Heap → List Loc → Prop} {own : String} {index : Nat} {argsL rest st : List Value} {W n : Nat} {V : Vm} (X : Stand p l e R (s.setVm V) m args below meth c T locs cells slots) (hx : p.tables.exec = Jvm.exec) (hZ : Z.Warmed39 V) (hown : V.findClass own = some m.cls) (hS : s.Since V n) (hSn : n ≤ h.size)
    (hM : MetW l Z y bytes maxL ret [] rm as' h Qc) (wl : (Jvm.Cond.methodLink own index y).before a0 Z = true) (ws : (Jvm.Cond.static y).before a0 Z = true) (wz : (Jvm.Cond.initialized y.cls).before a0 Z = true) (wc : (Jvm.Cond.code y bytes maxL ret).before a0 Z = true) (hy : y.cls ≠ "java/lang/invoke/MethodHandle" ∧ y.cls ≠ "java/lang/invoke/VarHandle")
    (eT : T.heap = h) (hf : rm.frames + 1 ≤ R.frames) (hl : W + (maxL + 11) + rm.locals ≤ R.locals) (hc : cells + rm.cells ≤ R.cells) (hs : slots + rm.slots ≤ R.slots) (hlen : ∀ sig, parseMethodDescriptor y.desc = some sig → argsL.length = sig.parameters.length) (has : argsL.toArray = as') (hst : st = argsL.reverse ++ rest) (hW : (rest.map fun v => v.category).sum ≤ W) (hsize : Ls.size = c.maxLocals)
    (hd : decode c.code pc = .ok (.invokestatic index, 3)) (hp : pc + 3 = pc')
    (k : ∀ (v : Option Value) (T' : State) (L : List Loc), Stand p l e R (s.setVm T'.vm) m args below meth c T' (locs ++ L) (cells + rm.cells) (slots + rm.slots) → Z.Warmed39 T'.vm → T'.vm.findClass own = some m.cls → s.Since T'.vm T'.heap.size → Qc v T'.heap L → Ok p e below Fe Q T' (mkF m pc' Ls (v.toList ++ rest))) : Ok p e below Fe Q T (mkF m pc Ls st) := by
  subst hp
  have hZ' : Z.Warmed39 (s.setVm V).vm := hZ
  obtain ⟨v, _, ⟨T1, L1, k1, n1⟩, -, X1, hS1, hgr, ⟨Lc, hQ, l1, y1, z1⟩, st1⟩ := callSS X hx (y := y) hown (mvT hZ' wl) (mvT hZ' ws) (mvT hZ' wz) (mvT hZ' wc) hy (backOfS (W := W) hM hZ' wc wz hf hl) (g := mkF m pc Ls st) rfl hsize (argsL := argsL) (rest := rest) hlen hst (by show 2 * 0 + _ ≤ _; omega) hd (fun _ _ => ⟨has, eT, hc, hs⟩)
  dsimp only [Pt.U, Pt.locs, Pt.cells, Pt.slots] at X1 l1 y1 z1 st1 hQ hS1 hgr
  subst l1 y1 z1
  refine Ok.tr st1 (k v T1 Lc X1 (State.Warmed39.trans (t := s.setVm V) hZ hS1.1) (by rw [hS1.1.alike.findClass]; exact hown) (hS.trans hS1 ?_) hQ)
  rw [eT] at hgr
  exact Nat.le_trans hSn hgr
theorem Ok.initW {y : MethodName} {bytes : ByteArray} {maxL : Nat} {rm : Room} {as' : Array Value} {h : Heap} {Qc : Option Value → Heap → List Loc → Prop} {own : String} {index : Nat} {a : Addr} {argsL rest st : List Value} {W n : Nat} {V : Vm} (X : Stand p l e R (s.setVm V) m args below meth c T locs cells slots) (hx : p.tables.exec = Jvm.exec) (hZ : Z.Warmed39 V) (hown : V.findClass own = some m.cls) (hS : s.Since V n) (hSn : n ≤ h.size)
    (hM : MetW l Z y bytes maxL none [] rm as' h Qc) (hyn : y.name = "<init>") (wl : (Jvm.Cond.methodLink own index y).before a0 Z = true) (wi : (Jvm.Cond.instanceMethod y).before a0 Z = true) (wz : (Jvm.Cond.initialized y.cls).before a0 Z = true) (wc : (Jvm.Cond.code y bytes maxL none).before a0 Z = true) (hy : y.cls ≠ "java/lang/invoke/MethodHandle" ∧ y.cls ≠ "java/lang/invoke/VarHandle")
    (eT : T.heap = h) (hf : rm.frames + 1 ≤ R.frames) (hl : W + (maxL + 11) + rm.locals ≤ R.locals) (hc : cells + rm.cells ≤ R.cells) (hs : slots + rm.slots ≤ R.slots) (hlen : ∀ sig, parseMethodDescriptor y.desc = some sig → argsL.length = sig.parameters.length) (has : (.ref a :: argsL).toArray = as') (hst : st = argsL.reverse ++ .ref a :: rest) (hW : (rest.map fun v => v.category).sum ≤ W) (hsize : Ls.size = c.maxLocals)
    (hd : decode c.code pc = .ok (.invokespecial index, 3)) (hp : pc + 3 = pc')
    (k : ∀ (v : Option Value) (T' : State) (L : List Loc), Stand p l e R (s.setVm T'.vm) m args below meth c T' (locs ++ L) (cells + rm.cells) (slots + rm.slots) → Z.Warmed39 T'.vm → T'.vm.findClass own = some m.cls → s.Since T'.vm T'.heap.size → Qc v T'.heap L → Ok p e below Fe Q T' (mkF m pc' Ls (v.toList ++ rest))) : Ok p e below Fe Q T (mkF m pc Ls st) := by
  subst hp
  have hZ' : Z.Warmed39 (s.setVm V).vm := hZ
  obtain ⟨v, _, ⟨T1, L1, k1, n1⟩, -, X1, hS1, hgr, ⟨Lc, hQ, l1, y1, z1⟩, st1⟩ := X.specialBackS hx (y := y) hyn hown (mvT hZ' wl) (mvT hZ' wi) (mvT hZ' wc) hy (backOfS (W := W) hM hZ' wc wz hf hl) (g := mkF m pc Ls st) rfl hsize (Steps.refl _) (a := a) (argsL := argsL) (rest := rest) hlen hst (by show 2 * 0 + _ ≤ _; omega) hd (fun _ _ => ⟨has, eT, hc, hs⟩)
  dsimp only [Pt.U, Pt.locs, Pt.cells, Pt.slots] at X1 l1 y1 z1 st1 hQ hS1 hgr
  subst l1 y1 z1
  refine Ok.tr st1 (k v T1 Lc X1 (State.Warmed39.trans (t := s.setVm V) hZ hS1.1) (by rw [hS1.1.alike.findClass]; exact hown) (hS.trans hS1 ?_) hQ)
  rw [eT] at hgr
  exact Nat.le_trans hSn hgr
theorem Ok.virtW {y z : MethodName} {bytes : ByteArray} {maxL : Nat} {ret : Option FieldType} {rm : Room} {as' : Array Value} {h : Heap} {Qc : Option Value → Heap → List Loc → Prop} {own C : String} {index : Nat} {a : Addr} {argsL rest st : List Value} {W n : Nat} {V : Vm} (X : Stand p l e R (s.setVm V) m args below meth c T locs cells slots) (hx : p.tables.exec = Jvm.exec) (hZ : Z.Warmed39 V) (hown : V.findClass own = some m.cls) (hS : s.Since V n) (hSn : n ≤ h.size)
    (hM : MetW l Z z bytes maxL ret [] rm as' h Qc) (wl : (Jvm.Cond.methodLink own index y).before a0 Z = true) (wd : (Jvm.Cond.declares y).before a0 Z = true) (wse : (Jvm.Cond.selects C y z).before a0 Z = true) (hnf : NotFace (s.setVm V) y) (wi : (Jvm.Cond.instanceMethod z).before a0 Z = true) (wz : (Jvm.Cond.initialized z.cls).before a0 Z = true) (wc : (Jvm.Cond.code z bytes maxL ret).before a0 Z = true) (hy : y.cls ≠ "java/lang/invoke/MethodHandle" ∧ y.cls ≠ "java/lang/invoke/VarHandle")
    (eT : T.heap = h) (E : Exa Z h a C) (hf : rm.frames + 1 ≤ R.frames) (hl : W + (maxL + 11) + rm.locals ≤ R.locals) (hc : cells + rm.cells ≤ R.cells) (hs : slots + rm.slots ≤ R.slots) (hlen : ∀ sig, parseMethodDescriptor y.desc = some sig → argsL.length = sig.parameters.length) (has : (.ref a :: argsL).toArray = as') (hst : st = argsL.reverse ++ .ref a :: rest) (hW : (rest.map fun v => v.category).sum ≤ W) (hsize : Ls.size = c.maxLocals)
    (hd : decode c.code pc = .ok (.invokevirtual index, 3)) (hp : pc + 3 = pc')
    (k : ∀ (v : Option Value) (T' : State) (L : List Loc), Stand p l e R (s.setVm T'.vm) m args below meth c T' (locs ++ L) (cells + rm.cells) (slots + rm.slots) → Z.Warmed39 T'.vm → T'.vm.findClass own = some m.cls → s.Since T'.vm T'.heap.size → Qc v T'.heap L → Ok p e below Fe Q T' (mkF m pc' Ls (v.toList ++ rest))) : Ok p e below Fe Q T (mkF m pc Ls st) := by
  subst hp
  have hZ' : Z.Warmed39 (s.setVm V).vm := hZ
  obtain ⟨cq, kq, qa, qb, qc⟩ := isOf hZ' eT E
  obtain ⟨v, _, ⟨T1, L1, k1, n1⟩, -, X1, hS1, hgr, ⟨Lc, hQ, l1, y1, z1⟩, st1⟩ := X.virtualBackS hx (y := y) (z := z) hown (mvT hZ' wl) (mvT hZ' wd) hnf (mvT hZ' wse) (mvT hZ' wi) hy (backOfS (W := W) hM hZ' wc wz hf hl) qa qc (g := mkF m pc Ls st) rfl hsize (Steps.refl _) (argsL := argsL) (rest := rest) hlen hst (by show 2 * 0 + _ ≤ _; omega) hd (fun _ _ => ⟨has, eT, hc, hs⟩)
  dsimp only [Pt.U, Pt.locs, Pt.cells, Pt.slots] at X1 l1 y1 z1 st1 hQ hS1 hgr
  subst l1 y1 z1
  refine Ok.tr st1 (k v T1 Lc X1 (State.Warmed39.trans (t := s.setVm V) hZ hS1.1) (by rw [hS1.1.alike.findClass]; exact hown) (hS.trans hS1 ?_) hQ)
  rw [eT] at hgr
  exact Nat.le_trans hSn hgr
theorem Ok.faceW {y z : MethodName} {bytes : ByteArray} {maxL : Nat} {ret : Option FieldType} {rm : Room} {as' : Array Value} {h : Heap} {Qc : Option Value → Heap → List Loc → Prop} {own C : String} {index count : Nat} {a : Addr} {argsL rest st : List Value} {W n : Nat} {V : Vm} (X : Stand p l e R (s.setVm V) m args below meth c T locs cells slots) (hx : p.tables.exec = Jvm.exec) (hZ : Z.Warmed39 V) (hown : V.findClass own = some m.cls) (hS : s.Since V n) (hSn : n ≤ h.size)
    (hM : MetW l Z z bytes maxL ret [] rm as' h Qc) (wl : (Jvm.Cond.methodLink own index y).before a0 Z = true) (wd : (Jvm.Cond.declares y).before a0 Z = true) (wf : (Jvm.Cond.interfaceMethod y.cls y.cls y.name y.desc).before a0 Z = true) (hfa : ((Jvm.Cond.interfaceMethod y.cls y.cls y.name y.desc).onTables && (Jvm.Cond.interfaceMethod y.cls y.cls y.name y.desc).keepsFace) = true) (wse : (Jvm.Cond.selects C y z).before a0 Z = true) (wi : (Jvm.Cond.instanceMethod z).before a0 Z = true) (wp : (Jvm.Cond.publicMethod z).before a0 Z = true) (wu : (Jvm.Cond.unhidden C y.name y.desc).before a0 Z = true) (wk : (Jvm.Cond.castable C y.cls).before a0 Z = true) (wz : (Jvm.Cond.initialized z.cls).before a0 Z = true) (wc : (Jvm.Cond.code z bytes maxL ret).before a0 Z = true) (hy : y.cls ≠ "java/lang/invoke/MethodHandle" ∧ y.cls ≠ "java/lang/invoke/VarHandle")
    (eT : T.heap = h) (E : Exa Z h a C) (hf : rm.frames + 1 ≤ R.frames) (hl : W + (maxL + 11) + rm.locals ≤ R.locals) (hc : cells + rm.cells ≤ R.cells) (hs : slots + rm.slots ≤ R.slots) (hlen : ∀ sig, parseMethodDescriptor y.desc = some sig → argsL.length = sig.parameters.length) (has : (.ref a :: argsL).toArray = as') (hst : st = argsL.reverse ++ .ref a :: rest) (hW : (rest.map fun v => v.category).sum ≤ W) (hsize : Ls.size = c.maxLocals)
    (hd : decode c.code pc = .ok (.invokeinterface index count, 5)) (hp : pc + 5 = pc')
    (k : ∀ (v : Option Value) (T' : State) (L : List Loc), Stand p l e R (s.setVm T'.vm) m args below meth c T' (locs ++ L) (cells + rm.cells) (slots + rm.slots) → Z.Warmed39 T'.vm → T'.vm.findClass own = some m.cls → s.Since T'.vm T'.heap.size → Qc v T'.heap L → Ok p e below Fe Q T' (mkF m pc' Ls (v.toList ++ rest))) : Ok p e below Fe Q T (mkF m pc Ls st) := by
  subst hp
  have hZ' : Z.Warmed39 (s.setVm V).vm := hZ
  obtain ⟨cq, kq, qa, qb, qc⟩ := isOf hZ' eT E
  obtain ⟨v, _, ⟨T1, L1, k1, n1⟩, -, X1, hS1, hgr, ⟨Lc, hQ, l1, y1, z1⟩, st1⟩ := X.interfaceBackS hx (xi := y) (y := z) hown (mvT hZ' wl) (mvT hZ' wd) (mvT hZ' wf hfa) (mvT hZ' wse) (mvT hZ' wi) (mvT hZ' wp) (mvT hZ' wu) (mvT hZ' wk) hy (backOfS (W := W) hM hZ' wc wz hf hl) qa qb qc (g := mkF m pc Ls st) rfl hsize (Steps.refl _) (argsL := argsL) (rest := rest) hlen hst (by show 2 * 0 + _ ≤ _; omega) hd (fun _ _ => ⟨has, eT, hc, hs⟩)
  dsimp only [Pt.U, Pt.locs, Pt.cells, Pt.slots] at X1 l1 y1 z1 st1 hQ hS1 hgr
  subst l1 y1 z1
  refine Ok.tr st1 (k v T1 Lc X1 (State.Warmed39.trans (t := s.setVm V) hZ hS1.1) (by rw [hS1.1.alike.findClass]; exact hown) (hS.trans hS1 ?_) hQ)
  rw [eT] at hgr
  exact Nat.le_trans hSn hgr
theorem Ok.ldcS {own text : String} {index n N : Nat} {h : Heap} {st : List Value} {V : Vm} (X : Stand p l e R (s.setVm V) m args below meth c T locs cells slots) (hx : p.tables.exec = Jvm.exec) (hZ : Z.Warmed39 V) (hown : V.findClass own = some m.cls) (hS : s.Since V n) (hSn : n ≤ h.size) (w : (Jvm.Cond.stringLink own index text).before a0 Z = true) (wS : ∀ a ∈ Bundle.stringAtoms, a.before a0 Z = true)
    (eT : T.heap = h) (hN : 4 * text.toList.length ≤ N) (hbig : N ≤ 536870912) (hc : cells + 2 ≤ R.cells) (hl : slots + (N + 4) ≤ R.slots) (hd : decode c.code pc = .ok (.ldc index, 2)) (hp : pc + 2 = pc')
    (k : ∀ (a : Addr) (T' : State) (h' : Heap) (n' : Nat), Stand p l e R (s.setVm T'.vm) m args below meth c T' locs (cells + 2) (slots + (N + 4)) → Z.Warmed39 T'.vm → T'.vm.findClass own = some m.cls → s.Since T'.vm n' → n' ≤ h'.size → T'.heap = h' → Ext h h' → Ok p e below Fe Q T' (mkF m pc' Ls (.ref a :: st))) : Ok p e below Fe Q T (mkF m pc Ls st) := by
  subst hp
  obtain ⟨a, T1, h1, n1, X1, e1, E1, hS1, hSn1, hZ1, hown1, st1⟩ := Jvm.RoadKit.ldcS X hx hZ hown w wS eT hS hSn (g := mkF m pc Ls st) rfl hd hN hbig hc hl
  exact Ok.st st1 (k a T1 h1 n1 X1 hZ1 hown1 hS1 hSn1 e1 E1)
theorem ic_eq (x y : Int32) : (if_icmp.holds .eq x y = true ↔ x.toInt = y.toInt) ∧ (if_icmp.holds .ne x y = true ↔ ¬ x.toInt = y.toInt) ∧ (if_icmp.holds .lt x y = true ↔ x.toInt < y.toInt) ∧ (if_icmp.holds .ge x y = true ↔ y.toInt ≤ x.toInt) ∧ (if_icmp.holds .gt x y = true ↔ y.toInt < x.toInt) ∧ (if_icmp.holds .le x y = true ↔ x.toInt ≤ y.toInt) := by
  simp [if_icmp.holds, Int32.lt_iff_toInt_lt, Int32.le_iff_toInt_le, Int32.toInt_inj]
theorem bt {b : Bool} {P : Prop} (h : b = true ↔ P) (hp : P) : b = true := h.mpr hp
theorem bf {b : Bool} {P : Prop} (h : b = true ↔ P) (hp : ¬ P) : b = false := by
  cases b
  · rfl
  · exact absurd (h.mp rfl) hp
theorem i0 (cd : ClassFile.Cond) (x : Int32) {P : Prop} (h : if_icmp.holds cd x 0 = true ↔ P) : ifCond.holds cd x = true ↔ P := by rw [if0]; exact h
theorem lc_all (x y : Int64) : (ifCond.holds .eq (lcmpW x y) = true ↔ x.toInt = y.toInt) ∧ (ifCond.holds .ne (lcmpW x y) = true ↔ ¬ x.toInt = y.toInt) ∧ (ifCond.holds .lt (lcmpW x y) = true ↔ x.toInt < y.toInt) ∧ (ifCond.holds .ge (lcmpW x y) = true ↔ y.toInt ≤ x.toInt) ∧ (ifCond.holds .gt (lcmpW x y) = true ↔ y.toInt < x.toInt) ∧ (ifCond.holds .le (lcmpW x y) = true ↔ x.toInt ≤ y.toInt) := by
  have h1 := lc_lt x y
  have h2 := lc_gt x y
  have h3 := lc_eq x y
  have h4 := lc_le x y
  have h5 := lc_ge x y
  rw [← lcW] at h1 h2 h3 h4 h5
  simp only [if0, if_icmp.holds, decide_eq_true_eq, beq_iff_eq, bne_iff_ne, ne_eq, h3, GT.gt, GE.ge]
  simp only [h1, h2, h4, h5, Int64.lt_iff_toInt_lt, Int64.le_iff_toInt_le, Int64.toInt_inj]
  simp
end Layer
section Layer2
variable {p : Program} {l : Launch} {e : Env} {R : Room} {s : State} {m : MethodId} {args : Array Value} {below : List Frame} {meth : Method} {c : Code} {T T' : State} {locs : List Loc} {cells slots : Nat} {Fe : Outcome → State → List Loc → Prop} {Q : Option Value → Heap → List Loc → Prop} {pc pc' : Nat} {Ls l' : Array Slot} {g g' : JFrame} {Z : State} {a0 : Array Value} {h : Heap} {own : String} {rest st : List Value}
theorem Ok.new {C : String} {index n : Nat} (X : Stand p l e R s m args below meth c T locs cells slots) (hx : p.tables.exec = Jvm.exec) (hZ : Z.Warmed39 s.vm) (hown : s.vm.findClass own = some m.cls) (w : (Jvm.Cond.classLink own index C).before a0 Z = true) (wi : (Jvm.Cond.instantiable C n).before a0 Z = true) (wz : (Jvm.Cond.initialized C).before a0 Z = true) (eT : T.heap = h) (hd : decode c.code pc = .ok (.new index, 3)) (hp : pc + 3 = pc') (hc : cells + 1 ≤ R.cells) (hl : slots + n ≤ R.slots)
    (k : ∀ (T' : State) (h' : Heap) (a : Addr), a = h.size → Stand p l e R s m args below meth c T' locs (cells + 1) (slots + n) → T'.heap = h' → Ext h h' → Exa Z h' a C → (∀ {O nm d : String} {ty : FieldType}, Laid Z a0 C O nm d → parseFieldDescriptor d = some ty → Fld Z h' a O nm d (defaultValue ty)) → Ok p e below Fe Q T' (mkF m pc' Ls (.ref a :: st))) : Ok p e below Fe Q T (mkF m pc Ls st) := by
  subst hp
  obtain ⟨T1, h1, X1, e1, E1, A1, D1, -, st1⟩ := newO X hx hZ hown w wi wz eT (g := mkF m pc Ls st) rfl hd hc hl
  exact Ok.st st1 (k T1 h1 _ rfl X1 e1 E1 A1 D1)
theorem Ok.initO {index : Nat} {a : Addr} {W : Nat} (X : Stand p l e R s m args below meth c T locs cells slots) (hx : p.tables.exec = Jvm.exec) (hZ : Z.Warmed39 s.vm) (hown : s.vm.findClass own = some m.cls) (w1 : (Jvm.Cond.methodLink own index Lib.objectInit).before a0 Z = true) (w2 : (Jvm.Cond.instanceMethod Lib.objectInit).before a0 Z = true) (w3 : (Jvm.Cond.code Lib.objectInit ⟨#[0xb1]⟩ 1 none).before a0 Z = true) (eT : T.heap = h) (hsize : Ls.size = c.maxLocals) (hd : decode c.code pc = .ok (.invokespecial index, 3)) (hp : pc + 3 = pc') (hf : 1 ≤ R.frames) (hW : (rest.map fun v => v.category).sum ≤ W) (hl : W + 12 ≤ R.locals)
    (k : ∀ (T' : State), Stand p l e R s m args below meth c T' locs cells slots → T'.heap = h → Ok p e below Fe Q T' (mkF m pc' Ls rest)) : Ok p e below Fe Q T (mkF m pc Ls (.ref a :: rest)) := by
  subst hp
  obtain ⟨T1, X1, e1, st1⟩ := Jvm.RoadKit.initO X hx hZ hown w1 w2 w3 eT (g := mkF m pc Ls (.ref a :: rest)) rfl hsize rfl hd hf (W := W) (by show 2 * 0 + _ ≤ _; omega) hl
  exact Ok.st st1 (k T1 X1 e1)
theorem Ok.getF {R0 O n d host : String} {index : Nat} {a : Addr} {v : Value} (X : Stand p l e R s m args below meth c T locs cells slots) (hx : p.tables.exec = Jvm.exec) (hZ : Z.Warmed39 s.vm) (hown : s.vm.findClass own = some m.cls) (w : (Jvm.Cond.fieldLink own index R0 n d).before a0 Z = true ∨ (Jvm.Cond.fieldLinkNest own index R0 n d host).before a0 Z = true) (via : Via Z R0 O n d) (eT : T.heap = h) (F : Fld Z h a O n d v) (hd : decode c.code pc = .ok (.getfield index, 3)) (hp : pc + 3 = pc')
    (k : ∀ (T' : State), Stand p l e R s m args below meth c T' locs cells slots → T'.heap = h → Ok p e below Fe Q T' (mkF m pc' Ls (v :: rest))) : Ok p e below Fe Q T (mkF m pc Ls (.ref a :: rest)) := by
  subst hp
  obtain ⟨T1, X1, e1, st1⟩ := Jvm.RoadKit.getF X hx hZ hown w via eT F (g := mkF m pc Ls (.ref a :: rest)) rfl rfl hd
  exact Ok.st st1 (k T1 X1 e1)
theorem Ok.getS {R0 O n d host : String} {index : Nat} {v : Value} (X : Stand p l e R s m args below meth c T locs cells slots) (hx : p.tables.exec = Jvm.exec) (hZ : Z.Warmed39 s.vm) (hown : s.vm.findClass own = some m.cls) (w : (Jvm.Cond.fieldLink own index R0 n d).before a0 Z = true ∨ (Jvm.Cond.fieldLinkNest own index R0 n d host).before a0 Z = true) (via : Via Z R0 O n d) (eT : T.heap = h) (F : Sta Z h O n d v) (hd : decode c.code pc = .ok (.getstatic index, 3)) (hp : pc + 3 = pc')
    (k : ∀ (T' : State), Stand p l e R s m args below meth c T' locs cells slots → T'.heap = h → Ok p e below Fe Q T' (mkF m pc' Ls (v :: st))) : Ok p e below Fe Q T (mkF m pc Ls st) := by
  subst hp
  obtain ⟨T1, X1, e1, st1⟩ := Jvm.RoadKit.getS2 X hx hZ hown w via eT F (g := mkF m pc Ls st) rfl hd
  exact Ok.st st1 (k T1 X1 e1)
theorem Ok.putF {R0 O n d host C : String} {index kk : Nat} {ty : FieldType} {a : Addr} {v old : Value} (X : Stand p l e R s m args below meth c T locs cells slots) (hx : p.tables.exec = Jvm.exec) (hZ : Z.Warmed39 s.vm) (hown : s.vm.findClass own = some m.cls) (w : (Jvm.Cond.fieldLink own index R0 n d).before a0 Z = true ∨ (Jvm.Cond.fieldLinkNest own index R0 n d host).before a0 Z = true) (via : Via Z R0 O n d) (eT : T.heap = h) (F : Fld Z h a O n d old) (E : Exa Z h a C) (L : (Jvm.Cond.lays C O n d).before a0 Z = true ∨ ((Jvm.Cond.laysFinal C O n d).before a0 Z = true ∧ own = O ∧ meth.name = "<init>")) (wi : (Jvm.Cond.instantiable C kk).before a0 Z = true)
    (hty : parseFieldDescriptor d = some ty) (hn : narrow ty v = v) (hf : fits ty v = true) (hd : decode c.code pc = .ok (.putfield index, 3)) (hp : pc + 3 = pc')
    (k : ∀ (T' : State) (h' : Heap), Stand p l e R s m args below meth c T' (locs ++ [⟨a, Jvm.RoadKit.slotOf Z O n d⟩]) cells slots → T'.heap = h' → Wr h h' a (Jvm.RoadKit.slotOf Z O n d) v → Ok p e below Fe Q T' (mkF m pc' Ls rest)) : Ok p e below Fe Q T (mkF m pc Ls (v :: .ref a :: rest)) := by
  subst hp
  obtain ⟨T1, h1, X1, e1, W1, st1⟩ := Jvm.RoadKit.putF X hx hZ hown w via eT F E L wi hty hn hf (g := mkF m pc Ls (v :: .ref a :: rest)) rfl rfl hd
  exact Ok.st st1 (k T1 h1 X1 e1 W1)
theorem Ok.castY {K : String} {index : Nat} {a : Addr} (X : Stand p l e R s m args below meth c T locs cells slots) (hx : p.tables.exec = Jvm.exec) (hZ : Z.Warmed39 s.vm) (hown : s.vm.findClass own = some m.cls) (w : (Jvm.Cond.classLink own index K).before a0 Z = true) (eT : T.heap = h) (F : Ins Z h a K true) (hd : decode c.code pc = .ok (.checkcast index, 3)) (hp : pc + 3 = pc')
    (k : ∀ (T' : State), Stand p l e R s m args below meth c T' locs cells slots → T'.heap = h → Ok p e below Fe Q T' (mkF m pc' Ls (.ref a :: rest))) : Ok p e below Fe Q T (mkF m pc Ls (.ref a :: rest)) := by
  subst hp
  obtain ⟨T1, X1, e1, st1⟩ := Jvm.RoadKit.castY X hx hZ hown w eT F (g := mkF m pc Ls (.ref a :: rest)) rfl rfl hd
  exact Ok.st st1 (k T1 X1 e1)
theorem Ok.instY {K : String} {index : Nat} {a : Addr} (X : Stand p l e R s m args below meth c T locs cells slots) (hx : p.tables.exec = Jvm.exec) (hZ : Z.Warmed39 s.vm) (hown : s.vm.findClass own = some m.cls) (w : (Jvm.Cond.classLink own index K).before a0 Z = true) (eT : T.heap = h) (F : Ins Z h a K true) (hd : decode c.code pc = .ok (.instanceof index, 3)) (hp : pc + 3 = pc')
    (k : ∀ (T' : State), Stand p l e R s m args below meth c T' locs cells slots → T'.heap = h → Ok p e below Fe Q T' (mkF m pc' Ls (.int (1 : Int32) :: rest))) : Ok p e below Fe Q T (mkF m pc Ls (.ref a :: rest)) := by
  subst hp
  obtain ⟨T1, X1, e1, st1⟩ := Jvm.RoadKit.instY X hx hZ hown w eT F (g := mkF m pc Ls (.ref a :: rest)) rfl rfl hd
  exact Ok.st st1 (k T1 X1 e1)
theorem Ok.instNo {K C : String} {index : Nat} {a : Addr} (X : Stand p l e R s m args below meth c T locs cells slots) (hx : p.tables.exec = Jvm.exec) (hZ : Z.Warmed39 s.vm) (hown : s.vm.findClass own = some m.cls) (w : (Jvm.Cond.classLink own index K).before a0 Z = true) (eT : T.heap = h) (E : Exa Z h a C) (F : ∃ c t, Z.vm.findClass C = some c ∧ Z.vm.findClass K = some t ∧ Z.vm.assignable c t = false) (hd : decode c.code pc = .ok (.instanceof index, 3)) (hp : pc + 3 = pc')
    (k : ∀ (T' : State), Stand p l e R s m args below meth c T' locs cells slots → T'.heap = h → Ok p e below Fe Q T' (mkF m pc' Ls (.int (0 : Int32) :: rest))) : Ok p e below Fe Q T (mkF m pc Ls (.ref a :: rest)) := by
  subst hp
  obtain ⟨T1, X1, e1, st1⟩ := Jvm.RoadKit.instNo X hx hZ hown w eT E F (g := mkF m pc Ls (.ref a :: rest)) rfl rfl hd
  exact Ok.st st1 (k T1 X1 e1)
theorem Ok.instNull {index : Nat} (X : Stand p l e R s m args below meth c T locs cells slots) (hx : p.tables.exec = Jvm.exec) (hd : decode c.code pc = .ok (.instanceof index, 3)) (hp : pc + 3 = pc') (k : Ok p e below Fe Q T (mkF m pc' Ls (.int (0 : Int32) :: rest))) : Ok p e below Fe Q T (mkF m pc Ls (.null :: rest)) := by
  subst hp
  exact Ok.st (X.instanceofNull hx (g := mkF m pc Ls (.null :: rest)) rfl rfl hd) k
theorem Ok.newP {aty : ArrayType} {ty : FieldType} {n : Int32} {cap : Nat} (X : Stand p l e R s m args below meth c T locs cells slots) (hx : p.tables.exec = Jvm.exec) (hZ : Z.Warmed39 s.vm) (w : (Jvm.Cond.arrayClass ty).before a0 Z = true) (hty : newarray.typeOf aty = ty) (eT : T.heap = h) (hd : decode c.code pc = .ok (.newarray aty, 2)) (hp : pc + 2 = pc') (hn : ¬ n < 0) (hcap : n.toNatClampNeg ≤ cap) (hb : cap * 8 ≤ 536870912) (hc : cells + 1 ≤ R.cells) (hl : slots + cap ≤ R.slots)
    (k : ∀ (T' : State) (h' : Heap) (a : Addr) (cA : ClassId), a = h.size → Stand p l e R s m args below meth c T' locs (cells + 1) (slots + cap) → T'.heap = h' → Ext h h' → Arv Z h' a cA ty n [] (defaultValue ty) → Ok p e below Fe Q T' (mkF m pc' Ls (.ref a :: rest))) : Ok p e below Fe Q T (mkF m pc Ls (.int n :: rest)) := by
  subst hp hty
  obtain ⟨T1, h1, cA, X1, e1, E1, A1, st1⟩ := Jvm.RoadKit.newP X hx hZ w eT (g := mkF m pc Ls (.int n :: rest)) rfl hd rfl hn hcap hb hc hl
  exact Ok.st st1 (k T1 h1 _ cA rfl X1 e1 E1 (Arv.new A1 hn))
theorem Ok.stI {a : Addr} {kc : ClassId} {z j x : Int32} {vs : List Value} {dv : Value} (X : Stand p l e R s m args below meth c T locs cells slots) (hx : p.tables.exec = Jvm.exec) (hZ : Z.Warmed39 s.vm) (eT : T.heap = h) (V : Arv Z h a kc .int z vs dv) (hj : ¬ j < 0 ∧ j < z) {i : Nat} (hji : j.toNatClampNeg = i) (hi : i < vs.length) (hd : decode c.code pc = .ok (.iastore, 1)) (hp : pc + 1 = pc')
    (k : ∀ (T' : State) (h' : Heap), Stand p l e R s m args below meth c T' (locs ++ [⟨a, j.toNatClampNeg⟩]) cells slots → T'.heap = h' → Wr h h' a j.toNatClampNeg (.int x) → Arv Z h' a kc .int z (vs.set i (.int x)) dv → Ok p e below Fe Q T' (mkF m pc' Ls rest)) : Ok p e below Fe Q T (mkF m pc Ls (.int x :: .int j :: .ref a :: rest)) := by
  subst hp
  obtain ⟨cl, Ar, q, S1, N1, H1, G1⟩ := V
  obtain ⟨T1, h1, X1, e1, W1, st1⟩ := Jvm.RoadKit.stI X hx hZ eT Ar (j := j) (inb_of S1 hj) (g := mkF m pc Ls (.int x :: .int j :: .ref a :: rest)) rfl rfl hd
  exact Ok.st st1 (k T1 h1 X1 e1 W1 (Arv.set Ar q S1 N1 H1 G1 rfl W1 i hji hi))
theorem Ok.stC {a : Addr} {kc : ClassId} {z j x : Int32} {vs : List Value} {dv : Value} (X : Stand p l e R s m args below meth c T locs cells slots) (hx : p.tables.exec = Jvm.exec) (hZ : Z.Warmed39 s.vm) (eT : T.heap = h) (V : Arv Z h a kc .char z vs dv) (hj : ¬ j < 0 ∧ j < z) {i : Nat} (hji : j.toNatClampNeg = i) (hi : i < vs.length) (hd : decode c.code pc = .ok (.castore, 1)) (hp : pc + 1 = pc')
    (k : ∀ (T' : State) (h' : Heap), Stand p l e R s m args below meth c T' (locs ++ [⟨a, j.toNatClampNeg⟩]) cells slots → T'.heap = h' → Wr h h' a j.toNatClampNeg (.int (nar .char x)) → Arv Z h' a kc .char z (vs.set i (.int (nar .char x))) dv → Ok p e below Fe Q T' (mkF m pc' Ls rest)) : Ok p e below Fe Q T (mkF m pc Ls (.int x :: .int j :: .ref a :: rest)) := by
  subst hp
  obtain ⟨cl, Ar, q, S1, N1, H1, G1⟩ := V
  obtain ⟨T1, h1, X1, e1, W1, st1⟩ := Jvm.RoadKit.stC X hx hZ eT Ar (j := j) (inb_of S1 hj) (g := mkF m pc Ls (.int x :: .int j :: .ref a :: rest)) rfl rfl hd
  exact Ok.st st1 (k T1 h1 X1 e1 W1 (Arv.set Ar q S1 N1 H1 G1 (fits_nar_char _) W1 i hji hi))
theorem Ok.stB {a : Addr} {kc : ClassId} {z j x : Int32} {vs : List Value} {dv : Value} (X : Stand p l e R s m args below meth c T locs cells slots) (hx : p.tables.exec = Jvm.exec) (hZ : Z.Warmed39 s.vm) (eT : T.heap = h) (V : Arv Z h a kc .byte z vs dv) (hj : ¬ j < 0 ∧ j < z) {i : Nat} (hji : j.toNatClampNeg = i) (hi : i < vs.length) (hd : decode c.code pc = .ok (.bastore, 1)) (hp : pc + 1 = pc')
    (k : ∀ (T' : State) (h' : Heap), Stand p l e R s m args below meth c T' (locs ++ [⟨a, j.toNatClampNeg⟩]) cells slots → T'.heap = h' → Wr h h' a j.toNatClampNeg (.int x.toInt8.toInt32) → Arv Z h' a kc .byte z (vs.set i (.int x.toInt8.toInt32)) dv → Ok p e below Fe Q T' (mkF m pc' Ls rest)) : Ok p e below Fe Q T (mkF m pc Ls (.int x :: .int j :: .ref a :: rest)) := by
  subst hp
  obtain ⟨cl, Ar, q, S1, N1, H1, G1⟩ := V
  obtain ⟨T1, h1, X1, e1, W1, st1⟩ := Jvm.RoadKit.stB X hx hZ eT Ar (j := j) (inb_of S1 hj) (g := mkF m pc Ls (.int x :: .int j :: .ref a :: rest)) rfl rfl hd
  exact Ok.st st1 (k T1 h1 X1 e1 W1 (Arv.set Ar q S1 N1 H1 G1 (fits_nar_byte _) W1 i hji hi))
theorem Ok.len {a : Addr} {kc : ClassId} {ty : FieldType} {z : Int32} {vs : List Value} {dv : Value} (X : Stand p l e R s m args below meth c T locs cells slots) (hx : p.tables.exec = Jvm.exec) (hZ : Z.Warmed39 s.vm) (eT : T.heap = h) (V : Arv Z h a kc ty z vs dv) (hd : decode c.code pc = .ok (.arraylength, 1)) (hp : pc + 1 = pc') (k : Ok p e below Fe Q T (mkF m pc' Ls (.int z :: rest))) : Ok p e below Fe Q T (mkF m pc Ls (.ref a :: rest)) := by
  subst hp
  obtain ⟨cl, Ar, q, S1, N1, H1, G1⟩ := V
  refine Ok.st (X.arraylength hx (by rw [eT]; exact Ar.1) (State.isArrayOf_alike hZ.alike Ar.2.1) (g := mkF m pc Ls (.ref a :: rest)) rfl rfl hd) ?_
  rw [len_of S1 N1]
  exact k
theorem Ok.ldI {a : Addr} {kc : ClassId} {z j : Int32} {v : Value} {vs : List Value} {dv : Value} (X : Stand p l e R s m args below meth c T locs cells slots) (hx : p.tables.exec = Jvm.exec) (hZ : Z.Warmed39 s.vm) (eT : T.heap = h) (V : Arv Z h a kc .int z vs dv) (hj : ¬ j < 0 ∧ j < z) (hv : vs.getD j.toNatClampNeg dv = v) (hd : decode c.code pc = .ok (.iaload, 1)) (hp : pc + 1 = pc') (k : Ok p e below Fe Q T (mkF m pc' Ls (v :: rest))) : Ok p e below Fe Q T (mkF m pc Ls (.int j :: .ref a :: rest)) := by
  subst hp
  obtain ⟨cl, Ar, q, S1, N1, H1, G1⟩ := V
  exact Ok.st (X.iaload hx (j := j) (v := v) (by rw [eT]; exact Ar.1) (State.isArrayOf_alike hZ.alike Ar.2.1) Ar.2.2 (inb_of S1 hj) (H1.at (inb_of S1 hj) hv) (g := mkF m pc Ls (.int j :: .ref a :: rest)) rfl rfl hd) k
theorem Ok.ldB {a : Addr} {kc : ClassId} {z j : Int32} {v : Value} {vs : List Value} {dv : Value} (X : Stand p l e R s m args below meth c T locs cells slots) (hx : p.tables.exec = Jvm.exec) (hZ : Z.Warmed39 s.vm) (eT : T.heap = h) (V : Arv Z h a kc .byte z vs dv) (hj : ¬ j < 0 ∧ j < z) (hv : vs.getD j.toNatClampNeg dv = v) (hd : decode c.code pc = .ok (.baload, 1)) (hp : pc + 1 = pc') (k : Ok p e below Fe Q T (mkF m pc' Ls (v :: rest))) : Ok p e below Fe Q T (mkF m pc Ls (.int j :: .ref a :: rest)) := by
  subst hp
  obtain ⟨cl, Ar, q, S1, N1, H1, G1⟩ := V
  exact Ok.st (X.baloadBytes hx (j := j) (v := v) (by rw [eT]; exact Ar.1) (State.isArrayOf_alike hZ.alike Ar.2.1) Ar.2.2 (inb_of S1 hj) (H1.at (inb_of S1 hj) hv) (g := mkF m pc Ls (.int j :: .ref a :: rest)) rfl rfl hd) k
theorem Ok.ldC {a : Addr} {kc : ClassId} {z j : Int32} {v : Value} {vs : List Value} {dv : Value} (X : Stand p l e R s m args below meth c T locs cells slots) (hx : p.tables.exec = Jvm.exec) (hZ : Z.Warmed39 s.vm) (eT : T.heap = h) (V : Arv Z h a kc .char z vs dv) (hj : ¬ j < 0 ∧ j < z) (hv : vs.getD j.toNatClampNeg dv = v) (hd : decode c.code pc = .ok (.caload, 1)) (hp : pc + 1 = pc') (k : Ok p e below Fe Q T (mkF m pc' Ls (v :: rest))) : Ok p e below Fe Q T (mkF m pc Ls (.int j :: .ref a :: rest)) := by
  subst hp
  obtain ⟨cl, Ar, q, S1, N1, H1, G1⟩ := V
  exact Ok.st (X.caload hx (j := j) (v := v) (by rw [eT]; exact Ar.1) (State.isArrayOf_alike hZ.alike Ar.2.1) Ar.2.2 (inb_of S1 hj) (H1.at (inb_of S1 hj) hv) (g := mkF m pc Ls (.int j :: .ref a :: rest)) rfl rfl hd) k
theorem Ok.aald {a : Addr} {cl : Cell} {ty : FieldType} {j : Int32} {v : Value} (X : Stand p l e R s m args below meth c T locs cells slots) (hx : p.tables.exec = Jvm.exec) (hZ : Z.Warmed39 s.vm) (eT : T.heap = h) (A : Arr Z h a cl ty) (hty : ty.isReference = true) (hin : ¬ (j < 0 ∨ cl.slots.size ≤ j.toNatClampNeg)) (hv : cl.slots[j.toNatClampNeg]? = some v) (hd : decode c.code pc = .ok (.aaload, 1)) (hp : pc + 1 = pc') (k : Ok p e below Fe Q T (mkF m pc' Ls (v :: rest))) : Ok p e below Fe Q T (mkF m pc Ls (.int j :: .ref a :: rest)) := by
  subst hp
  exact Ok.st (X.aaload hx (j := j) (v := v) (by rw [eT]; exact A.1) (State.isArrayOf_alike hZ.alike A.2.1) hty A.2.2 hin hv (g := mkF m pc Ls (.int j :: .ref a :: rest)) rfl rfl hd) k
theorem Ok.ldcF {index : Nat} {v : UInt32} (X : Stand p l e R s m args below meth c T locs cells slots) (hx : p.tables.exec = Jvm.exec) (hZ : Z.Warmed39 s.vm) (hown : s.vm.findClass own = some m.cls) (w : (Jvm.Cond.constantFloat own index v).before a0 Z = true) (hd : decode c.code pc = .ok (.ldc index, 2)) (hp : pc + 2 = pc') (k : Ok p e below Fe Q T (mkF m pc' Ls (.float v :: st))) : Ok p e below Fe Q T (mkF m pc Ls st) := by
  subst hp
  exact Ok.st (X.ldcFloatC hx hown (mvT hZ w) (g := mkF m pc Ls st) rfl hd) k
theorem own_root {O K : String} {n : Nat} (w : (Jvm.Cond.noSuperclass O).before a0 Z = true) (wk : (Jvm.Cond.instantiable K n).before a0 Z = true) (hn : O ≠ K) : NS Z O K := by
  obtain ⟨c, k, h1, h2, h3, -, -⟩ := Cond.noSuperclass_spec w
  obtain ⟨t, k', g1, -⟩ := Cond.instantiable_spec wk
  have ne := ids_ne h1 g1 hn
  refine ⟨c, t, h1, g1, fun fuel => ?_⟩
  cases fuel with
  | zero => rfl
  | succ f => simp [Vm.isSubclassAux, ne, h2, h3]
theorem own_no {C S K : String} {n : Nat} (w : (Jvm.Cond.superclass C S).before a0 Z = true) (wk : (Jvm.Cond.instantiable K n).before a0 Z = true) (ns : NS Z C K) (hn : C ≠ K) : ∃ c t, Z.vm.findClass C = some c ∧ Z.vm.findClass K = some t ∧ Z.vm.assignable c t = false := by
  obtain ⟨c, t, h0, g0, n3⟩ := ns
  obtain ⟨p, k, kp, h1, h2, h3, h4, h5, -, h7⟩ := Cond.superclass_spec h0 w
  obtain ⟨t', k', g1, g2, g5, g7, -⟩ := Cond.instantiable_spec wk
  cases g0.symm.trans g1
  have g8 : k'.isInterface = false := by
    cases hq : k'.isInterface
    · rfl
    · rw [hq] at g7
      cases g7
  have ne := ids_ne h0 g0 hn
  refine ⟨c, t, h0, g0, ?_⟩
  show Z.vm.assignableAux (255 + 1) c t = false
  simp [Vm.assignableAux, ne, h2, g2, h5, g5, g8, Vm.isSubclass, n3]
end Layer2
section Layer3
open Jvm.Free.SB Jvm.Free.SBG
variable {p : Program} {l : Launch} {e : Env} {R : Room} {s : State} {m : MethodId} {args : Array Value} {below : List Frame} {meth : Method} {c : Code} {T T' : State} {locs : List Loc} {cells slots : Nat} {Fe : Outcome → State → List Loc → Prop} {Q : Option Value → Heap → List Loc → Prop} {pc pc' : Nat} {Ls l' : Array Slot} {g g' : JFrame} {Z : State} {a0 : Array Value} {h : Heap} {own : String} {rest st : List Value} {V : Vm} {n : Nat} {EL : List (String × Nat)}
def HE (Z : State) (EL : List (String × Nat)) (s : State) (nc ns : Nat) (o : Outcome) (t : State) (L : List Loc) : Prop := CHr Z EL s.vm s.heap t.vm t.heap ∧ ReturnedEndW s o t L nc ns
theorem Safe_null {h : Heap} {x : Addr} {vm : Vm} (hal : Z.vm.Alike vm) (E : Exa Z h x "java/lang/String") (F : Fld Z h x "java/lang/String" "value" "[B" .null) : Safe Z EL vm h x := fun B => by
  obtain ⟨cell, k, e1, e2, e3, e4, e5⟩ := E
  obtain ⟨p, -, u, a, -, q, -, G, rfl | rfl⟩ := B
  · cases (show h[q.sa]? = some q.sC from G.ha).symm.trans e1
    obtain ⟨cS, ⟨⟨s1, s2, s3, ⟨cv, kv, iv, s4, s4'⟩, ⟨cc, kc, ic, s5, s5'⟩, s6, s7, s8, s9, s10, s11, s12, s13, s14, s15, s16⟩, hfS, hcS⟩, -⟩ := G
    obtain ⟨kv', z4⟩ := ff_back (U := Wst Z vm h) hal s4
    obtain ⟨c1, cf1, k1, i1, f1, g1, g2, -, -, -, -, g7⟩ := F
    cases e1.symm.trans g1
    cases z4.symm.trans g2
    first | (cases s6.symm.trans g7; done) | (cases s7.symm.trans g7; done) | (cases s8.symm.trans g7; done) | (cases s9.symm.trans g7; done)
  · cases (show h[q.sd]? = some q.SA from G.hd).symm.trans e1
    obtain ⟨cS, ⟨-, -, -⟩, -, f, -⟩ := G
    have f : vm.findClass "[B" = some q.SA.cls := f
    rw [hal.findClass] at f
    have q1 := ids_ne (Z := Z) e2 f (by decide)
    exact q1 rfl
theorem Ok.retVH (X : Stand p l e R (s.setVm V) m args below meth c T locs cells slots) (hx : p.tables.exec = Jvm.exec) (hZ : Z.Warmed39 V) (hS : s.Since V n) (hSn : n ≤ T.heap.size) (hEL : EW Z a0 EL) (eT : T.heap = h) (H : CHr Z EL s.vm s.heap V h) (hret : meth.sig.returnType = none) (hlk : meth.locks = false) (hd : decode c.code pc = .ok (.return_, 1)) {nc ns : Nat} (hc : cells ≤ nc) (hs : slots ≤ ns) (q : Q none T.heap locs) : Ok p e below (HE Z EL s nc ns) Q T (mkF m pc Ls []) := by
  obtain ⟨fs, hr, hrun, hended, h1, h2, h3, h4⟩ := X.leaveW hS hSn (v := none) (fun _ => rfl) hlk
  subst eT
  exact ⟨_, _, X.returnOut hx hret hd hr, hrun, hended, _, _, rfl, q, (show CHr Z EL s.vm s.heap T.vm T.heap from H.trans (CHv.at X hZ hEL H.1)), h1, h2, h3, h4.mono hc hs⟩
theorem Ok.retAH {w : Value} {rest : List Value} {t : FieldType} (X : Stand p l e R (s.setVm V) m args below meth c T locs cells slots) (hx : p.tables.exec = Jvm.exec) (hZ : Z.Warmed39 V) (hS : s.Since V n) (hSn : n ≤ T.heap.size) (hEL : EW Z a0 EL) (eT : T.heap = h) (H : CHr Z EL s.vm s.heap V h) (hret : meth.sig.returnType = some t) (hlk : meth.locks = false) (ht : t.isReference = true) (hn : narrow t w = w) (hw : w.isRef = true) (hd : decode c.code pc = .ok (.areturn, 1)) {nc ns : Nat} (hc : cells ≤ nc) (hs : slots ≤ ns) (q : Q (some w) T.heap locs) : Ok p e below (HE Z EL s nc ns) Q T (mkF m pc Ls (w :: rest)) := by
  obtain ⟨fs, hr, hrun, hended, h1, h2, h3, h4⟩ := X.leaveW hS hSn (v := some w) (fun h => by rw [hret] at h; cases h) hlk
  subst eT
  exact ⟨_, _, retOut X hx hret hn (Or.inr (Or.inr (Or.inr (Or.inr ⟨rfl, ht, hw⟩)))) hd hr, hrun, hended, _, _, rfl, q, (show CHr Z EL s.vm s.heap T.vm T.heap from H.trans (CHv.at X hZ hEL H.1)), h1, h2, h3, h4.mono hc hs⟩
abbrev MetH (l : Launch) (Z : State) (EL : List (String × Nat)) (y : MethodName) (bytes : ByteArray) (maxL : Nat) (ret : Option FieldType) (ws : List Jvm.Cond) (rm : Room) (as' : Array Value) (h0 : Heap) (Q : Option Value → Heap → List Loc → Prop) : Prop :=
  MetFree l y (head1 (Jvm.Cond.code y bytes maxL ret :: ws) rm) (fun a U => a = as' ∧ Z.Warmed39 U.vm ∧ U.heap = h0 ∧ CHv Z EL U.vm h0) (fun _ _ _ _ _ => True) (fun _ U o U' => ∃ v L, o = .returned v ∧ Q v U'.heap L ∧ CHr Z EL U.vm U.heap U'.vm U'.heap ∧ ReturnedEndW U o U' L rm.cells rm.slots)
theorem met_h {y : MethodName} {bytes : ByteArray} {maxL : Nat} {ret : Option FieldType} {rm : Room} {ws : List Jvm.Cond} {as' : Array Value} {h0 : Heap} {F0 : MethodId → JFrame} (hp : plainFor y = true) (hf : ∀ m, entryFrame m as' maxL = F0 m)
    (body : ∀ (p : Program) (e : Env) (s : State) (m : MethodId) (below : List Frame) (meth : Method) (c : Code) (s₁ : State) (V : Vm) (n : Nat), Stand p l e rm (s.setVm V) m as' below meth c s₁ [] 0 0 → p.tables.exec = Jvm.exec → c.code = bytes → c.maxLocals = maxL → Z.Warmed39 V → V.findClass y.cls = some m.cls → meth.name = y.name → meth.sig.returnType = ret → meth.locks = false → s₁.heap = h0 → s.Since V n → n ≤ h0.size → CHr Z EL s.vm s.heap V h0 → Ok p e below (HE Z EL s rm.cells rm.slots) Q s₁ (F0 m)) :
    MetH l Z EL y bytes maxL ret ws rm as' h0 Q := by
  refine MetFree.of_bodySF hp hisR ?_
  intro p e s m args below meth c s₁ Bd hml0 hP hK
  obtain ⟨rfl, hZ, hh, hC⟩ := hP
  have e0 : s₁.heap = h0 := by rw [← hh, Bd.state]; rfl
  exact Ok.fr (hf m) (body p e s m below meth c s₁ s.vm 0 (Stand.of_body Bd) Bd.exec Bd.bytes hml0 hZ (findClass_of_methodNamed Bd.named) (name_of_methodNamed Bd.named Bd.method).1 Bd.returns (BodyLoose.notSynchronized Bd) e0 ((State.WarmedH.refl s).since 0) (Nat.zero_le _) (hh ▸ CHr.refl (hh.symm ▸ hC)))
abbrev MetHW (l : Launch) (Z : State) (EL : List (String × Nat)) (y : MethodName) (bytes : ByteArray) (maxL : Nat) (ret : Option FieldType) (ws : List Jvm.Cond) (rm : Room) (as' : Array Value) (h0 : Heap) (Q : Option Value → Heap → List Loc → Prop) : Prop :=
  MetFree l y (head1 (Jvm.Cond.code y bytes maxL ret :: ws) rm) (fun a U => a = as' ∧ Z.Warmed39 U.vm ∧ U.heap = h0 ∧ CHv Z EL U.vm h0) (fun _ _ _ _ _ => True) (fun _ U o U' => ∃ v L, o = .returned v ∧ Q v U'.heap L ∧ ReturnedEndW U o U' L rm.cells rm.slots)
theorem met_hw {y : MethodName} {bytes : ByteArray} {maxL : Nat} {ret : Option FieldType} {rm : Room} {ws : List Jvm.Cond} {as' : Array Value} {h0 : Heap} {F0 : MethodId → JFrame} (hp : plainFor y = true) (hf : ∀ m, entryFrame m as' maxL = F0 m)
    (body : ∀ (p : Program) (e : Env) (s : State) (m : MethodId) (below : List Frame) (meth : Method) (c : Code) (s₁ : State) (V : Vm) (n : Nat), Stand p l e rm (s.setVm V) m as' below meth c s₁ [] 0 0 → p.tables.exec = Jvm.exec → c.code = bytes → c.maxLocals = maxL → Z.Warmed39 V → V.findClass y.cls = some m.cls → meth.name = y.name → meth.sig.returnType = ret → meth.locks = false → s₁.heap = h0 → s.Since V n → n ≤ h0.size → CHr Z EL s.vm s.heap V h0 → Ok p e below (WE s rm.cells rm.slots) Q s₁ (F0 m)) :
    MetHW l Z EL y bytes maxL ret ws rm as' h0 Q := by
  refine MetFree.of_bodySF hp hisR ?_
  intro p e s m args below meth c s₁ Bd hml0 hP hK
  obtain ⟨rfl, hZ, hh, hC⟩ := hP
  have e0 : s₁.heap = h0 := by rw [← hh, Bd.state]; rfl
  exact Ok.fr (hf m) (body p e s m below meth c s₁ s.vm 0 (Stand.of_body Bd) Bd.exec Bd.bytes hml0 hZ (findClass_of_methodNamed Bd.named) (name_of_methodNamed Bd.named Bd.method).1 Bd.returns (BodyLoose.notSynchronized Bd) e0 ((State.WarmedH.refl s).since 0) (Nat.zero_le _) (hh ▸ CHr.refl (hh.symm ▸ hC)))
theorem Ok.ldcH {text : String} {index N : Nat} {vs : List Value} {z : Int32} (X : Stand p l e R (s.setVm V) m args below meth c T locs cells slots) (hx : p.tables.exec = Jvm.exec) (hZ : Z.Warmed39 V) (hown : V.findClass own = some m.cls) (hS : s.Since V n) (hSn : n ≤ h.size) (w : (Jvm.Cond.stringLink own index text).before a0 Z = true) (wS : ∀ a ∈ Bundle.stringAtoms, a.before a0 Z = true) (hEL : EW Z a0 EL) (hmem : (own, index) ∈ EL) (H : CHv Z EL V h)
    (ht : (∀ c ∈ text.toList, c.toNat < 256) ∧ text.toList.map (fun c => Value.int (Jvm.Lit.byteI c.toNat.toUInt16)) = vs) (hz : ¬ z < 0) (hzl : z.toNatClampNeg = vs.length) (eT : T.heap = h) (hN : 4 * text.toList.length ≤ N) (hbig : N ≤ 536870912) (hc : cells + 2 ≤ R.cells) (hl : slots + (N + 4) ≤ R.slots) (hd : decode c.code pc = .ok (.ldc index, 2)) (hp : pc + 2 = pc')
    (k : ∀ (a : Addr) (T' : State) (h' : Heap) (n' : Nat) (b : Addr) (kb : ClassId), Stand p l e R (s.setVm T'.vm) m args below meth c T' locs (cells + 2) (slots + (N + 4)) → Z.Warmed39 T'.vm → T'.vm.findClass own = some m.cls → s.Since T'.vm n' → n' ≤ h'.size → T'.heap = h' → Ext h h' → Exa Z h' a "java/lang/String" → Fld Z h' a "java/lang/String" "coder" "B" (.int 0) → Fld Z h' a "java/lang/String" "value" "[B" (.ref b) → CHr Z EL V h T'.vm h' → Ok p e below Fe Q T' (mkF m pc' Ls (.ref a :: st))) : Ok p e below Fe Q T (mkF m pc Ls st) := by
  subst hp
  obtain ⟨a, T1, h1, n1, b, kb, X1, e1, E1, hS1, hSn1, hZ1, hown1, A1, Fc, Fv, -, -, -, C1, -, -, st1⟩ := Jvm.RoadKit.ldcCH X hx hZ hown w wS eT hS hSn hEL hmem H ht hz hzl (g := mkF m pc Ls st) rfl hd hN hbig hc hl
  exact Ok.st st1 (k a T1 h1 n1 b kb X1 hZ1 hown1 hS1 hSn1 e1 E1 A1 Fc Fv C1)
theorem Ok.callSH {y : MethodName} {bytes : ByteArray} {maxL : Nat} {ret : Option FieldType} {rm : Room} {as' : Array Value} {Qc : Option Value → Heap → List Loc → Prop} {index : Nat} {argsL : List Value} {W : Nat} (X : Stand p l e R (s.setVm V) m args below meth c T locs cells slots) (hx : p.tables.exec = Jvm.exec) (hZ : Z.Warmed39 V) (hown : V.findClass own = some m.cls) (hS : s.Since V n) (hSn : n ≤ h.size) (hEL : EW Z a0 EL) (H : CHv Z EL V h)
    (hM : MetH l Z EL y bytes maxL ret [] rm as' h Qc) (wl : (Jvm.Cond.methodLink own index y).before a0 Z = true) (ws : (Jvm.Cond.static y).before a0 Z = true) (wz : (Jvm.Cond.initialized y.cls).before a0 Z = true) (wc : (Jvm.Cond.code y bytes maxL ret).before a0 Z = true) (hy : y.cls ≠ "java/lang/invoke/MethodHandle" ∧ y.cls ≠ "java/lang/invoke/VarHandle")
    (eT : T.heap = h) (hf : rm.frames + 1 ≤ R.frames) (hl : W + (maxL + 11) + rm.locals ≤ R.locals) (hc : cells + rm.cells ≤ R.cells) (hs : slots + rm.slots ≤ R.slots) (hlen : ∀ sig, parseMethodDescriptor y.desc = some sig → argsL.length = sig.parameters.length) (has : argsL.toArray = as') (hst : st = argsL.reverse ++ rest) (hW : (rest.map fun v => v.category).sum ≤ W) (hsize : Ls.size = c.maxLocals)
    (hd : decode c.code pc = .ok (.invokestatic index, 3)) (hp : pc + 3 = pc')
    (k : ∀ (v : Option Value) (T' : State) (L : List Loc), Stand p l e R (s.setVm T'.vm) m args below meth c T' (locs ++ L) (cells + rm.cells) (slots + rm.slots) → Z.Warmed39 T'.vm → T'.vm.findClass own = some m.cls → s.Since T'.vm T'.heap.size → CHr Z EL V h T'.vm T'.heap → Qc v T'.heap L → Ok p e below Fe Q T' (mkF m pc' Ls (v.toList ++ rest))) : Ok p e below Fe Q T (mkF m pc Ls st) := by
  subst hp
  have hZ' : Z.Warmed39 (s.setVm V).vm := hZ
  obtain ⟨v, _, ⟨T1, L1, k1, n1⟩, -, X1, hS1, hgr, ⟨Lc, hQ, l1, y1, z1, C1⟩, st1⟩ := callSS X hx (y := y) hown (mvT hZ' wl) (mvT hZ' ws) (mvT hZ' wz) (mvT hZ' wc) hy (backOfSH (W := W) hM hZ wc wz hf hl hEL H) (g := mkF m pc Ls st) rfl hsize (argsL := argsL) (rest := rest) hlen hst (by show 2 * 0 + _ ≤ _; omega) hd (fun _ _ => ⟨has, eT, hc, hs⟩)
  dsimp only [Pt.U, Pt.locs, Pt.cells, Pt.slots] at X1 l1 y1 z1 st1 hQ hS1 hgr C1
  subst l1 y1 z1
  refine Ok.tr st1 (k v T1 Lc X1 (State.Warmed39.trans (t := s.setVm V) hZ hS1.1) (by rw [hS1.1.alike.findClass]; exact hown) (hS.trans hS1 ?_) C1 hQ)
  rw [eT] at hgr
  exact Nat.le_trans hSn hgr
theorem Ok.initH {y : MethodName} {bytes : ByteArray} {maxL : Nat} {rm : Room} {as' : Array Value} {Qc : Option Value → Heap → List Loc → Prop} {index : Nat} {a : Addr} {argsL : List Value} {W : Nat} (X : Stand p l e R (s.setVm V) m args below meth c T locs cells slots) (hx : p.tables.exec = Jvm.exec) (hZ : Z.Warmed39 V) (hown : V.findClass own = some m.cls) (hS : s.Since V n) (hSn : n ≤ h.size) (hEL : EW Z a0 EL) (H : CHv Z EL V h)
    (hM : MetH l Z EL y bytes maxL none [] rm as' h Qc) (hyn : y.name = "<init>") (wl : (Jvm.Cond.methodLink own index y).before a0 Z = true) (wi : (Jvm.Cond.instanceMethod y).before a0 Z = true) (wz : (Jvm.Cond.initialized y.cls).before a0 Z = true) (wc : (Jvm.Cond.code y bytes maxL none).before a0 Z = true) (hy : y.cls ≠ "java/lang/invoke/MethodHandle" ∧ y.cls ≠ "java/lang/invoke/VarHandle")
    (eT : T.heap = h) (hf : rm.frames + 1 ≤ R.frames) (hl : W + (maxL + 11) + rm.locals ≤ R.locals) (hc : cells + rm.cells ≤ R.cells) (hs : slots + rm.slots ≤ R.slots) (hlen : ∀ sig, parseMethodDescriptor y.desc = some sig → argsL.length = sig.parameters.length) (has : (.ref a :: argsL).toArray = as') (hst : st = argsL.reverse ++ .ref a :: rest) (hW : (rest.map fun v => v.category).sum ≤ W) (hsize : Ls.size = c.maxLocals)
    (hd : decode c.code pc = .ok (.invokespecial index, 3)) (hp : pc + 3 = pc')
    (k : ∀ (v : Option Value) (T' : State) (L : List Loc), Stand p l e R (s.setVm T'.vm) m args below meth c T' (locs ++ L) (cells + rm.cells) (slots + rm.slots) → Z.Warmed39 T'.vm → T'.vm.findClass own = some m.cls → s.Since T'.vm T'.heap.size → CHr Z EL V h T'.vm T'.heap → Qc v T'.heap L → Ok p e below Fe Q T' (mkF m pc' Ls (v.toList ++ rest))) : Ok p e below Fe Q T (mkF m pc Ls st) := by
  subst hp
  have hZ' : Z.Warmed39 (s.setVm V).vm := hZ
  obtain ⟨v, _, ⟨T1, L1, k1, n1⟩, -, X1, hS1, hgr, ⟨Lc, hQ, l1, y1, z1, C1⟩, st1⟩ := X.specialBackS hx (y := y) hyn hown (mvT hZ' wl) (mvT hZ' wi) (mvT hZ' wc) hy (backOfSH (W := W) hM hZ wc wz hf hl hEL H) (g := mkF m pc Ls st) rfl hsize (Steps.refl _) (a := a) (argsL := argsL) (rest := rest) hlen hst (by show 2 * 0 + _ ≤ _; omega) hd (fun _ _ => ⟨has, eT, hc, hs⟩)
  dsimp only [Pt.U, Pt.locs, Pt.cells, Pt.slots] at X1 l1 y1 z1 st1 hQ hS1 hgr C1
  subst l1 y1 z1
  refine Ok.tr st1 (k v T1 Lc X1 (State.Warmed39.trans (t := s.setVm V) hZ hS1.1) (by rw [hS1.1.alike.findClass]; exact hown) (hS.trans hS1 ?_) C1 hQ)
  rw [eT] at hgr
  exact Nat.le_trans hSn hgr
theorem Ok.newRA {C ad : String} {ty : FieldType} {index : Nat} {z : Int32} {cap : Nat} (X : Stand p l e R s m args below meth c T locs cells slots) (hx : p.tables.exec = Jvm.exec) (hZ : Z.Warmed39 s.vm) (hown : s.vm.findClass own = some m.cls) (hC : (FieldType.array ty).toString = C) (w1 : (Jvm.Cond.classLink own index C).before a0 Z = true) (w2 : (Jvm.Cond.arrayOver (.array ty)).before a0 Z = true) (eT : T.heap = h) (hd : decode c.code pc = .ok (.anewarray index, 3)) (hp : pc + 3 = pc') (hn : ¬ z < 0) (hcap : z.toNatClampNeg ≤ cap) (hb : cap * 8 ≤ 536870912) (hc : cells + 1 ≤ R.cells) (hl : slots + cap ≤ R.slots) (had : "[" ++ C = ad)
    (k : ∀ (T' : State) (h' : Heap) (a : Addr), a = h.size → Stand p l e R s m args below meth c T' locs (cells + 1) (slots + cap) → T'.heap = h' → Ext h h' → Ok p e below Fe Q T' (mkF m pc' Ls (.ref a :: rest))) : Ok p e below Fe Q T (mkF m pc Ls (.int z :: rest)) := by
  subst hp
  obtain ⟨T1, h1, cA, X1, e1, E1, -, -, -, st1⟩ := Jvm.RoadKit.newRA X hx hZ hown hC w1 w2 eT (g := mkF m pc Ls (.int z :: rest)) rfl hd rfl hn hcap hb hc hl had
  exact Ok.st st1 (k T1 h1 _ rfl X1 e1 E1)
end Layer3
open Jvm.Free.SB Jvm.Free.SBG
theorem i2c_id {x : Int32} (h0 : 0 ≤ x.toInt) (h1 : x.toInt ≤ 65535) : x.toUInt32.toUInt16.toUInt32.toInt32 = x := by
  have hx : x.toInt = x.toBitVec.toInt := rfl
  have hlt : x.toBitVec.toNat < 65536 := by
    rw [hx, BitVec.toInt_eq_toNat_cond] at h0 h1
    have hb := x.toBitVec.isLt
    by_cases hc : 2 * x.toBitVec.toNat < 2 ^ 32
    · rw [if_pos hc] at h1
      omega
    · rw [if_neg hc] at h0
      omega
  apply Int32.toBitVec_inj.mp
  apply BitVec.eq_of_toNat_eq
  have e : (x.toUInt32.toUInt16.toUInt32.toInt32).toBitVec.toNat = x.toBitVec.toNat % 65536 := by
    show (x.toUInt32.toUInt16.toUInt32).toNat = _
    simp
    rfl
  rw [e]
  omega
theorem nar_char_id {x : Int32} (h0 : 0 ≤ x.toInt) (h1 : x.toInt ≤ 65535) : nar .char x = x := i2c_id h0 h1
theorem narrow_char_id {x : Int32} (h0 : 0 ≤ x.toInt) (h1 : x.toInt ≤ 65535) : narrow .char (.int x) = .int x := congrArg Value.int (i2c_id h0 h1)
theorem mask255 (x : Int32) : 0 ≤ (x &&& (255 : Int32)).toInt ∧ (x &&& (255 : Int32)).toInt ≤ 255 := by
  rw [Jvm.Kit.i32_mask x 255 (k := 8) (by decide) (by decide)]
  omega
theorem char255 (x : Int32) : (x &&& (255 : Int32)).toUInt32.toUInt16.toUInt32.toInt32 = x &&& (255 : Int32) := i2c_id (mask255 x).1 (by have := (mask255 x).2; omega)
theorem byte_back {x : Int32} (h0 : 0 ≤ x.toInt) (h1 : x.toInt ≤ 255) : (x.toInt8.toInt32.toInt8.toInt32 &&& (255 : Int32)) = x := by
  have key : ∀ k : Fin 256, ((Int32.ofNat k.val).toInt8.toInt32.toInt8.toInt32 &&& (255 : Int32)) = Int32.ofNat k.val := by decide +kernel
  have e : x = Int32.ofNat x.toInt.toNat := by
    apply Int32.toInt_inj.mp
    rw [Int32.toInt_ofNat_of_lt (by omega)]
    omega
  have q := key ⟨x.toInt.toNat, by omega⟩
  simp only at q
  rw [← e] at q
  exact q
theorem pd_0 : parseMethodDescriptor "(III)Ljava/lang/String;" = some ⟨[.int, .int, .int], some (.object "java/lang/String")⟩ := by decide +kernel
theorem pd_1 : parseMethodDescriptor "([C)V" = some ⟨[(.array .char)], none⟩ := by decide +kernel
theorem pd_2 : parseMethodDescriptor "([CIILjava/lang/Void;)V" = some ⟨[(.array .char), .int, .int, (.object "java/lang/Void")], none⟩ := by decide +kernel
theorem pd_3 : parseMethodDescriptor "()V" = some ⟨[], none⟩ := by decide +kernel
theorem pd_4 : parseMethodDescriptor "([CII)[B" = some ⟨[(.array .char), .int, .int], some (.array .byte)⟩ := by decide +kernel
theorem pd_5 : parseMethodDescriptor "([CI[BII)I" = some ⟨[(.array .char), .int, (.array .byte), .int, .int], some .int⟩ := by decide +kernel
theorem pd_6 : parseMethodDescriptor "([BI)B" = some ⟨[(.array .byte), .int], some .byte⟩ := by decide +kernel
theorem pd_7 : parseMethodDescriptor "(Ljava/lang/String;Ljava/lang/String;)V" = some ⟨[(.object "java/lang/String"), (.object "java/lang/String")], none⟩ := by decide +kernel
theorem pd_8 : parseMethodDescriptor "()Z" = some ⟨[], some .boolean⟩ := by decide +kernel
theorem pd_9 : parseMethodDescriptor "(C)Ljava/lang/String;" = some ⟨[.char], some (.object "java/lang/String")⟩ := by decide +kernel
theorem pd_10 : parseMethodDescriptor "(C)Z" = some ⟨[.char], some .boolean⟩ := by decide +kernel
theorem pd_11 : parseMethodDescriptor "(C)[B" = some ⟨[.char], some (.array .byte)⟩ := by decide +kernel
theorem pd_12 : parseMethodDescriptor "([BB)V" = some ⟨[(.array .byte), .byte], none⟩ := by decide +kernel
theorem wStr {Z : State} {a0 : Array Value} (hw : ∀ d ∈ tables_1, d.before a0 Z = true) : ∀ a ∈ Bundle.stringAtoms, a.before a0 Z = true := by
  intro a ha
  simp only [Bundle.stringAtoms, List.mem_cons, List.not_mem_nil, or_false] at ha
  rcases ha with rfl | rfl | rfl | rfl | rfl | rfl | rfl
  · exact (hw _ (List.mem_of_getElem? (i := 8) rfl))
  · exact (hw _ (List.mem_of_getElem? (i := 7) rfl))
  · exact (hw _ (List.mem_of_getElem? (i := 24) rfl))
  · exact (hw _ (List.mem_of_getElem? (i := 34) rfl))
  · exact (hw _ (List.mem_of_getElem? (i := 32) rfl))
  · exact (hw _ (List.mem_of_getElem? (i := 86) rfl))
  · exact (hw _ (List.mem_of_getElem? (i := 87) rfl))
theorem Sta_keep {Z : State} {h h' : Heap} {C n d : String} {w : Value} {ws : List Addr} (F : Sta Z h C n d w) (K : Keep h h' ws) (q : ∀ x ∈ ws, ∃ k, Exa Z h x k) : Sta Z h' C n d w := by
  obtain ⟨cf, i, k, f, st, cell, h1, h2, h3, h4, h5, h6, h7⟩ := F
  refine ⟨cf, i, k, f, st, cell, h1, h2, h3, h4, K.2.1 st cell h5 fun hm => ?_, h6, h7⟩
  obtain ⟨k', c', k'', g1, -, -, g4, -⟩ := q st hm
  cases h5.symm.trans g1
  rw [h6] at g4
  cases g4
def EL1 : List (String × Nat) := consts_1
theorem d20_0 : decode jdk_42_method_149_code 0 = .ok (.aload_n 0, 1) := by decide +kernel
theorem d20_1 : decode jdk_42_method_149_code 1 = .ok (.invokespecial 1, 3) := by decide +kernel
theorem d20_4 : decode jdk_42_method_149_code 4 = .ok (.iload_n 3, 1) := by decide +kernel
theorem d20_5 : decode jdk_42_method_149_code 5 = .ok (.ifCond .ne 22, 3) := by decide +kernel
theorem d20_8 : decode jdk_42_method_149_code 8 = .ok (.aload_n 0, 1) := by decide +kernel
theorem d20_9 : decode jdk_42_method_149_code 9 = .ok (.ldc 7, 2) := by decide +kernel
theorem d20_11 : decode jdk_42_method_149_code 11 = .ok (.getfield 9, 3) := by decide +kernel
theorem d20_14 : decode jdk_42_method_149_code 14 = .ok (.putfield 9, 3) := by decide +kernel
theorem d20_17 : decode jdk_42_method_149_code 17 = .ok (.aload_n 0, 1) := by decide +kernel
theorem d20_18 : decode jdk_42_method_149_code 18 = .ok (.ldc 7, 2) := by decide +kernel
theorem d20_20 : decode jdk_42_method_149_code 20 = .ok (.getfield 15, 3) := by decide +kernel
theorem d20_23 : decode jdk_42_method_149_code 23 = .ok (.putfield 15, 3) := by decide +kernel
theorem d20_26 : decode jdk_42_method_149_code 26 = .ok (.return_, 1) := by decide +kernel
theorem d20_27 : decode jdk_42_method_149_code 27 = .ok (.getstatic 38, 3) := by decide +kernel
theorem d20_30 : decode jdk_42_method_149_code 30 = .ok (.ifCond .eq 28, 3) := by decide +kernel
theorem d20_33 : decode jdk_42_method_149_code 33 = .ok (.aload_n 1, 1) := by decide +kernel
theorem d20_34 : decode jdk_42_method_149_code 34 = .ok (.iload_n 2, 1) := by decide +kernel
theorem d20_35 : decode jdk_42_method_149_code 35 = .ok (.iload_n 3, 1) := by decide +kernel
theorem d20_36 : decode jdk_42_method_149_code 36 = .ok (.invokestatic 177, 3) := by decide +kernel
theorem d20_39 : decode jdk_42_method_149_code 39 = .ok (.astore 5, 2) := by decide +kernel
theorem d20_41 : decode jdk_42_method_149_code 41 = .ok (.aload_n 0, 1) := by decide +kernel
theorem d20_42 : decode jdk_42_method_149_code 42 = .ok (.aload 5, 2) := by decide +kernel
theorem d20_44 : decode jdk_42_method_149_code 44 = .ok (.iload_n 3, 1) := by decide +kernel
theorem d20_45 : decode jdk_42_method_149_code 45 = .ok (.invokestatic 47, 3) := by decide +kernel
theorem d20_48 : decode jdk_42_method_149_code 48 = .ok (.putfield 15, 3) := by decide +kernel
theorem d20_51 : decode jdk_42_method_149_code 51 = .ok (.aload_n 0, 1) := by decide +kernel
theorem d20_52 : decode jdk_42_method_149_code 52 = .ok (.aload 5, 2) := by decide +kernel
theorem d20_54 : decode jdk_42_method_149_code 54 = .ok (.putfield 9, 3) := by decide +kernel
theorem d20_57 : decode jdk_42_method_149_code 57 = .ok (.return_, 1) := by decide +kernel
theorem d20_58 : decode jdk_42_method_149_code 58 = .ok (.aload_n 0, 1) := by decide +kernel
theorem d20_59 : decode jdk_42_method_149_code 59 = .ok (.iconst 1, 1) := by decide +kernel
theorem d20_60 : decode jdk_42_method_149_code 60 = .ok (.putfield 15, 3) := by decide +kernel
theorem d20_63 : decode jdk_42_method_149_code 63 = .ok (.aload_n 0, 1) := by decide +kernel
theorem d20_64 : decode jdk_42_method_149_code 64 = .ok (.aload_n 1, 1) := by decide +kernel
theorem d20_65 : decode jdk_42_method_149_code 65 = .ok (.iload_n 2, 1) := by decide +kernel
theorem d20_66 : decode jdk_42_method_149_code 66 = .ok (.iload_n 3, 1) := by decide +kernel
theorem d20_67 : decode jdk_42_method_149_code 67 = .ok (.invokestatic 180, 3) := by decide +kernel
theorem d20_70 : decode jdk_42_method_149_code 70 = .ok (.putfield 9, 3) := by decide +kernel
theorem d20_73 : decode jdk_42_method_149_code 73 = .ok (.return_, 1) := by decide +kernel
theorem pn_0 : plainName "java/lang/String" = true := by first | (simp [plainName, overriddenIn]; done) | decide +kernel
theorem ef_20 (m : MethodId) (x0 : Addr) (x1 : Addr) (x2 : Int32) (x3 : Int32) : entryFrame m #[(.ref x0), (.ref x1), (.int x2), (.int x3), .null] 6 = mkF m 0 #[.val (.ref x0), .val (.ref x1), .val (.int x2), .val (.int x3), .val .null, .unset] [] := by first | (simp [entryFrame, mkF, argsToLocals, Value.category]; done) | rfl
def Q20 (Z : State) (a1 : Addr) (a2 : Addr) (h0 : Heap) (n0 : Nat) (v : Option Value) (h : Heap) (L : List Loc) : Prop := v = none ∧ Fr n0 L ∧ Keep h0 h [a1]
set_option maxRecDepth 65536 in
set_option maxHeartbeats 40000000 in
theorem rm20 (l : Launch) (Z : State) (a0 : Array Value) (hw : ∀ d ∈ tables_1, d.before a0 Z = true) (a1 : Addr) (a2 : Addr) (h0 : Heap) (n0 : Nat) (Z0 : n0 ≤ h0.size) (E_a1 : Exa Z h0 a1 "java/lang/String") (g_a1 : n0 ≤ a1) (F_value : Fld Z h0 a1 "java/lang/String" "value" "[B" .null) (F_coder : Fld Z h0 a1 "java/lang/String" "coder" "B" (.int (0 : Int32))) :
    MetH l Z EL1 (⟨"java/lang/String", "<init>", "([CIILjava/lang/Void;)V"⟩ : MethodName) jdk_42_method_149_code 6 none [] ({ frames := 1, cells := 4, slots := 8, locals := 12 } : Room) #[(.ref a1), (.ref a2), (.int (0 : Int32)), (.int (0 : Int32)), .null] h0 (Q20 Z a1 a2 h0 n0) := by
  refine met_h (plainFor_of_name pn_0) (fun m => ef_20 m a1 a2 (0 : Int32) (0 : Int32)) ?_
  intro p e s m below meth c s₁ V0 nS0 X0 hx hby hml hZ0 hown0 hnm hret hlk e0 hS0 hSn0 HC0
  replace hown0 : V0.findClass "java/lang/String" = some m.cls := hown0
  replace hnm : meth.name = "<init>" := hnm
  replace hret : meth.sig.returnType = none := hret
  have N0 := Fr.nil n0
  have K0 : Keep h0 h0 [a1] := Keep.refl _ _
  show Ok p e below _ _ s₁ (mkF m 0 #[.val (.ref a1), .val (.ref a2), .val (.int (0 : Int32)), .val (.int (0 : Int32)), .val .null, .unset] [])
  have hEL : EW Z a0 EL1 := EW.cons (hw _ (List.mem_of_getElem? (i := 85) rfl)) (by simp) EW.nil
  show Ok p e below _ _ s₁ (mkF m 0 #[.val (.ref a1), .val (.ref a2), .val (.int (0 : Int32)), .val (.int (0 : Int32)), .val .null, .unset] [])
  have S_a1 : Safe Z EL1 V0 h0 a1 := Safe_null hZ0.alike E_a1 F_value
  show Ok p e below _ _ s₁ (mkF m 0 #[.val (.ref a1), .val (.ref a2), .val (.int (0 : Int32)), .val (.int (0 : Int32)), .val .null, .unset] [])
  refine Ok.aloadN (pc' := 1) X0 hx (hb hby d20_0) rfl rfl rfl ?_
  refine Ok.initO (pc' := 4) (W := 0) X0 hx hZ0 hown0 (hw _ (List.mem_of_getElem? (i := 16) rfl)) (hw _ (List.mem_of_getElem? (i := 17) rfl)) (hw _ (List.mem_of_getElem? (i := 18) rfl)) e0 (by rw [hml]; rfl) (hb hby d20_1) rfl (by decide) (Nat.le_of_eq rfl) (by decide) ?_
  intro T1 X1 e1
  refine Ok.iloadN (pc' := 5) X1 hx (hb hby d20_4) rfl rfl ?_
  refine Ok.ifN (pc' := 8) X1 hx (hb hby d20_5) (bf (i0 .ne (0 : Int32) (ic_eq (0 : Int32) 0).2.1) (by decide)) rfl ?_
  refine Ok.aloadN (pc' := 9) X1 hx (hb hby d20_8) rfl rfl rfl ?_
  refine Ok.ldcH (pc' := 11) (N := 0) (vs := []) (z := (0 : Int32)) X1 hx hZ0 hown0 hS0 hSn0 (hw _ (List.mem_of_getElem? (i := 85) rfl)) (wStr hw) hEL (List.mem_of_getElem? (i := 0) rfl) HC0.1 ⟨by simp, by simp⟩ (by decide) rfl e1 (by decide) (by decide) (by decide) (by decide) (hb hby d20_9) rfl ?_
  intro lc2 T2 h2 nS2 bb2 kb2 X2 hZ2 hown2 hS2 hSn2 e2 E2 A2 Fc2 Fv2 C2
  have S_a1' := C2.safe E_a1.lt S_a1
  have HC2 := HC0.trans C2
  replace E_a1 := E_a1.ext E2
  replace F_value := F_value.ext E2
  replace F_coder := F_coder.ext E2
  have K2 : Keep h0 h2 [a1] := K0.ext E2
  have Z3 : n0 ≤ h2.size := Nat.le_trans Z0 E2.1
  show Ok p e below _ _ T2 (mkF m 11 #[.val (.ref a1), .val (.ref a2), .val (.int (0 : Int32)), .val (.int (0 : Int32)), .val .null, .unset] [(.ref lc2), (.ref a1)])
  refine Ok.getF (pc' := 14) X2 hx hZ2 hown2 (host := "") (Or.inl (hw _ (List.mem_of_getElem? (i := 33) rfl))) Via.refl e2 Fv2 (hb hby d20_11) rfl ?_
  intro T4 X4 e4
  refine Ok.putF (pc' := 17) (ty := (.array .byte)) X4 hx hZ2 hown2 (host := "") (Or.inl (hw _ (List.mem_of_getElem? (i := 33) rfl))) Via.refl e4 F_value E_a1 (Or.inr ⟨(hw _ (List.mem_of_getElem? (i := 34) rfl)), rfl, hnm⟩) (hw _ (List.mem_of_getElem? (i := 7) rfl)) (by decide) rfl rfl (hb hby d20_14) rfl ?_
  intro T5 h5 X5 e5 W5
  replace F_value := F_value.same W5
  replace E_a1 := E_a1.wr W5
  replace F_coder := F_coder.other W5 (Or.inr (slot_ne (Or.inr (hw _ (List.mem_of_getElem? (i := 32) rfl))) (Or.inr (hw _ (List.mem_of_getElem? (i := 34) rfl))) (by decide) (t := .byte) (t' := (.array .byte)) (by decide) (by decide)))
  have S_a1'' := Safe.wr W5 S_a1' HC2.1 S_a1'
  have HC6 := HC2.trans (CHr.wr W5 S_a1' HC2.1)
  have N5 := Fr.snoc X5 N0 g_a1
  have K5 : Keep h0 h5 [a1] := K2.wr W5 (Or.inl (List.mem_of_getElem? (i := 0) rfl))
  have Z7 : n0 ≤ h5.size := Nat.le_trans Z3 (Keep.of_wr W5).1
  have hSn7 : _ ≤ h5.size := Nat.le_trans hSn2 (Keep.of_wr W5).1
  refine Ok.aloadN (pc' := 18) X5 hx (hb hby d20_17) rfl rfl rfl ?_
  refine Ok.ldcH (pc' := 20) (N := 0) (vs := []) (z := (0 : Int32)) X5 hx hZ2 hown2 hS2 hSn7 (hw _ (List.mem_of_getElem? (i := 85) rfl)) (wStr hw) hEL (List.mem_of_getElem? (i := 0) rfl) HC6.1 ⟨by simp, by simp⟩ (by decide) rfl e5 (by decide) (by decide) (by decide) (by decide) (hb hby d20_18) rfl ?_
  intro lc8 T8 h8 nS8 bb8 kb8 X8 hZ8 hown8 hS8 hSn8 e8 E8 A8 Fc8 Fv8 C8
  have S_a1''' := C8.safe E_a1.lt S_a1''
  have HC8 := HC6.trans C8
  replace E_a1 := E_a1.ext E8
  replace F_coder := F_coder.ext E8
  replace F_value := F_value.ext E8
  have K8 : Keep h0 h8 [a1] := K5.ext E8
  have Z9 : n0 ≤ h8.size := Nat.le_trans Z7 E8.1
  show Ok p e below _ _ T8 (mkF m 20 #[.val (.ref a1), .val (.ref a2), .val (.int (0 : Int32)), .val (.int (0 : Int32)), .val .null, .unset] [(.ref lc8), (.ref a1)])
  refine Ok.getF (pc' := 23) X8 hx hZ8 hown8 (host := "") (Or.inl (hw _ (List.mem_of_getElem? (i := 31) rfl))) Via.refl e8 Fc8 (hb hby d20_20) rfl ?_
  intro T10 X10 e10
  refine Ok.putF (pc' := 26) (ty := .byte) X10 hx hZ8 hown8 (host := "") (Or.inl (hw _ (List.mem_of_getElem? (i := 31) rfl))) Via.refl e10 F_coder E_a1 (Or.inr ⟨(hw _ (List.mem_of_getElem? (i := 32) rfl)), rfl, hnm⟩) (hw _ (List.mem_of_getElem? (i := 7) rfl)) (by decide) rfl rfl (hb hby d20_23) rfl ?_
  intro T11 h11 X11 e11 W11
  replace F_coder := F_coder.same W11
  replace E_a1 := E_a1.wr W11
  replace F_value := F_value.other W11 (Or.inr (slot_ne (Or.inr (hw _ (List.mem_of_getElem? (i := 34) rfl))) (Or.inr (hw _ (List.mem_of_getElem? (i := 32) rfl))) (by decide) (t := (.array .byte)) (t' := .byte) (by decide) (by decide)))
  have S_a1'''' := Safe.wr W11 S_a1''' HC8.1 S_a1'''
  have HC12 := HC8.trans (CHr.wr W11 S_a1''' HC8.1)
  have N11 := Fr.snoc X11 N5 g_a1
  have K11 : Keep h0 h11 [a1] := K8.wr W11 (Or.inl (List.mem_of_getElem? (i := 0) rfl))
  have Z13 : n0 ≤ h11.size := Nat.le_trans Z9 (Keep.of_wr W11).1
  have hSn13 : _ ≤ h11.size := Nat.le_trans hSn8 (Keep.of_wr W11).1
  refine Ok.retVH X11 hx hZ8 hS8 (by rw [e11]; exact hSn13) hEL e11 HC12 hret hlk (hb hby d20_26) (by decide) (by decide) ?_
  show Q20 Z a1 a2 h0 n0 _ T11.heap _
  rw [e11]
  exact ⟨rfl, N11, K11⟩
theorem d21_0 : decode jdk_42_method_3_code 0 = .ok (.aload_n 0, 1) := by decide +kernel
theorem d21_1 : decode jdk_42_method_3_code 1 = .ok (.aload_n 1, 1) := by decide +kernel
theorem d21_2 : decode jdk_42_method_3_code 2 = .ok (.iconst 0, 1) := by decide +kernel
theorem d21_3 : decode jdk_42_method_3_code 3 = .ok (.aload_n 1, 1) := by decide +kernel
theorem d21_4 : decode jdk_42_method_3_code 4 = .ok (.arraylength, 1) := by decide +kernel
theorem d21_5 : decode jdk_42_method_3_code 5 = .ok (.aconst_null, 1) := by decide +kernel
theorem d21_6 : decode jdk_42_method_3_code 6 = .ok (.invokespecial 27, 3) := by decide +kernel
theorem d21_9 : decode jdk_42_method_3_code 9 = .ok (.return_, 1) := by decide +kernel
theorem ef_21 (m : MethodId) (x0 : Addr) (x1 : Addr) : entryFrame m #[(.ref x0), (.ref x1)] 2 = mkF m 0 #[.val (.ref x0), .val (.ref x1)] [] := by first | (simp [entryFrame, mkF, argsToLocals, Value.category]; done) | rfl
def Q21 (Z : State) (a1 : Addr) (a2 : Addr) (k2 : ClassId) (h0 : Heap) (n0 : Nat) (v : Option Value) (h : Heap) (L : List Loc) : Prop := v = none ∧ Fr n0 L ∧ Keep h0 h [a1]
set_option maxRecDepth 65536 in
set_option maxHeartbeats 40000000 in
theorem rm21 (l : Launch) (Z : State) (a0 : Array Value) (hw : ∀ d ∈ tables_1, d.before a0 Z = true) (a1 : Addr) (a2 : Addr) (k2 : ClassId) (h0 : Heap) (n0 : Nat) (Z0 : n0 ≤ h0.size) (E_a1 : Exa Z h0 a1 "java/lang/String") (g_a1 : n0 ≤ a1) (F_value : Fld Z h0 a1 "java/lang/String" "value" "[B" .null) (F_coder : Fld Z h0 a1 "java/lang/String" "coder" "B" (.int (0 : Int32))) (V_2 : Arv Z h0 a2 k2 .char (0 : Int32) [] (.int (0 : Int32))) :
    MetH l Z EL1 (⟨"java/lang/String", "<init>", "([C)V"⟩ : MethodName) jdk_42_method_3_code 2 none [] ({ frames := 2, cells := 4, slots := 8, locals := 29 } : Room) #[(.ref a1), (.ref a2)] h0 (Q21 Z a1 a2 k2 h0 n0) := by
  refine met_h (plainFor_of_name pn_0) (fun m => ef_21 m a1 a2) ?_
  intro p e s m below meth c s₁ V0 nS0 X0 hx hby hml hZ0 hown0 hnm hret hlk e0 hS0 hSn0 HC0
  replace hown0 : V0.findClass "java/lang/String" = some m.cls := hown0
  replace hnm : meth.name = "<init>" := hnm
  replace hret : meth.sig.returnType = none := hret
  have N0 := Fr.nil n0
  have K0 : Keep h0 h0 [a1] := Keep.refl _ _
  show Ok p e below _ _ s₁ (mkF m 0 #[.val (.ref a1), .val (.ref a2)] [])
  have hEL : EW Z a0 EL1 := EW.cons (hw _ (List.mem_of_getElem? (i := 85) rfl)) (by simp) EW.nil
  show Ok p e below _ _ s₁ (mkF m 0 #[.val (.ref a1), .val (.ref a2)] [])
  refine Ok.aloadN (pc' := 1) X0 hx (hb hby d21_0) rfl rfl rfl ?_
  refine Ok.aloadN (pc' := 2) X0 hx (hb hby d21_1) rfl rfl rfl ?_
  refine Ok.iconst (z := (0 : Int32)) (pc' := 3) X0 hx (hb hby d21_2) rfl rfl ?_
  refine Ok.aloadN (pc' := 4) X0 hx (hb hby d21_3) rfl rfl rfl ?_
  refine Ok.len (pc' := 5) X0 hx hZ0 e0 V_2 (hb hby d21_4) rfl ?_
  refine Ok.aconstNull (pc' := 6) X0 hx (hb hby d21_5) rfl ?_
  refine Ok.initH (pc' := 9) (W := 0) (a := a1)  (argsL := [(.ref a2), (.int (0 : Int32)), (.int (0 : Int32)), .null]) (rest := []) X0 hx hZ0 hown0 hS0 hSn0 hEL HC0.1 (rm20 l Z a0 hw a1 a2 h0 n0 Z0 E_a1 g_a1 F_value F_coder) rfl (hw _ (List.mem_of_getElem? (i := 12) rfl)) (hw _ (List.mem_of_getElem? (i := 13) rfl)) (hw _ (List.mem_of_getElem? (i := 8) rfl)) (hw _ (List.mem_of_getElem? (i := 15) rfl)) (by decide) e0 (by decide) (by decide) (by decide) (by decide) (lenOf pd_2 rfl) rfl rfl (Nat.le_of_eq rfl) (by rw [hml]; rfl) (hb hby d21_6) rfl ?_
  intro v14 T14 L14 X14 hZ14 hown14 hS14 C14 hQ14
  have HC14 := HC0.trans C14
  obtain ⟨rfl, Nq14, Kq14⟩ := hQ14
  have N14 := Fr.app N0 Nq14
  replace E_a1 := E_a1.keep Kq14
  have K14' : Keep h0 T14.heap [a1] := K0.trans Kq14 (allS (Or.inl (List.mem_of_getElem? (i := 0) rfl)) all0)
  have Z15 : n0 ≤ T14.heap.size := Nat.le_trans Z0 Kq14.1
  show Ok p e below _ _ T14 (mkF m 9 #[.val (.ref a1), .val (.ref a2)] [])
  refine Ok.retVH X14 hx hZ14 hS14 ((Nat.le_refl _)) hEL rfl HC14 hret hlk (hb hby d21_9) (by decide) (by decide) ?_
  show Q21 Z a1 a2 k2 h0 n0 _ T14.heap _
  exact ⟨rfl, N14, K14'⟩
theorem d30_0 : decode jdk_52_method_21_code 0 = .ok (.iconst 0, 1) := by decide +kernel
theorem d30_1 : decode jdk_52_method_21_code 1 = .ok (.istore 5, 2) := by decide +kernel
theorem d30_3 : decode jdk_52_method_21_code 3 = .ok (.iload 5, 2) := by decide +kernel
theorem d30_5 : decode jdk_52_method_21_code 5 = .ok (.iload 4, 2) := by decide +kernel
theorem d30_7 : decode jdk_52_method_21_code 7 = .ok (.if_icmp .ge 37, 3) := by decide +kernel
theorem d30_10 : decode jdk_52_method_21_code 10 = .ok (.aload_n 0, 1) := by decide +kernel
theorem d30_11 : decode jdk_52_method_21_code 11 = .ok (.iload_n 1, 1) := by decide +kernel
theorem d30_12 : decode jdk_52_method_21_code 12 = .ok (.caload, 1) := by decide +kernel
theorem d30_13 : decode jdk_52_method_21_code 13 = .ok (.istore 6, 2) := by decide +kernel
theorem d30_15 : decode jdk_52_method_21_code 15 = .ok (.iload 6, 2) := by decide +kernel
theorem d30_17 : decode jdk_52_method_21_code 17 = .ok (.sipush 255, 3) := by decide +kernel
theorem d30_20 : decode jdk_52_method_21_code 20 = .ok (.if_icmp .le 6, 3) := by decide +kernel
theorem d30_23 : decode jdk_52_method_21_code 23 = .ok (.iload 5, 2) := by decide +kernel
theorem d30_25 : decode jdk_52_method_21_code 25 = .ok (.ireturn, 1) := by decide +kernel
theorem d30_26 : decode jdk_52_method_21_code 26 = .ok (.aload_n 2, 1) := by decide +kernel
theorem d30_27 : decode jdk_52_method_21_code 27 = .ok (.iload_n 3, 1) := by decide +kernel
theorem d30_28 : decode jdk_52_method_21_code 28 = .ok (.iload 6, 2) := by decide +kernel
theorem d30_30 : decode jdk_52_method_21_code 30 = .ok (.i2b, 1) := by decide +kernel
theorem d30_31 : decode jdk_52_method_21_code 31 = .ok (.bastore, 1) := by decide +kernel
theorem d30_32 : decode jdk_52_method_21_code 32 = .ok (.iinc 1 1, 3) := by decide +kernel
theorem d30_35 : decode jdk_52_method_21_code 35 = .ok (.iinc 3 1, 3) := by decide +kernel
theorem d30_38 : decode jdk_52_method_21_code 38 = .ok (.iinc 5 1, 3) := by decide +kernel
theorem d30_41 : decode jdk_52_method_21_code 41 = .ok (.goto (-38), 3) := by decide +kernel
theorem d30_44 : decode jdk_52_method_21_code 44 = .ok (.iload 4, 2) := by decide +kernel
theorem d30_46 : decode jdk_52_method_21_code 46 = .ok (.ireturn, 1) := by decide +kernel
theorem pn_1 : plainName "java/lang/StringUTF16" = true := by first | (simp [plainName, overriddenIn]; done) | decide +kernel
theorem ef_30 (m : MethodId) (x0 : Addr) (x1 : Int32) (x2 : Addr) (x3 : Int32) (x4 : Int32) : entryFrame m #[(.ref x0), (.int x1), (.ref x2), (.int x3), (.int x4)] 7 = mkF m 0 #[.val (.ref x0), .val (.int x1), .val (.ref x2), .val (.int x3), .val (.int x4), .unset, .unset] [] := by first | (simp [entryFrame, mkF, argsToLocals, Value.category]; done) | rfl
def Q30 (Z : State) (a1 : Addr) (k1 : ClassId) (a2 : Addr) (k2 : ClassId) (c0 : Int32) (c1 : Int32) (h0 : Heap) (n0 : Nat) (v : Option Value) (h : Heap) (L : List Loc) : Prop := v = some (.int (2 : Int32)) ∧ Fr n0 L ∧ Keep h0 h [a2] ∧ Arv Z h a2 k2 .byte (2 : Int32) [(.int c0.toInt8.toInt32.toInt8.toInt32), (.int c1.toInt8.toInt32.toInt8.toInt32)] (.int (0 : Int32))
set_option maxRecDepth 65536 in
set_option maxHeartbeats 40000000 in
theorem rm30 (l : Launch) (Z : State) (a0 : Array Value) (hw : ∀ d ∈ tables_1, d.before a0 Z = true) (a1 : Addr) (k1 : ClassId) (a2 : Addr) (k2 : ClassId) (c0 : Int32) (c1 : Int32) (h0 : Heap) (n0 : Nat) (Z0 : n0 ≤ h0.size) (V_1 : Arv Z h0 a1 k1 .char (2 : Int32) [(.int c0), (.int c1)] (.int (0 : Int32))) (V_2 : Arv Z h0 a2 k2 .byte (2 : Int32) [(.int (0 : Int32)), (.int (0 : Int32))] (.int (0 : Int32))) (g_a2 : n0 ≤ a2) (ne_12 : a1 ≠ a2) (hc0 : 0 ≤ c0.toInt ∧ c0.toInt ≤ 255) (hc1 : 0 ≤ c1.toInt ∧ c1.toInt ≤ 255) :
    MetN l Z (⟨"java/lang/StringUTF16", "compress", "([CI[BII)I"⟩ : MethodName) jdk_52_method_21_code 7 (some .int) [] ({ frames := 0, cells := 0, slots := 0, locals := 0 } : Room) #[(.ref a1), (.int (0 : Int32)), (.ref a2), (.int (0 : Int32)), (.int (2 : Int32))] h0 (Q30 Z a1 k1 a2 k2 c0 c1 h0 n0) := by
  refine met_n (plainFor_of_name pn_1) (fun m => ef_30 m a1 (0 : Int32) a2 (0 : Int32) (2 : Int32)) ?_
  intro p e s m below meth c s₁ X0 hx hby hml hZ hown hnm hret hlk e0
  replace hown : s.vm.findClass "java/lang/StringUTF16" = some m.cls := hown
  replace hnm : meth.name = "compress" := hnm
  replace hret : meth.sig.returnType = (some .int) := hret
  have N0 := Fr.nil n0
  have K0 : Keep h0 h0 [a2] := Keep.refl _ _
  show Ok p e below _ _ s₁ (mkF m 0 #[.val (.ref a1), .val (.int (0 : Int32)), .val (.ref a2), .val (.int (0 : Int32)), .val (.int (2 : Int32)), .unset, .unset] [])
  refine Ok.iconst (z := (0 : Int32)) (pc' := 1) X0 hx (hb hby d30_0) rfl rfl ?_
  refine Ok.istore (l' := #[.val (.ref a1), .val (.int (0 : Int32)), .val (.ref a2), .val (.int (0 : Int32)), .val (.int (2 : Int32)), .val (.int (0 : Int32)), .unset]) (pc' := 3) X0 hx (hb hby d30_1) rfl rfl ?_
  refine Ok.iload (pc' := 5) X0 hx (hb hby d30_3) rfl rfl ?_
  refine Ok.iload (pc' := 7) X0 hx (hb hby d30_5) rfl rfl ?_
  refine Ok.icN (pc' := 10) X0 hx (hb hby d30_7) (bf (ic_eq (0 : Int32) (2 : Int32)).2.2.2.1 (by decide)) rfl ?_
  refine Ok.aloadN (pc' := 11) X0 hx (hb hby d30_10) rfl rfl rfl ?_
  refine Ok.iloadN (pc' := 12) X0 hx (hb hby d30_11) rfl rfl ?_
  refine Ok.ldC (pc' := 13) (v := (.int c0)) X0 hx hZ e0 V_1 ⟨by decide, by decide⟩ rfl (hb hby d30_12) rfl ?_
  refine Ok.istore (l' := #[.val (.ref a1), .val (.int (0 : Int32)), .val (.ref a2), .val (.int (0 : Int32)), .val (.int (2 : Int32)), .val (.int (0 : Int32)), .val (.int c0)]) (pc' := 15) X0 hx (hb hby d30_13) rfl rfl ?_
  refine Ok.iload (pc' := 17) X0 hx (hb hby d30_15) rfl rfl ?_
  refine Ok.sipush (z := (255 : Int32)) (pc' := 20) X0 hx (hb hby d30_17) rfl rfl ?_
  refine Ok.icY (pc' := 26) X0 hx (hb hby d30_20) (bt (ic_eq c0 (255 : Int32)).2.2.2.2.2 (show c0.toInt ≤ 255 from hc0.2)) (by decide) (by decide) ?_
  refine Ok.aloadN (pc' := 27) X0 hx (hb hby d30_26) rfl rfl rfl ?_
  refine Ok.iloadN (pc' := 28) X0 hx (hb hby d30_27) rfl rfl ?_
  refine Ok.iload (pc' := 30) X0 hx (hb hby d30_28) rfl rfl ?_
  refine Ok.i2b (pc' := 31) X0 hx (hb hby d30_30) rfl ?_
  refine Ok.stB (pc' := 32) (i := 0) X0 hx hZ e0 V_2 ⟨by decide, by decide⟩ rfl (Nat.le_of_ble_eq_true rfl) (hb hby d30_31) rfl ?_
  intro T16 h16 X16 e16 W16 V16
  replace V_1 := V_1.other W16 ne_12
  replace V16 : Arv Z h16 a2 k2 .byte (2 : Int32) [(.int c0.toInt8.toInt32.toInt8.toInt32), (.int (0 : Int32))] (.int (0 : Int32)) := V16
  have N16 := Fr.snoc X16 N0 g_a2
  have K16 : Keep h0 h16 [a2] := K0.wr W16 (Or.inl (List.mem_of_getElem? (i := 0) rfl))
  have Z17 : n0 ≤ h16.size := Nat.le_trans Z0 (Keep.of_wr W16).1
  refine Ok.iinc (z := (1 : Int32)) (l' := #[.val (.ref a1), .val (.int (1 : Int32)), .val (.ref a2), .val (.int (0 : Int32)), .val (.int (2 : Int32)), .val (.int (0 : Int32)), .val (.int c0)]) (pc' := 35) X16 hx (hb hby d30_32) rfl rfl rfl rfl ?_
  refine Ok.iinc (z := (1 : Int32)) (l' := #[.val (.ref a1), .val (.int (1 : Int32)), .val (.ref a2), .val (.int (1 : Int32)), .val (.int (2 : Int32)), .val (.int (0 : Int32)), .val (.int c0)]) (pc' := 38) X16 hx (hb hby d30_35) rfl rfl rfl rfl ?_
  refine Ok.iinc (z := (1 : Int32)) (l' := #[.val (.ref a1), .val (.int (1 : Int32)), .val (.ref a2), .val (.int (1 : Int32)), .val (.int (2 : Int32)), .val (.int (1 : Int32)), .val (.int c0)]) (pc' := 41) X16 hx (hb hby d30_38) rfl rfl rfl rfl ?_
  refine Ok.goto (pc' := 3) X16 hx (hb hby d30_41) (by decide) (by decide) ?_
  refine Ok.iload (pc' := 5) X16 hx (hb hby d30_3) rfl rfl ?_
  refine Ok.iload (pc' := 7) X16 hx (hb hby d30_5) rfl rfl ?_
  refine Ok.icN (pc' := 10) X16 hx (hb hby d30_7) (bf (ic_eq (1 : Int32) (2 : Int32)).2.2.2.1 (by decide)) rfl ?_
  refine Ok.aloadN (pc' := 11) X16 hx (hb hby d30_10) rfl rfl rfl ?_
  refine Ok.iloadN (pc' := 12) X16 hx (hb hby d30_11) rfl rfl ?_
  refine Ok.ldC (pc' := 13) (v := (.int c1)) X16 hx hZ e16 V_1 ⟨by decide, by decide⟩ rfl (hb hby d30_12) rfl ?_
  refine Ok.istore (l' := #[.val (.ref a1), .val (.int (1 : Int32)), .val (.ref a2), .val (.int (1 : Int32)), .val (.int (2 : Int32)), .val (.int (1 : Int32)), .val (.int c1)]) (pc' := 15) X16 hx (hb hby d30_13) rfl rfl ?_
  refine Ok.iload (pc' := 17) X16 hx (hb hby d30_15) rfl rfl ?_
  refine Ok.sipush (z := (255 : Int32)) (pc' := 20) X16 hx (hb hby d30_17) rfl rfl ?_
  refine Ok.icY (pc' := 26) X16 hx (hb hby d30_20) (bt (ic_eq c1 (255 : Int32)).2.2.2.2.2 (show c1.toInt ≤ 255 from hc1.2)) (by decide) (by decide) ?_
  refine Ok.aloadN (pc' := 27) X16 hx (hb hby d30_26) rfl rfl rfl ?_
  refine Ok.iloadN (pc' := 28) X16 hx (hb hby d30_27) rfl rfl ?_
  refine Ok.iload (pc' := 30) X16 hx (hb hby d30_28) rfl rfl ?_
  refine Ok.i2b (pc' := 31) X16 hx (hb hby d30_30) rfl ?_
  refine Ok.stB (pc' := 32) (i := 1) X16 hx hZ e16 V16 ⟨by decide, by decide⟩ rfl (Nat.le_of_ble_eq_true rfl) (hb hby d30_31) rfl ?_
  intro T18 h18 X18 e18 W18 V18
  replace V_1 := V_1.other W18 ne_12
  replace V18 : Arv Z h18 a2 k2 .byte (2 : Int32) [(.int c0.toInt8.toInt32.toInt8.toInt32), (.int c1.toInt8.toInt32.toInt8.toInt32)] (.int (0 : Int32)) := V18
  have N18 := Fr.snoc X18 N16 g_a2
  have K18 : Keep h0 h18 [a2] := K16.wr W18 (Or.inl (List.mem_of_getElem? (i := 0) rfl))
  have Z19 : n0 ≤ h18.size := Nat.le_trans Z17 (Keep.of_wr W18).1
  refine Ok.iinc (z := (2 : Int32)) (l' := #[.val (.ref a1), .val (.int (2 : Int32)), .val (.ref a2), .val (.int (1 : Int32)), .val (.int (2 : Int32)), .val (.int (1 : Int32)), .val (.int c1)]) (pc' := 35) X18 hx (hb hby d30_32) rfl rfl rfl rfl ?_
  refine Ok.iinc (z := (2 : Int32)) (l' := #[.val (.ref a1), .val (.int (2 : Int32)), .val (.ref a2), .val (.int (2 : Int32)), .val (.int (2 : Int32)), .val (.int (1 : Int32)), .val (.int c1)]) (pc' := 38) X18 hx (hb hby d30_35) rfl rfl rfl rfl ?_
  refine Ok.iinc (z := (2 : Int32)) (l' := #[.val (.ref a1), .val (.int (2 : Int32)), .val (.ref a2), .val (.int (2 : Int32)), .val (.int (2 : Int32)), .val (.int (2 : Int32)), .val (.int c1)]) (pc' := 41) X18 hx (hb hby d30_38) rfl rfl rfl rfl ?_
  refine Ok.goto (pc' := 3) X18 hx (hb hby d30_41) (by decide) (by decide) ?_
  refine Ok.iload (pc' := 5) X18 hx (hb hby d30_3) rfl rfl ?_
  refine Ok.iload (pc' := 7) X18 hx (hb hby d30_5) rfl rfl ?_
  refine Ok.icY (pc' := 44) X18 hx (hb hby d30_7) (bt (ic_eq (2 : Int32) (2 : Int32)).2.2.2.1 (by decide)) (by decide) (by decide) ?_
  refine Ok.iload (pc' := 46) X18 hx (hb hby d30_44) rfl rfl ?_
  refine Ok.retI X18 hx hret hlk (Or.inl rfl) rfl (hb hby d30_46) (by decide) (by decide) ?_
  show Q30 Z a1 k1 a2 k2 c0 c1 h0 n0 _ T18.heap _
  rw [e18]
  exact ⟨rfl, N18, K18, V18⟩
theorem d31_0 : decode jdk_52_method_16_code 0 = .ok (.iload_n 2, 1) := by decide +kernel
theorem d31_1 : decode jdk_52_method_16_code 1 = .ok (.newarray .byte, 2) := by decide +kernel
theorem d31_3 : decode jdk_52_method_16_code 3 = .ok (.astore_n 3, 1) := by decide +kernel
theorem d31_4 : decode jdk_52_method_16_code 4 = .ok (.aload_n 0, 1) := by decide +kernel
theorem d31_5 : decode jdk_52_method_16_code 5 = .ok (.iload_n 1, 1) := by decide +kernel
theorem d31_6 : decode jdk_52_method_16_code 6 = .ok (.aload_n 3, 1) := by decide +kernel
theorem d31_7 : decode jdk_52_method_16_code 7 = .ok (.iconst 0, 1) := by decide +kernel
theorem d31_8 : decode jdk_52_method_16_code 8 = .ok (.iload_n 2, 1) := by decide +kernel
theorem d31_9 : decode jdk_52_method_16_code 9 = .ok (.invokestatic 115, 3) := by decide +kernel
theorem d31_12 : decode jdk_52_method_16_code 12 = .ok (.istore 4, 2) := by decide +kernel
theorem d31_14 : decode jdk_52_method_16_code 14 = .ok (.iload 4, 2) := by decide +kernel
theorem d31_16 : decode jdk_52_method_16_code 16 = .ok (.iload_n 2, 1) := by decide +kernel
theorem d31_17 : decode jdk_52_method_16_code 17 = .ok (.if_icmp .eq 40, 3) := by decide +kernel
theorem d31_20 : decode jdk_52_method_16_code 20 = .ok (.aload_n 0, 1) := by decide +kernel
theorem d31_21 : decode jdk_52_method_16_code 21 = .ok (.iload_n 1, 1) := by decide +kernel
theorem d31_22 : decode jdk_52_method_16_code 22 = .ok (.iload_n 2, 1) := by decide +kernel
theorem d31_23 : decode jdk_52_method_16_code 23 = .ok (.invokestatic 119, 3) := by decide +kernel
theorem d31_26 : decode jdk_52_method_16_code 26 = .ok (.astore 5, 2) := by decide +kernel
theorem d31_28 : decode jdk_52_method_16_code 28 = .ok (.aload 5, 2) := by decide +kernel
theorem d31_30 : decode jdk_52_method_16_code 30 = .ok (.iload 4, 2) := by decide +kernel
theorem d31_32 : decode jdk_52_method_16_code 32 = .ok (.invokestatic 71, 3) := by decide +kernel
theorem d31_35 : decode jdk_52_method_16_code 35 = .ok (.sipush 255, 3) := by decide +kernel
theorem d31_38 : decode jdk_52_method_16_code 38 = .ok (.if_icmp .gt 16, 3) := by decide +kernel
theorem d31_41 : decode jdk_52_method_16_code 41 = .ok (.aload 5, 2) := by decide +kernel
theorem d31_43 : decode jdk_52_method_16_code 43 = .ok (.iconst 0, 1) := by decide +kernel
theorem d31_44 : decode jdk_52_method_16_code 44 = .ok (.aload_n 3, 1) := by decide +kernel
theorem d31_45 : decode jdk_52_method_16_code 45 = .ok (.iconst 0, 1) := by decide +kernel
theorem d31_46 : decode jdk_52_method_16_code 46 = .ok (.iload_n 2, 1) := by decide +kernel
theorem d31_47 : decode jdk_52_method_16_code 47 = .ok (.invokestatic 123, 3) := by decide +kernel
theorem d31_50 : decode jdk_52_method_16_code 50 = .ok (.iload_n 2, 1) := by decide +kernel
theorem d31_51 : decode jdk_52_method_16_code 51 = .ok (.if_icmp .eq 6, 3) := by decide +kernel
theorem d31_54 : decode jdk_52_method_16_code 54 = .ok (.aload 5, 2) := by decide +kernel
theorem d31_56 : decode jdk_52_method_16_code 56 = .ok (.areturn, 1) := by decide +kernel
theorem d31_57 : decode jdk_52_method_16_code 57 = .ok (.aload_n 3, 1) := by decide +kernel
theorem d31_58 : decode jdk_52_method_16_code 58 = .ok (.areturn, 1) := by decide +kernel
theorem ef_31 (m : MethodId) (x0 : Addr) (x1 : Int32) (x2 : Int32) : entryFrame m #[(.ref x0), (.int x1), (.int x2)] 6 = mkF m 0 #[.val (.ref x0), .val (.int x1), .val (.int x2), .unset, .unset, .unset] [] := by first | (simp [entryFrame, mkF, argsToLocals, Value.category]; done) | rfl
def Q31 (Z : State) (a1 : Addr) (k1 : ClassId) (c0 : Int32) (c1 : Int32) (h0 : Heap) (n0 : Nat) (v : Option Value) (h : Heap) (L : List Loc) : Prop := ∃ (r : Addr) (kr : ClassId), v = some (.ref r) ∧ Fr n0 L ∧ Keep h0 h [] ∧ h0.size ≤ r ∧ Arv Z h r kr .byte (2 : Int32) [(.int c0.toInt8.toInt32.toInt8.toInt32), (.int c1.toInt8.toInt32.toInt8.toInt32)] (.int (0 : Int32))
set_option maxRecDepth 65536 in
set_option maxHeartbeats 40000000 in
theorem rm31 (l : Launch) (Z : State) (a0 : Array Value) (hw : ∀ d ∈ tables_1, d.before a0 Z = true) (a1 : Addr) (k1 : ClassId) (c0 : Int32) (c1 : Int32) (h0 : Heap) (n0 : Nat) (Z0 : n0 ≤ h0.size) (V_1 : Arv Z h0 a1 k1 .char (2 : Int32) [(.int c0), (.int c1)] (.int (0 : Int32))) (hc0 : 0 ≤ c0.toInt ∧ c0.toInt ≤ 255) (hc1 : 0 ≤ c1.toInt ∧ c1.toInt ≤ 255) :
    MetN l Z (⟨"java/lang/StringUTF16", "compress", "([CII)[B"⟩ : MethodName) jdk_52_method_16_code 6 (some (.array .byte)) [] ({ frames := 1, cells := 1, slots := 2, locals := 18 } : Room) #[(.ref a1), (.int (0 : Int32)), (.int (2 : Int32))] h0 (Q31 Z a1 k1 c0 c1 h0 n0) := by
  refine met_n (plainFor_of_name pn_1) (fun m => ef_31 m a1 (0 : Int32) (2 : Int32)) ?_
  intro p e s m below meth c s₁ X0 hx hby hml hZ hown hnm hret hlk e0
  replace hown : s.vm.findClass "java/lang/StringUTF16" = some m.cls := hown
  replace hnm : meth.name = "compress" := hnm
  replace hret : meth.sig.returnType = (some (.array .byte)) := hret
  have N0 := Fr.nil n0
  have K0 : Keep h0 h0 [] := Keep.refl _ _
  show Ok p e below _ _ s₁ (mkF m 0 #[.val (.ref a1), .val (.int (0 : Int32)), .val (.int (2 : Int32)), .unset, .unset, .unset] [])
  refine Ok.iloadN (pc' := 1) X0 hx (hb hby d31_0) rfl rfl ?_
  refine Ok.newP (pc' := 3) (cap := 2) X0 hx hZ (hw _ (List.mem_of_getElem? (i := 24) rfl)) rfl e0 (hb hby d31_1) rfl (by decide) (by decide) (by decide) (by decide) (by decide) ?_
  intro T20 h20 b20 kc20 g20 X20 e20 E20 V20
  have ne_a1_b20 : Nq a1 b20 := Nat.ne_of_lt (Nat.lt_of_lt_of_eq V_1.lt g20.symm)
  replace V_1 := V_1.ext E20
  have ge_b20 : n0 ≤ b20 := Nat.le_trans Z0 (Nat.le_of_eq g20.symm)
  have sz_b20 : h0.size ≤ b20 := Nat.le_trans K0.1 (Nat.le_of_eq g20.symm)
  have K20 : Keep h0 h20 [] := K0.ext E20
  have Z21 : n0 ≤ h20.size := Nat.le_trans Z0 E20.1
  replace V20 : Arv Z h20 b20 kc20 .byte (2 : Int32) [(.int (0 : Int32)), (.int (0 : Int32))] (.int (0 : Int32)) := V20.pad (pad_rep [] (.int (0 : Int32)) 2)
  show Ok p e below _ _ T20 (mkF m 3 #[.val (.ref a1), .val (.int (0 : Int32)), .val (.int (2 : Int32)), .unset, .unset, .unset] [(.ref b20)])
  refine Ok.astoreN (l' := #[.val (.ref a1), .val (.int (0 : Int32)), .val (.int (2 : Int32)), .val (.ref b20), .unset, .unset]) (pc' := 4) X20 hx (hb hby d31_3) rfl rfl rfl ?_
  refine Ok.aloadN (pc' := 5) X20 hx (hb hby d31_4) rfl rfl rfl ?_
  refine Ok.iloadN (pc' := 6) X20 hx (hb hby d31_5) rfl rfl ?_
  refine Ok.aloadN (pc' := 7) X20 hx (hb hby d31_6) rfl rfl rfl ?_
  refine Ok.iconst (z := (0 : Int32)) (pc' := 8) X20 hx (hb hby d31_7) rfl rfl ?_
  refine Ok.iloadN (pc' := 9) X20 hx (hb hby d31_8) rfl rfl ?_
  refine Ok.callS (pc' := 12) (W := 0)  (argsL := [(.ref a1), (.int (0 : Int32)), (.ref b20), (.int (0 : Int32)), (.int (2 : Int32))]) (rest := []) X20 hx hZ hown (rm30 l Z a0 hw a1 k1 b20 kc20 c0 c1 h20 n0 Z21 V_1 V20 ge_b20 ne_a1_b20 hc0 hc1) (hw _ (List.mem_of_getElem? (i := 25) rfl)) (hw _ (List.mem_of_getElem? (i := 26) rfl)) (hw _ (List.mem_of_getElem? (i := 22) rfl)) (hw _ (List.mem_of_getElem? (i := 27) rfl)) (by decide) e20 (by decide) (by decide) (by decide) (by decide) (lenOf pd_5 rfl) rfl rfl (Nat.le_of_eq rfl) (by rw [hml]; rfl) (hb hby d31_9) rfl ?_
  intro v22 T22 L22 X22 hQ22
  obtain ⟨rfl, Nq22, Kq22, V22⟩ := hQ22
  have N22 := Fr.app N0 Nq22
  replace V_1 := V_1.keep Kq22 (ninS ne_a1_b20 nin0)
  have K22' : Keep h0 T22.heap [] := K20.trans Kq22 (allS (Or.inr sz_b20) all0)
  have Z23 : n0 ≤ T22.heap.size := Nat.le_trans Z21 Kq22.1
  show Ok p e below _ _ T22 (mkF m 12 #[.val (.ref a1), .val (.int (0 : Int32)), .val (.int (2 : Int32)), .val (.ref b20), .unset, .unset] [(.int (2 : Int32))])
  refine Ok.istore (l' := #[.val (.ref a1), .val (.int (0 : Int32)), .val (.int (2 : Int32)), .val (.ref b20), .val (.int (2 : Int32)), .unset]) (pc' := 14) X22 hx (hb hby d31_12) rfl rfl ?_
  refine Ok.iload (pc' := 16) X22 hx (hb hby d31_14) rfl rfl ?_
  refine Ok.iloadN (pc' := 17) X22 hx (hb hby d31_16) rfl rfl ?_
  refine Ok.icY (pc' := 57) X22 hx (hb hby d31_17) (bt (ic_eq (2 : Int32) (2 : Int32)).1 (by decide)) (by decide) (by decide) ?_
  refine Ok.aloadN (pc' := 58) X22 hx (hb hby d31_57) rfl rfl rfl ?_
  refine Ok.retA X22 hx hret hlk rfl rfl rfl (hb hby d31_58) (by decide) (by decide) ?_
  show Q31 Z a1 k1 c0 c1 h0 n0 _ T22.heap _
  exact ⟨_, _, rfl, N22, K22', sz_b20, V22⟩
theorem d32_0 : decode jdk_52_method_15_code 0 = .ok (.iload_n 1, 1) := by decide +kernel
theorem d32_1 : decode jdk_52_method_15_code 1 = .ok (.aload_n 0, 1) := by decide +kernel
theorem d32_2 : decode jdk_52_method_15_code 2 = .ok (.arraylength, 1) := by decide +kernel
theorem d32_3 : decode jdk_52_method_15_code 3 = .ok (.isub, 1) := by decide +kernel
theorem d32_4 : decode jdk_52_method_15_code 4 = .ok (.bipush 31, 2) := by decide +kernel
theorem d32_6 : decode jdk_52_method_15_code 6 = .ok (.iushr, 1) := by decide +kernel
theorem d32_7 : decode jdk_52_method_15_code 7 = .ok (.i2b, 1) := by decide +kernel
theorem d32_8 : decode jdk_52_method_15_code 8 = .ok (.ireturn, 1) := by decide +kernel
theorem ef_32 (m : MethodId) (x0 : Addr) (x1 : Int32) : entryFrame m #[(.ref x0), (.int x1)] 2 = mkF m 0 #[.val (.ref x0), .val (.int x1)] [] := by first | (simp [entryFrame, mkF, argsToLocals, Value.category]; done) | rfl
def Q32 (Z : State) (a1 : Addr) (k1 : ClassId) (c0 : Int32) (c1 : Int32) (h0 : Heap) (n0 : Nat) (v : Option Value) (h : Heap) (L : List Loc) : Prop := v = some (.int (0 : Int32)) ∧ Fr n0 L ∧ h = h0
set_option maxRecDepth 65536 in
set_option maxHeartbeats 40000000 in
theorem rm32 (l : Launch) (Z : State) (a0 : Array Value) (hw : ∀ d ∈ tables_1, d.before a0 Z = true) (a1 : Addr) (k1 : ClassId) (c0 : Int32) (c1 : Int32) (h0 : Heap) (n0 : Nat) (Z0 : n0 ≤ h0.size) (V_1 : Arv Z h0 a1 k1 .byte (2 : Int32) [(.int c0.toInt8.toInt32.toInt8.toInt32), (.int c1.toInt8.toInt32.toInt8.toInt32)] (.int (0 : Int32))) :
    MetN l Z (⟨"java/lang/StringUTF16", "coderFromArrayLen", "([BI)B"⟩ : MethodName) jdk_52_method_15_code 2 (some .byte) [] ({ frames := 0, cells := 0, slots := 0, locals := 0 } : Room) #[(.ref a1), (.int (2 : Int32))] h0 (Q32 Z a1 k1 c0 c1 h0 n0) := by
  refine met_n (plainFor_of_name pn_1) (fun m => ef_32 m a1 (2 : Int32)) ?_
  intro p e s m below meth c s₁ X0 hx hby hml hZ hown hnm hret hlk e0
  replace hown : s.vm.findClass "java/lang/StringUTF16" = some m.cls := hown
  replace hnm : meth.name = "coderFromArrayLen" := hnm
  replace hret : meth.sig.returnType = (some .byte) := hret
  have N0 := Fr.nil n0
  have K0 : Keep h0 h0 [] := Keep.refl _ _
  show Ok p e below _ _ s₁ (mkF m 0 #[.val (.ref a1), .val (.int (2 : Int32))] [])
  refine Ok.iloadN (pc' := 1) X0 hx (hb hby d32_0) rfl rfl ?_
  refine Ok.aloadN (pc' := 2) X0 hx (hb hby d32_1) rfl rfl rfl ?_
  refine Ok.len (pc' := 3) X0 hx hZ e0 V_1 (hb hby d32_2) rfl ?_
  refine Ok.isub (pc' := 4) X0 hx (hb hby d32_3) rfl ?_
  refine Ok.bipush (z := (31 : Int32)) (pc' := 6) X0 hx (hb hby d32_4) rfl rfl ?_
  refine Ok.iushr (pc' := 7) X0 hx (hb hby d32_6) rfl ?_
  refine Ok.i2b (pc' := 8) X0 hx (hb hby d32_7) rfl ?_
  refine Ok.retI X0 hx hret hlk (Or.inr (Or.inr (Or.inl rfl))) rfl (hb hby d32_8) (by decide) (by decide) ?_
  show Q32 Z a1 k1 c0 c1 h0 n0 _ s₁.heap _
  rw [e0]
  exact ⟨rfl, N0, rfl⟩
theorem d33_0 : decode jdk_42_method_149_code 0 = .ok (.aload_n 0, 1) := by decide +kernel
theorem d33_1 : decode jdk_42_method_149_code 1 = .ok (.invokespecial 1, 3) := by decide +kernel
theorem d33_4 : decode jdk_42_method_149_code 4 = .ok (.iload_n 3, 1) := by decide +kernel
theorem d33_5 : decode jdk_42_method_149_code 5 = .ok (.ifCond .ne 22, 3) := by decide +kernel
theorem d33_8 : decode jdk_42_method_149_code 8 = .ok (.aload_n 0, 1) := by decide +kernel
theorem d33_9 : decode jdk_42_method_149_code 9 = .ok (.ldc 7, 2) := by decide +kernel
theorem d33_11 : decode jdk_42_method_149_code 11 = .ok (.getfield 9, 3) := by decide +kernel
theorem d33_14 : decode jdk_42_method_149_code 14 = .ok (.putfield 9, 3) := by decide +kernel
theorem d33_17 : decode jdk_42_method_149_code 17 = .ok (.aload_n 0, 1) := by decide +kernel
theorem d33_18 : decode jdk_42_method_149_code 18 = .ok (.ldc 7, 2) := by decide +kernel
theorem d33_20 : decode jdk_42_method_149_code 20 = .ok (.getfield 15, 3) := by decide +kernel
theorem d33_23 : decode jdk_42_method_149_code 23 = .ok (.putfield 15, 3) := by decide +kernel
theorem d33_26 : decode jdk_42_method_149_code 26 = .ok (.return_, 1) := by decide +kernel
theorem d33_27 : decode jdk_42_method_149_code 27 = .ok (.getstatic 38, 3) := by decide +kernel
theorem d33_30 : decode jdk_42_method_149_code 30 = .ok (.ifCond .eq 28, 3) := by decide +kernel
theorem d33_33 : decode jdk_42_method_149_code 33 = .ok (.aload_n 1, 1) := by decide +kernel
theorem d33_34 : decode jdk_42_method_149_code 34 = .ok (.iload_n 2, 1) := by decide +kernel
theorem d33_35 : decode jdk_42_method_149_code 35 = .ok (.iload_n 3, 1) := by decide +kernel
theorem d33_36 : decode jdk_42_method_149_code 36 = .ok (.invokestatic 177, 3) := by decide +kernel
theorem d33_39 : decode jdk_42_method_149_code 39 = .ok (.astore 5, 2) := by decide +kernel
theorem d33_41 : decode jdk_42_method_149_code 41 = .ok (.aload_n 0, 1) := by decide +kernel
theorem d33_42 : decode jdk_42_method_149_code 42 = .ok (.aload 5, 2) := by decide +kernel
theorem d33_44 : decode jdk_42_method_149_code 44 = .ok (.iload_n 3, 1) := by decide +kernel
theorem d33_45 : decode jdk_42_method_149_code 45 = .ok (.invokestatic 47, 3) := by decide +kernel
theorem d33_48 : decode jdk_42_method_149_code 48 = .ok (.putfield 15, 3) := by decide +kernel
theorem d33_51 : decode jdk_42_method_149_code 51 = .ok (.aload_n 0, 1) := by decide +kernel
theorem d33_52 : decode jdk_42_method_149_code 52 = .ok (.aload 5, 2) := by decide +kernel
theorem d33_54 : decode jdk_42_method_149_code 54 = .ok (.putfield 9, 3) := by decide +kernel
theorem d33_57 : decode jdk_42_method_149_code 57 = .ok (.return_, 1) := by decide +kernel
theorem d33_58 : decode jdk_42_method_149_code 58 = .ok (.aload_n 0, 1) := by decide +kernel
theorem d33_59 : decode jdk_42_method_149_code 59 = .ok (.iconst 1, 1) := by decide +kernel
theorem d33_60 : decode jdk_42_method_149_code 60 = .ok (.putfield 15, 3) := by decide +kernel
theorem d33_63 : decode jdk_42_method_149_code 63 = .ok (.aload_n 0, 1) := by decide +kernel
theorem d33_64 : decode jdk_42_method_149_code 64 = .ok (.aload_n 1, 1) := by decide +kernel
theorem d33_65 : decode jdk_42_method_149_code 65 = .ok (.iload_n 2, 1) := by decide +kernel
theorem d33_66 : decode jdk_42_method_149_code 66 = .ok (.iload_n 3, 1) := by decide +kernel
theorem d33_67 : decode jdk_42_method_149_code 67 = .ok (.invokestatic 180, 3) := by decide +kernel
theorem d33_70 : decode jdk_42_method_149_code 70 = .ok (.putfield 9, 3) := by decide +kernel
theorem d33_73 : decode jdk_42_method_149_code 73 = .ok (.return_, 1) := by decide +kernel
theorem ef_33 (m : MethodId) (x0 : Addr) (x1 : Addr) (x2 : Int32) (x3 : Int32) : entryFrame m #[(.ref x0), (.ref x1), (.int x2), (.int x3), .null] 6 = mkF m 0 #[.val (.ref x0), .val (.ref x1), .val (.int x2), .val (.int x3), .val .null, .unset] [] := by first | (simp [entryFrame, mkF, argsToLocals, Value.category]; done) | rfl
def Q33 (Z : State) (a1 : Addr) (a2 : Addr) (k2 : ClassId) (c0 : Int32) (c1 : Int32) (u_value : Value) (u_coder : Value) (cs0 : Int32) (h0 : Heap) (n0 : Nat) (v : Option Value) (h : Heap) (L : List Loc) : Prop := v = none ∧ Fr n0 L ∧ Keep h0 h [a1] ∧ Exa Z h a1 "java/lang/String" ∧ ∃ (r : Addr) (kr : ClassId), h0.size ≤ r ∧ Fld Z h a1 "java/lang/String" "value" "[B" (.ref r) ∧ Fld Z h a1 "java/lang/String" "coder" "B" (.int (0 : Int32)) ∧ Arv Z h r kr .byte (2 : Int32) [(.int c0.toInt8.toInt32.toInt8.toInt32), (.int c1.toInt8.toInt32.toInt8.toInt32)] (.int (0 : Int32))
set_option maxRecDepth 65536 in
set_option maxHeartbeats 40000000 in
theorem rm33 (l : Launch) (Z : State) (a0 : Array Value) (hw : ∀ d ∈ tables_1, d.before a0 Z = true) (a1 : Addr) (a2 : Addr) (k2 : ClassId) (c0 : Int32) (c1 : Int32) (u_value : Value) (u_coder : Value) (cs0 : Int32) (h0 : Heap) (n0 : Nat) (Z0 : n0 ≤ h0.size) (E_a1 : Exa Z h0 a1 "java/lang/String") (g_a1 : n0 ≤ a1) (F_value : Fld Z h0 a1 "java/lang/String" "value" "[B" u_value) (F_coder : Fld Z h0 a1 "java/lang/String" "coder" "B" u_coder) (V_2 : Arv Z h0 a2 k2 .char (2 : Int32) [(.int c0), (.int c1)] (.int (0 : Int32))) (hc0 : 0 ≤ c0.toInt ∧ c0.toInt ≤ 255) (hc1 : 0 ≤ c1.toInt ∧ c1.toInt ≤ 255) (O_0 : Old Z n0 h0) (S_cs : Sta Z Z.heap "java/lang/String" "COMPACT_STRINGS" "Z" (.int cs0)) (hcs : ¬ cs0.toInt = 0) :
    MetN l Z (⟨"java/lang/String", "<init>", "([CIILjava/lang/Void;)V"⟩ : MethodName) jdk_42_method_149_code 6 none [] ({ frames := 2, cells := 1, slots := 2, locals := 35 } : Room) #[(.ref a1), (.ref a2), (.int (0 : Int32)), (.int (2 : Int32)), .null] h0 (Q33 Z a1 a2 k2 c0 c1 u_value u_coder cs0 h0 n0) := by
  refine met_n (plainFor_of_name pn_0) (fun m => ef_33 m a1 a2 (0 : Int32) (2 : Int32)) ?_
  intro p e s m below meth c s₁ X0 hx hby hml hZ hown hnm hret hlk e0
  replace hown : s.vm.findClass "java/lang/String" = some m.cls := hown
  replace hnm : meth.name = "<init>" := hnm
  replace hret : meth.sig.returnType = none := hret
  have N0 := Fr.nil n0
  have K0 : Keep h0 h0 [a1] := Keep.refl _ _
  show Ok p e below _ _ s₁ (mkF m 0 #[.val (.ref a1), .val (.ref a2), .val (.int (0 : Int32)), .val (.int (2 : Int32)), .val .null, .unset] [])
  refine Ok.aloadN (pc' := 1) X0 hx (hb hby d33_0) rfl rfl rfl ?_
  refine Ok.initO (pc' := 4) (W := 0) X0 hx hZ hown (hw _ (List.mem_of_getElem? (i := 16) rfl)) (hw _ (List.mem_of_getElem? (i := 17) rfl)) (hw _ (List.mem_of_getElem? (i := 18) rfl)) e0 (by rw [hml]; rfl) (hb hby d33_1) rfl (by decide) (Nat.le_of_eq rfl) (by decide) ?_
  intro T24 X24 e24
  refine Ok.iloadN (pc' := 5) X24 hx (hb hby d33_4) rfl rfl ?_
  refine Ok.ifY (pc' := 27) X24 hx (hb hby d33_5) (bt (i0 .ne (2 : Int32) (ic_eq (2 : Int32) 0).2.1) (by decide)) (by decide) (by decide) ?_
  refine Ok.getS (pc' := 30) X24 hx hZ hown (host := "") (Or.inl (hw _ (List.mem_of_getElem? (i := 19) rfl))) Via.refl e24 (S_cs.ext O_0.2) (hb hby d33_27) rfl ?_
  intro T25 X25 e25
  refine Ok.ifN (pc' := 33) X25 hx (hb hby d33_30) (bf (i0 .eq cs0 (ic_eq cs0 0).1) (show ¬ (cs0.toInt = 0) from hcs)) rfl ?_
  refine Ok.aloadN (pc' := 34) X25 hx (hb hby d33_33) rfl rfl rfl ?_
  refine Ok.iloadN (pc' := 35) X25 hx (hb hby d33_34) rfl rfl ?_
  refine Ok.iloadN (pc' := 36) X25 hx (hb hby d33_35) rfl rfl ?_
  refine Ok.callS (pc' := 39) (W := 0)  (argsL := [(.ref a2), (.int (0 : Int32)), (.int (2 : Int32))]) (rest := []) X25 hx hZ hown (rm31 l Z a0 hw a2 k2 c0 c1 h0 n0 Z0 V_2 hc0 hc1) (hw _ (List.mem_of_getElem? (i := 20) rfl)) (hw _ (List.mem_of_getElem? (i := 21) rfl)) (hw _ (List.mem_of_getElem? (i := 22) rfl)) (hw _ (List.mem_of_getElem? (i := 23) rfl)) (by decide) e25 (by decide) (by decide) (by decide) (by decide) (lenOf pd_4 rfl) rfl rfl (Nat.le_of_eq rfl) (by rw [hml]; rfl) (hb hby d33_36) rfl ?_
  intro v26 T26 L26 X26 hQ26
  obtain ⟨r26, kr26, rfl, Nq26, Kq26, hr26, V26⟩ := hQ26
  have ne_a1_r26 : Nq a1 r26 := Nat.ne_of_lt (Nat.lt_of_lt_of_le E_a1.lt hr26)
  have ge_r26 : n0 ≤ r26 := Nat.le_trans Z0 hr26
  have sz_r26 : h0.size ≤ r26 := Nat.le_trans K0.1 hr26
  have N26 := Fr.app N0 Nq26
  replace E_a1 := E_a1.keep Kq26
  replace O_0 := O_0.keep Kq26 all0
  replace F_value := F_value.keep Kq26 nin0
  replace F_coder := F_coder.keep Kq26 nin0
  have K26' : Keep h0 T26.heap [a1] := K0.trans Kq26 all0
  have Z27 : n0 ≤ T26.heap.size := Nat.le_trans Z0 Kq26.1
  show Ok p e below _ _ T26 (mkF m 39 #[.val (.ref a1), .val (.ref a2), .val (.int (0 : Int32)), .val (.int (2 : Int32)), .val .null, .unset] [(.ref r26)])
  refine Ok.astore (l' := #[.val (.ref a1), .val (.ref a2), .val (.int (0 : Int32)), .val (.int (2 : Int32)), .val .null, .val (.ref r26)]) (pc' := 41) X26 hx (hb hby d33_39) rfl rfl rfl ?_
  refine Ok.aloadN (pc' := 42) X26 hx (hb hby d33_41) rfl rfl rfl ?_
  refine Ok.aload (pc' := 44) X26 hx (hb hby d33_42) rfl rfl rfl ?_
  refine Ok.iloadN (pc' := 45) X26 hx (hb hby d33_44) rfl rfl ?_
  refine Ok.callS (pc' := 48) (W := 1)  (argsL := [(.ref r26), (.int (2 : Int32))]) (rest := [(.ref a1)]) X26 hx hZ hown (rm32 l Z a0 hw r26 kr26 c0 c1 T26.heap n0 Z27 V26) (hw _ (List.mem_of_getElem? (i := 28) rfl)) (hw _ (List.mem_of_getElem? (i := 29) rfl)) (hw _ (List.mem_of_getElem? (i := 22) rfl)) (hw _ (List.mem_of_getElem? (i := 30) rfl)) (by decide) rfl (by decide) (by decide) (by decide) (by decide) (lenOf pd_6 rfl) rfl rfl (Nat.le_of_eq rfl) (by rw [hml]; rfl) (hb hby d33_45) rfl ?_
  intro v28 T28 L28 X28 hQ28
  obtain ⟨rfl, Nq28, eq28⟩ := hQ28
  have N28 := Fr.app N26 Nq28
  show Ok p e below _ _ T28 (mkF m 48 #[.val (.ref a1), .val (.ref a2), .val (.int (0 : Int32)), .val (.int (2 : Int32)), .val .null, .val (.ref r26)] [(.int (0 : Int32)), (.ref a1)])
  refine Ok.putF (pc' := 51) (ty := .byte) X28 hx hZ hown (host := "") (Or.inl (hw _ (List.mem_of_getElem? (i := 31) rfl))) Via.refl eq28 F_coder E_a1 (Or.inr ⟨(hw _ (List.mem_of_getElem? (i := 32) rfl)), rfl, hnm⟩) (hw _ (List.mem_of_getElem? (i := 7) rfl)) (by decide) rfl rfl (hb hby d33_48) rfl ?_
  intro T29 h29 X29 e29 W29
  replace F_coder := F_coder.same W29
  replace E_a1 := E_a1.wr W29
  replace O_0 := O_0.wr W29 g_a1
  replace F_value := F_value.other W29 (Or.inr (slot_ne (Or.inr (hw _ (List.mem_of_getElem? (i := 34) rfl))) (Or.inr (hw _ (List.mem_of_getElem? (i := 32) rfl))) (by decide) (t := (.array .byte)) (t' := .byte) (by decide) (by decide)))
  replace V26 := V26.other W29 (Ne.symm ne_a1_r26)
  have N29 := Fr.snoc X29 N28 g_a1
  have K29 : Keep h0 h29 [a1] := K26'.wr W29 (Or.inl (List.mem_of_getElem? (i := 0) rfl))
  have Z30 : n0 ≤ h29.size := Nat.le_trans Z27 (Keep.of_wr W29).1
  refine Ok.aloadN (pc' := 52) X29 hx (hb hby d33_51) rfl rfl rfl ?_
  refine Ok.aload (pc' := 54) X29 hx (hb hby d33_52) rfl rfl rfl ?_
  refine Ok.putF (pc' := 57) (ty := (.array .byte)) X29 hx hZ hown (host := "") (Or.inl (hw _ (List.mem_of_getElem? (i := 33) rfl))) Via.refl e29 F_value E_a1 (Or.inr ⟨(hw _ (List.mem_of_getElem? (i := 34) rfl)), rfl, hnm⟩) (hw _ (List.mem_of_getElem? (i := 7) rfl)) (by decide) rfl rfl (hb hby d33_54) rfl ?_
  intro T31 h31 X31 e31 W31
  replace F_value := F_value.same W31
  replace E_a1 := E_a1.wr W31
  replace O_0 := O_0.wr W31 g_a1
  replace V26 := V26.other W31 (Ne.symm ne_a1_r26)
  replace F_coder := F_coder.other W31 (Or.inr (slot_ne (Or.inr (hw _ (List.mem_of_getElem? (i := 32) rfl))) (Or.inr (hw _ (List.mem_of_getElem? (i := 34) rfl))) (by decide) (t := .byte) (t' := (.array .byte)) (by decide) (by decide)))
  have N31 := Fr.snoc X31 N29 g_a1
  have K31 : Keep h0 h31 [a1] := K29.wr W31 (Or.inl (List.mem_of_getElem? (i := 0) rfl))
  have Z32 : n0 ≤ h31.size := Nat.le_trans Z30 (Keep.of_wr W31).1
  refine Ok.retV X31 hx hret hlk (hb hby d33_57) (by decide) (by decide) ?_
  show Q33 Z a1 a2 k2 c0 c1 u_value u_coder cs0 h0 n0 _ T31.heap _
  rw [e31]
  exact ⟨rfl, N31, K31, E_a1, r26, _, sz_r26, F_value, F_coder, V26⟩
theorem d34_0 : decode jdk_42_method_3_code 0 = .ok (.aload_n 0, 1) := by decide +kernel
theorem d34_1 : decode jdk_42_method_3_code 1 = .ok (.aload_n 1, 1) := by decide +kernel
theorem d34_2 : decode jdk_42_method_3_code 2 = .ok (.iconst 0, 1) := by decide +kernel
theorem d34_3 : decode jdk_42_method_3_code 3 = .ok (.aload_n 1, 1) := by decide +kernel
theorem d34_4 : decode jdk_42_method_3_code 4 = .ok (.arraylength, 1) := by decide +kernel
theorem d34_5 : decode jdk_42_method_3_code 5 = .ok (.aconst_null, 1) := by decide +kernel
theorem d34_6 : decode jdk_42_method_3_code 6 = .ok (.invokespecial 27, 3) := by decide +kernel
theorem d34_9 : decode jdk_42_method_3_code 9 = .ok (.return_, 1) := by decide +kernel
theorem ef_34 (m : MethodId) (x0 : Addr) (x1 : Addr) : entryFrame m #[(.ref x0), (.ref x1)] 2 = mkF m 0 #[.val (.ref x0), .val (.ref x1)] [] := by first | (simp [entryFrame, mkF, argsToLocals, Value.category]; done) | rfl
def Q34 (Z : State) (a1 : Addr) (a2 : Addr) (k2 : ClassId) (c0 : Int32) (c1 : Int32) (u_value : Value) (u_coder : Value) (cs0 : Int32) (h0 : Heap) (n0 : Nat) (v : Option Value) (h : Heap) (L : List Loc) : Prop := v = none ∧ Fr n0 L ∧ Keep h0 h [a1] ∧ Exa Z h a1 "java/lang/String" ∧ ∃ (r : Addr) (kr : ClassId), h0.size ≤ r ∧ Fld Z h a1 "java/lang/String" "value" "[B" (.ref r) ∧ Fld Z h a1 "java/lang/String" "coder" "B" (.int (0 : Int32)) ∧ Arv Z h r kr .byte (2 : Int32) [(.int c0.toInt8.toInt32.toInt8.toInt32), (.int c1.toInt8.toInt32.toInt8.toInt32)] (.int (0 : Int32))
set_option maxRecDepth 65536 in
set_option maxHeartbeats 40000000 in
theorem rm34 (l : Launch) (Z : State) (a0 : Array Value) (hw : ∀ d ∈ tables_1, d.before a0 Z = true) (a1 : Addr) (a2 : Addr) (k2 : ClassId) (c0 : Int32) (c1 : Int32) (u_value : Value) (u_coder : Value) (cs0 : Int32) (h0 : Heap) (n0 : Nat) (Z0 : n0 ≤ h0.size) (E_a1 : Exa Z h0 a1 "java/lang/String") (g_a1 : n0 ≤ a1) (F_value : Fld Z h0 a1 "java/lang/String" "value" "[B" u_value) (F_coder : Fld Z h0 a1 "java/lang/String" "coder" "B" u_coder) (V_2 : Arv Z h0 a2 k2 .char (2 : Int32) [(.int c0), (.int c1)] (.int (0 : Int32))) (hc0 : 0 ≤ c0.toInt ∧ c0.toInt ≤ 255) (hc1 : 0 ≤ c1.toInt ∧ c1.toInt ≤ 255) (O_0 : Old Z n0 h0) (S_cs : Sta Z Z.heap "java/lang/String" "COMPACT_STRINGS" "Z" (.int cs0)) (hcs : ¬ cs0.toInt = 0) :
    MetN l Z (⟨"java/lang/String", "<init>", "([C)V"⟩ : MethodName) jdk_42_method_3_code 2 none [] ({ frames := 3, cells := 1, slots := 2, locals := 52 } : Room) #[(.ref a1), (.ref a2)] h0 (Q34 Z a1 a2 k2 c0 c1 u_value u_coder cs0 h0 n0) := by
  refine met_n (plainFor_of_name pn_0) (fun m => ef_34 m a1 a2) ?_
  intro p e s m below meth c s₁ X0 hx hby hml hZ hown hnm hret hlk e0
  replace hown : s.vm.findClass "java/lang/String" = some m.cls := hown
  replace hnm : meth.name = "<init>" := hnm
  replace hret : meth.sig.returnType = none := hret
  have N0 := Fr.nil n0
  have K0 : Keep h0 h0 [a1] := Keep.refl _ _
  show Ok p e below _ _ s₁ (mkF m 0 #[.val (.ref a1), .val (.ref a2)] [])
  refine Ok.aloadN (pc' := 1) X0 hx (hb hby d34_0) rfl rfl rfl ?_
  refine Ok.aloadN (pc' := 2) X0 hx (hb hby d34_1) rfl rfl rfl ?_
  refine Ok.iconst (z := (0 : Int32)) (pc' := 3) X0 hx (hb hby d34_2) rfl rfl ?_
  refine Ok.aloadN (pc' := 4) X0 hx (hb hby d34_3) rfl rfl rfl ?_
  refine Ok.len (pc' := 5) X0 hx hZ e0 V_2 (hb hby d34_4) rfl ?_
  refine Ok.aconstNull (pc' := 6) X0 hx (hb hby d34_5) rfl ?_
  refine Ok.init (pc' := 9) (W := 0) (a := a1)  (argsL := [(.ref a2), (.int (0 : Int32)), (.int (2 : Int32)), .null]) (rest := []) X0 hx hZ hown (rm33 l Z a0 hw a1 a2 k2 c0 c1 u_value u_coder cs0 h0 n0 Z0 E_a1 g_a1 F_value F_coder V_2 hc0 hc1 O_0 S_cs hcs) rfl (hw _ (List.mem_of_getElem? (i := 12) rfl)) (hw _ (List.mem_of_getElem? (i := 13) rfl)) (hw _ (List.mem_of_getElem? (i := 8) rfl)) (hw _ (List.mem_of_getElem? (i := 15) rfl)) (by decide) e0 (by decide) (by decide) (by decide) (by decide) (lenOf pd_2 rfl) rfl rfl (Nat.le_of_eq rfl) (by rw [hml]; rfl) (hb hby d34_6) rfl ?_
  intro v33 T33 L33 X33 hQ33
  obtain ⟨rfl, Nq33, Kq33, Aq33, hx33⟩ := hQ33
  have N33 := Fr.app N0 Nq33
  replace E_a1 := E_a1.keep Kq33
  replace O_0 := O_0.keep Kq33 (allS g_a1 all0)
  have K33' : Keep h0 T33.heap [a1] := K0.trans Kq33 (allS (Or.inl (List.mem_of_getElem? (i := 0) rfl)) all0)
  have Z34 : n0 ≤ T33.heap.size := Nat.le_trans Z0 Kq33.1
  show Ok p e below _ _ T33 (mkF m 9 #[.val (.ref a1), .val (.ref a2)] [])
  refine Ok.retV X33 hx hret hlk (hb hby d34_9) (by decide) (by decide) ?_
  show Q34 Z a1 a2 k2 c0 c1 u_value u_coder cs0 h0 n0 _ T33.heap _
  exact ⟨rfl, N33, K33', E_a1, hx33⟩
theorem d40_0 : decode jdk_43_method_3_code 0 = .ok (.iload_n 0, 1) := by decide +kernel
theorem d40_1 : decode jdk_43_method_3_code 1 = .ok (.sipush 255, 3) := by decide +kernel
theorem d40_4 : decode jdk_43_method_3_code 4 = .ok (.if_icmp .gt 7, 3) := by decide +kernel
theorem d40_7 : decode jdk_43_method_3_code 7 = .ok (.iconst 1, 1) := by decide +kernel
theorem d40_8 : decode jdk_43_method_3_code 8 = .ok (.goto 4, 3) := by decide +kernel
theorem d40_11 : decode jdk_43_method_3_code 11 = .ok (.iconst 0, 1) := by decide +kernel
theorem d40_12 : decode jdk_43_method_3_code 12 = .ok (.ireturn, 1) := by decide +kernel
theorem pn_2 : plainName "java/lang/StringLatin1" = true := by first | (simp [plainName, overriddenIn]; done) | decide +kernel
theorem ef_40 (m : MethodId) (x0 : Int32) : entryFrame m #[(.int x0)] 1 = mkF m 0 #[.val (.int x0)] [] := by first | (simp [entryFrame, mkF, argsToLocals, Value.category]; done) | rfl
def Q40 (Z : State) (p1 : Int32) (h0 : Heap) (n0 : Nat) (v : Option Value) (h : Heap) (L : List Loc) : Prop := ∃ b : Int32, v = some (.int b) ∧ (b.toInt = 1 ∧ (p1.toInt ≤ 255) ∨ b.toInt = 0 ∧ ¬ (p1.toInt ≤ 255)) ∧ Fr n0 L ∧ h = h0
set_option maxRecDepth 65536 in
set_option maxHeartbeats 40000000 in
theorem rm40 (l : Launch) (Z : State) (a0 : Array Value) (hw : ∀ d ∈ tables_1, d.before a0 Z = true) (p1 : Int32) (h0 : Heap) (n0 : Nat) (Z0 : n0 ≤ h0.size)  :
    MetN l Z (⟨"java/lang/StringLatin1", "canEncode", "(C)Z"⟩ : MethodName) jdk_43_method_3_code 1 (some .boolean) [] ({ frames := 0, cells := 0, slots := 0, locals := 0 } : Room) #[(.int p1)] h0 (Q40 Z p1 h0 n0) := by
  refine met_n (plainFor_of_name pn_2) (fun m => ef_40 m p1) ?_
  intro p e s m below meth c s₁ X0 hx hby hml hZ hown hnm hret hlk e0
  replace hown : s.vm.findClass "java/lang/StringLatin1" = some m.cls := hown
  replace hnm : meth.name = "canEncode" := hnm
  replace hret : meth.sig.returnType = (some .boolean) := hret
  have N0 := Fr.nil n0
  have K0 : Keep h0 h0 [] := Keep.refl _ _
  show Ok p e below _ _ s₁ (mkF m 0 #[.val (.int p1)] [])
  refine Ok.iloadN (pc' := 1) X0 hx (hb hby d40_0) rfl rfl ?_
  refine Ok.sipush (z := (255 : Int32)) (pc' := 4) X0 hx (hb hby d40_1) rfl rfl ?_
  by_cases hc4 : 255 < p1.toInt
  · refine Ok.icY (pc' := 11) X0 hx (hb hby d40_4) (bt (ic_eq p1 (255 : Int32)).2.2.2.2.1 hc4) (by decide) (by decide) ?_
    refine Ok.iconst (z := (0 : Int32)) (pc' := 12) X0 hx (hb hby d40_11) rfl rfl ?_
    refine Ok.retI X0 hx hret hlk (Or.inr (Or.inl rfl)) rfl (hb hby d40_12) (by decide) (by decide) ?_
    show Q40 Z p1 h0 n0 _ s₁.heap _
    rw [e0]
    exact ⟨(0 : Int32), rfl, by rw [show ((0 : Int32)).toInt = 0 from rfl]; omega, N0, rfl⟩
  · refine Ok.icN (pc' := 7) X0 hx (hb hby d40_4) (bf (ic_eq p1 (255 : Int32)).2.2.2.2.1 hc4) rfl ?_
    refine Ok.iconst (z := (1 : Int32)) (pc' := 8) X0 hx (hb hby d40_7) rfl rfl ?_
    refine Ok.goto (pc' := 12) X0 hx (hb hby d40_8) (by decide) (by decide) ?_
    refine Ok.retI X0 hx hret hlk (Or.inr (Or.inl rfl)) rfl (hb hby d40_12) (by decide) (by decide) ?_
    show Q40 Z p1 h0 n0 _ s₁.heap _
    rw [e0]
    exact ⟨(1 : Int32), rfl, by rw [show ((1 : Int32)).toInt = 1 from rfl]; omega, N0, rfl⟩
theorem d41_0 : decode jdk_43_method_46_code 0 = .ok (.iconst 1, 1) := by decide +kernel
theorem d41_1 : decode jdk_43_method_46_code 1 = .ok (.newarray .byte, 2) := by decide +kernel
theorem d41_3 : decode jdk_43_method_46_code 3 = .ok (.dup, 1) := by decide +kernel
theorem d41_4 : decode jdk_43_method_46_code 4 = .ok (.iconst 0, 1) := by decide +kernel
theorem d41_5 : decode jdk_43_method_46_code 5 = .ok (.iload_n 0, 1) := by decide +kernel
theorem d41_6 : decode jdk_43_method_46_code 6 = .ok (.i2b, 1) := by decide +kernel
theorem d41_7 : decode jdk_43_method_46_code 7 = .ok (.bastore, 1) := by decide +kernel
theorem d41_8 : decode jdk_43_method_46_code 8 = .ok (.areturn, 1) := by decide +kernel
theorem ef_41 (m : MethodId) (x0 : Int32) : entryFrame m #[(.int x0)] 1 = mkF m 0 #[.val (.int x0)] [] := by first | (simp [entryFrame, mkF, argsToLocals, Value.category]; done) | rfl
def Q41 (Z : State) (p1 : Int32) (h0 : Heap) (n0 : Nat) (v : Option Value) (h : Heap) (L : List Loc) : Prop := ∃ (r : Addr) (kr : ClassId), v = some (.ref r) ∧ Fr n0 L ∧ Keep h0 h [] ∧ h0.size ≤ r ∧ Arv Z h r kr .byte (1 : Int32) [(.int p1.toInt8.toInt32.toInt8.toInt32)] (.int (0 : Int32))
set_option maxRecDepth 65536 in
set_option maxHeartbeats 40000000 in
theorem rm41 (l : Launch) (Z : State) (a0 : Array Value) (hw : ∀ d ∈ tables_1, d.before a0 Z = true) (p1 : Int32) (h0 : Heap) (n0 : Nat) (Z0 : n0 ≤ h0.size)  :
    MetN l Z (⟨"java/lang/StringLatin1", "toBytes", "(C)[B"⟩ : MethodName) jdk_43_method_46_code 1 (some (.array .byte)) [] ({ frames := 0, cells := 1, slots := 1, locals := 0 } : Room) #[(.int p1)] h0 (Q41 Z p1 h0 n0) := by
  refine met_n (plainFor_of_name pn_2) (fun m => ef_41 m p1) ?_
  intro p e s m below meth c s₁ X0 hx hby hml hZ hown hnm hret hlk e0
  replace hown : s.vm.findClass "java/lang/StringLatin1" = some m.cls := hown
  replace hnm : meth.name = "toBytes" := hnm
  replace hret : meth.sig.returnType = (some (.array .byte)) := hret
  have N0 := Fr.nil n0
  have K0 : Keep h0 h0 [] := Keep.refl _ _
  show Ok p e below _ _ s₁ (mkF m 0 #[.val (.int p1)] [])
  refine Ok.iconst (z := (1 : Int32)) (pc' := 1) X0 hx (hb hby d41_0) rfl rfl ?_
  refine Ok.newP (pc' := 3) (cap := 1) X0 hx hZ (hw _ (List.mem_of_getElem? (i := 24) rfl)) rfl e0 (hb hby d41_1) rfl (by decide) (by decide) (by decide) (by decide) (by decide) ?_
  intro T35 h35 b35 kc35 g35 X35 e35 E35 V35
  have ge_b35 : n0 ≤ b35 := Nat.le_trans Z0 (Nat.le_of_eq g35.symm)
  have sz_b35 : h0.size ≤ b35 := Nat.le_trans K0.1 (Nat.le_of_eq g35.symm)
  have K35 : Keep h0 h35 [] := K0.ext E35
  have Z36 : n0 ≤ h35.size := Nat.le_trans Z0 E35.1
  replace V35 : Arv Z h35 b35 kc35 .byte (1 : Int32) [(.int (0 : Int32))] (.int (0 : Int32)) := V35.pad (pad_rep [] (.int (0 : Int32)) 1)
  show Ok p e below _ _ T35 (mkF m 3 #[.val (.int p1)] [(.ref b35)])
  refine Ok.dup (pc' := 4) X35 hx (hb hby d41_3) rfl rfl ?_
  refine Ok.iconst (z := (0 : Int32)) (pc' := 5) X35 hx (hb hby d41_4) rfl rfl ?_
  refine Ok.iloadN (pc' := 6) X35 hx (hb hby d41_5) rfl rfl ?_
  refine Ok.i2b (pc' := 7) X35 hx (hb hby d41_6) rfl ?_
  refine Ok.stB (pc' := 8) (i := 0) X35 hx hZ e35 V35 ⟨by decide, by decide⟩ rfl (Nat.le_of_ble_eq_true rfl) (hb hby d41_7) rfl ?_
  intro T37 h37 X37 e37 W37 V37
  replace V37 : Arv Z h37 b35 kc35 .byte (1 : Int32) [(.int p1.toInt8.toInt32.toInt8.toInt32)] (.int (0 : Int32)) := V37
  have N37 := Fr.snoc X37 N0 ge_b35
  have K37 : Keep h0 h37 [] := K35.wr W37 (Or.inr sz_b35)
  have Z38 : n0 ≤ h37.size := Nat.le_trans Z36 (Keep.of_wr W37).1
  refine Ok.retA X37 hx hret hlk rfl rfl rfl (hb hby d41_8) (by decide) (by decide) ?_
  show Q41 Z p1 h0 n0 _ T37.heap _
  rw [e37]
  exact ⟨_, _, rfl, N37, K37, sz_b35, V37⟩
theorem d42_0 : decode jdk_42_method_151_code 0 = .ok (.aload_n 0, 1) := by decide +kernel
theorem d42_1 : decode jdk_42_method_151_code 1 = .ok (.invokespecial 1, 3) := by decide +kernel
theorem d42_4 : decode jdk_42_method_151_code 4 = .ok (.aload_n 0, 1) := by decide +kernel
theorem d42_5 : decode jdk_42_method_151_code 5 = .ok (.aload_n 1, 1) := by decide +kernel
theorem d42_6 : decode jdk_42_method_151_code 6 = .ok (.putfield 9, 3) := by decide +kernel
theorem d42_9 : decode jdk_42_method_151_code 9 = .ok (.aload_n 0, 1) := by decide +kernel
theorem d42_10 : decode jdk_42_method_151_code 10 = .ok (.iload_n 2, 1) := by decide +kernel
theorem d42_11 : decode jdk_42_method_151_code 11 = .ok (.putfield 15, 3) := by decide +kernel
theorem d42_14 : decode jdk_42_method_151_code 14 = .ok (.return_, 1) := by decide +kernel
theorem ef_42 (m : MethodId) (x0 : Addr) (x1 : Addr) (x2 : Int32) : entryFrame m #[(.ref x0), (.ref x1), (.int x2)] 3 = mkF m 0 #[.val (.ref x0), .val (.ref x1), .val (.int x2)] [] := by first | (simp [entryFrame, mkF, argsToLocals, Value.category]; done) | rfl
def Q42 (Z : State) (a1 : Addr) (q2 : Addr) (u_value : Value) (u_coder : Value) (h0 : Heap) (n0 : Nat) (v : Option Value) (h : Heap) (L : List Loc) : Prop := v = none ∧ Fr n0 L ∧ Keep h0 h [a1] ∧ Exa Z h a1 "java/lang/String" ∧ Fld Z h a1 "java/lang/String" "value" "[B" (.ref q2) ∧ Fld Z h a1 "java/lang/String" "coder" "B" (.int (0 : Int32))
set_option maxRecDepth 65536 in
set_option maxHeartbeats 40000000 in
theorem rm42 (l : Launch) (Z : State) (a0 : Array Value) (hw : ∀ d ∈ tables_1, d.before a0 Z = true) (a1 : Addr) (q2 : Addr) (u_value : Value) (u_coder : Value) (h0 : Heap) (n0 : Nat) (Z0 : n0 ≤ h0.size) (E_a1 : Exa Z h0 a1 "java/lang/String") (g_a1 : n0 ≤ a1) (F_value : Fld Z h0 a1 "java/lang/String" "value" "[B" u_value) (F_coder : Fld Z h0 a1 "java/lang/String" "coder" "B" u_coder) :
    MetN l Z (⟨"java/lang/String", "<init>", "([BB)V"⟩ : MethodName) jdk_42_method_151_code 3 none [] ({ frames := 1, cells := 0, slots := 0, locals := 12 } : Room) #[(.ref a1), (.ref q2), (.int (0 : Int32))] h0 (Q42 Z a1 q2 u_value u_coder h0 n0) := by
  refine met_n (plainFor_of_name pn_0) (fun m => ef_42 m a1 q2 (0 : Int32)) ?_
  intro p e s m below meth c s₁ X0 hx hby hml hZ hown hnm hret hlk e0
  replace hown : s.vm.findClass "java/lang/String" = some m.cls := hown
  replace hnm : meth.name = "<init>" := hnm
  replace hret : meth.sig.returnType = none := hret
  have N0 := Fr.nil n0
  have K0 : Keep h0 h0 [a1] := Keep.refl _ _
  show Ok p e below _ _ s₁ (mkF m 0 #[.val (.ref a1), .val (.ref q2), .val (.int (0 : Int32))] [])
  refine Ok.aloadN (pc' := 1) X0 hx (hb hby d42_0) rfl rfl rfl ?_
  refine Ok.initO (pc' := 4) (W := 0) X0 hx hZ hown (hw _ (List.mem_of_getElem? (i := 16) rfl)) (hw _ (List.mem_of_getElem? (i := 17) rfl)) (hw _ (List.mem_of_getElem? (i := 18) rfl)) e0 (by rw [hml]; rfl) (hb hby d42_1) rfl (by decide) (Nat.le_of_eq rfl) (by decide) ?_
  intro T39 X39 e39
  refine Ok.aloadN (pc' := 5) X39 hx (hb hby d42_4) rfl rfl rfl ?_
  refine Ok.aloadN (pc' := 6) X39 hx (hb hby d42_5) rfl rfl rfl ?_
  refine Ok.putF (pc' := 9) (ty := (.array .byte)) X39 hx hZ hown (host := "") (Or.inl (hw _ (List.mem_of_getElem? (i := 33) rfl))) Via.refl e39 F_value E_a1 (Or.inr ⟨(hw _ (List.mem_of_getElem? (i := 34) rfl)), rfl, hnm⟩) (hw _ (List.mem_of_getElem? (i := 7) rfl)) (by decide) rfl rfl (hb hby d42_6) rfl ?_
  intro T40 h40 X40 e40 W40
  replace F_value := F_value.same W40
  replace E_a1 := E_a1.wr W40
  replace F_coder := F_coder.other W40 (Or.inr (slot_ne (Or.inr (hw _ (List.mem_of_getElem? (i := 32) rfl))) (Or.inr (hw _ (List.mem_of_getElem? (i := 34) rfl))) (by decide) (t := .byte) (t' := (.array .byte)) (by decide) (by decide)))
  have N40 := Fr.snoc X40 N0 g_a1
  have K40 : Keep h0 h40 [a1] := K0.wr W40 (Or.inl (List.mem_of_getElem? (i := 0) rfl))
  have Z41 : n0 ≤ h40.size := Nat.le_trans Z0 (Keep.of_wr W40).1
  refine Ok.aloadN (pc' := 10) X40 hx (hb hby d42_9) rfl rfl rfl ?_
  refine Ok.iloadN (pc' := 11) X40 hx (hb hby d42_10) rfl rfl ?_
  refine Ok.putF (pc' := 14) (ty := .byte) X40 hx hZ hown (host := "") (Or.inl (hw _ (List.mem_of_getElem? (i := 31) rfl))) Via.refl e40 F_coder E_a1 (Or.inr ⟨(hw _ (List.mem_of_getElem? (i := 32) rfl)), rfl, hnm⟩) (hw _ (List.mem_of_getElem? (i := 7) rfl)) (by decide) rfl rfl (hb hby d42_11) rfl ?_
  intro T42 h42 X42 e42 W42
  replace F_coder := F_coder.same W42
  replace E_a1 := E_a1.wr W42
  replace F_value := F_value.other W42 (Or.inr (slot_ne (Or.inr (hw _ (List.mem_of_getElem? (i := 34) rfl))) (Or.inr (hw _ (List.mem_of_getElem? (i := 32) rfl))) (by decide) (t := (.array .byte)) (t' := .byte) (by decide) (by decide)))
  have N42 := Fr.snoc X42 N40 g_a1
  have K42 : Keep h0 h42 [a1] := K40.wr W42 (Or.inl (List.mem_of_getElem? (i := 0) rfl))
  have Z43 : n0 ≤ h42.size := Nat.le_trans Z41 (Keep.of_wr W42).1
  refine Ok.retV X42 hx hret hlk (hb hby d42_14) (by decide) (by decide) ?_
  show Q42 Z a1 q2 u_value u_coder h0 n0 _ T42.heap _
  rw [e42]
  exact ⟨rfl, N42, K42, E_a1, F_value, F_coder⟩
theorem d43_0 : decode jdk_42_method_139_code 0 = .ok (.getstatic 38, 3) := by decide +kernel
theorem d43_3 : decode jdk_42_method_139_code 3 = .ok (.ifCond .eq 23, 3) := by decide +kernel
theorem d43_6 : decode jdk_42_method_139_code 6 = .ok (.iload_n 0, 1) := by decide +kernel
theorem d43_7 : decode jdk_42_method_139_code 7 = .ok (.invokestatic 1015, 3) := by decide +kernel
theorem d43_10 : decode jdk_42_method_139_code 10 = .ok (.ifCond .eq 16, 3) := by decide +kernel
theorem d43_13 : decode jdk_42_method_139_code 13 = .ok (.new 10, 3) := by decide +kernel
theorem d43_16 : decode jdk_42_method_139_code 16 = .ok (.dup, 1) := by decide +kernel
theorem d43_17 : decode jdk_42_method_139_code 17 = .ok (.iload_n 0, 1) := by decide +kernel
theorem d43_18 : decode jdk_42_method_139_code 18 = .ok (.invokestatic 1018, 3) := by decide +kernel
theorem d43_21 : decode jdk_42_method_139_code 21 = .ok (.iconst 0, 1) := by decide +kernel
theorem d43_22 : decode jdk_42_method_139_code 22 = .ok (.invokespecial 209, 3) := by decide +kernel
theorem d43_25 : decode jdk_42_method_139_code 25 = .ok (.areturn, 1) := by decide +kernel
theorem d43_26 : decode jdk_42_method_139_code 26 = .ok (.new 10, 3) := by decide +kernel
theorem d43_29 : decode jdk_42_method_139_code 29 = .ok (.dup, 1) := by decide +kernel
theorem d43_30 : decode jdk_42_method_139_code 30 = .ok (.iload_n 0, 1) := by decide +kernel
theorem d43_31 : decode jdk_42_method_139_code 31 = .ok (.invokestatic 1021, 3) := by decide +kernel
theorem d43_34 : decode jdk_42_method_139_code 34 = .ok (.iconst 1, 1) := by decide +kernel
theorem d43_35 : decode jdk_42_method_139_code 35 = .ok (.invokespecial 209, 3) := by decide +kernel
theorem d43_38 : decode jdk_42_method_139_code 38 = .ok (.areturn, 1) := by decide +kernel
theorem ef_43 (m : MethodId) (x0 : Int32) : entryFrame m #[(.int x0)] 1 = mkF m 0 #[.val (.int x0)] [] := by first | (simp [entryFrame, mkF, argsToLocals, Value.category]; done) | rfl
def Q43 (Z : State) (p1 : Int32) (cs0 : Int32) (h0 : Heap) (n0 : Nat) (v : Option Value) (h : Heap) (L : List Loc) : Prop := ∃ (b r : Addr) (kr : ClassId), v = some (.ref b) ∧ Fr n0 L ∧ Keep h0 h [] ∧ h0.size ≤ b ∧ h0.size ≤ r ∧ b ≠ r ∧ Exa Z h b "java/lang/String" ∧ Fld Z h b "java/lang/String" "value" "[B" (.ref r) ∧ Fld Z h b "java/lang/String" "coder" "B" (.int (0 : Int32)) ∧ Arv Z h r kr .byte (1 : Int32) [(.int p1.toInt8.toInt32.toInt8.toInt32)] (.int (0 : Int32))
set_option maxRecDepth 65536 in
set_option maxHeartbeats 40000000 in
theorem rm43 (l : Launch) (Z : State) (a0 : Array Value) (hw : ∀ d ∈ tables_1, d.before a0 Z = true) (p1 : Int32) (cs0 : Int32) (h0 : Heap) (n0 : Nat) (Z0 : n0 ≤ h0.size) (hp1 : 0 ≤ p1.toInt ∧ p1.toInt ≤ 255) (O_0 : Old Z n0 h0) (S_cs : Sta Z Z.heap "java/lang/String" "COMPACT_STRINGS" "Z" (.int cs0)) (hcs : ¬ cs0.toInt = 0) :
    MetN l Z (⟨"java/lang/String", "valueOf", "(C)Ljava/lang/String;"⟩ : MethodName) jdk_42_method_139_code 1 (some (.object "java/lang/String")) [] ({ frames := 2, cells := 2, slots := 5, locals := 27 } : Room) #[(.int p1)] h0 (Q43 Z p1 cs0 h0 n0) := by
  refine met_n (plainFor_of_name pn_0) (fun m => ef_43 m p1) ?_
  intro p e s m below meth c s₁ X0 hx hby hml hZ hown hnm hret hlk e0
  replace hown : s.vm.findClass "java/lang/String" = some m.cls := hown
  replace hnm : meth.name = "valueOf" := hnm
  replace hret : meth.sig.returnType = (some (.object "java/lang/String")) := hret
  have N0 := Fr.nil n0
  have K0 : Keep h0 h0 [] := Keep.refl _ _
  show Ok p e below _ _ s₁ (mkF m 0 #[.val (.int p1)] [])
  refine Ok.getS (pc' := 3) X0 hx hZ hown (host := "") (Or.inl (hw _ (List.mem_of_getElem? (i := 19) rfl))) Via.refl e0 (S_cs.ext O_0.2) (hb hby d43_0) rfl ?_
  intro T44 X44 e44
  refine Ok.ifN (pc' := 6) X44 hx (hb hby d43_3) (bf (i0 .eq cs0 (ic_eq cs0 0).1) (show ¬ (cs0.toInt = 0) from hcs)) rfl ?_
  refine Ok.iloadN (pc' := 7) X44 hx (hb hby d43_6) rfl rfl ?_
  refine Ok.callS (pc' := 10) (W := 0)  (argsL := [(.int p1)]) (rest := []) X44 hx hZ hown (rm40 l Z a0 hw p1 h0 n0 Z0 ) (hw _ (List.mem_of_getElem? (i := 74) rfl)) (hw _ (List.mem_of_getElem? (i := 75) rfl)) (hw _ (List.mem_of_getElem? (i := 76) rfl)) (hw _ (List.mem_of_getElem? (i := 77) rfl)) (by decide) e44 (by decide) (by decide) (by decide) (by decide) (lenOf pd_10 rfl) rfl rfl (Nat.le_of_eq rfl) (by rw [hml]; rfl) (hb hby d43_7) rfl ?_
  intro v45 T45 L45 X45 hQ45
  obtain ⟨b45, rfl, hb45, Nq45, eq45⟩ := hQ45
  have N45 := Fr.app N0 Nq45
  show Ok p e below _ _ T45 (mkF m 10 #[.val (.int p1)] [(.int b45)])
  refine Ok.ifN (pc' := 13) X45 hx (hb hby d43_10) (bf (i0 .eq b45 (ic_eq b45 0).1) (show ¬ (b45.toInt = 0) from (by omega))) rfl ?_
  refine Ok.new (pc' := 16) X45 hx hZ hown (hw _ (List.mem_of_getElem? (i := 78) rfl)) (hw _ (List.mem_of_getElem? (i := 7) rfl)) (hw _ (List.mem_of_getElem? (i := 8) rfl)) eq45 (hb hby d43_13) rfl (by decide) (by decide) ?_
  intro T46 h46 b46 g46 X46 e46 E46 A46 D46
  replace O_0 := O_0.ext E46
  have ge_b46 : n0 ≤ b46 := Nat.le_trans Z0 (Nat.le_of_eq g46.symm)
  have sz_b46 : h0.size ≤ b46 := Nat.le_trans K0.1 (Nat.le_of_eq g46.symm)
  have K46 : Keep h0 h46 [] := K0.ext E46
  have Z47 : n0 ≤ h46.size := Nat.le_trans Z0 E46.1
  have F46_coder : Fld Z h46 b46 "java/lang/String" "coder" "B" (.int (0 : Int32)) := D46 (Or.inr (hw _ (List.mem_of_getElem? (i := 32) rfl))) (ty := .byte) (by decide)
  have F46_value : Fld Z h46 b46 "java/lang/String" "value" "[B" .null := D46 (Or.inr (hw _ (List.mem_of_getElem? (i := 34) rfl))) (ty := (.array .byte)) (by decide)
  show Ok p e below _ _ T46 (mkF m 16 #[.val (.int p1)] [(.ref b46)])
  refine Ok.dup (pc' := 17) X46 hx (hb hby d43_16) rfl rfl ?_
  refine Ok.iloadN (pc' := 18) X46 hx (hb hby d43_17) rfl rfl ?_
  refine Ok.callS (pc' := 21) (W := 2)  (argsL := [(.int p1)]) (rest := [(.ref b46), (.ref b46)]) X46 hx hZ hown (rm41 l Z a0 hw p1 h46 n0 Z47 ) (hw _ (List.mem_of_getElem? (i := 79) rfl)) (hw _ (List.mem_of_getElem? (i := 80) rfl)) (hw _ (List.mem_of_getElem? (i := 76) rfl)) (hw _ (List.mem_of_getElem? (i := 81) rfl)) (by decide) e46 (by decide) (by decide) (by decide) (by decide) (lenOf pd_11 rfl) rfl rfl (Nat.le_of_eq rfl) (by rw [hml]; rfl) (hb hby d43_18) rfl ?_
  intro v48 T48 L48 X48 hQ48
  obtain ⟨r48, kr48, rfl, Nq48, Kq48, hr48, V48⟩ := hQ48
  have ne_b46_r48 : Nq b46 r48 := Nat.ne_of_lt (Nat.lt_of_lt_of_le A46.lt hr48)
  have ge_r48 : n0 ≤ r48 := Nat.le_trans Z47 hr48
  have sz_r48 : h0.size ≤ r48 := Nat.le_trans K46.1 hr48
  have N48 := Fr.app N45 Nq48
  replace O_0 := O_0.keep Kq48 all0
  replace A46 := A46.keep Kq48
  replace F46_coder := F46_coder.keep Kq48 nin0
  replace F46_value := F46_value.keep Kq48 nin0
  have K48' : Keep h0 T48.heap [] := K46.trans Kq48 all0
  have Z49 : n0 ≤ T48.heap.size := Nat.le_trans Z47 Kq48.1
  show Ok p e below _ _ T48 (mkF m 21 #[.val (.int p1)] [(.ref r48), (.ref b46), (.ref b46)])
  refine Ok.iconst (z := (0 : Int32)) (pc' := 22) X48 hx (hb hby d43_21) rfl rfl ?_
  refine Ok.init (pc' := 25) (W := 1) (a := b46)  (argsL := [(.ref r48), (.int (0 : Int32))]) (rest := [(.ref b46)]) X48 hx hZ hown (rm42 l Z a0 hw b46 r48 .null (.int (0 : Int32)) T48.heap n0 Z49 A46 ge_b46 F46_value F46_coder) rfl (hw _ (List.mem_of_getElem? (i := 82) rfl)) (hw _ (List.mem_of_getElem? (i := 83) rfl)) (hw _ (List.mem_of_getElem? (i := 8) rfl)) (hw _ (List.mem_of_getElem? (i := 84) rfl)) (by decide) rfl (by decide) (by decide) (by decide) (by decide) (lenOf pd_12 rfl) rfl rfl (Nat.le_of_eq rfl) (by rw [hml]; rfl) (hb hby d43_22) rfl ?_
  intro v50 T50 L50 X50 hQ50
  obtain ⟨rfl, Nq50, Kq50, Aq50, Fv50, Fc50⟩ := hQ50
  have N50 := Fr.app N48 Nq50
  replace O_0 := O_0.keep Kq50 (allS ge_b46 all0)
  replace A46 := A46.keep Kq50
  replace V48 := V48.keep Kq50 (ninS (Ne.symm ne_b46_r48) nin0)
  have K50' : Keep h0 T50.heap [] := K48'.trans Kq50 (allS (Or.inr sz_b46) all0)
  have Z51 : n0 ≤ T50.heap.size := Nat.le_trans Z49 Kq50.1
  show Ok p e below _ _ T50 (mkF m 25 #[.val (.int p1)] [(.ref b46)])
  refine Ok.retA X50 hx hret hlk rfl rfl rfl (hb hby d43_25) (by decide) (by decide) ?_
  show Q43 Z p1 cs0 h0 n0 _ T50.heap _
  exact ⟨_, _, _, rfl, N50, K50', sz_b46, sz_r48, ne_b46_r48, A46, Fv50, Fc50, V48⟩
theorem d22_0 : decode method_2_code 0 = .ok (.iload_n 0, 1) := by decide +kernel
theorem d22_1 : decode method_2_code 1 = .ok (.ldc 7, 2) := by decide +kernel
theorem d22_3 : decode method_2_code 3 = .ok (.iand, 1) := by decide +kernel
theorem d22_4 : decode method_2_code 4 = .ok (.iconst 4, 1) := by decide +kernel
theorem d22_5 : decode method_2_code 5 = .ok (.irem, 1) := by decide +kernel
theorem d22_6 : decode method_2_code 6 = .ok (.istore_n 3, 1) := by decide +kernel
theorem d22_7 : decode method_2_code 7 = .ok (.iload_n 3, 1) := by decide +kernel
theorem d22_8 : decode method_2_code 8 = .ok (.ifCond .ne 5, 3) := by decide +kernel
theorem d22_11 : decode method_2_code 11 = .ok (.aconst_null, 1) := by decide +kernel
theorem d22_12 : decode method_2_code 12 = .ok (.areturn, 1) := by decide +kernel
theorem d22_13 : decode method_2_code 13 = .ok (.iload_n 3, 1) := by decide +kernel
theorem d22_14 : decode method_2_code 14 = .ok (.iconst 1, 1) := by decide +kernel
theorem d22_15 : decode method_2_code 15 = .ok (.if_icmp .ne 14, 3) := by decide +kernel
theorem d22_18 : decode method_2_code 18 = .ok (.new 8, 3) := by decide +kernel
theorem d22_21 : decode method_2_code 21 = .ok (.dup, 1) := by decide +kernel
theorem d22_22 : decode method_2_code 22 = .ok (.iconst 0, 1) := by decide +kernel
theorem d22_23 : decode method_2_code 23 = .ok (.newarray .char, 2) := by decide +kernel
theorem d22_25 : decode method_2_code 25 = .ok (.invokespecial 10, 3) := by decide +kernel
theorem d22_28 : decode method_2_code 28 = .ok (.areturn, 1) := by decide +kernel
theorem d22_29 : decode method_2_code 29 = .ok (.iload_n 1, 1) := by decide +kernel
theorem d22_30 : decode method_2_code 30 = .ok (.sipush 255, 3) := by decide +kernel
theorem d22_33 : decode method_2_code 33 = .ok (.iand, 1) := by decide +kernel
theorem d22_34 : decode method_2_code 34 = .ok (.i2c, 1) := by decide +kernel
theorem d22_35 : decode method_2_code 35 = .ok (.istore 4, 2) := by decide +kernel
theorem d22_37 : decode method_2_code 37 = .ok (.iload_n 3, 1) := by decide +kernel
theorem d22_38 : decode method_2_code 38 = .ok (.iconst 2, 1) := by decide +kernel
theorem d22_39 : decode method_2_code 39 = .ok (.if_icmp .ne 9, 3) := by decide +kernel
theorem d22_42 : decode method_2_code 42 = .ok (.iload 4, 2) := by decide +kernel
theorem d22_44 : decode method_2_code 44 = .ok (.invokestatic 13, 3) := by decide +kernel
theorem d22_47 : decode method_2_code 47 = .ok (.areturn, 1) := by decide +kernel
theorem d22_48 : decode method_2_code 48 = .ok (.iconst 2, 1) := by decide +kernel
theorem d22_49 : decode method_2_code 49 = .ok (.newarray .char, 2) := by decide +kernel
theorem d22_51 : decode method_2_code 51 = .ok (.astore 5, 2) := by decide +kernel
theorem d22_53 : decode method_2_code 53 = .ok (.aload 5, 2) := by decide +kernel
theorem d22_55 : decode method_2_code 55 = .ok (.iconst 0, 1) := by decide +kernel
theorem d22_56 : decode method_2_code 56 = .ok (.iload 4, 2) := by decide +kernel
theorem d22_58 : decode method_2_code 58 = .ok (.castore, 1) := by decide +kernel
theorem d22_59 : decode method_2_code 59 = .ok (.aload 5, 2) := by decide +kernel
theorem d22_61 : decode method_2_code 61 = .ok (.iconst 1, 1) := by decide +kernel
theorem d22_62 : decode method_2_code 62 = .ok (.iload_n 2, 1) := by decide +kernel
theorem d22_63 : decode method_2_code 63 = .ok (.sipush 255, 3) := by decide +kernel
theorem d22_66 : decode method_2_code 66 = .ok (.iand, 1) := by decide +kernel
theorem d22_67 : decode method_2_code 67 = .ok (.i2c, 1) := by decide +kernel
theorem d22_68 : decode method_2_code 68 = .ok (.castore, 1) := by decide +kernel
theorem d22_69 : decode method_2_code 69 = .ok (.new 8, 3) := by decide +kernel
theorem d22_72 : decode method_2_code 72 = .ok (.dup, 1) := by decide +kernel
theorem d22_73 : decode method_2_code 73 = .ok (.aload 5, 2) := by decide +kernel
theorem d22_75 : decode method_2_code 75 = .ok (.invokespecial 10, 3) := by decide +kernel
theorem d22_78 : decode method_2_code 78 = .ok (.areturn, 1) := by decide +kernel
theorem pn_3 : plainName "com/example/pricefence/pricefence/replay/OrderIdsOrdersFileAlonePinLaw" = true := by first | (simp [plainName, overriddenIn]; done) | decide +kernel
theorem ef_22 (m : MethodId) (x0 : Int32) (x1 : Int32) (x2 : Int32) : entryFrame m #[(.int x0), (.int x1), (.int x2)] 6 = mkF m 0 #[.val (.int x0), .val (.int x1), .val (.int x2), .unset, .unset, .unset] [] := by first | (simp [entryFrame, mkF, argsToLocals, Value.category]; done) | rfl
def Q22 (Z : State) (p1 : Int32) (p2 : Int32) (p3 : Int32) (cs0 : Int32) (h0 : Heap) (n0 : Nat) (v : Option Value) (h : Heap) (L : List Loc) : Prop := ∃ z : Value, v = some z ∧ (((p1 &&& (2147483647 : Int32)) % (4 : Int32)).toInt = 0 ∧ z = .null ∨ ¬ ((p1 &&& (2147483647 : Int32)) % (4 : Int32)).toInt = 0 ∧ ∃ r, z = .ref r) ∧ Fr n0 L ∧ Keep h0 h []
set_option maxRecDepth 65536 in
set_option maxHeartbeats 40000000 in
theorem rm22 (l : Launch) (Z : State) (a0 : Array Value) (hw : ∀ d ∈ tables_1, d.before a0 Z = true) (p1 : Int32) (p2 : Int32) (p3 : Int32) (cs0 : Int32) (h0 : Heap) (n0 : Nat) (Z0 : n0 ≤ h0.size) (O_0 : Old Z n0 h0) (S_cs : Sta Z Z.heap "java/lang/String" "COMPACT_STRINGS" "Z" (.int cs0)) (hcs : ¬ cs0.toInt = 0) :
    MetH l Z EL1 (⟨"com/example/pricefence/pricefence/replay/OrderIdsOrdersFileAlonePinLaw", "draw", "(III)Ljava/lang/String;"⟩ : MethodName) method_2_code 6 (some (.object "java/lang/String")) [] ({ frames := 4, cells := 9, slots := 21, locals := 66 } : Room) #[(.int p1), (.int p2), (.int p3)] h0 (Q22 Z p1 p2 p3 cs0 h0 n0) := by
  refine met_h (plainFor_of_name pn_3) (fun m => ef_22 m p1 p2 p3) ?_
  intro p e s m below meth c s₁ V0 nS0 X0 hx hby hml hZ0 hown0 hnm hret hlk e0 hS0 hSn0 HC0
  replace hown0 : V0.findClass "com/example/pricefence/pricefence/replay/OrderIdsOrdersFileAlonePinLaw" = some m.cls := hown0
  replace hnm : meth.name = "draw" := hnm
  replace hret : meth.sig.returnType = (some (.object "java/lang/String")) := hret
  have N0 := Fr.nil n0
  have K0 : Keep h0 h0 [] := Keep.refl _ _
  show Ok p e below _ _ s₁ (mkF m 0 #[.val (.int p1), .val (.int p2), .val (.int p3), .unset, .unset, .unset] [])
  have hEL : EW Z a0 EL1 := EW.cons (hw _ (List.mem_of_getElem? (i := 85) rfl)) (by simp) EW.nil
  show Ok p e below _ _ s₁ (mkF m 0 #[.val (.int p1), .val (.int p2), .val (.int p3), .unset, .unset, .unset] [])
  refine Ok.iloadN (pc' := 1) X0 hx (hb hby d22_0) rfl rfl ?_
  refine Ok.ldcI (pc' := 3) (v := (2147483647 : Int32)) X0 hx hZ0 hown0 (hw _ (List.mem_of_getElem? (i := 4) rfl)) (hb hby d22_1) rfl ?_
  refine Ok.iand (pc' := 4) X0 hx (hb hby d22_3) rfl ?_
  refine Ok.iconst (z := (4 : Int32)) (pc' := 5) X0 hx (hb hby d22_4) rfl rfl ?_
  refine Ok.irem (pc' := 6) X0 hx (hb hby d22_5) rfl (by decide) ?_
  refine Ok.istoreN (l' := #[.val (.int p1), .val (.int p2), .val (.int p3), .val (.int ((p1 &&& (2147483647 : Int32)) % (4 : Int32))), .unset, .unset]) (pc' := 7) X0 hx (hb hby d22_6) rfl rfl ?_
  refine Ok.iloadN (pc' := 8) X0 hx (hb hby d22_7) rfl rfl ?_
  by_cases hc8 : ¬ ((p1 &&& (2147483647 : Int32)) % (4 : Int32)).toInt = 0
  · refine Ok.ifY (pc' := 13) X0 hx (hb hby d22_8) (bt (i0 .ne ((p1 &&& (2147483647 : Int32)) % (4 : Int32)) (ic_eq ((p1 &&& (2147483647 : Int32)) % (4 : Int32)) 0).2.1) hc8) (by decide) (by decide) ?_
    refine Ok.iloadN (pc' := 14) X0 hx (hb hby d22_13) rfl rfl ?_
    refine Ok.iconst (z := (1 : Int32)) (pc' := 15) X0 hx (hb hby d22_14) rfl rfl ?_
    by_cases hc15 : ¬ ((p1 &&& (2147483647 : Int32)) % (4 : Int32)).toInt = 1
    · refine Ok.icY (pc' := 29) X0 hx (hb hby d22_15) (bt (ic_eq ((p1 &&& (2147483647 : Int32)) % (4 : Int32)) (1 : Int32)).2.1 hc15) (by decide) (by decide) ?_
      refine Ok.iloadN (pc' := 30) X0 hx (hb hby d22_29) rfl rfl ?_
      refine Ok.sipush (z := (255 : Int32)) (pc' := 33) X0 hx (hb hby d22_30) rfl rfl ?_
      refine Ok.iand (pc' := 34) X0 hx (hb hby d22_33) rfl ?_
      refine Ok.i2c (pc' := 35) X0 hx (hb hby d22_34) rfl ?_
      rw [char255]
      refine Ok.istore (l' := #[.val (.int p1), .val (.int p2), .val (.int p3), .val (.int ((p1 &&& (2147483647 : Int32)) % (4 : Int32))), .val (.int (p2 &&& (255 : Int32))), .unset]) (pc' := 37) X0 hx (hb hby d22_35) rfl rfl ?_
      refine Ok.iloadN (pc' := 38) X0 hx (hb hby d22_37) rfl rfl ?_
      refine Ok.iconst (z := (2 : Int32)) (pc' := 39) X0 hx (hb hby d22_38) rfl rfl ?_
      by_cases hc39 : ¬ ((p1 &&& (2147483647 : Int32)) % (4 : Int32)).toInt = 2
      · refine Ok.icY (pc' := 48) X0 hx (hb hby d22_39) (bt (ic_eq ((p1 &&& (2147483647 : Int32)) % (4 : Int32)) (2 : Int32)).2.1 hc39) (by decide) (by decide) ?_
        refine Ok.iconst (z := (2 : Int32)) (pc' := 49) X0 hx (hb hby d22_48) rfl rfl ?_
        refine Ok.newP (pc' := 51) (cap := 2) X0 hx hZ0 (hw _ (List.mem_of_getElem? (i := 5) rfl)) rfl e0 (hb hby d22_49) rfl (by decide) (by decide) (by decide) (by decide) (by decide) ?_
        intro T52 h52 b52 kc52 g52 X52 e52 E52 V52
        have S_b52 : Safe Z EL1 V0 h0 b52 := Safe.new (Nat.le_of_eq g52.symm)
        replace O_0 := O_0.ext E52
        have S_b52' := Safe.ext E52 HC0.1 S_b52
        have HC53 := HC0.trans (CHr.ext E52 HC0.1)
        have ge_b52 : n0 ≤ b52 := Nat.le_trans Z0 (Nat.le_of_eq g52.symm)
        have sz_b52 : h0.size ≤ b52 := Nat.le_trans K0.1 (Nat.le_of_eq g52.symm)
        have K52 : Keep h0 h52 [] := K0.ext E52
        have Z54 : n0 ≤ h52.size := Nat.le_trans Z0 E52.1
        have hSn54 : _ ≤ h52.size := Nat.le_trans hSn0 E52.1
        replace V52 : Arv Z h52 b52 kc52 .char (2 : Int32) [(.int (0 : Int32)), (.int (0 : Int32))] (.int (0 : Int32)) := V52.pad (pad_rep [] (.int (0 : Int32)) 2)
        show Ok p e below _ _ T52 (mkF m 51 #[.val (.int p1), .val (.int p2), .val (.int p3), .val (.int ((p1 &&& (2147483647 : Int32)) % (4 : Int32))), .val (.int (p2 &&& (255 : Int32))), .unset] [(.ref b52)])
        refine Ok.astore (l' := #[.val (.int p1), .val (.int p2), .val (.int p3), .val (.int ((p1 &&& (2147483647 : Int32)) % (4 : Int32))), .val (.int (p2 &&& (255 : Int32))), .val (.ref b52)]) (pc' := 53) X52 hx (hb hby d22_51) rfl rfl rfl ?_
        refine Ok.aload (pc' := 55) X52 hx (hb hby d22_53) rfl rfl rfl ?_
        refine Ok.iconst (z := (0 : Int32)) (pc' := 56) X52 hx (hb hby d22_55) rfl rfl ?_
        refine Ok.iload (pc' := 58) X52 hx (hb hby d22_56) rfl rfl ?_
        refine Ok.stC (pc' := 59) (i := 0) X52 hx hZ0 e52 V52 ⟨by decide, by decide⟩ rfl (Nat.le_of_ble_eq_true rfl) (hb hby d22_58) rfl ?_
        intro T55 h55 X55 e55 W55 V55
        rw [nar_char_id (mask255 p2).1 (by have := (mask255 p2).2; omega)] at W55 V55
        replace O_0 := O_0.wr W55 ge_b52
        have S_b52'' := Safe.wr W55 S_b52' HC53.1 S_b52'
        have HC56 := HC53.trans (CHr.wr W55 S_b52' HC53.1)
        replace V55 : Arv Z h55 b52 kc52 .char (2 : Int32) [(.int (p2 &&& (255 : Int32))), (.int (0 : Int32))] (.int (0 : Int32)) := V55
        have N55 := Fr.snoc X55 N0 ge_b52
        have K55 : Keep h0 h55 [] := K52.wr W55 (Or.inr sz_b52)
        have Z57 : n0 ≤ h55.size := Nat.le_trans Z54 (Keep.of_wr W55).1
        have hSn57 : _ ≤ h55.size := Nat.le_trans hSn54 (Keep.of_wr W55).1
        refine Ok.aload (pc' := 61) X55 hx (hb hby d22_59) rfl rfl rfl ?_
        refine Ok.iconst (z := (1 : Int32)) (pc' := 62) X55 hx (hb hby d22_61) rfl rfl ?_
        refine Ok.iloadN (pc' := 63) X55 hx (hb hby d22_62) rfl rfl ?_
        refine Ok.sipush (z := (255 : Int32)) (pc' := 66) X55 hx (hb hby d22_63) rfl rfl ?_
        refine Ok.iand (pc' := 67) X55 hx (hb hby d22_66) rfl ?_
        refine Ok.i2c (pc' := 68) X55 hx (hb hby d22_67) rfl ?_
        rw [char255]
        refine Ok.stC (pc' := 69) (i := 1) X55 hx hZ0 e55 V55 ⟨by decide, by decide⟩ rfl (Nat.le_of_ble_eq_true rfl) (hb hby d22_68) rfl ?_
        intro T58 h58 X58 e58 W58 V58
        rw [nar_char_id (mask255 p3).1 (by have := (mask255 p3).2; omega)] at W58 V58
        replace O_0 := O_0.wr W58 ge_b52
        have S_b52''' := Safe.wr W58 S_b52'' HC56.1 S_b52''
        have HC59 := HC56.trans (CHr.wr W58 S_b52'' HC56.1)
        replace V58 : Arv Z h58 b52 kc52 .char (2 : Int32) [(.int (p2 &&& (255 : Int32))), (.int (p3 &&& (255 : Int32)))] (.int (0 : Int32)) := V58
        have N58 := Fr.snoc X58 N55 ge_b52
        have K58 : Keep h0 h58 [] := K55.wr W58 (Or.inr sz_b52)
        have Z60 : n0 ≤ h58.size := Nat.le_trans Z57 (Keep.of_wr W58).1
        have hSn60 : _ ≤ h58.size := Nat.le_trans hSn57 (Keep.of_wr W58).1
        refine Ok.new (pc' := 72) X58 hx hZ0 hown0 (hw _ (List.mem_of_getElem? (i := 6) rfl)) (hw _ (List.mem_of_getElem? (i := 7) rfl)) (hw _ (List.mem_of_getElem? (i := 8) rfl)) e58 (hb hby d22_69) rfl (by decide) (by decide) ?_
        intro T61 h61 b61 g61 X61 e61 E61 A61 D61
        have ne_b52_b61 : Nq b52 b61 := Nat.ne_of_lt (Nat.lt_of_lt_of_eq V58.lt g61.symm)
        have S_b61 : Safe Z EL1 V0 h58 b61 := Safe.new (Nat.le_of_eq g61.symm)
        replace O_0 := O_0.ext E61
        replace V58 := V58.ext E61
        have S_b52'''' := Safe.ext E61 HC59.1 S_b52'''
        have S_b61' := Safe.ext E61 HC59.1 S_b61
        have HC62 := HC59.trans (CHr.ext E61 HC59.1)
        have ge_b61 : n0 ≤ b61 := Nat.le_trans Z60 (Nat.le_of_eq g61.symm)
        have sz_b61 : h0.size ≤ b61 := Nat.le_trans K58.1 (Nat.le_of_eq g61.symm)
        have K61 : Keep h0 h61 [] := K58.ext E61
        have Z63 : n0 ≤ h61.size := Nat.le_trans Z60 E61.1
        have hSn63 : _ ≤ h61.size := Nat.le_trans hSn60 E61.1
        have F61_coder : Fld Z h61 b61 "java/lang/String" "coder" "B" (.int (0 : Int32)) := D61 (Or.inr (hw _ (List.mem_of_getElem? (i := 32) rfl))) (ty := .byte) (by decide)
        have F61_value : Fld Z h61 b61 "java/lang/String" "value" "[B" .null := D61 (Or.inr (hw _ (List.mem_of_getElem? (i := 34) rfl))) (ty := (.array .byte)) (by decide)
        show Ok p e below _ _ T61 (mkF m 72 #[.val (.int p1), .val (.int p2), .val (.int p3), .val (.int ((p1 &&& (2147483647 : Int32)) % (4 : Int32))), .val (.int (p2 &&& (255 : Int32))), .val (.ref b52)] [(.ref b61)])
        refine Ok.dup (pc' := 73) X61 hx (hb hby d22_72) rfl rfl ?_
        refine Ok.aload (pc' := 75) X61 hx (hb hby d22_73) rfl rfl rfl ?_
        refine Ok.init (pc' := 78) (W := 1) (a := b61)  (argsL := [(.ref b52)]) (rest := [(.ref b61)]) X61 hx hZ0 hown0 (rm34 l Z a0 hw b61 b52 kc52 (p2 &&& (255 : Int32)) (p3 &&& (255 : Int32)) .null (.int (0 : Int32)) cs0 h61 n0 Z63 A61 ge_b61 F61_value F61_coder V58 (mask255 p2) (mask255 p3) O_0 S_cs hcs) rfl (hw _ (List.mem_of_getElem? (i := 9) rfl)) (hw _ (List.mem_of_getElem? (i := 10) rfl)) (hw _ (List.mem_of_getElem? (i := 8) rfl)) (hw _ (List.mem_of_getElem? (i := 11) rfl)) (by decide) e61 (by decide) (by decide) (by decide) (by decide) (lenOf pd_1 rfl) rfl rfl (Nat.le_of_eq rfl) (by rw [hml]; rfl) (hb hby d22_75) rfl ?_
        intro v64 T64 L64 X64 hQ64
        obtain ⟨rfl, Nq64, Kq64, Aq64, r64, kr64, hr64, Fv64, Fc64, V64⟩ := hQ64
        have ne_b52_r64 : Nq b52 r64 := Nat.ne_of_lt (Nat.lt_of_lt_of_le V58.lt hr64)
        have ne_b61_r64 : Nq b61 r64 := Nat.ne_of_lt (Nat.lt_of_lt_of_le A61.lt hr64)
        have ge_r64 : n0 ≤ r64 := Nat.le_trans Z63 hr64
        have sz_r64 : h0.size ≤ r64 := Nat.le_trans K61.1 hr64
        have N64 := Fr.app N58 Nq64
        replace O_0 := O_0.keep Kq64 (allS ge_b61 all0)
        replace V58 := V58.keep Kq64 (ninS ne_b52_b61 nin0)
        replace A61 := A61.keep Kq64
        have S_b52''''' := Safe.keep Kq64 (allS S_b61' all0) HC62.1 S_b52''''
        have S_b61'' := Safe.keep Kq64 (allS S_b61' all0) HC62.1 S_b61'
        have HC65 := HC62.trans (CHr.keep Kq64 (allS S_b61' all0) HC62.1)
        have K64' : Keep h0 T64.heap [] := K61.trans Kq64 (allS (Or.inr sz_b61) all0)
        have Z66 : n0 ≤ T64.heap.size := Nat.le_trans Z63 Kq64.1
        have hSn66 : _ ≤ T64.heap.size := Nat.le_trans hSn63 Kq64.1
        show Ok p e below _ _ T64 (mkF m 78 #[.val (.int p1), .val (.int p2), .val (.int p3), .val (.int ((p1 &&& (2147483647 : Int32)) % (4 : Int32))), .val (.int (p2 &&& (255 : Int32))), .val (.ref b52)] [(.ref b61)])
        refine Ok.retAH X64 hx hZ0 hS0 (hSn66) hEL rfl HC65 hret hlk rfl rfl rfl (hb hby d22_78) (by decide) (by decide) ?_
        show Q22 Z p1 p2 p3 cs0 h0 n0 _ T64.heap _
        exact ⟨_, rfl, Or.inr ⟨by omega, _, rfl⟩, N64, K64'⟩
      · refine Ok.icN (pc' := 42) X0 hx (hb hby d22_39) (bf (ic_eq ((p1 &&& (2147483647 : Int32)) % (4 : Int32)) (2 : Int32)).2.1 hc39) rfl ?_
        refine Ok.iload (pc' := 44) X0 hx (hb hby d22_42) rfl rfl ?_
        refine Ok.callS (pc' := 47) (W := 0)  (argsL := [(.int (p2 &&& (255 : Int32)))]) (rest := []) X0 hx hZ0 hown0 (rm43 l Z a0 hw (p2 &&& (255 : Int32)) cs0 h0 n0 Z0 (mask255 p2) O_0 S_cs hcs) (hw _ (List.mem_of_getElem? (i := 71) rfl)) (hw _ (List.mem_of_getElem? (i := 72) rfl)) (hw _ (List.mem_of_getElem? (i := 8) rfl)) (hw _ (List.mem_of_getElem? (i := 73) rfl)) (by decide) e0 (by decide) (by decide) (by decide) (by decide) (lenOf pd_9 rfl) rfl rfl (Nat.le_of_eq rfl) (by rw [hml]; rfl) (hb hby d22_44) rfl ?_
        intro v67 T67 L67 X67 hQ67
        obtain ⟨b67, r67, kr67, rfl, Nq67, Kq67, hbb67, hr67, nbr67, A67, Fv67, Fc67, V67⟩ := hQ67
        replace nbr67 : Nq b67 r67 := nbr67
        have ge_b67 : n0 ≤ b67 := Nat.le_trans Z0 hbb67
        have sz_b67 : h0.size ≤ b67 := Nat.le_trans K0.1 hbb67
        have ge_r67 : n0 ≤ r67 := Nat.le_trans Z0 hr67
        have sz_r67 : h0.size ≤ r67 := Nat.le_trans K0.1 hr67
        have N67 := Fr.app N0 Nq67
        replace O_0 := O_0.keep Kq67 all0
        have HC68 := HC0.trans (CHr.keep Kq67 all0 HC0.1)
        have K67' : Keep h0 T67.heap [] := K0.trans Kq67 all0
        have Z69 : n0 ≤ T67.heap.size := Nat.le_trans Z0 Kq67.1
        have hSn69 : _ ≤ T67.heap.size := Nat.le_trans hSn0 Kq67.1
        show Ok p e below _ _ T67 (mkF m 47 #[.val (.int p1), .val (.int p2), .val (.int p3), .val (.int ((p1 &&& (2147483647 : Int32)) % (4 : Int32))), .val (.int (p2 &&& (255 : Int32))), .unset] [(.ref b67)])
        refine Ok.retAH X67 hx hZ0 hS0 (hSn69) hEL rfl HC68 hret hlk rfl rfl rfl (hb hby d22_47) (by decide) (by decide) ?_
        show Q22 Z p1 p2 p3 cs0 h0 n0 _ T67.heap _
        exact ⟨_, rfl, Or.inr ⟨by omega, _, rfl⟩, N67, K67'⟩
    · refine Ok.icN (pc' := 18) X0 hx (hb hby d22_15) (bf (ic_eq ((p1 &&& (2147483647 : Int32)) % (4 : Int32)) (1 : Int32)).2.1 hc15) rfl ?_
      refine Ok.new (pc' := 21) X0 hx hZ0 hown0 (hw _ (List.mem_of_getElem? (i := 6) rfl)) (hw _ (List.mem_of_getElem? (i := 7) rfl)) (hw _ (List.mem_of_getElem? (i := 8) rfl)) e0 (hb hby d22_18) rfl (by decide) (by decide) ?_
      intro T70 h70 b70 g70 X70 e70 E70 A70 D70
      have S_b70 : Safe Z EL1 V0 h0 b70 := Safe.new (Nat.le_of_eq g70.symm)
      replace O_0 := O_0.ext E70
      have S_b70' := Safe.ext E70 HC0.1 S_b70
      have HC71 := HC0.trans (CHr.ext E70 HC0.1)
      have ge_b70 : n0 ≤ b70 := Nat.le_trans Z0 (Nat.le_of_eq g70.symm)
      have sz_b70 : h0.size ≤ b70 := Nat.le_trans K0.1 (Nat.le_of_eq g70.symm)
      have K70 : Keep h0 h70 [] := K0.ext E70
      have Z72 : n0 ≤ h70.size := Nat.le_trans Z0 E70.1
      have hSn72 : _ ≤ h70.size := Nat.le_trans hSn0 E70.1
      have F70_coder : Fld Z h70 b70 "java/lang/String" "coder" "B" (.int (0 : Int32)) := D70 (Or.inr (hw _ (List.mem_of_getElem? (i := 32) rfl))) (ty := .byte) (by decide)
      have F70_value : Fld Z h70 b70 "java/lang/String" "value" "[B" .null := D70 (Or.inr (hw _ (List.mem_of_getElem? (i := 34) rfl))) (ty := (.array .byte)) (by decide)
      show Ok p e below _ _ T70 (mkF m 21 #[.val (.int p1), .val (.int p2), .val (.int p3), .val (.int ((p1 &&& (2147483647 : Int32)) % (4 : Int32))), .unset, .unset] [(.ref b70)])
      refine Ok.dup (pc' := 22) X70 hx (hb hby d22_21) rfl rfl ?_
      refine Ok.iconst (z := (0 : Int32)) (pc' := 23) X70 hx (hb hby d22_22) rfl rfl ?_
      refine Ok.newP (pc' := 25) (cap := 0) X70 hx hZ0 (hw _ (List.mem_of_getElem? (i := 5) rfl)) rfl e70 (hb hby d22_23) rfl (by decide) (by decide) (by decide) (by decide) (by decide) ?_
      intro T73 h73 b73 kc73 g73 X73 e73 E73 V73
      have ne_b70_b73 : Nq b70 b73 := Nat.ne_of_lt (Nat.lt_of_lt_of_eq A70.lt g73.symm)
      have S_b73 : Safe Z EL1 V0 h70 b73 := Safe.new (Nat.le_of_eq g73.symm)
      replace O_0 := O_0.ext E73
      replace A70 := A70.ext E73
      replace F70_coder := F70_coder.ext E73
      replace F70_value := F70_value.ext E73
      have S_b70'' := Safe.ext E73 HC71.1 S_b70'
      have S_b73' := Safe.ext E73 HC71.1 S_b73
      have HC74 := HC71.trans (CHr.ext E73 HC71.1)
      have ge_b73 : n0 ≤ b73 := Nat.le_trans Z72 (Nat.le_of_eq g73.symm)
      have sz_b73 : h0.size ≤ b73 := Nat.le_trans K70.1 (Nat.le_of_eq g73.symm)
      have K73 : Keep h0 h73 [] := K70.ext E73
      have Z75 : n0 ≤ h73.size := Nat.le_trans Z72 E73.1
      have hSn75 : _ ≤ h73.size := Nat.le_trans hSn72 E73.1
      replace V73 : Arv Z h73 b73 kc73 .char (0 : Int32) [] (.int (0 : Int32)) := V73.pad (pad_rep [] (.int (0 : Int32)) 0)
      show Ok p e below _ _ T73 (mkF m 25 #[.val (.int p1), .val (.int p2), .val (.int p3), .val (.int ((p1 &&& (2147483647 : Int32)) % (4 : Int32))), .unset, .unset] [(.ref b73), (.ref b70), (.ref b70)])
      refine Ok.initH (pc' := 28) (W := 1) (a := b70)  (argsL := [(.ref b73)]) (rest := [(.ref b70)]) X73 hx hZ0 hown0 hS0 hSn75 hEL HC74.1 (rm21 l Z a0 hw b70 b73 kc73 h73 n0 Z75 A70 ge_b70 F70_value F70_coder V73) rfl (hw _ (List.mem_of_getElem? (i := 9) rfl)) (hw _ (List.mem_of_getElem? (i := 10) rfl)) (hw _ (List.mem_of_getElem? (i := 8) rfl)) (hw _ (List.mem_of_getElem? (i := 11) rfl)) (by decide) e73 (by decide) (by decide) (by decide) (by decide) (lenOf pd_1 rfl) rfl rfl (Nat.le_of_eq rfl) (by rw [hml]; rfl) (hb hby d22_25) rfl ?_
      intro v76 T76 L76 X76 hZ76 hown76 hS76 C76 hQ76
      have S_b70''' := C76.safe A70.lt S_b70''
      have S_b73'' := C76.safe V73.lt S_b73'
      have HC76 := HC74.trans C76
      obtain ⟨rfl, Nq76, Kq76⟩ := hQ76
      have N76 := Fr.app N0 Nq76
      replace O_0 := O_0.keep Kq76 (allS ge_b70 all0)
      replace A70 := A70.keep Kq76
      have K76' : Keep h0 T76.heap [] := K73.trans Kq76 (allS (Or.inr sz_b70) all0)
      have Z77 : n0 ≤ T76.heap.size := Nat.le_trans Z75 Kq76.1
      show Ok p e below _ _ T76 (mkF m 28 #[.val (.int p1), .val (.int p2), .val (.int p3), .val (.int ((p1 &&& (2147483647 : Int32)) % (4 : Int32))), .unset, .unset] [(.ref b70)])
      refine Ok.retAH X76 hx hZ76 hS76 ((Nat.le_refl _)) hEL rfl HC76 hret hlk rfl rfl rfl (hb hby d22_28) (by decide) (by decide) ?_
      show Q22 Z p1 p2 p3 cs0 h0 n0 _ T76.heap _
      exact ⟨_, rfl, Or.inr ⟨by omega, _, rfl⟩, N76, K76'⟩
  · refine Ok.ifN (pc' := 11) X0 hx (hb hby d22_8) (bf (i0 .ne ((p1 &&& (2147483647 : Int32)) % (4 : Int32)) (ic_eq ((p1 &&& (2147483647 : Int32)) % (4 : Int32)) 0).2.1) hc8) rfl ?_
    refine Ok.aconstNull (pc' := 12) X0 hx (hb hby d22_11) rfl ?_
    refine Ok.retAH X0 hx hZ0 hS0 (by rw [e0]; exact hSn0) hEL e0 HC0 hret hlk rfl rfl rfl (hb hby d22_12) (by decide) (by decide) ?_
    show Q22 Z p1 p2 p3 cs0 h0 n0 _ s₁.heap _
    rw [e0]
    exact ⟨_, rfl, Or.inl ⟨by omega, rfl⟩, N0, K0⟩
theorem d23_0 : decode prog_62_method_1_code 0 = .ok (.aload_n 0, 1) := by decide +kernel
theorem d23_1 : decode prog_62_method_1_code 1 = .ok (.invokespecial 3, 3) := by decide +kernel
theorem d23_4 : decode prog_62_method_1_code 4 = .ok (.aload_n 0, 1) := by decide +kernel
theorem d23_5 : decode prog_62_method_1_code 5 = .ok (.sipush 1024, 3) := by decide +kernel
theorem d23_8 : decode prog_62_method_1_code 8 = .ok (.newarray .long, 2) := by decide +kernel
theorem d23_10 : decode prog_62_method_1_code 10 = .ok (.putfield 9, 3) := by decide +kernel
theorem d23_13 : decode prog_62_method_1_code 13 = .ok (.aload_n 0, 1) := by decide +kernel
theorem d23_14 : decode prog_62_method_1_code 14 = .ok (.bipush 10, 2) := by decide +kernel
theorem d23_16 : decode prog_62_method_1_code 16 = .ok (.putfield 13, 3) := by decide +kernel
theorem d23_19 : decode prog_62_method_1_code 19 = .ok (.aload_n 0, 1) := by decide +kernel
theorem d23_20 : decode prog_62_method_1_code 20 = .ok (.bipush 16, 2) := by decide +kernel
theorem d23_22 : decode prog_62_method_1_code 22 = .ok (.anewarray 17, 3) := by decide +kernel
theorem d23_25 : decode prog_62_method_1_code 25 = .ok (.putfield 19, 3) := by decide +kernel
theorem d23_28 : decode prog_62_method_1_code 28 = .ok (.aload_n 0, 1) := by decide +kernel
theorem d23_29 : decode prog_62_method_1_code 29 = .ok (.bipush 64, 2) := by decide +kernel
theorem d23_31 : decode prog_62_method_1_code 31 = .ok (.newarray .byte, 2) := by decide +kernel
theorem d23_33 : decode prog_62_method_1_code 33 = .ok (.putfield 23, 3) := by decide +kernel
theorem d23_36 : decode prog_62_method_1_code 36 = .ok (.return_, 1) := by decide +kernel
theorem pn_4 : plainName "com/example/pricefence/pricefence/replay/SeenIds" = true := by first | (simp [plainName, overriddenIn]; done) | decide +kernel
theorem ef_23 (m : MethodId) (x0 : Addr) : entryFrame m #[(.ref x0)] 1 = mkF m 0 #[.val (.ref x0)] [] := by first | (simp [entryFrame, mkF, argsToLocals, Value.category]; done) | rfl
def Q23 (Z : State) (a1 : Addr) (u_slots : Value) (u_slotBits : Value) (u_chunks : Value) (u_bytes : Value) (h0 : Heap) (n0 : Nat) (v : Option Value) (h : Heap) (L : List Loc) : Prop := v = none ∧ Fr n0 L ∧ Keep h0 h [a1]
set_option maxRecDepth 65536 in
set_option maxHeartbeats 40000000 in
theorem rm23 (l : Launch) (Z : State) (a0 : Array Value) (hw : ∀ d ∈ tables_1, d.before a0 Z = true) (a1 : Addr) (u_slots : Value) (u_slotBits : Value) (u_chunks : Value) (u_bytes : Value) (h0 : Heap) (n0 : Nat) (Z0 : n0 ≤ h0.size) (E_a1 : Exa Z h0 a1 "com/example/pricefence/pricefence/replay/SeenIds") (g_a1 : n0 ≤ a1) (F_slots : Fld Z h0 a1 "com/example/pricefence/pricefence/replay/SeenIds" "slots" "[J" u_slots) (F_slotBits : Fld Z h0 a1 "com/example/pricefence/pricefence/replay/SeenIds" "slotBits" "I" u_slotBits) (F_chunks : Fld Z h0 a1 "com/example/pricefence/pricefence/replay/SeenIds" "chunks" "[[B" u_chunks) (F_bytes : Fld Z h0 a1 "com/example/pricefence/pricefence/replay/SeenIds" "bytes" "[B" u_bytes) :
    MetN l Z (⟨"com/example/pricefence/pricefence/replay/SeenIds", "<init>", "()V"⟩ : MethodName) prog_62_method_1_code 1 none [] ({ frames := 1, cells := 3, slots := 1104, locals := 12 } : Room) #[(.ref a1)] h0 (Q23 Z a1 u_slots u_slotBits u_chunks u_bytes h0 n0) := by
  refine met_n (plainFor_of_name pn_4) (fun m => ef_23 m a1) ?_
  intro p e s m below meth c s₁ X0 hx hby hml hZ hown hnm hret hlk e0
  replace hown : s.vm.findClass "com/example/pricefence/pricefence/replay/SeenIds" = some m.cls := hown
  replace hnm : meth.name = "<init>" := hnm
  replace hret : meth.sig.returnType = none := hret
  have N0 := Fr.nil n0
  have K0 : Keep h0 h0 [a1] := Keep.refl _ _
  show Ok p e below _ _ s₁ (mkF m 0 #[.val (.ref a1)] [])
  refine Ok.aloadN (pc' := 1) X0 hx (hb hby d23_0) rfl rfl rfl ?_
  refine Ok.initO (pc' := 4) (W := 0) X0 hx hZ hown (hw _ (List.mem_of_getElem? (i := 48) rfl)) (hw _ (List.mem_of_getElem? (i := 17) rfl)) (hw _ (List.mem_of_getElem? (i := 18) rfl)) e0 (by rw [hml]; rfl) (hb hby d23_1) rfl (by decide) (Nat.le_of_eq rfl) (by decide) ?_
  intro T78 X78 e78
  refine Ok.aloadN (pc' := 5) X78 hx (hb hby d23_4) rfl rfl rfl ?_
  refine Ok.sipush (z := (1024 : Int32)) (pc' := 8) X78 hx (hb hby d23_5) rfl rfl ?_
  refine Ok.newP (pc' := 10) (cap := 1024) X78 hx hZ (hw _ (List.mem_of_getElem? (i := 49) rfl)) rfl e78 (hb hby d23_8) rfl (by decide) (by decide) (by decide) (by decide) (by decide) ?_
  intro T79 h79 b79 kc79 g79 X79 e79 E79 V79
  have ne_a1_b79 : Nq a1 b79 := Nat.ne_of_lt (Nat.lt_of_lt_of_eq E_a1.lt g79.symm)
  replace E_a1 := E_a1.ext E79
  replace F_slots := F_slots.ext E79
  replace F_slotBits := F_slotBits.ext E79
  replace F_chunks := F_chunks.ext E79
  replace F_bytes := F_bytes.ext E79
  have ge_b79 : n0 ≤ b79 := Nat.le_trans Z0 (Nat.le_of_eq g79.symm)
  have sz_b79 : h0.size ≤ b79 := Nat.le_trans K0.1 (Nat.le_of_eq g79.symm)
  have K79 : Keep h0 h79 [a1] := K0.ext E79
  have Z80 : n0 ≤ h79.size := Nat.le_trans Z0 E79.1
  show Ok p e below _ _ T79 (mkF m 10 #[.val (.ref a1)] [(.ref b79), (.ref a1)])
  refine Ok.putF (pc' := 13) (ty := (.array .long)) X79 hx hZ hown (host := "") (Or.inl (hw _ (List.mem_of_getElem? (i := 50) rfl))) Via.refl e79 F_slots E_a1 (Or.inl (hw _ (List.mem_of_getElem? (i := 51) rfl))) (hw _ (List.mem_of_getElem? (i := 43) rfl)) (by decide) rfl rfl (hb hby d23_10) rfl ?_
  intro T81 h81 X81 e81 W81
  replace F_slots := F_slots.same W81
  replace E_a1 := E_a1.wr W81
  replace F_slotBits := F_slotBits.other W81 (Or.inr (slot_ne (Or.inl (hw _ (List.mem_of_getElem? (i := 53) rfl))) (Or.inl (hw _ (List.mem_of_getElem? (i := 51) rfl))) (by decide) (t := .int) (t' := (.array .long)) (by decide) (by decide)))
  replace F_chunks := F_chunks.other W81 (Or.inr (slot_ne (Or.inl (hw _ (List.mem_of_getElem? (i := 57) rfl))) (Or.inl (hw _ (List.mem_of_getElem? (i := 51) rfl))) (by decide) (t := (.array (.array .byte))) (t' := (.array .long)) (by decide) (by decide)))
  replace F_bytes := F_bytes.other W81 (Or.inr (slot_ne (Or.inl (hw _ (List.mem_of_getElem? (i := 59) rfl))) (Or.inl (hw _ (List.mem_of_getElem? (i := 51) rfl))) (by decide) (t := (.array .byte)) (t' := (.array .long)) (by decide) (by decide)))
  have N81 := Fr.snoc X81 N0 g_a1
  have K81 : Keep h0 h81 [a1] := K79.wr W81 (Or.inl (List.mem_of_getElem? (i := 0) rfl))
  have Z82 : n0 ≤ h81.size := Nat.le_trans Z80 (Keep.of_wr W81).1
  refine Ok.aloadN (pc' := 14) X81 hx (hb hby d23_13) rfl rfl rfl ?_
  refine Ok.bipush (z := (10 : Int32)) (pc' := 16) X81 hx (hb hby d23_14) rfl rfl ?_
  refine Ok.putF (pc' := 19) (ty := .int) X81 hx hZ hown (host := "") (Or.inl (hw _ (List.mem_of_getElem? (i := 52) rfl))) Via.refl e81 F_slotBits E_a1 (Or.inl (hw _ (List.mem_of_getElem? (i := 53) rfl))) (hw _ (List.mem_of_getElem? (i := 43) rfl)) (by decide) rfl rfl (hb hby d23_16) rfl ?_
  intro T83 h83 X83 e83 W83
  replace F_slotBits := F_slotBits.same W83
  replace E_a1 := E_a1.wr W83
  replace F_chunks := F_chunks.other W83 (Or.inr (slot_ne (Or.inl (hw _ (List.mem_of_getElem? (i := 57) rfl))) (Or.inl (hw _ (List.mem_of_getElem? (i := 53) rfl))) (by decide) (t := (.array (.array .byte))) (t' := .int) (by decide) (by decide)))
  replace F_bytes := F_bytes.other W83 (Or.inr (slot_ne (Or.inl (hw _ (List.mem_of_getElem? (i := 59) rfl))) (Or.inl (hw _ (List.mem_of_getElem? (i := 53) rfl))) (by decide) (t := (.array .byte)) (t' := .int) (by decide) (by decide)))
  replace F_slots := F_slots.other W83 (Or.inr (slot_ne (Or.inl (hw _ (List.mem_of_getElem? (i := 51) rfl))) (Or.inl (hw _ (List.mem_of_getElem? (i := 53) rfl))) (by decide) (t := (.array .long)) (t' := .int) (by decide) (by decide)))
  have N83 := Fr.snoc X83 N81 g_a1
  have K83 : Keep h0 h83 [a1] := K81.wr W83 (Or.inl (List.mem_of_getElem? (i := 0) rfl))
  have Z84 : n0 ≤ h83.size := Nat.le_trans Z82 (Keep.of_wr W83).1
  refine Ok.aloadN (pc' := 20) X83 hx (hb hby d23_19) rfl rfl rfl ?_
  refine Ok.bipush (z := (16 : Int32)) (pc' := 22) X83 hx (hb hby d23_20) rfl rfl ?_
  refine Ok.newRA (pc' := 25) (cap := 16) (ty := .byte) (C := "[B") (ad := "[[B") X83 hx hZ hown (by decide) (hw _ (List.mem_of_getElem? (i := 54) rfl)) (hw _ (List.mem_of_getElem? (i := 55) rfl)) e83 (hb hby d23_22) rfl (by decide) (by decide) (by decide) (by decide) (by decide) (by decide) ?_
  intro T85 h85 b85 g85 X85 e85 E85
  replace E_a1 := E_a1.ext E85
  replace F_chunks := F_chunks.ext E85
  replace F_bytes := F_bytes.ext E85
  replace F_slots := F_slots.ext E85
  replace F_slotBits := F_slotBits.ext E85
  have K85 : Keep h0 h85 [a1] := K83.ext E85
  have Z86 : n0 ≤ h85.size := Nat.le_trans Z84 E85.1
  show Ok p e below _ _ T85 (mkF m 25 #[.val (.ref a1)] [(.ref b85), (.ref a1)])
  refine Ok.putF (pc' := 28) (ty := (.array (.array .byte))) X85 hx hZ hown (host := "") (Or.inl (hw _ (List.mem_of_getElem? (i := 56) rfl))) Via.refl e85 F_chunks E_a1 (Or.inl (hw _ (List.mem_of_getElem? (i := 57) rfl))) (hw _ (List.mem_of_getElem? (i := 43) rfl)) (by decide) rfl rfl (hb hby d23_25) rfl ?_
  intro T87 h87 X87 e87 W87
  replace F_chunks := F_chunks.same W87
  replace E_a1 := E_a1.wr W87
  replace F_bytes := F_bytes.other W87 (Or.inr (slot_ne (Or.inl (hw _ (List.mem_of_getElem? (i := 59) rfl))) (Or.inl (hw _ (List.mem_of_getElem? (i := 57) rfl))) (by decide) (t := (.array .byte)) (t' := (.array (.array .byte))) (by decide) (by decide)))
  replace F_slots := F_slots.other W87 (Or.inr (slot_ne (Or.inl (hw _ (List.mem_of_getElem? (i := 51) rfl))) (Or.inl (hw _ (List.mem_of_getElem? (i := 57) rfl))) (by decide) (t := (.array .long)) (t' := (.array (.array .byte))) (by decide) (by decide)))
  replace F_slotBits := F_slotBits.other W87 (Or.inr (slot_ne (Or.inl (hw _ (List.mem_of_getElem? (i := 53) rfl))) (Or.inl (hw _ (List.mem_of_getElem? (i := 57) rfl))) (by decide) (t := .int) (t' := (.array (.array .byte))) (by decide) (by decide)))
  have N87 := Fr.snoc X87 N83 g_a1
  have K87 : Keep h0 h87 [a1] := K85.wr W87 (Or.inl (List.mem_of_getElem? (i := 0) rfl))
  have Z88 : n0 ≤ h87.size := Nat.le_trans Z86 (Keep.of_wr W87).1
  refine Ok.aloadN (pc' := 29) X87 hx (hb hby d23_28) rfl rfl rfl ?_
  refine Ok.bipush (z := (64 : Int32)) (pc' := 31) X87 hx (hb hby d23_29) rfl rfl ?_
  refine Ok.newP (pc' := 33) (cap := 64) X87 hx hZ (hw _ (List.mem_of_getElem? (i := 24) rfl)) rfl e87 (hb hby d23_31) rfl (by decide) (by decide) (by decide) (by decide) (by decide) ?_
  intro T89 h89 b89 kc89 g89 X89 e89 E89 V89
  have ne_a1_b89 : Nq a1 b89 := Nat.ne_of_lt (Nat.lt_of_lt_of_eq E_a1.lt g89.symm)
  replace E_a1 := E_a1.ext E89
  replace F_bytes := F_bytes.ext E89
  replace F_slots := F_slots.ext E89
  replace F_slotBits := F_slotBits.ext E89
  replace F_chunks := F_chunks.ext E89
  have ge_b89 : n0 ≤ b89 := Nat.le_trans Z88 (Nat.le_of_eq g89.symm)
  have sz_b89 : h0.size ≤ b89 := Nat.le_trans K87.1 (Nat.le_of_eq g89.symm)
  have K89 : Keep h0 h89 [a1] := K87.ext E89
  have Z90 : n0 ≤ h89.size := Nat.le_trans Z88 E89.1
  show Ok p e below _ _ T89 (mkF m 33 #[.val (.ref a1)] [(.ref b89), (.ref a1)])
  refine Ok.putF (pc' := 36) (ty := (.array .byte)) X89 hx hZ hown (host := "") (Or.inl (hw _ (List.mem_of_getElem? (i := 58) rfl))) Via.refl e89 F_bytes E_a1 (Or.inl (hw _ (List.mem_of_getElem? (i := 59) rfl))) (hw _ (List.mem_of_getElem? (i := 43) rfl)) (by decide) rfl rfl (hb hby d23_33) rfl ?_
  intro T91 h91 X91 e91 W91
  replace F_bytes := F_bytes.same W91
  replace E_a1 := E_a1.wr W91
  replace F_slots := F_slots.other W91 (Or.inr (slot_ne (Or.inl (hw _ (List.mem_of_getElem? (i := 51) rfl))) (Or.inl (hw _ (List.mem_of_getElem? (i := 59) rfl))) (by decide) (t := (.array .long)) (t' := (.array .byte)) (by decide) (by decide)))
  replace F_slotBits := F_slotBits.other W91 (Or.inr (slot_ne (Or.inl (hw _ (List.mem_of_getElem? (i := 53) rfl))) (Or.inl (hw _ (List.mem_of_getElem? (i := 59) rfl))) (by decide) (t := .int) (t' := (.array .byte)) (by decide) (by decide)))
  replace F_chunks := F_chunks.other W91 (Or.inr (slot_ne (Or.inl (hw _ (List.mem_of_getElem? (i := 57) rfl))) (Or.inl (hw _ (List.mem_of_getElem? (i := 59) rfl))) (by decide) (t := (.array (.array .byte))) (t' := (.array .byte)) (by decide) (by decide)))
  have N91 := Fr.snoc X91 N87 g_a1
  have K91 : Keep h0 h91 [a1] := K89.wr W91 (Or.inl (List.mem_of_getElem? (i := 0) rfl))
  have Z92 : n0 ≤ h91.size := Nat.le_trans Z90 (Keep.of_wr W91).1
  refine Ok.retV X91 hx hret hlk (hb hby d23_36) (by decide) (by decide) ?_
  show Q23 Z a1 u_slots u_slotBits u_chunks u_bytes h0 n0 _ T91.heap _
  rw [e91]
  exact ⟨rfl, N91, K91⟩
theorem d24_0 : decode prog_50_method_1_code 0 = .ok (.aload_n 0, 1) := by decide +kernel
theorem d24_1 : decode prog_50_method_1_code 1 = .ok (.invokespecial 1, 3) := by decide +kernel
theorem d24_4 : decode prog_50_method_1_code 4 = .ok (.aload_n 0, 1) := by decide +kernel
theorem d24_5 : decode prog_50_method_1_code 5 = .ok (.new 7, 3) := by decide +kernel
theorem d24_8 : decode prog_50_method_1_code 8 = .ok (.dup, 1) := by decide +kernel
theorem d24_9 : decode prog_50_method_1_code 9 = .ok (.invokespecial 9, 3) := by decide +kernel
theorem d24_12 : decode prog_50_method_1_code 12 = .ok (.putfield 10, 3) := by decide +kernel
theorem d24_15 : decode prog_50_method_1_code 15 = .ok (.aload_n 0, 1) := by decide +kernel
theorem d24_16 : decode prog_50_method_1_code 16 = .ok (.aload_n 1, 1) := by decide +kernel
theorem d24_17 : decode prog_50_method_1_code 17 = .ok (.putfield 16, 3) := by decide +kernel
theorem d24_20 : decode prog_50_method_1_code 20 = .ok (.aload_n 0, 1) := by decide +kernel
theorem d24_21 : decode prog_50_method_1_code 21 = .ok (.aload_n 2, 1) := by decide +kernel
theorem d24_22 : decode prog_50_method_1_code 22 = .ok (.putfield 20, 3) := by decide +kernel
theorem d24_25 : decode prog_50_method_1_code 25 = .ok (.return_, 1) := by decide +kernel
theorem pn_5 : plainName "com/example/pricefence/pricefence/replay/OrderIds" = true := by first | (simp [plainName, overriddenIn]; done) | decide +kernel
theorem ef_24 (m : MethodId) (x0 : Addr) (x1 : Value) (r1 : x1.isRef = true) (x2 : Value) (r2 : x2.isRef = true) : entryFrame m #[(.ref x0), x1, x2] 3 = mkF m 0 #[.val (.ref x0), .val x1, .val x2] [] := by
  (cases x1 <;> simp [Value.isRef] at r1) <;> (cases x2 <;> simp [Value.isRef] at r2) <;> first | (simp [entryFrame, mkF, argsToLocals, Value.category]; done) | rfl
def Q24 (Z : State) (a1 : Addr) (q2 : Value) (q3 : Value) (u_seen : Value) (u_ordersFile : Value) (u_complexOrdersFile : Value) (h0 : Heap) (n0 : Nat) (v : Option Value) (h : Heap) (L : List Loc) : Prop := v = none ∧ Fr n0 L ∧ Keep h0 h [a1] ∧ Exa Z h a1 "com/example/pricefence/pricefence/replay/OrderIds" ∧ Fld Z h a1 "com/example/pricefence/pricefence/replay/OrderIds" "complexOrdersFile" "Ljava/lang/String;" q3
set_option maxRecDepth 65536 in
set_option maxHeartbeats 40000000 in
theorem rm24 (l : Launch) (Z : State) (a0 : Array Value) (hw : ∀ d ∈ tables_1, d.before a0 Z = true) (a1 : Addr) (q2 : Value) (q3 : Value) (u_seen : Value) (u_ordersFile : Value) (u_complexOrdersFile : Value) (h0 : Heap) (n0 : Nat) (Z0 : n0 ≤ h0.size) (E_a1 : Exa Z h0 a1 "com/example/pricefence/pricefence/replay/OrderIds") (g_a1 : n0 ≤ a1) (F_seen : Fld Z h0 a1 "com/example/pricefence/pricefence/replay/OrderIds" "seen" "Lcom/example/pricefence/pricefence/replay/SeenIds;" u_seen) (F_ordersFile : Fld Z h0 a1 "com/example/pricefence/pricefence/replay/OrderIds" "ordersFile" "Ljava/lang/String;" u_ordersFile) (F_complexOrdersFile : Fld Z h0 a1 "com/example/pricefence/pricefence/replay/OrderIds" "complexOrdersFile" "Ljava/lang/String;" u_complexOrdersFile) (r_q2 : q2.isRef = true) (r_q3 : q3.isRef = true) :
    MetN l Z (⟨"com/example/pricefence/pricefence/replay/OrderIds", "<init>", "(Ljava/lang/String;Ljava/lang/String;)V"⟩ : MethodName) prog_50_method_1_code 3 none [] ({ frames := 2, cells := 4, slots := 1113, locals := 26 } : Room) #[(.ref a1), q2, q3] h0 (Q24 Z a1 q2 q3 u_seen u_ordersFile u_complexOrdersFile h0 n0) := by
  refine met_n (plainFor_of_name pn_5) (fun m => ef_24 m a1 q2 r_q2 q3 r_q3) ?_
  intro p e s m below meth c s₁ X0 hx hby hml hZ hown hnm hret hlk e0
  replace hown : s.vm.findClass "com/example/pricefence/pricefence/replay/OrderIds" = some m.cls := hown
  replace hnm : meth.name = "<init>" := hnm
  replace hret : meth.sig.returnType = none := hret
  have N0 := Fr.nil n0
  have K0 : Keep h0 h0 [a1] := Keep.refl _ _
  show Ok p e below _ _ s₁ (mkF m 0 #[.val (.ref a1), .val q2, .val q3] [])
  refine Ok.aloadN (pc' := 1) X0 hx (hb hby d24_0) rfl rfl rfl ?_
  refine Ok.initO (pc' := 4) (W := 0) X0 hx hZ hown (hw _ (List.mem_of_getElem? (i := 41) rfl)) (hw _ (List.mem_of_getElem? (i := 17) rfl)) (hw _ (List.mem_of_getElem? (i := 18) rfl)) e0 (by rw [hml]; rfl) (hb hby d24_1) rfl (by decide) (Nat.le_of_eq rfl) (by decide) ?_
  intro T93 X93 e93
  refine Ok.aloadN (pc' := 5) X93 hx (hb hby d24_4) rfl rfl rfl ?_
  refine Ok.new (pc' := 8) X93 hx hZ hown (hw _ (List.mem_of_getElem? (i := 42) rfl)) (hw _ (List.mem_of_getElem? (i := 43) rfl)) (hw _ (List.mem_of_getElem? (i := 44) rfl)) e93 (hb hby d24_5) rfl (by decide) (by decide) ?_
  intro T94 h94 b94 g94 X94 e94 E94 A94 D94
  have ne_a1_b94 : Nq a1 b94 := Nat.ne_of_lt (Nat.lt_of_lt_of_eq E_a1.lt g94.symm)
  replace E_a1 := E_a1.ext E94
  replace F_seen := F_seen.ext E94
  replace F_ordersFile := F_ordersFile.ext E94
  replace F_complexOrdersFile := F_complexOrdersFile.ext E94
  have ge_b94 : n0 ≤ b94 := Nat.le_trans Z0 (Nat.le_of_eq g94.symm)
  have sz_b94 : h0.size ≤ b94 := Nat.le_trans K0.1 (Nat.le_of_eq g94.symm)
  have K94 : Keep h0 h94 [a1] := K0.ext E94
  have Z95 : n0 ≤ h94.size := Nat.le_trans Z0 E94.1
  have F94_slots : Fld Z h94 b94 "com/example/pricefence/pricefence/replay/SeenIds" "slots" "[J" .null := D94 (Or.inl (hw _ (List.mem_of_getElem? (i := 51) rfl))) (ty := (.array .long)) (by decide)
  have F94_slotBits : Fld Z h94 b94 "com/example/pricefence/pricefence/replay/SeenIds" "slotBits" "I" (.int (0 : Int32)) := D94 (Or.inl (hw _ (List.mem_of_getElem? (i := 53) rfl))) (ty := .int) (by decide)
  have F94_chunks : Fld Z h94 b94 "com/example/pricefence/pricefence/replay/SeenIds" "chunks" "[[B" .null := D94 (Or.inl (hw _ (List.mem_of_getElem? (i := 57) rfl))) (ty := (.array (.array .byte))) (by decide)
  have F94_bytes : Fld Z h94 b94 "com/example/pricefence/pricefence/replay/SeenIds" "bytes" "[B" .null := D94 (Or.inl (hw _ (List.mem_of_getElem? (i := 59) rfl))) (ty := (.array .byte)) (by decide)
  show Ok p e below _ _ T94 (mkF m 8 #[.val (.ref a1), .val q2, .val q3] [(.ref b94), (.ref a1)])
  refine Ok.dup (pc' := 9) X94 hx (hb hby d24_8) rfl rfl ?_
  refine Ok.init (pc' := 12) (W := 2) (a := b94)  (argsL := []) (rest := [(.ref b94), (.ref a1)]) X94 hx hZ hown (rm23 l Z a0 hw b94 .null (.int (0 : Int32)) .null .null h94 n0 Z95 A94 ge_b94 F94_slots F94_slotBits F94_chunks F94_bytes) rfl (hw _ (List.mem_of_getElem? (i := 45) rfl)) (hw _ (List.mem_of_getElem? (i := 46) rfl)) (hw _ (List.mem_of_getElem? (i := 44) rfl)) (hw _ (List.mem_of_getElem? (i := 47) rfl)) (by decide) e94 (by decide) (by decide) (by decide) (by decide) (lenOf pd_3 rfl) rfl rfl (Nat.le_of_eq rfl) (by rw [hml]; rfl) (hb hby d24_9) rfl ?_
  intro v96 T96 L96 X96 hQ96
  obtain ⟨rfl, Nq96, Kq96⟩ := hQ96
  have N96 := Fr.app N0 Nq96
  replace E_a1 := E_a1.keep Kq96
  replace F_seen := F_seen.keep Kq96 (ninS ne_a1_b94 nin0)
  replace F_ordersFile := F_ordersFile.keep Kq96 (ninS ne_a1_b94 nin0)
  replace F_complexOrdersFile := F_complexOrdersFile.keep Kq96 (ninS ne_a1_b94 nin0)
  replace A94 := A94.keep Kq96
  have K96' : Keep h0 T96.heap [a1] := K94.trans Kq96 (allS (Or.inr sz_b94) all0)
  have Z97 : n0 ≤ T96.heap.size := Nat.le_trans Z95 Kq96.1
  show Ok p e below _ _ T96 (mkF m 12 #[.val (.ref a1), .val q2, .val q3] [(.ref b94), (.ref a1)])
  refine Ok.putF (pc' := 15) (ty := (.object "com/example/pricefence/pricefence/replay/SeenIds")) X96 hx hZ hown (host := "") (Or.inl (hw _ (List.mem_of_getElem? (i := 60) rfl))) Via.refl rfl F_seen E_a1 (Or.inr ⟨(hw _ (List.mem_of_getElem? (i := 61) rfl)), rfl, hnm⟩) (hw _ (List.mem_of_getElem? (i := 36) rfl)) (by decide) rfl rfl (hb hby d24_12) rfl ?_
  intro T98 h98 X98 e98 W98
  replace F_seen := F_seen.same W98
  replace E_a1 := E_a1.wr W98
  replace F_ordersFile := F_ordersFile.other W98 (Or.inr (slot_ne (Or.inr (hw _ (List.mem_of_getElem? (i := 63) rfl))) (Or.inr (hw _ (List.mem_of_getElem? (i := 61) rfl))) (by decide) (t := (.object "java/lang/String")) (t' := (.object "com/example/pricefence/pricefence/replay/SeenIds")) (by decide) (by decide)))
  replace F_complexOrdersFile := F_complexOrdersFile.other W98 (Or.inr (slot_ne (Or.inr (hw _ (List.mem_of_getElem? (i := 65) rfl))) (Or.inr (hw _ (List.mem_of_getElem? (i := 61) rfl))) (by decide) (t := (.object "java/lang/String")) (t' := (.object "com/example/pricefence/pricefence/replay/SeenIds")) (by decide) (by decide)))
  have N98 := Fr.snoc X98 N96 g_a1
  have K98 : Keep h0 h98 [a1] := K96'.wr W98 (Or.inl (List.mem_of_getElem? (i := 0) rfl))
  have Z99 : n0 ≤ h98.size := Nat.le_trans Z97 (Keep.of_wr W98).1
  refine Ok.aloadN (pc' := 16) X98 hx (hb hby d24_15) rfl rfl rfl ?_
  refine Ok.aloadN (pc' := 17) X98 hx (hb hby d24_16) rfl rfl r_q2 ?_
  refine Ok.putF (pc' := 20) (ty := (.object "java/lang/String")) X98 hx hZ hown (host := "") (Or.inl (hw _ (List.mem_of_getElem? (i := 62) rfl))) Via.refl e98 F_ordersFile E_a1 (Or.inr ⟨(hw _ (List.mem_of_getElem? (i := 63) rfl)), rfl, hnm⟩) (hw _ (List.mem_of_getElem? (i := 36) rfl)) (by decide) (by cases q2 <;> simp [Value.isRef] at r_q2 <;> rfl) (by cases q2 <;> simp [Value.isRef] at r_q2 <;> rfl) (hb hby d24_17) rfl ?_
  intro T100 h100 X100 e100 W100
  replace F_ordersFile := F_ordersFile.same W100
  replace E_a1 := E_a1.wr W100
  replace F_complexOrdersFile := F_complexOrdersFile.other W100 (Or.inr (slot_ne (Or.inr (hw _ (List.mem_of_getElem? (i := 65) rfl))) (Or.inr (hw _ (List.mem_of_getElem? (i := 63) rfl))) (by decide) (t := (.object "java/lang/String")) (t' := (.object "java/lang/String")) (by decide) (by decide)))
  replace F_seen := F_seen.other W100 (Or.inr (slot_ne (Or.inr (hw _ (List.mem_of_getElem? (i := 61) rfl))) (Or.inr (hw _ (List.mem_of_getElem? (i := 63) rfl))) (by decide) (t := (.object "com/example/pricefence/pricefence/replay/SeenIds")) (t' := (.object "java/lang/String")) (by decide) (by decide)))
  have N100 := Fr.snoc X100 N98 g_a1
  have K100 : Keep h0 h100 [a1] := K98.wr W100 (Or.inl (List.mem_of_getElem? (i := 0) rfl))
  have Z101 : n0 ≤ h100.size := Nat.le_trans Z99 (Keep.of_wr W100).1
  refine Ok.aloadN (pc' := 21) X100 hx (hb hby d24_20) rfl rfl rfl ?_
  refine Ok.aloadN (pc' := 22) X100 hx (hb hby d24_21) rfl rfl r_q3 ?_
  refine Ok.putF (pc' := 25) (ty := (.object "java/lang/String")) X100 hx hZ hown (host := "") (Or.inl (hw _ (List.mem_of_getElem? (i := 64) rfl))) Via.refl e100 F_complexOrdersFile E_a1 (Or.inr ⟨(hw _ (List.mem_of_getElem? (i := 65) rfl)), rfl, hnm⟩) (hw _ (List.mem_of_getElem? (i := 36) rfl)) (by decide) (by cases q3 <;> simp [Value.isRef] at r_q3 <;> rfl) (by cases q3 <;> simp [Value.isRef] at r_q3 <;> rfl) (hb hby d24_22) rfl ?_
  intro T102 h102 X102 e102 W102
  replace F_complexOrdersFile := F_complexOrdersFile.same W102
  replace E_a1 := E_a1.wr W102
  replace F_seen := F_seen.other W102 (Or.inr (slot_ne (Or.inr (hw _ (List.mem_of_getElem? (i := 61) rfl))) (Or.inr (hw _ (List.mem_of_getElem? (i := 65) rfl))) (by decide) (t := (.object "com/example/pricefence/pricefence/replay/SeenIds")) (t' := (.object "java/lang/String")) (by decide) (by decide)))
  replace F_ordersFile := F_ordersFile.other W102 (Or.inr (slot_ne (Or.inr (hw _ (List.mem_of_getElem? (i := 63) rfl))) (Or.inr (hw _ (List.mem_of_getElem? (i := 65) rfl))) (by decide) (t := (.object "java/lang/String")) (t' := (.object "java/lang/String")) (by decide) (by decide)))
  have N102 := Fr.snoc X102 N100 g_a1
  have K102 : Keep h0 h102 [a1] := K100.wr W102 (Or.inl (List.mem_of_getElem? (i := 0) rfl))
  have Z103 : n0 ≤ h102.size := Nat.le_trans Z101 (Keep.of_wr W102).1
  refine Ok.retV X102 hx hret hlk (hb hby d24_25) (by decide) (by decide) ?_
  show Q24 Z a1 q2 q3 u_seen u_ordersFile u_complexOrdersFile h0 n0 _ T102.heap _
  rw [e102]
  exact ⟨rfl, N102, K102, E_a1, F_complexOrdersFile⟩
theorem d25_0 : decode prog_50_method_2_code 0 = .ok (.aload_n 0, 1) := by decide +kernel
theorem d25_1 : decode prog_50_method_2_code 1 = .ok (.getfield 20, 3) := by decide +kernel
theorem d25_4 : decode prog_50_method_2_code 4 = .ok (.ifnonnull 7, 3) := by decide +kernel
theorem d25_7 : decode prog_50_method_2_code 7 = .ok (.iconst 1, 1) := by decide +kernel
theorem d25_8 : decode prog_50_method_2_code 8 = .ok (.goto 4, 3) := by decide +kernel
theorem d25_11 : decode prog_50_method_2_code 11 = .ok (.iconst 0, 1) := by decide +kernel
theorem d25_12 : decode prog_50_method_2_code 12 = .ok (.ireturn, 1) := by decide +kernel
theorem ef_25 (m : MethodId) (x0 : Addr) : entryFrame m #[(.ref x0)] 1 = mkF m 0 #[.val (.ref x0)] [] := by first | (simp [entryFrame, mkF, argsToLocals, Value.category]; done) | rfl
def Q25 (Z : State) (a1 : Addr) (h0 : Heap) (n0 : Nat) (v : Option Value) (h : Heap) (L : List Loc) : Prop := v = some (.int (1 : Int32)) ∧ Fr n0 L ∧ h = h0
set_option maxRecDepth 65536 in
set_option maxHeartbeats 40000000 in
theorem rm25 (l : Launch) (Z : State) (a0 : Array Value) (hw : ∀ d ∈ tables_1, d.before a0 Z = true) (a1 : Addr) (h0 : Heap) (n0 : Nat) (Z0 : n0 ≤ h0.size) (F_1 : Fld Z h0 a1 "com/example/pricefence/pricefence/replay/OrderIds" "complexOrdersFile" "Ljava/lang/String;" .null) :
    MetN l Z (⟨"com/example/pricefence/pricefence/replay/OrderIds", "ordersFileAlone", "()Z"⟩ : MethodName) prog_50_method_2_code 1 (some .boolean) [] ({ frames := 0, cells := 0, slots := 0, locals := 0 } : Room) #[(.ref a1)] h0 (Q25 Z a1 h0 n0) := by
  refine met_n (plainFor_of_name pn_5) (fun m => ef_25 m a1) ?_
  intro p e s m below meth c s₁ X0 hx hby hml hZ hown hnm hret hlk e0
  replace hown : s.vm.findClass "com/example/pricefence/pricefence/replay/OrderIds" = some m.cls := hown
  replace hnm : meth.name = "ordersFileAlone" := hnm
  replace hret : meth.sig.returnType = (some .boolean) := hret
  have N0 := Fr.nil n0
  have K0 : Keep h0 h0 [] := Keep.refl _ _
  show Ok p e below _ _ s₁ (mkF m 0 #[.val (.ref a1)] [])
  refine Ok.aloadN (pc' := 1) X0 hx (hb hby d25_0) rfl rfl rfl ?_
  refine Ok.getF (pc' := 4) X0 hx hZ hown (host := "") (Or.inl (hw _ (List.mem_of_getElem? (i := 64) rfl))) Via.refl e0 F_1 (hb hby d25_1) rfl ?_
  intro T104 X104 e104
  refine Ok.nonnullN (pc' := 7) X104 hx (hb hby d25_4) rfl ?_
  refine Ok.iconst (z := (1 : Int32)) (pc' := 8) X104 hx (hb hby d25_7) rfl rfl ?_
  refine Ok.goto (pc' := 12) X104 hx (hb hby d25_8) (by decide) (by decide) ?_
  refine Ok.retI X104 hx hret hlk (Or.inr (Or.inl rfl)) rfl (hb hby d25_12) (by decide) (by decide) ?_
  show Q25 Z a1 h0 n0 _ T104.heap _
  rw [e104]
  exact ⟨rfl, N0, rfl⟩
theorem d26_0 : decode prog_50_method_2_code 0 = .ok (.aload_n 0, 1) := by decide +kernel
theorem d26_1 : decode prog_50_method_2_code 1 = .ok (.getfield 20, 3) := by decide +kernel
theorem d26_4 : decode prog_50_method_2_code 4 = .ok (.ifnonnull 7, 3) := by decide +kernel
theorem d26_7 : decode prog_50_method_2_code 7 = .ok (.iconst 1, 1) := by decide +kernel
theorem d26_8 : decode prog_50_method_2_code 8 = .ok (.goto 4, 3) := by decide +kernel
theorem d26_11 : decode prog_50_method_2_code 11 = .ok (.iconst 0, 1) := by decide +kernel
theorem d26_12 : decode prog_50_method_2_code 12 = .ok (.ireturn, 1) := by decide +kernel
theorem ef_26 (m : MethodId) (x0 : Addr) : entryFrame m #[(.ref x0)] 1 = mkF m 0 #[.val (.ref x0)] [] := by first | (simp [entryFrame, mkF, argsToLocals, Value.category]; done) | rfl
def Q26 (Z : State) (a1 : Addr) (q2 : Addr) (h0 : Heap) (n0 : Nat) (v : Option Value) (h : Heap) (L : List Loc) : Prop := v = some (.int (0 : Int32)) ∧ Fr n0 L ∧ h = h0
set_option maxRecDepth 65536 in
set_option maxHeartbeats 40000000 in
theorem rm26 (l : Launch) (Z : State) (a0 : Array Value) (hw : ∀ d ∈ tables_1, d.before a0 Z = true) (a1 : Addr) (q2 : Addr) (h0 : Heap) (n0 : Nat) (Z0 : n0 ≤ h0.size) (F_1 : Fld Z h0 a1 "com/example/pricefence/pricefence/replay/OrderIds" "complexOrdersFile" "Ljava/lang/String;" (.ref q2)) :
    MetN l Z (⟨"com/example/pricefence/pricefence/replay/OrderIds", "ordersFileAlone", "()Z"⟩ : MethodName) prog_50_method_2_code 1 (some .boolean) [] ({ frames := 0, cells := 0, slots := 0, locals := 0 } : Room) #[(.ref a1)] h0 (Q26 Z a1 q2 h0 n0) := by
  refine met_n (plainFor_of_name pn_5) (fun m => ef_26 m a1) ?_
  intro p e s m below meth c s₁ X0 hx hby hml hZ hown hnm hret hlk e0
  replace hown : s.vm.findClass "com/example/pricefence/pricefence/replay/OrderIds" = some m.cls := hown
  replace hnm : meth.name = "ordersFileAlone" := hnm
  replace hret : meth.sig.returnType = (some .boolean) := hret
  have N0 := Fr.nil n0
  have K0 : Keep h0 h0 [] := Keep.refl _ _
  show Ok p e below _ _ s₁ (mkF m 0 #[.val (.ref a1)] [])
  refine Ok.aloadN (pc' := 1) X0 hx (hb hby d26_0) rfl rfl rfl ?_
  refine Ok.getF (pc' := 4) X0 hx hZ hown (host := "") (Or.inl (hw _ (List.mem_of_getElem? (i := 64) rfl))) Via.refl e0 F_1 (hb hby d26_1) rfl ?_
  intro T105 X105 e105
  refine Ok.nonnullY (pc' := 11) X105 hx (hb hby d26_4) (by decide) (by decide) ?_
  refine Ok.iconst (z := (0 : Int32)) (pc' := 12) X105 hx (hb hby d26_11) rfl rfl ?_
  refine Ok.retI X105 hx hret hlk (Or.inr (Or.inl rfl)) rfl (hb hby d26_12) (by decide) (by decide) ?_
  show Q26 Z a1 q2 h0 n0 _ T105.heap _
  rw [e105]
  exact ⟨rfl, N0, rfl⟩
theorem ef_0 (m : MethodId) (x0 : Int32) (x1 : Int32) (x2 : Int32) (x3 : Int32) : entryFrame m #[(.int x0), (.int x1), (.int x2), (.int x3)] maxLocals = mkF m 0 #[.val (.int x0), .val (.int x1), .val (.int x2), .val (.int x3), .unset, .unset, .unset, .unset] [] := by first | (simp [entryFrame, mkF, argsToLocals, Value.category, maxLocals]; done) | rfl
def Q0 (Z : State) (p1 : Int32) (p2 : Int32) (p3 : Int32) (p4 : Int32) (cs0 : Int32) (h0 : Heap) (n0 : Nat) (v : Option Value) (h : Heap) (L : List Loc) : Prop := v = some (.int (1 : Int32)) ∧ Fr n0 L
set_option maxRecDepth 65536 in
set_option maxHeartbeats 40000000 in
theorem rm0 (l : Launch) (Z : State) (a0 : Array Value) (hw : ∀ d ∈ tables_1, d.before a0 Z = true) (ws : List Jvm.Cond) (p1 : Int32) (p2 : Int32) (p3 : Int32) (p4 : Int32) (cs0 : Int32) (h0 : Heap) (n0 : Nat) (Z0 : n0 ≤ h0.size) (O_0 : Old Z n0 h0) (S_cs : Sta Z Z.heap "java/lang/String" "COMPACT_STRINGS" "Z" (.int cs0)) (hcs : ¬ cs0.toInt = 0) :
    MetHW l Z EL1 x code maxLocals ret ws room_1 #[(.int p1), (.int p2), (.int p3), (.int p4)] h0 (Q0 Z p1 p2 p3 p4 cs0 h0 n0) := by
  refine met_hw (plainFor_of_name pn_3) (fun m => ef_0 m p1 p2 p3 p4) ?_
  intro p e s m below meth c s₁ V0 nS0 X0 hx hby hml hZ0 hown0 hnm hret hlk e0 hS0 hSn0 HC0
  replace hown0 : V0.findClass "com/example/pricefence/pricefence/replay/OrderIdsOrdersFileAlonePinLaw" = some m.cls := hown0
  replace hnm : meth.name = "law" := hnm
  replace hret : meth.sig.returnType = (some .boolean) := hret
  have N0 := Fr.nil n0
  have K0 : Keep h0 h0 [] := Keep.refl _ _
  show Ok p e below _ _ s₁ (mkF m 0 #[.val (.int p1), .val (.int p2), .val (.int p3), .val (.int p4), .unset, .unset, .unset, .unset] [])
  have hEL : EW Z a0 EL1 := EW.cons (hw _ (List.mem_of_getElem? (i := 85) rfl)) (by simp) EW.nil
  show Ok p e below _ _ s₁ (mkF m 0 #[.val (.int p1), .val (.int p2), .val (.int p3), .val (.int p4), .unset, .unset, .unset, .unset] [])
  refine Ok.iloadN (pc' := 1) X0 hx (hb hby at_0) rfl rfl ?_
  refine Ok.iloadN (pc' := 2) X0 hx (hb hby at_1) rfl rfl ?_
  refine Ok.iloadN (pc' := 3) X0 hx (hb hby at_2) rfl rfl ?_
  refine Ok.callSH (pc' := 6) (W := 0)  (argsL := [(.int p1), (.int p3), (.int p4)]) (rest := []) X0 hx hZ0 hown0 hS0 hSn0 hEL HC0.1 (rm22 l Z a0 hw p1 p3 p4 cs0 h0 n0 Z0 O_0 S_cs hcs) (hw _ (List.mem_of_getElem? (i := 0) rfl)) (hw _ (List.mem_of_getElem? (i := 1) rfl)) (hw _ (List.mem_of_getElem? (i := 2) rfl)) (hw _ (List.mem_of_getElem? (i := 3) rfl)) (by decide) e0 (by decide) (by decide) (by decide) (by decide) (lenOf pd_0 rfl) rfl rfl (Nat.le_of_eq rfl) (by rw [hml]; rfl) (hb hby at_3) rfl ?_
  intro v106 T106 L106 X106 hZ106 hown106 hS106 C106 hQ106
  have HC106 := HC0.trans C106
  obtain ⟨z106, rfl, hz106, Nq106, Kq106⟩ := hQ106
  have N106 := Fr.app N0 Nq106
  replace O_0 := O_0.keep Kq106 all0
  have K106' : Keep h0 T106.heap [] := K0.trans Kq106 all0
  have Z107 : n0 ≤ T106.heap.size := Nat.le_trans Z0 Kq106.1
  have r_z106 : z106.isRef = true := by rcases hz106 with ⟨_, rfl⟩ | ⟨_, _, rfl⟩ <;> rfl
  show Ok p e below _ _ T106 (mkF m 6 #[.val (.int p1), .val (.int p2), .val (.int p3), .val (.int p4), .unset, .unset, .unset, .unset] [z106])
  refine Ok.astore (l' := #[.val (.int p1), .val (.int p2), .val (.int p3), .val (.int p4), .val z106, .unset, .unset, .unset]) (pc' := 8) X106 hx (hb hby at_6) rfl r_z106 (by cases z106 <;> simp [Value.isRef] at r_z106 <;> rfl) ?_
  refine Ok.iloadN (pc' := 9) X106 hx (hb hby at_8) rfl rfl ?_
  refine Ok.iloadN (pc' := 10) X106 hx (hb hby at_9) rfl rfl ?_
  refine Ok.iloadN (pc' := 11) X106 hx (hb hby at_10) rfl rfl ?_
  refine Ok.callSH (pc' := 14) (W := 0)  (argsL := [(.int p2), (.int p4), (.int p3)]) (rest := []) X106 hx hZ106 hown106 hS106 (Nat.le_refl _) hEL HC106.1 (rm22 l Z a0 hw p2 p4 p3 cs0 T106.heap n0 Z107 O_0 S_cs hcs) (hw _ (List.mem_of_getElem? (i := 0) rfl)) (hw _ (List.mem_of_getElem? (i := 1) rfl)) (hw _ (List.mem_of_getElem? (i := 2) rfl)) (hw _ (List.mem_of_getElem? (i := 3) rfl)) (by decide) rfl (by decide) (by decide) (by decide) (by decide) (lenOf pd_0 rfl) rfl rfl (Nat.le_of_eq rfl) (by rw [hml]; rfl) (hb hby at_11) rfl ?_
  intro v108 T108 L108 X108 hZ108 hown108 hS108 C108 hQ108
  have HC108 := HC106.trans C108
  obtain ⟨z108, rfl, hz108, Nq108, Kq108⟩ := hQ108
  have N108 := Fr.app N106 Nq108
  replace O_0 := O_0.keep Kq108 all0
  have K108' : Keep h0 T108.heap [] := K106'.trans Kq108 all0
  have Z109 : n0 ≤ T108.heap.size := Nat.le_trans Z107 Kq108.1
  rcases hz108 with ⟨hk, rfl⟩ | ⟨hk, rb, rfl⟩
  · show Ok p e below _ _ T108 (mkF m 14 #[.val (.int p1), .val (.int p2), .val (.int p3), .val (.int p4), .val z106, .unset, .unset, .unset] [.null])
    refine Ok.astore (l' := #[.val (.int p1), .val (.int p2), .val (.int p3), .val (.int p4), .val z106, .val .null, .unset, .unset]) (pc' := 16) X108 hx (hb hby at_14) rfl rfl rfl ?_
    refine Ok.new (pc' := 19) X108 hx hZ108 hown108 (hw _ (List.mem_of_getElem? (i := 35) rfl)) (hw _ (List.mem_of_getElem? (i := 36) rfl)) (hw _ (List.mem_of_getElem? (i := 37) rfl)) rfl (hb hby at_16) rfl (by decide) (by decide) ?_
    intro T110 h110 b110 g110 X110 e110 E110 A110 D110
    replace O_0 := O_0.ext E110
    have ge_b110 : n0 ≤ b110 := Nat.le_trans Z109 (Nat.le_of_eq g110.symm)
    have sz_b110 : h0.size ≤ b110 := Nat.le_trans K108'.1 (Nat.le_of_eq g110.symm)
    have K110 : Keep h0 h110 [] := K108'.ext E110
    have Z111 : n0 ≤ h110.size := Nat.le_trans Z109 E110.1
    have hSn111 : _ ≤ h110.size := Nat.le_trans (Nat.le_refl _) E110.1
    have F110_seen : Fld Z h110 b110 "com/example/pricefence/pricefence/replay/OrderIds" "seen" "Lcom/example/pricefence/pricefence/replay/SeenIds;" .null := D110 (Or.inr (hw _ (List.mem_of_getElem? (i := 61) rfl))) (ty := (.object "com/example/pricefence/pricefence/replay/SeenIds")) (by decide)
    have F110_ordersFile : Fld Z h110 b110 "com/example/pricefence/pricefence/replay/OrderIds" "ordersFile" "Ljava/lang/String;" .null := D110 (Or.inr (hw _ (List.mem_of_getElem? (i := 63) rfl))) (ty := (.object "java/lang/String")) (by decide)
    have F110_complexOrdersFile : Fld Z h110 b110 "com/example/pricefence/pricefence/replay/OrderIds" "complexOrdersFile" "Ljava/lang/String;" .null := D110 (Or.inr (hw _ (List.mem_of_getElem? (i := 65) rfl))) (ty := (.object "java/lang/String")) (by decide)
    show Ok p e below _ _ T110 (mkF m 19 #[.val (.int p1), .val (.int p2), .val (.int p3), .val (.int p4), .val z106, .val .null, .unset, .unset] [(.ref b110)])
    refine Ok.dup (pc' := 20) X110 hx (hb hby at_19) rfl rfl ?_
    refine Ok.aload (pc' := 22) X110 hx (hb hby at_20) rfl rfl r_z106 ?_
    refine Ok.aload (pc' := 24) X110 hx (hb hby at_22) rfl rfl rfl ?_
    refine Ok.init (pc' := 27) (W := 1) (a := b110)  (argsL := [z106, .null]) (rest := [(.ref b110)]) X110 hx hZ108 hown108 (rm24 l Z a0 hw b110 z106 .null .null .null .null h110 n0 Z111 A110 ge_b110 F110_seen F110_ordersFile F110_complexOrdersFile r_z106 rfl) rfl (hw _ (List.mem_of_getElem? (i := 38) rfl)) (hw _ (List.mem_of_getElem? (i := 39) rfl)) (hw _ (List.mem_of_getElem? (i := 37) rfl)) (hw _ (List.mem_of_getElem? (i := 40) rfl)) (by decide) e110 (by decide) (by decide) (by decide) (by decide) (lenOf pd_7 rfl) rfl rfl (Nat.le_of_eq rfl) (by rw [hml]; rfl) (hb hby at_24) rfl ?_
    intro v112 T112 L112 X112 hQ112
    obtain ⟨rfl, Nq112, Kq112, Aq112, Fq112⟩ := hQ112
    have N112 := Fr.app N108 Nq112
    replace O_0 := O_0.keep Kq112 (allS ge_b110 all0)
    replace A110 := A110.keep Kq112
    have K112' : Keep h0 T112.heap [] := K110.trans Kq112 (allS (Or.inr sz_b110) all0)
    have Z113 : n0 ≤ T112.heap.size := Nat.le_trans Z111 Kq112.1
    have hSn113 : _ ≤ T112.heap.size := Nat.le_trans hSn111 Kq112.1
    show Ok p e below _ _ T112 (mkF m 27 #[.val (.int p1), .val (.int p2), .val (.int p3), .val (.int p4), .val z106, .val .null, .unset, .unset] [(.ref b110)])
    refine Ok.astore (l' := #[.val (.int p1), .val (.int p2), .val (.int p3), .val (.int p4), .val z106, .val .null, .val (.ref b110), .unset]) (pc' := 29) X112 hx (hb hby at_27) rfl rfl rfl ?_
    refine Ok.iloadN (pc' := 30) X112 hx (hb hby at_29) rfl rfl ?_
    refine Ok.ldcI (pc' := 32) (v := (2147483647 : Int32)) X112 hx hZ108 hown108 (hw _ (List.mem_of_getElem? (i := 4) rfl)) (hb hby at_30) rfl ?_
    refine Ok.iand (pc' := 33) X112 hx (hb hby at_32) rfl ?_
    refine Ok.iconst (z := (4 : Int32)) (pc' := 34) X112 hx (hb hby at_33) rfl rfl ?_
    refine Ok.irem (pc' := 35) X112 hx (hb hby at_34) rfl (by decide) ?_
    refine Ok.ifN (pc' := 38) X112 hx (hb hby at_35) (bf (i0 .ne ((p2 &&& (2147483647 : Int32)) % (4 : Int32)) (ic_eq ((p2 &&& (2147483647 : Int32)) % (4 : Int32)) 0).2.1) (show ¬ (¬ ((p2 &&& (2147483647 : Int32)) % (4 : Int32)).toInt = 0) from (by omega))) rfl ?_
    refine Ok.iconst (z := (1 : Int32)) (pc' := 39) X112 hx (hb hby at_38) rfl rfl ?_
    refine Ok.goto (pc' := 43) X112 hx (hb hby at_39) (by decide) (by decide) ?_
    refine Ok.istore (l' := #[.val (.int p1), .val (.int p2), .val (.int p3), .val (.int p4), .val z106, .val .null, .val (.ref b110), .val (.int (1 : Int32))]) (pc' := 45) X112 hx (hb hby at_43) rfl rfl ?_
    refine Ok.aload (pc' := 47) X112 hx (hb hby at_45) rfl rfl rfl ?_
    refine Ok.virt (pc' := 50) (W := 0) (a := b110)  (argsL := []) (rest := []) X112 hx hZ108 hown108 (rm25 l Z a0 hw b110 T112.heap n0 Z113 Fq112) (hw _ (List.mem_of_getElem? (i := 66) rfl)) (hw _ (List.mem_of_getElem? (i := 67) rfl)) (notFace_of_selects (args := #[]) (mvT (s := s.setVm _) hZ108 (hw _ (List.mem_of_getElem? (i := 69) rfl)))) (hw _ (List.mem_of_getElem? (i := 69) rfl)) (hw _ (List.mem_of_getElem? (i := 68) rfl)) (hw _ (List.mem_of_getElem? (i := 37) rfl)) (hw _ (List.mem_of_getElem? (i := 70) rfl)) (by decide) rfl A110 (by decide) (by decide) (by decide) (by decide) (lenOf pd_8 rfl) rfl rfl (Nat.le_of_eq rfl) (by rw [hml]; rfl) (hb hby at_47) rfl ?_
    intro v114 T114 L114 X114 hQ114
    obtain ⟨rfl, Nq114, eq114⟩ := hQ114
    have N114 := Fr.app N112 Nq114
    show Ok p e below _ _ T114 (mkF m 50 #[.val (.int p1), .val (.int p2), .val (.int p3), .val (.int p4), .val z106, .val .null, .val (.ref b110), .val (.int (1 : Int32))] [(.int (1 : Int32))])
    refine Ok.iload (pc' := 52) X114 hx (hb hby at_50) rfl rfl ?_
    refine Ok.icN (pc' := 55) X114 hx (hb hby at_52) (bf (ic_eq (1 : Int32) (1 : Int32)).2.1 (by decide)) rfl ?_
    refine Ok.iconst (z := (1 : Int32)) (pc' := 56) X114 hx (hb hby at_55) rfl rfl ?_
    refine Ok.goto (pc' := 60) X114 hx (hb hby at_56) (by decide) (by decide) ?_
    refine Ok.retIW X114 hx hS108 (by rw [eq114]; exact hSn113) hret hlk (Or.inr (Or.inl rfl)) rfl (hb hby at_60) (by decide) (by decide) ?_
    show Q0 Z p1 p2 p3 p4 cs0 h0 n0 _ T114.heap _
    rw [eq114]
    exact ⟨rfl, N114⟩
  · show Ok p e below _ _ T108 (mkF m 14 #[.val (.int p1), .val (.int p2), .val (.int p3), .val (.int p4), .val z106, .unset, .unset, .unset] [(.ref rb)])
    refine Ok.astore (l' := #[.val (.int p1), .val (.int p2), .val (.int p3), .val (.int p4), .val z106, .val (.ref rb), .unset, .unset]) (pc' := 16) X108 hx (hb hby at_14) rfl rfl rfl ?_
    refine Ok.new (pc' := 19) X108 hx hZ108 hown108 (hw _ (List.mem_of_getElem? (i := 35) rfl)) (hw _ (List.mem_of_getElem? (i := 36) rfl)) (hw _ (List.mem_of_getElem? (i := 37) rfl)) rfl (hb hby at_16) rfl (by decide) (by decide) ?_
    intro T115 h115 b115 g115 X115 e115 E115 A115 D115
    replace O_0 := O_0.ext E115
    have ge_b115 : n0 ≤ b115 := Nat.le_trans Z109 (Nat.le_of_eq g115.symm)
    have sz_b115 : h0.size ≤ b115 := Nat.le_trans K108'.1 (Nat.le_of_eq g115.symm)
    have K115 : Keep h0 h115 [] := K108'.ext E115
    have Z116 : n0 ≤ h115.size := Nat.le_trans Z109 E115.1
    have hSn116 : _ ≤ h115.size := Nat.le_trans (Nat.le_refl _) E115.1
    have F115_seen : Fld Z h115 b115 "com/example/pricefence/pricefence/replay/OrderIds" "seen" "Lcom/example/pricefence/pricefence/replay/SeenIds;" .null := D115 (Or.inr (hw _ (List.mem_of_getElem? (i := 61) rfl))) (ty := (.object "com/example/pricefence/pricefence/replay/SeenIds")) (by decide)
    have F115_ordersFile : Fld Z h115 b115 "com/example/pricefence/pricefence/replay/OrderIds" "ordersFile" "Ljava/lang/String;" .null := D115 (Or.inr (hw _ (List.mem_of_getElem? (i := 63) rfl))) (ty := (.object "java/lang/String")) (by decide)
    have F115_complexOrdersFile : Fld Z h115 b115 "com/example/pricefence/pricefence/replay/OrderIds" "complexOrdersFile" "Ljava/lang/String;" .null := D115 (Or.inr (hw _ (List.mem_of_getElem? (i := 65) rfl))) (ty := (.object "java/lang/String")) (by decide)
    show Ok p e below _ _ T115 (mkF m 19 #[.val (.int p1), .val (.int p2), .val (.int p3), .val (.int p4), .val z106, .val (.ref rb), .unset, .unset] [(.ref b115)])
    refine Ok.dup (pc' := 20) X115 hx (hb hby at_19) rfl rfl ?_
    refine Ok.aload (pc' := 22) X115 hx (hb hby at_20) rfl rfl r_z106 ?_
    refine Ok.aload (pc' := 24) X115 hx (hb hby at_22) rfl rfl rfl ?_
    refine Ok.init (pc' := 27) (W := 1) (a := b115)  (argsL := [z106, (.ref rb)]) (rest := [(.ref b115)]) X115 hx hZ108 hown108 (rm24 l Z a0 hw b115 z106 (.ref rb) .null .null .null h115 n0 Z116 A115 ge_b115 F115_seen F115_ordersFile F115_complexOrdersFile r_z106 rfl) rfl (hw _ (List.mem_of_getElem? (i := 38) rfl)) (hw _ (List.mem_of_getElem? (i := 39) rfl)) (hw _ (List.mem_of_getElem? (i := 37) rfl)) (hw _ (List.mem_of_getElem? (i := 40) rfl)) (by decide) e115 (by decide) (by decide) (by decide) (by decide) (lenOf pd_7 rfl) rfl rfl (Nat.le_of_eq rfl) (by rw [hml]; rfl) (hb hby at_24) rfl ?_
    intro v117 T117 L117 X117 hQ117
    obtain ⟨rfl, Nq117, Kq117, Aq117, Fq117⟩ := hQ117
    have N117 := Fr.app N108 Nq117
    replace O_0 := O_0.keep Kq117 (allS ge_b115 all0)
    replace A115 := A115.keep Kq117
    have K117' : Keep h0 T117.heap [] := K115.trans Kq117 (allS (Or.inr sz_b115) all0)
    have Z118 : n0 ≤ T117.heap.size := Nat.le_trans Z116 Kq117.1
    have hSn118 : _ ≤ T117.heap.size := Nat.le_trans hSn116 Kq117.1
    show Ok p e below _ _ T117 (mkF m 27 #[.val (.int p1), .val (.int p2), .val (.int p3), .val (.int p4), .val z106, .val (.ref rb), .unset, .unset] [(.ref b115)])
    refine Ok.astore (l' := #[.val (.int p1), .val (.int p2), .val (.int p3), .val (.int p4), .val z106, .val (.ref rb), .val (.ref b115), .unset]) (pc' := 29) X117 hx (hb hby at_27) rfl rfl rfl ?_
    refine Ok.iloadN (pc' := 30) X117 hx (hb hby at_29) rfl rfl ?_
    refine Ok.ldcI (pc' := 32) (v := (2147483647 : Int32)) X117 hx hZ108 hown108 (hw _ (List.mem_of_getElem? (i := 4) rfl)) (hb hby at_30) rfl ?_
    refine Ok.iand (pc' := 33) X117 hx (hb hby at_32) rfl ?_
    refine Ok.iconst (z := (4 : Int32)) (pc' := 34) X117 hx (hb hby at_33) rfl rfl ?_
    refine Ok.irem (pc' := 35) X117 hx (hb hby at_34) rfl (by decide) ?_
    refine Ok.ifY (pc' := 42) X117 hx (hb hby at_35) (bt (i0 .ne ((p2 &&& (2147483647 : Int32)) % (4 : Int32)) (ic_eq ((p2 &&& (2147483647 : Int32)) % (4 : Int32)) 0).2.1) (show ¬ ((p2 &&& (2147483647 : Int32)) % (4 : Int32)).toInt = 0 from hk)) (by decide) (by decide) ?_
    refine Ok.iconst (z := (0 : Int32)) (pc' := 43) X117 hx (hb hby at_42) rfl rfl ?_
    refine Ok.istore (l' := #[.val (.int p1), .val (.int p2), .val (.int p3), .val (.int p4), .val z106, .val (.ref rb), .val (.ref b115), .val (.int (0 : Int32))]) (pc' := 45) X117 hx (hb hby at_43) rfl rfl ?_
    refine Ok.aload (pc' := 47) X117 hx (hb hby at_45) rfl rfl rfl ?_
    refine Ok.virt (pc' := 50) (W := 0) (a := b115)  (argsL := []) (rest := []) X117 hx hZ108 hown108 (rm26 l Z a0 hw b115 rb T117.heap n0 Z118 Fq117) (hw _ (List.mem_of_getElem? (i := 66) rfl)) (hw _ (List.mem_of_getElem? (i := 67) rfl)) (notFace_of_selects (args := #[]) (mvT (s := s.setVm _) hZ108 (hw _ (List.mem_of_getElem? (i := 69) rfl)))) (hw _ (List.mem_of_getElem? (i := 69) rfl)) (hw _ (List.mem_of_getElem? (i := 68) rfl)) (hw _ (List.mem_of_getElem? (i := 37) rfl)) (hw _ (List.mem_of_getElem? (i := 70) rfl)) (by decide) rfl A115 (by decide) (by decide) (by decide) (by decide) (lenOf pd_8 rfl) rfl rfl (Nat.le_of_eq rfl) (by rw [hml]; rfl) (hb hby at_47) rfl ?_
    intro v119 T119 L119 X119 hQ119
    obtain ⟨rfl, Nq119, eq119⟩ := hQ119
    have N119 := Fr.app N117 Nq119
    show Ok p e below _ _ T119 (mkF m 50 #[.val (.int p1), .val (.int p2), .val (.int p3), .val (.int p4), .val z106, .val (.ref rb), .val (.ref b115), .val (.int (0 : Int32))] [(.int (0 : Int32))])
    refine Ok.iload (pc' := 52) X119 hx (hb hby at_50) rfl rfl ?_
    refine Ok.icN (pc' := 55) X119 hx (hb hby at_52) (bf (ic_eq (0 : Int32) (0 : Int32)).2.1 (by decide)) rfl ?_
    refine Ok.iconst (z := (1 : Int32)) (pc' := 56) X119 hx (hb hby at_55) rfl rfl ?_
    refine Ok.goto (pc' := 60) X119 hx (hb hby at_56) (by decide) (by decide) ?_
    refine Ok.retIW X119 hx hS108 (by rw [eq119]; exact hSn118) hret hlk (Or.inr (Or.inl rfl)) rfl (hb hby at_60) (by decide) (by decide) ?_
    show Q0 Z p1 p2 p3 p4 cs0 h0 n0 _ T119.heap _
    rw [eq119]
    exact ⟨rfl, N119⟩
set_option maxRecDepth 65536 in
set_option maxHeartbeats 40000000 in
theorem comes_1 {Post : Tables → Env → Array Value → State → Outcome → State → Prop} (hpost : ∀ tb e args s v u, (limb_1_1.after args s (.returned v) u = true ∧ limb_1_2.after args s (.returned v) u = true ∧ True) → ReturnedEndW s (.returned v) u (Jvm.fieldLocs frame_1_writes args s ++ Jvm.arrayLocs frame_1_arrays args s ++ Jvm.staticLocs frame_1_statics s) 32 3392 → Post tb e args s (.returned v) u) :
    ArmFor flags0 classFile x code maxLocals ret World_1 tables_1 room_1 Calls_1 rest_1 Pre_1 Post := by
  intro l hfl _ _ p e ha hc hk s m args below hf hA hF happ hP
  obtain ⟨hcalls, hrest, hpre⟩ := hP
  obtain ⟨-, -, -, hnamed, -, -, -, hat⟩ := (Spec.applies_iff hf).mp happ
  obtain ⟨hg, hn⟩ := and_e (Cond.before_iff.mp (show (Jvm.Cond.and given_1 narrow_1).before args s = true from hpre))
  obtain ⟨hcount, hg0⟩ := and_e hg
  obtain ⟨hk0, hg1⟩ := and_e hg0
  obtain ⟨hk1, hg2⟩ := and_e hg1
  obtain ⟨hk2, hg3⟩ := and_e hg2
  have hk3 := hg3
  obtain ⟨w0, w1, w2, w3, rfl⟩ : ∃ w0 w1 w2 w3 : Value, args = #[w0, w1, w2, w3] := by
    have hs : args.size = 4 := by simpa [Cond.value, given_1] using hcount
    obtain ⟨L⟩ := args
    match L, hs with
    | [w0, w1, w2, w3], _ => exact ⟨w0, w1, w2, w3, rfl⟩
  have hw := fun d (hd : d ∈ tables_1) => atoms_spec (ws := Jvm.Cond.code x code maxLocals ret :: tables_1) hat d (List.mem_cons_of_mem _ hd)
  have hfit : Fit s := fun {y c} hc i hi => by
    obtain ⟨ha, rfl⟩ := Array.getElem?_eq_some_iff.mp hc
    have q := List.all_eq_true.mp ((Array.all_eq_true_iff_forall_mem.mp hF) _ (Array.getElem_mem ha)) i (List.mem_range.mpr hi)
    simpa [Array.getElem?_eq_getElem hi] using q
  obtain ⟨hsets, hown0⟩ := atoms_of _ (rest_1_c_eq ▸ (show rest_1_c.before _ s = true from hrest))
  obtain ⟨i0, ei0⟩ := is_v hk0
  obtain rfl : w0 = (.int i0) := Option.some.inj ei0
  obtain ⟨i1, ei1⟩ := is_v hk1
  obtain rfl : w1 = (.int i1) := Option.some.inj ei1
  obtain ⟨i2, ei2⟩ := is_v hk2
  obtain rfl : w2 = (.int i2) := Option.some.inj ei2
  obtain ⟨i3, ei3⟩ := is_v hk3
  obtain rfl : w3 = (.int i3) := Option.some.inj ei3
  obtain ⟨cs0, ecs⟩ := is_v (Cond.before_iff.mp (hsets _ (List.mem_of_getElem? (i := 1) rfl)))
  have S_cs := Sta.start ecs (Or.inl (hsets _ (List.mem_of_getElem? (i := 0) rfl)))
  have hcs : ¬ cs0.toInt = 0 := fun q => by
    have h0 := not_v (Cond.before_iff.mp (hsets _ (List.mem_of_getElem? (i := 2) rfl)))
    have h1 := Cond.eq_ints ecs (Term.int_eval (0))
    rw [h0] at h1
    have h2 : cs0 = 0 := Int32.toInt_inj.mp (by rw [q]; rfl)
    simp [h2] at h1
  have hEL : EW s _ EL1 := EW.cons (hw _ (List.mem_of_getElem? (i := 85) rfl)) (by simp) EW.nil
  have hCH : CHv s EL1 s.vm s.heap := CHv.start hEL hcalls.1 (hsets _ (List.mem_of_getElem? (i := 2) rfl)) (hw _ (List.mem_of_getElem? (i := 24) rfl)) (hw _ (List.mem_of_getElem? (i := 7) rfl))
  obtain ⟨n, o, h1, h2, h3, _, L, rfl, ⟨rfl, N⟩, hq⟩ := rm0 l s _ hw tables_1 i0 i1 i2 i3 cs0 s.heap s.heap.size (Nat.le_refl _) (Old.start s) S_cs hcs p e ha hc hk s m _ below hf ((Spec.applies_iff_loose hf).mp happ).1 ⟨rfl, State.Warmed39.refl s, rfl, hCH⟩ trivial
  refine ⟨n, _, h1, h2, h3, hpost _ _ _ _ _ _ ⟨Cond.after_iff.mpr rfl, Cond.after_iff.mpr (eq_i res_at (Term.int_eval (1)) rfl), trivial⟩ ⟨hq.1, hq.2.1, hq.2.2.1, (hq.2.2.2.sift fun y hy => Or.inr (N y hy)).mono (by decide) (by decide)⟩⟩
theorem main_1_1 : Claimed_1_1 := comes_1 fun _ _ _ _ _ _ h hF => ⟨h.1, hF⟩
theorem main_1_2 : Claimed_1_2 := comes_1 fun _ _ _ _ _ _ h hF => ⟨h.2.1, hF⟩
end Jvm.Pilot.@@N@@
namespace Jvm.Pilot.@@N@@
open Jvm Jvm.ClassFile Sem Op Lib Jvm.Free Jvm.Stand Jvm.Pilot.@@N@@.Jvm.D
/-! MADE BY PROGRAM (witnessworld.py) out of the Statement's table words and the real class files: 23 classes; the members and pool entries that the words name. The judged class is class 1, her method 2. -/
namespace start1
open Jvm.ClassFile
def u (s : String) : CpInfo := .utf8 (stringToUtf16 s)
/-- a pool by its gaps: so many unusable entries, then the entry; so many at the end -/
def gap : Nat → List CpInfo → List CpInfo
  | 0, r => r
  | n + 1, r => .unusable :: gap n r
def poolList (es : List (Nat × CpInfo)) (last : Nat) : List CpInfo := es.foldr (fun e r => gap e.1 (e.2 :: r)) (gap last [])
def pool (es : List (Nat × CpInfo)) (last : Nat) : Array CpInfo := ⟨poolList es last⟩
def fileOf (pool : Array CpInfo) (this : Nat) (attrs : Array Attribute := #[]) (ms : Array MethodInfo := #[]) (fl : Nat := 33) (sup : Nat := 0) (ifs : Array Nat := #[]) (fds : Array FieldInfo := #[]) : ClassFile where
  minorVersion := 0
  majorVersion := 65
  constantPool := pool
  accessFlags := fl
  thisClass := this
  superClass := sup
  interfaces := ifs
  fields := fds
  methods := ms
  attributes := attrs
def plain (name : String) (sup : Option ClassId) : Class where
  name := name
  kind := .ordinary
  loader := none
  accessFlags := 33
  super := sup
  interfaces := #[]
  cf := none
  fields := #[]
  methods := #[]
  instanceTypes := #[]
  staticTypes := #[]
  resolved := #[]
  callSites := []
  init := .initialized
  statics := none
  mirror := none

def pool0 : Array CpInfo := pool [(5, u "<init>"), (0, u "()V"), (1, .class_ 10), (1, u "java/lang/Object")] 113

def k0c0 : Code := { maxStack := 0, maxLocals := 1, code := object_method_1_code, exceptionTable := #[], attributes := #[] }
def k0m0 : Method := { name := "<init>", desc := "()V", sig := { parameters := [], returnType := none }, accessFlags := 1, code := some k0c0 }
/-- java/lang/Object -/
def k0 : Class := { plain "java/lang/Object" none with
  accessFlags := 33
  interfaces := #[]
  cf := some (fileOf pool0 8 #[] #[{ accessFlags := 1, nameIndex := 5, descriptorIndex := 6, attributes := #[] }] 33 0 #[] #[])
  fields := #[]
  methods := #[k0m0]
  instanceTypes := #[]
  staticTypes := #[]
  resolved := Array.replicate 124 none
  statics := none }

def pool1 : Array CpInfo := pool [(2, .class_ 4), (1, u "java/lang/Object"), (0, u "<init>"), (0, u "()V"), (0, .integer 2147483647), (0, .class_ 9), (0, u "java/lang/String"), (0, .methodref 8 11), (0, .nameAndType 5 12), (0, u "([C)V"), (0, .methodref 8 14), (0, .nameAndType 15 16), (0, u "valueOf"), (0, u "(C)Ljava/lang/String;"), (0, .methodref 18 19), (0, .class_ 20), (0, .nameAndType 21 22), (0, u "com/example/pricefence/pricefence/replay/OrderIdsOrdersFileAlonePinLaw"), (0, u "draw"), (0, u "(III)Ljava/lang/String;"), (0, .class_ 24), (0, u "com/example/pricefence/pricefence/replay/OrderIds"), (0, .methodref 23 26), (0, .nameAndType 5 27), (0, u "(Ljava/lang/String;Ljava/lang/String;)V"), (0, .methodref 23 29), (0, .nameAndType 30 31), (0, u "ordersFileAlone"), (0, u "()Z"), (3, u "law"), (0, u "(IIII)Z")] 2

def k1m0 : Method := { name := "<init>", desc := "()V", sig := { parameters := [], returnType := none }, accessFlags := 1, code := none }
def k1c1 : Code := { maxStack := 4, maxLocals := 6, code := method_2_code, exceptionTable := #[], attributes := #[] }
def k1m1 : Method := { name := "draw", desc := "(III)Ljava/lang/String;", sig := { parameters := [.int, .int, .int], returnType := some (.object "java/lang/String") }, accessFlags := 10, code := some k1c1 }
def k1c2 : Code := { maxStack := 4, maxLocals := 8, code := code, exceptionTable := #[], attributes := #[] }
def k1m2 : Method := { name := "law", desc := "(IIII)Z", sig := { parameters := [.int, .int, .int, .int], returnType := some .boolean }, accessFlags := 9, code := some k1c2 }
/-- com/example/pricefence/pricefence/replay/OrderIdsOrdersFileAlonePinLaw -/
def k1 : Class := { plain "com/example/pricefence/pricefence/replay/OrderIdsOrdersFileAlonePinLaw" (some 0) with
  accessFlags := 49
  interfaces := #[]
  cf := some (fileOf pool1 18 #[] #[{ accessFlags := 1, nameIndex := 5, descriptorIndex := 6, attributes := #[] }, { accessFlags := 10, nameIndex := 21, descriptorIndex := 22, attributes := #[] }, { accessFlags := 9, nameIndex := 35, descriptorIndex := 36, attributes := #[] }] 49 2 #[] #[])
  fields := #[]
  methods := #[k1m0, k1m1, k1m2]
  instanceTypes := #[]
  staticTypes := #[]
  resolved := Array.replicate 39 none
  statics := none }

def pool2 : Array CpInfo := pool [(1, .class_ 2), (0, u "java/io/Serializable"), (0, .class_ 4), (0, u "java/lang/Object")] 2

/-- java/io/Serializable -/
def k2 : Class := { plain "java/io/Serializable" (some 0) with
  accessFlags := 1537
  interfaces := #[]
  cf := some (fileOf pool2 1 #[] #[] 1537 3 #[] #[])
  fields := #[]
  methods := #[]
  instanceTypes := #[]
  staticTypes := #[]
  resolved := Array.replicate 7 none
  statics := none }

def pool3 : Array CpInfo := pool [(1, .class_ 2), (0, u "java/lang/Comparable"), (0, .class_ 4), (0, u "java/lang/Object")] 7

/-- java/lang/Comparable -/
def k3 : Class := { plain "java/lang/Comparable" (some 0) with
  accessFlags := 1537
  interfaces := #[]
  cf := some (fileOf pool3 1 #[] #[] 1537 3 #[] #[])
  fields := #[]
  methods := #[]
  instanceTypes := #[]
  staticTypes := #[]
  resolved := Array.replicate 12 none
  statics := none }

def pool4 : Array CpInfo := pool [(2, .class_ 4), (1, u "java/lang/CharSequence"), (42, .class_ 48), (0, u "java/lang/CharSequence$1CodePointIterator"), (10, .class_ 60), (0, u "java/lang/CharSequence$1CharIterator"), (5, .class_ 67), (0, u "java/lang/Object")] 63

/-- java/lang/CharSequence -/
def k4 : Class := { plain "java/lang/CharSequence" (some 0) with
  accessFlags := 1537
  interfaces := #[]
  cf := some (fileOf pool4 2 #[.nestMembers #[47, 59]] #[] 1537 66 #[] #[])
  fields := #[]
  methods := #[]
  instanceTypes := #[]
  staticTypes := #[]
  resolved := Array.replicate 131 none
  statics := none }

def pool5 : Array CpInfo := pool [(1, .class_ 2), (0, u "java/lang/constant/Constable"), (0, .class_ 4), (0, u "java/lang/Object")] 6

/-- java/lang/constant/Constable -/
def k5 : Class := { plain "java/lang/constant/Constable" (some 0) with
  accessFlags := 1537
  interfaces := #[]
  cf := some (fileOf pool5 1 #[] #[] 1537 3 #[] #[])
  fields := #[]
  methods := #[]
  instanceTypes := #[]
  staticTypes := #[]
  resolved := Array.replicate 11 none
  statics := none }

def pool6 : Array CpInfo := pool [(1, .class_ 2), (0, u "java/lang/constant/ConstantDesc"), (0, .class_ 4), (0, u "java/lang/Object")] 32

/-- java/lang/constant/ConstantDesc -/
def k6 : Class := { plain "java/lang/constant/ConstantDesc" (some 0) with
  accessFlags := 1537
  interfaces := #[]
  cf := some (fileOf pool6 1 #[] #[] 1537 3 #[] #[])
  fields := #[]
  methods := #[]
  instanceTypes := #[]
  staticTypes := #[]
  resolved := Array.replicate 37 none
  statics := none }

def pool7 : Array CpInfo := pool [(1, .methodref 2 3), (0, .class_ 4), (0, .nameAndType 5 6), (0, u "java/lang/Object"), (0, u "<init>"), (0, u "()V"), (0, .string 8), (0, u ""), (0, .fieldref 10 11), (0, .class_ 12), (0, .nameAndType 13 14), (0, u "java/lang/String"), (0, u "value"), (0, u "[B"), (0, .fieldref 10 16), (0, .nameAndType 17 18), (0, u "coder"), (0, u "B"), (2, u "hash"), (0, u "I"), (2, u "hashIsZero"), (0, u "Z"), (0, .methodref 10 28), (0, .nameAndType 5 29), (0, u "([CIILjava/lang/Void;)V"), (8, .fieldref 10 39), (0, .nameAndType 40 26), (0, u "COMPACT_STRINGS"), (1, .class_ 44), (1, u "java/lang/StringUTF16"), (0, u "compress"), (1, .methodref 42 48), (0, .nameAndType 49 50), (0, u "coderFromArrayLen"), (0, u "([BI)B"), (2, u "toBytes"), (53, .class_ 109), (1, u "java/lang/StringLatin1"), (67, .methodref 42 178), (0, .nameAndType 45 179), (0, u "([CII)[B"), (29, .methodref 10 210), (0, .nameAndType 5 211), (0, u "([BB)V"), (157, u "(C)Z"), (205, .class_ 576), (0, u "java/lang/CharSequence"), (22, u "CASE_INSENSITIVE_ORDER"), (0, u "Ljava/util/Comparator;"), (181, u "valueOf"), (0, u "(C)Ljava/lang/String;"), (226, u "([C)V"), (4, .methodref 107 1016), (0, .nameAndType 1017 369), (0, u "canEncode"), (0, .methodref 107 1019), (0, .nameAndType 53 1020), (0, u "(C)[B"), (80, u "serialPersistentFields"), (0, u "[Ljava/io/ObjectStreamField;"), (0, .class_ 1104), (0, u "java/lang/String$CaseInsensitiveComparator"), (1, .class_ 1107), (0, u "java/io/Serializable"), (0, .class_ 1109), (0, u "java/lang/Comparable"), (0, .class_ 1111), (0, u "java/lang/constant/Constable"), (0, .class_ 1113), (0, u "java/lang/constant/ConstantDesc"), (2, u "serialVersionUID"), (0, u "J"), (3, u "REPL"), (0, u "C"), (2, u "LATIN1"), (1, u "UTF16")] 323

def k7m0 : Method := { name := "<init>", desc := "()V", sig := { parameters := [], returnType := none }, accessFlags := 1, code := none }
def k7c1 : Code := { maxStack := 5, maxLocals := 2, code := jdk_42_method_3_code, exceptionTable := #[], attributes := #[] }
def k7m1 : Method := { name := "<init>", desc := "([C)V", sig := { parameters := [(.array .char)], returnType := none }, accessFlags := 1, code := some k7c1 }
def k7c2 : Code := { maxStack := 4, maxLocals := 1, code := jdk_42_method_139_code, exceptionTable := #[], attributes := #[] }
def k7m2 : Method := { name := "valueOf", desc := "(C)Ljava/lang/String;", sig := { parameters := [.char], returnType := some (.object "java/lang/String") }, accessFlags := 9, code := some k7c2 }
def k7c3 : Code := { maxStack := 4, maxLocals := 6, code := jdk_42_method_149_code, exceptionTable := #[], attributes := #[] }
def k7m3 : Method := { name := "<init>", desc := "([CIILjava/lang/Void;)V", sig := { parameters := [(.array .char), .int, .int, (.object "java/lang/Void")], returnType := none }, accessFlags := 2, code := some k7c3 }
def k7c4 : Code := { maxStack := 2, maxLocals := 3, code := jdk_42_method_151_code, exceptionTable := #[], attributes := #[] }
def k7m4 : Method := { name := "<init>", desc := "([BB)V", sig := { parameters := [(.array .byte), .byte], returnType := none }, accessFlags := 0, code := some k7c4 }
/-- java/lang/String -/
def k7 : Class := { plain "java/lang/String" (some 0) with
  accessFlags := 49
  interfaces := #[2, 3, 4, 5, 6]
  cf := some (fileOf pool7 10 #[.nestMembers #[1103]] #[{ accessFlags := 1, nameIndex := 5, descriptorIndex := 6, attributes := #[] }, { accessFlags := 1, nameIndex := 5, descriptorIndex := 1010, attributes := #[] }, { accessFlags := 9, nameIndex := 782, descriptorIndex := 783, attributes := #[] }, { accessFlags := 2, nameIndex := 5, descriptorIndex := 29, attributes := #[] }, { accessFlags := 0, nameIndex := 5, descriptorIndex := 211, attributes := #[] }] 49 2 #[1106, 1108, 575, 1110, 1112] #[{ accessFlags := 18, nameIndex := 13, descriptorIndex := 14, attributes := #[] }, { accessFlags := 18, nameIndex := 17, descriptorIndex := 18, attributes := #[] }, { accessFlags := 2, nameIndex := 21, descriptorIndex := 22, attributes := #[] }, { accessFlags := 2, nameIndex := 25, descriptorIndex := 26, attributes := #[] }, { accessFlags := 26, nameIndex := 1116, descriptorIndex := 1117, attributes := #[] }, { accessFlags := 24, nameIndex := 40, descriptorIndex := 26, attributes := #[] }, { accessFlags := 26, nameIndex := 1101, descriptorIndex := 1102, attributes := #[] }, { accessFlags := 26, nameIndex := 1121, descriptorIndex := 1122, attributes := #[] }, { accessFlags := 25, nameIndex := 599, descriptorIndex := 600, attributes := #[] }, { accessFlags := 24, nameIndex := 1125, descriptorIndex := 18, attributes := #[] }, { accessFlags := 24, nameIndex := 1127, descriptorIndex := 18, attributes := #[] }])
  fields := #[{ name := "value", type := (.array .byte), accessFlags := 18, slot := 0, constantValue := 0 }, { name := "coder", type := .byte, accessFlags := 18, slot := 1, constantValue := 0 }, { name := "hash", type := .int, accessFlags := 2, slot := 2, constantValue := 0 }, { name := "hashIsZero", type := .boolean, accessFlags := 2, slot := 3, constantValue := 0 }, { name := "serialVersionUID", type := .long, accessFlags := 26, slot := 0, constantValue := 0 }, { name := "COMPACT_STRINGS", type := .boolean, accessFlags := 24, slot := 1, constantValue := 0 }, { name := "serialPersistentFields", type := (.array (.object "java/io/ObjectStreamField")), accessFlags := 26, slot := 2, constantValue := 0 }, { name := "REPL", type := .char, accessFlags := 26, slot := 3, constantValue := 0 }, { name := "CASE_INSENSITIVE_ORDER", type := (.object "java/util/Comparator"), accessFlags := 25, slot := 4, constantValue := 0 }, { name := "LATIN1", type := .byte, accessFlags := 24, slot := 5, constantValue := 0 }, { name := "UTF16", type := .byte, accessFlags := 24, slot := 6, constantValue := 0 }]
  methods := #[k7m0, k7m1, k7m2, k7m3, k7m4]
  instanceTypes := #[(.array .byte), .byte, .int, .boolean]
  staticTypes := #[.long, .boolean, (.array (.object "java/io/ObjectStreamField")), .char, (.object "java/util/Comparator"), .byte, .byte]
  resolved := Array.replicate 1451 none
  statics := some 0 }

def pool8 : Array CpInfo := pool [(6, .class_ 8), (1, u "java/lang/Object"), (0, u "<init>"), (0, u "()V"), (1, .class_ 14), (1, u "java/lang/StringUTF16"), (31, u "$assertionsDisabled"), (0, u "Z"), (13, u "HI_BYTE_SHIFT"), (0, u "I"), (2, u "LO_BYTE_SHIFT"), (49, .methodref 12 116), (0, .nameAndType 117 118), (0, u "compress"), (0, u "([CI[BII)I"), (3, u "([CII)[B"), (138, u "coderFromArrayLen"), (0, u "([BI)B"), (106, .class_ 371), (1, u "java/lang/StringUTF16$LinesSpliterator"), (58, u "MAX_LENGTH"), (196, .class_ 628), (0, u "java/lang/StringUTF16$CodePointsSpliterator"), (0, .class_ 630), (0, u "java/lang/StringUTF16$CharsSpliterator")] 4

def k8m0 : Method := { name := "<init>", desc := "()V", sig := { parameters := [], returnType := none }, accessFlags := 0, code := none }
def k8c1 : Code := { maxStack := 2, maxLocals := 2, code := jdk_52_method_15_code, exceptionTable := #[], attributes := #[] }
def k8m1 : Method := { name := "coderFromArrayLen", desc := "([BI)B", sig := { parameters := [(.array .byte), .int], returnType := some .byte }, accessFlags := 8, code := some k8c1 }
def k8c2 : Code := { maxStack := 5, maxLocals := 6, code := jdk_52_method_16_code, exceptionTable := #[], attributes := #[] }
def k8m2 : Method := { name := "compress", desc := "([CII)[B", sig := { parameters := [(.array .char), .int, .int], returnType := some (.array .byte) }, accessFlags := 9, code := some k8c2 }
def k8c3 : Code := { maxStack := 3, maxLocals := 7, code := jdk_52_method_21_code, exceptionTable := #[], attributes := #[] }
def k8m3 : Method := { name := "compress", desc := "([CI[BII)I", sig := { parameters := [(.array .char), .int, (.array .byte), .int, .int], returnType := some .int }, accessFlags := 9, code := some k8c3 }
/-- java/lang/StringUTF16 -/
def k8 : Class := { plain "java/lang/StringUTF16" (some 0) with
  accessFlags := 48
  interfaces := #[]
  cf := some (fileOf pool8 12 #[.nestMembers #[627, 629, 369]] #[{ accessFlags := 0, nameIndex := 9, descriptorIndex := 10, attributes := #[] }, { accessFlags := 8, nameIndex := 261, descriptorIndex := 262, attributes := #[] }, { accessFlags := 9, nameIndex := 117, descriptorIndex := 122, attributes := #[] }, { accessFlags := 9, nameIndex := 117, descriptorIndex := 118, attributes := #[] }] 48 6 #[] #[{ accessFlags := 26, nameIndex := 61, descriptorIndex := 62, attributes := #[] }, { accessFlags := 26, nameIndex := 65, descriptorIndex := 62, attributes := #[] }, { accessFlags := 24, nameIndex := 430, descriptorIndex := 62, attributes := #[] }, { accessFlags := 4120, nameIndex := 46, descriptorIndex := 47, attributes := #[] }])
  fields := #[{ name := "HI_BYTE_SHIFT", type := .int, accessFlags := 26, slot := 0, constantValue := 0 }, { name := "LO_BYTE_SHIFT", type := .int, accessFlags := 26, slot := 1, constantValue := 0 }, { name := "MAX_LENGTH", type := .int, accessFlags := 24, slot := 2, constantValue := 0 }, { name := "$assertionsDisabled", type := .boolean, accessFlags := 4120, slot := 3, constantValue := 0 }]
  methods := #[k8m0, k8m1, k8m2, k8m3]
  instanceTypes := #[]
  staticTypes := #[.int, .int, .int, .boolean]
  resolved := Array.replicate 635 none
  statics := none }

def pool9 : Array CpInfo := pool [(1, .methodref 2 3), (0, .class_ 4), (0, .nameAndType 5 6), (0, u "java/lang/Object"), (0, u "<init>"), (0, u "()V"), (0, .class_ 8), (0, u "com/example/pricefence/pricefence/replay/SeenIds"), (0, .methodref 7 3), (0, .fieldref 11 12), (0, .class_ 13), (0, .nameAndType 14 15), (0, u "com/example/pricefence/pricefence/replay/OrderIds"), (0, u "seen"), (0, u "Lcom/example/pricefence/pricefence/replay/SeenIds;"), (0, .fieldref 11 17), (0, .nameAndType 18 19), (0, u "ordersFile"), (0, u "Ljava/lang/String;"), (0, .fieldref 11 21), (0, .nameAndType 22 19), (0, u "complexOrdersFile"), (32, u "(Ljava/lang/String;Ljava/lang/String;)V"), (2, u "ordersFileAlone"), (0, u "()Z")] 26

def k9c0 : Code := { maxStack := 3, maxLocals := 3, code := prog_50_method_1_code, exceptionTable := #[], attributes := #[] }
def k9m0 : Method := { name := "<init>", desc := "(Ljava/lang/String;Ljava/lang/String;)V", sig := { parameters := [(.object "java/lang/String"), (.object "java/lang/String")], returnType := none }, accessFlags := 0, code := some k9c0 }
def k9c1 : Code := { maxStack := 1, maxLocals := 1, code := prog_50_method_2_code, exceptionTable := #[], attributes := #[] }
def k9m1 : Method := { name := "ordersFileAlone", desc := "()Z", sig := { parameters := [], returnType := some .boolean }, accessFlags := 0, code := some k9c1 }
/-- com/example/pricefence/pricefence/replay/OrderIds -/
def k9 : Class := { plain "com/example/pricefence/pricefence/replay/OrderIds" (some 0) with
  accessFlags := 48
  interfaces := #[]
  cf := some (fileOf pool9 11 #[] #[{ accessFlags := 0, nameIndex := 5, descriptorIndex := 55, attributes := #[] }, { accessFlags := 0, nameIndex := 58, descriptorIndex := 59, attributes := #[] }] 48 2 #[] #[{ accessFlags := 18, nameIndex := 14, descriptorIndex := 15, attributes := #[] }, { accessFlags := 18, nameIndex := 18, descriptorIndex := 19, attributes := #[] }, { accessFlags := 18, nameIndex := 22, descriptorIndex := 19, attributes := #[] }])
  fields := #[{ name := "seen", type := (.object "com/example/pricefence/pricefence/replay/SeenIds"), accessFlags := 18, slot := 0, constantValue := 0 }, { name := "ordersFile", type := (.object "java/lang/String"), accessFlags := 18, slot := 1, constantValue := 0 }, { name := "complexOrdersFile", type := (.object "java/lang/String"), accessFlags := 18, slot := 2, constantValue := 0 }]
  methods := #[k9m0, k9m1]
  instanceTypes := #[(.object "com/example/pricefence/pricefence/replay/SeenIds"), (.object "java/lang/String"), (.object "java/lang/String")]
  staticTypes := #[]
  resolved := Array.replicate 86 none
  statics := none }

def pool10 : Array CpInfo := pool [(1, .class_ 2), (0, u "com/example/pricefence/pricefence/replay/SeenIds"), (0, .methodref 4 5), (0, .class_ 6), (0, .nameAndType 7 8), (0, u "java/lang/Object"), (0, u "<init>"), (0, u "()V"), (0, .fieldref 1 10), (0, .nameAndType 11 12), (0, u "slots"), (0, u "[J"), (0, .fieldref 1 14), (0, .nameAndType 15 16), (0, u "slotBits"), (0, u "I"), (0, .class_ 18), (0, u "[B"), (0, .fieldref 1 20), (0, .nameAndType 21 22), (0, u "chunks"), (0, u "[[B"), (0, .fieldref 1 24), (0, .nameAndType 25 18), (0, u "bytes"), (25, u "size"), (19, u "length"), (34, u "prefetched"), (0, u "J"), (6, u "chunkCount"), (2, u "fill"), (45, u "CHUNK_BITS"), (2, u "CHUNK_SIZE"), (0, u "REFERENCE_BITS"), (1, u "REFERENCE_MASK"), (0, u "MAX_CHUNKS"), (0, u "KEPT_HASH_BITS"), (1, u "SPREAD"), (0, u "KEPT_HASH_MASK"), (0, u "USED"), (0, u "LINE_BYTES")] 12

def k10c0 : Code := { maxStack := 2, maxLocals := 1, code := prog_62_method_1_code, exceptionTable := #[], attributes := #[] }
def k10m0 : Method := { name := "<init>", desc := "()V", sig := { parameters := [], returnType := none }, accessFlags := 0, code := some k10c0 }
/-- com/example/pricefence/pricefence/replay/SeenIds -/
def k10 : Class := { plain "com/example/pricefence/pricefence/replay/SeenIds" (some 0) with
  accessFlags := 48
  interfaces := #[]
  cf := some (fileOf pool10 1 #[] #[{ accessFlags := 0, nameIndex := 7, descriptorIndex := 8, attributes := #[] }] 48 4 #[] #[{ accessFlags := 26, nameIndex := 163, descriptorIndex := 16, attributes := #[] }, { accessFlags := 26, nameIndex := 166, descriptorIndex := 16, attributes := #[] }, { accessFlags := 26, nameIndex := 167, descriptorIndex := 16, attributes := #[] }, { accessFlags := 26, nameIndex := 169, descriptorIndex := 107, attributes := #[] }, { accessFlags := 26, nameIndex := 170, descriptorIndex := 16, attributes := #[] }, { accessFlags := 24, nameIndex := 171, descriptorIndex := 16, attributes := #[] }, { accessFlags := 26, nameIndex := 173, descriptorIndex := 107, attributes := #[] }, { accessFlags := 26, nameIndex := 174, descriptorIndex := 107, attributes := #[] }, { accessFlags := 26, nameIndex := 175, descriptorIndex := 107, attributes := #[] }, { accessFlags := 26, nameIndex := 176, descriptorIndex := 16, attributes := #[] }, { accessFlags := 2, nameIndex := 11, descriptorIndex := 12, attributes := #[] }, { accessFlags := 2, nameIndex := 15, descriptorIndex := 16, attributes := #[] }, { accessFlags := 2, nameIndex := 106, descriptorIndex := 107, attributes := #[] }, { accessFlags := 2, nameIndex := 51, descriptorIndex := 16, attributes := #[] }, { accessFlags := 2, nameIndex := 21, descriptorIndex := 22, attributes := #[] }, { accessFlags := 2, nameIndex := 114, descriptorIndex := 16, attributes := #[] }, { accessFlags := 2, nameIndex := 117, descriptorIndex := 16, attributes := #[] }, { accessFlags := 2, nameIndex := 25, descriptorIndex := 18, attributes := #[] }, { accessFlags := 2, nameIndex := 71, descriptorIndex := 16, attributes := #[] }])
  fields := #[{ name := "CHUNK_BITS", type := .int, accessFlags := 26, slot := 0, constantValue := 0 }, { name := "CHUNK_SIZE", type := .int, accessFlags := 26, slot := 1, constantValue := 0 }, { name := "REFERENCE_BITS", type := .int, accessFlags := 26, slot := 2, constantValue := 0 }, { name := "REFERENCE_MASK", type := .long, accessFlags := 26, slot := 3, constantValue := 0 }, { name := "MAX_CHUNKS", type := .int, accessFlags := 26, slot := 4, constantValue := 0 }, { name := "KEPT_HASH_BITS", type := .int, accessFlags := 24, slot := 5, constantValue := 0 }, { name := "SPREAD", type := .long, accessFlags := 26, slot := 6, constantValue := 0 }, { name := "KEPT_HASH_MASK", type := .long, accessFlags := 26, slot := 7, constantValue := 0 }, { name := "USED", type := .long, accessFlags := 26, slot := 8, constantValue := 0 }, { name := "LINE_BYTES", type := .int, accessFlags := 26, slot := 9, constantValue := 0 }, { name := "slots", type := (.array .long), accessFlags := 2, slot := 0, constantValue := 0 }, { name := "slotBits", type := .int, accessFlags := 2, slot := 1, constantValue := 0 }, { name := "prefetched", type := .long, accessFlags := 2, slot := 2, constantValue := 0 }, { name := "size", type := .int, accessFlags := 2, slot := 3, constantValue := 0 }, { name := "chunks", type := (.array (.array .byte)), accessFlags := 2, slot := 4, constantValue := 0 }, { name := "chunkCount", type := .int, accessFlags := 2, slot := 5, constantValue := 0 }, { name := "fill", type := .int, accessFlags := 2, slot := 6, constantValue := 0 }, { name := "bytes", type := (.array .byte), accessFlags := 2, slot := 7, constantValue := 0 }, { name := "length", type := .int, accessFlags := 2, slot := 8, constantValue := 0 }]
  methods := #[k10m0]
  instanceTypes := #[(.array .long), .int, .long, .int, (.array (.array .byte)), .int, .int, (.array .byte), .int]
  staticTypes := #[.int, .int, .int, .long, .int, .int, .long, .long, .long, .int]
  resolved := Array.replicate 189 none
  statics := none }

def pool11 : Array CpInfo := pool [(4, .class_ 6), (1, u "java/lang/Object"), (0, u "<init>"), (0, u "()V"), (5, .class_ 16), (1, u "java/lang/StringLatin1"), (73, u "canEncode"), (14, u "(C)Z"), (15, u "$assertionsDisabled"), (0, u "Z"), (98, .class_ 223), (1, u "java/lang/StringLatin1$LinesSpliterator"), (156, u "toBytes"), (1, u "(C)[B"), (7, .class_ 391), (0, u "java/lang/StringLatin1$CharsSpliterator")] 3

def k11m0 : Method := { name := "<init>", desc := "()V", sig := { parameters := [], returnType := none }, accessFlags := 0, code := none }
def k11c1 : Code := { maxStack := 2, maxLocals := 1, code := jdk_43_method_3_code, exceptionTable := #[], attributes := #[] }
def k11m1 : Method := { name := "canEncode", desc := "(C)Z", sig := { parameters := [.char], returnType := some .boolean }, accessFlags := 9, code := some k11c1 }
def k11c2 : Code := { maxStack := 4, maxLocals := 1, code := jdk_43_method_46_code, exceptionTable := #[], attributes := #[] }
def k11m2 : Method := { name := "toBytes", desc := "(C)[B", sig := { parameters := [.char], returnType := some (.array .byte) }, accessFlags := 9, code := some k11c2 }
/-- java/lang/StringLatin1 -/
def k11 : Class := { plain "java/lang/StringLatin1" (some 0) with
  accessFlags := 48
  interfaces := #[]
  cf := some (fileOf pool11 14 #[.nestMembers #[390, 221]] #[{ accessFlags := 0, nameIndex := 7, descriptorIndex := 8, attributes := #[] }, { accessFlags := 9, nameIndex := 90, descriptorIndex := 105, attributes := #[] }, { accessFlags := 9, nameIndex := 380, descriptorIndex := 382, attributes := #[] }] 48 4 #[] #[{ accessFlags := 4120, nameIndex := 121, descriptorIndex := 122, attributes := #[] }])
  fields := #[{ name := "$assertionsDisabled", type := .boolean, accessFlags := 4120, slot := 0, constantValue := 0 }]
  methods := #[k11m0, k11m1, k11m2]
  instanceTypes := #[]
  staticTypes := #[.boolean]
  resolved := Array.replicate 395 none
  statics := none }

def pool12 : Array CpInfo := pool [(2, .class_ 4), (1, u "java/lang/Object"), (0, u "<init>"), (0, u "()V"), (17, .class_ 26), (1, u "jdk/internal/util/Preconditions"), (28, .class_ 56), (0, u "jdk/internal/util/Preconditions$4"), (57, .class_ 115), (0, u "jdk/internal/util/Preconditions$1"), (7, u "SIOOBE_FORMATTER"), (0, u "Ljava/util/function/BiFunction;"), (0, .class_ 126), (0, u "jdk/internal/util/Preconditions$2"), (3, u "AIOOBE_FORMATTER"), (0, .class_ 132), (0, u "jdk/internal/util/Preconditions$3"), (3, u "IOOBE_FORMATTER")] 57

def k12m0 : Method := { name := "<init>", desc := "()V", sig := { parameters := [], returnType := none }, accessFlags := 1, code := none }
/-- jdk/internal/util/Preconditions -/
def k12 : Class := { plain "jdk/internal/util/Preconditions" (some 0) with
  accessFlags := 33
  interfaces := #[]
  cf := some (fileOf pool12 24 #[.nestMembers #[55, 131, 125, 114]] #[{ accessFlags := 1, nameIndex := 5, descriptorIndex := 6, attributes := #[] }] 33 2 #[] #[{ accessFlags := 25, nameIndex := 123, descriptorIndex := 124, attributes := #[] }, { accessFlags := 25, nameIndex := 130, descriptorIndex := 124, attributes := #[] }, { accessFlags := 25, nameIndex := 136, descriptorIndex := 124, attributes := #[] }])
  fields := #[{ name := "SIOOBE_FORMATTER", type := (.object "java/util/function/BiFunction"), accessFlags := 25, slot := 0, constantValue := 0 }, { name := "AIOOBE_FORMATTER", type := (.object "java/util/function/BiFunction"), accessFlags := 25, slot := 1, constantValue := 0 }, { name := "IOOBE_FORMATTER", type := (.object "java/util/function/BiFunction"), accessFlags := 25, slot := 2, constantValue := 0 }]
  methods := #[k12m0]
  instanceTypes := #[]
  staticTypes := #[(.object "java/util/function/BiFunction"), (.object "java/util/function/BiFunction"), (.object "java/util/function/BiFunction")]
  resolved := Array.replicate 194 none
  statics := some 1 }

def pool13 : Array CpInfo := pool [(9, u "<init>"), (6, .class_ 18), (1, u "java/lang/Object"), (0, u "()V"), (1, .class_ 23), (1, u "jdk/internal/util/ArraysSupport"), (0, u "LOG2_ARRAY_LONG_INDEX_SCALE"), (0, u "I"), (2, u "U"), (0, u "Ljdk/internal/misc/Unsafe;"), (8, u "BIG_ENDIAN"), (0, u "Z"), (8, u "LOG2_BYTE_BIT_SIZE"), (4, u "LOG2_ARRAY_INT_INDEX_SCALE"), (54, u "JLA"), (0, u "Ljdk/internal/access/JavaLangAccess;"), (11, u "LOG2_ARRAY_BOOLEAN_INDEX_SCALE"), (9, u "LOG2_ARRAY_BYTE_INDEX_SCALE"), (5, u "LOG2_ARRAY_CHAR_INDEX_SCALE"), (5, u "LOG2_ARRAY_SHORT_INDEX_SCALE"), (18, u "LOG2_ARRAY_FLOAT_INDEX_SCALE"), (24, u "LOG2_ARRAY_DOUBLE_INDEX_SCALE"), (89, u "T_BOOLEAN"), (2, u "T_CHAR"), (1, u "T_FLOAT"), (1, u "T_DOUBLE"), (1, u "T_BYTE"), (1, u "T_SHORT"), (1, u "T_INT"), (1, u "T_LONG"), (1, u "SOFT_MAX_ARRAY_LENGTH")] 83

def k13m0 : Method := { name := "<init>", desc := "()V", sig := { parameters := [], returnType := none }, accessFlags := 2, code := none }
/-- jdk/internal/util/ArraysSupport -/
def k13 : Class := { plain "jdk/internal/util/ArraysSupport" (some 0) with
  accessFlags := 33
  interfaces := #[]
  cf := some (fileOf pool13 21 #[] #[{ accessFlags := 2, nameIndex := 9, descriptorIndex := 19, attributes := #[] }] 33 16 #[] #[{ accessFlags := 24, nameIndex := 28, descriptorIndex := 29, attributes := #[] }, { accessFlags := 26, nameIndex := 38, descriptorIndex := 39, attributes := #[] }, { accessFlags := 25, nameIndex := 121, descriptorIndex := 25, attributes := #[] }, { accessFlags := 25, nameIndex := 131, descriptorIndex := 25, attributes := #[] }, { accessFlags := 25, nameIndex := 137, descriptorIndex := 25, attributes := #[] }, { accessFlags := 25, nameIndex := 143, descriptorIndex := 25, attributes := #[] }, { accessFlags := 25, nameIndex := 53, descriptorIndex := 25, attributes := #[] }, { accessFlags := 25, nameIndex := 24, descriptorIndex := 25, attributes := #[] }, { accessFlags := 25, nameIndex := 162, descriptorIndex := 25, attributes := #[] }, { accessFlags := 25, nameIndex := 187, descriptorIndex := 25, attributes := #[] }, { accessFlags := 26, nameIndex := 48, descriptorIndex := 25, attributes := #[] }, { accessFlags := 25, nameIndex := 277, descriptorIndex := 25, attributes := #[] }, { accessFlags := 25, nameIndex := 280, descriptorIndex := 25, attributes := #[] }, { accessFlags := 25, nameIndex := 282, descriptorIndex := 25, attributes := #[] }, { accessFlags := 25, nameIndex := 284, descriptorIndex := 25, attributes := #[] }, { accessFlags := 25, nameIndex := 286, descriptorIndex := 25, attributes := #[] }, { accessFlags := 25, nameIndex := 288, descriptorIndex := 25, attributes := #[] }, { accessFlags := 25, nameIndex := 290, descriptorIndex := 25, attributes := #[] }, { accessFlags := 25, nameIndex := 292, descriptorIndex := 25, attributes := #[] }, { accessFlags := 26, nameIndex := 108, descriptorIndex := 109, attributes := #[] }, { accessFlags := 25, nameIndex := 294, descriptorIndex := 25, attributes := #[] }])
  fields := #[{ name := "U", type := (.object "jdk/internal/misc/Unsafe"), accessFlags := 24, slot := 0, constantValue := 0 }, { name := "BIG_ENDIAN", type := .boolean, accessFlags := 26, slot := 1, constantValue := 0 }, { name := "LOG2_ARRAY_BOOLEAN_INDEX_SCALE", type := .int, accessFlags := 25, slot := 2, constantValue := 0 }, { name := "LOG2_ARRAY_BYTE_INDEX_SCALE", type := .int, accessFlags := 25, slot := 3, constantValue := 0 }, { name := "LOG2_ARRAY_CHAR_INDEX_SCALE", type := .int, accessFlags := 25, slot := 4, constantValue := 0 }, { name := "LOG2_ARRAY_SHORT_INDEX_SCALE", type := .int, accessFlags := 25, slot := 5, constantValue := 0 }, { name := "LOG2_ARRAY_INT_INDEX_SCALE", type := .int, accessFlags := 25, slot := 6, constantValue := 0 }, { name := "LOG2_ARRAY_LONG_INDEX_SCALE", type := .int, accessFlags := 25, slot := 7, constantValue := 0 }, { name := "LOG2_ARRAY_FLOAT_INDEX_SCALE", type := .int, accessFlags := 25, slot := 8, constantValue := 0 }, { name := "LOG2_ARRAY_DOUBLE_INDEX_SCALE", type := .int, accessFlags := 25, slot := 9, constantValue := 0 }, { name := "LOG2_BYTE_BIT_SIZE", type := .int, accessFlags := 26, slot := 10, constantValue := 0 }, { name := "T_BOOLEAN", type := .int, accessFlags := 25, slot := 11, constantValue := 0 }, { name := "T_CHAR", type := .int, accessFlags := 25, slot := 12, constantValue := 0 }, { name := "T_FLOAT", type := .int, accessFlags := 25, slot := 13, constantValue := 0 }, { name := "T_DOUBLE", type := .int, accessFlags := 25, slot := 14, constantValue := 0 }, { name := "T_BYTE", type := .int, accessFlags := 25, slot := 15, constantValue := 0 }, { name := "T_SHORT", type := .int, accessFlags := 25, slot := 16, constantValue := 0 }, { name := "T_INT", type := .int, accessFlags := 25, slot := 17, constantValue := 0 }, { name := "T_LONG", type := .int, accessFlags := 25, slot := 18, constantValue := 0 }, { name := "JLA", type := (.object "jdk/internal/access/JavaLangAccess"), accessFlags := 26, slot := 19, constantValue := 0 }, { name := "SOFT_MAX_ARRAY_LENGTH", type := .int, accessFlags := 25, slot := 20, constantValue := 0 }]
  methods := #[k13m0]
  instanceTypes := #[]
  staticTypes := #[(.object "jdk/internal/misc/Unsafe"), .boolean, .int, .int, .int, .int, .int, .int, .int, .int, .int, .int, .int, .int, .int, .int, .int, .int, .int, (.object "jdk/internal/access/JavaLangAccess"), .int]
  resolved := Array.replicate 378 none
  statics := none }

def pool14 : Array CpInfo := pool [(1, u "java/lang/Cloneable"), (0, .class_ 1), (0, u "java/lang/Object"), (0, .class_ 3)] 3

/-- java/lang/Cloneable -/
def k14 : Class := { plain "java/lang/Cloneable" (some 0) with
  accessFlags := 1537
  interfaces := #[]
  cf := some (fileOf pool14 2 #[] #[] 1537 4 #[] #[])
  fields := #[]
  methods := #[]
  instanceTypes := #[]
  staticTypes := #[]
  resolved := Array.replicate 8 none
  statics := none }

/-- the primitive byte -/
def k15 : Class := { plain "byte" none with kind := .primitive 'B', accessFlags := 0x411 }
/-- [B -/
def k16 : Class := { plain "[B" (some 0) with kind := .array 15 .byte, interfaces := #[14, 2], accessFlags := 1041 }

/-- the primitive char -/
def k17 : Class := { plain "char" none with kind := .primitive 'C', accessFlags := 0x411 }
/-- [C -/
def k18 : Class := { plain "[C" (some 0) with kind := .array 17 .char, interfaces := #[14, 2], accessFlags := 1041 }

/-- the primitive int -/
def k19 : Class := { plain "int" none with kind := .primitive 'I', accessFlags := 0x411 }
/-- [I -/
def k20 : Class := { plain "[I" (some 0) with kind := .array 19 .int, interfaces := #[14, 2], accessFlags := 1041 }

/-- the primitive long -/
def k21 : Class := { plain "long" none with kind := .primitive 'J', accessFlags := 0x411 }
/-- [J -/
def k22 : Class := { plain "[J" (some 0) with kind := .array 21 .long, interfaces := #[14, 2], accessFlags := 1041 }

def k23 : Class := { plain "[[B" (some 0) with kind := .array 16 (.array .byte), interfaces := #[14, 2], accessFlags := 1041 }
def heap : Heap := #[{ cls := 7, slots := #[.long 0, .int 1, .null, .int 0, .null, .int 0, .int 0], vm := .statics 7 },
  { cls := 12, slots := #[.null, .null, .null], vm := .statics 12 }]
def classes : Array Class := #[k0, k1, k2, k3, k4, k5, k6, k7, k8, k9, k10, k11, k12, k13, k14, k15, k16, k17, k18, k19, k20, k21, k22, k23]
def interned : List (Array UInt16 × Addr) := []
def slotsUsed : Nat := 10
def theMethod : MethodId := ⟨1, 2⟩
def args0 : Array Value := #[.int 1, .int 2, .int 3, .int 4]
def aboutOver (below : List Frame) : State where
  vm := { classes := classes, interned := interned.toArray }
  heap := heap
  slotsUsed := slotsUsed
  threads := #[{ frames := .invoking theMethod args0 :: below }]
def below0 : List Frame := [.native { method := ⟨0, 0⟩, args := #[] }]
def about1 : State := aboutOver below0
def p0 : Program := .bare "" "" ""
def e0 : Env := launch0.env 0 0 0
theorem w_frames : about1.frames = Frame.invoking theMethod args0 :: below0 := rfl
set_option maxRecDepth 65536 in
theorem w_args : argsFit about1.vm theMethod args0 = true := by decide +kernel
set_option maxRecDepth 65536 in
theorem w_heap : heapFits about1 = true := by decide +kernel
set_option maxRecDepth 65536 in
theorem w_runnable : about1.curStatus? = some .runnable := by decide +kernel
set_option maxRecDepth 65536 in
theorem w_alone : about1.alone = true := by decide +kernel
set_option maxRecDepth 65536 in
theorem w_named : about1.methodNamed? x = some theMethod := by decide +kernel
set_option maxRecDepth 65536 in
theorem w_hears : about1.hears theMethod below0 = true := by decide +kernel
set_option maxRecDepth 65536 in
theorem w_ripe : about1.ripe theMethod args0 below0 = true := by decide +kernel
theorem w_running : about1.status = .running := rfl
set_option maxRecDepth 65536 in
theorem w_room : about1.hasRoom e0.platform room_1 = true :=
  launch0.hasRoom_least _ room_1 (by decide +kernel) (by decide +kernel) (by decide +kernel) (by decide +kernel) (by decide +kernel) (by decide +kernel)
theorem allAtoms_all (ts : List Jvm.Cond) (a : Array Jvm.Value) (st : Jvm.State) : (allAtoms ts).before a st = ts.all (fun c => c.before a st) := by
  induction ts with
  | nil => rfl
  | cons c t ih =>
    show (Jvm.Cond.and c (allAtoms t)).before a st = _
    rw [Jvm.Cond.before_and, ih, List.all_cons]
def words1 : List Jvm.Cond := Jvm.Cond.code x code maxLocals ret :: tables_1
/-- a 'code' word, met by the world's own term for the bytes: nothing is compared byte by byte -/
theorem code_word {y : MethodName} {bytes : ByteArray} {mx : Nat} {rt : Option FieldType} {a : Array Value} {s : State} {m : MethodId} {meth : Method} {c : Code} (h1 : s.methodNamed? y = some m) (h2 : s.vm.method? m = some meth) (h3 : meth.code = some c) (h4 : c.code = bytes)
    (h5 : (c.maxLocals == mx && c.exceptionTable.isEmpty && decide (c.maxStack ≤ mostOperands) && decide (meth.sig.returnType = rt) && !meth.locks && decide (parseMethodDescriptor y.desc = some meth.sig)) = true) : (Jvm.Cond.code y bytes mx rt).before a s = true := by
  simp only [Bool.and_eq_true, beq_iff_eq, Bool.not_eq_true', decide_eq_true_eq] at h5
  obtain ⟨⟨⟨⟨⟨g1, g2⟩, g3⟩, g4⟩, g5⟩, g6⟩ := h5
  simp [Cond.before, Cond.holds, Cond.value, h1, h2, h3, h4, g1, g2, g3, g4, g5, g6]
def isCode : Jvm.Cond → Bool
  | .code _ _ _ _ => true
  | _ => false
theorem all_split {L : List Jvm.Cond} {P : Jvm.Cond → Bool} (h1 : L.all (fun c => isCode c || P c) = true) (h2 : ∀ c ∈ L.filter isCode, P c = true) : L.all P = true := by
  refine List.all_eq_true.mpr fun c hc => ?_
  have h := List.all_eq_true.mp h1 c hc
  rcases Bool.eq_false_or_eq_true (isCode c) with hi | hi
  · exact h2 c (List.mem_filter.mpr ⟨hc, hi⟩)
  · simpa [hi] using h
set_option maxRecDepth 65536 in
theorem w_c0 : (Jvm.Cond.code x code maxLocals ret).before args0 about1 = true := code_word (m := ⟨1, 2⟩) (meth := k1m2) (c := k1c2) (by decide +kernel) rfl rfl rfl (by decide +kernel)
set_option maxRecDepth 65536 in
theorem w_c1 : (Jvm.Cond.code ({ cls := "com/example/pricefence/pricefence/replay/OrderIdsOrdersFileAlonePinLaw", name := "draw", desc := "(III)Ljava/lang/String;" } : Jvm.MethodName) method_2_code (6 : Nat) (Option.some (Jvm.ClassFile.FieldType.object "java/lang/String"))).before args0 about1 = true := code_word (m := ⟨1, 1⟩) (meth := k1m1) (c := k1c1) (by decide +kernel) rfl rfl rfl (by decide +kernel)
set_option maxRecDepth 65536 in
theorem w_c2 : (Jvm.Cond.code ({ cls := "java/lang/String", name := "<init>", desc := "([C)V" } : Jvm.MethodName) jdk_42_method_3_code (2 : Nat) (Option.none : Option Jvm.ClassFile.FieldType)).before args0 about1 = true := code_word (m := ⟨7, 1⟩) (meth := k7m1) (c := k7c1) (by decide +kernel) rfl rfl rfl (by decide +kernel)
set_option maxRecDepth 65536 in
theorem w_c3 : (Jvm.Cond.code ({ cls := "java/lang/String", name := "<init>", desc := "([CIILjava/lang/Void;)V" } : Jvm.MethodName) jdk_42_method_149_code (6 : Nat) (Option.none : Option Jvm.ClassFile.FieldType)).before args0 about1 = true := code_word (m := ⟨7, 3⟩) (meth := k7m3) (c := k7c3) (by decide +kernel) rfl rfl rfl (by decide +kernel)
set_option maxRecDepth 65536 in
theorem w_c4 : (Jvm.Cond.code ({ cls := "java/lang/Object", name := "<init>", desc := "()V" } : Jvm.MethodName) object_method_1_code (1 : Nat) (Option.none : Option Jvm.ClassFile.FieldType)).before args0 about1 = true := code_word (m := ⟨0, 0⟩) (meth := k0m0) (c := k0c0) (by decide +kernel) rfl rfl rfl (by decide +kernel)
set_option maxRecDepth 65536 in
theorem w_c5 : (Jvm.Cond.code ({ cls := "java/lang/StringUTF16", name := "compress", desc := "([CII)[B" } : Jvm.MethodName) jdk_52_method_16_code (6 : Nat) (Option.some (Jvm.ClassFile.FieldType.array Jvm.ClassFile.FieldType.byte))).before args0 about1 = true := code_word (m := ⟨8, 2⟩) (meth := k8m2) (c := k8c2) (by decide +kernel) rfl rfl rfl (by decide +kernel)
set_option maxRecDepth 65536 in
theorem w_c6 : (Jvm.Cond.code ({ cls := "java/lang/StringUTF16", name := "compress", desc := "([CI[BII)I" } : Jvm.MethodName) jdk_52_method_21_code (7 : Nat) (Option.some Jvm.ClassFile.FieldType.int)).before args0 about1 = true := code_word (m := ⟨8, 3⟩) (meth := k8m3) (c := k8c3) (by decide +kernel) rfl rfl rfl (by decide +kernel)
set_option maxRecDepth 65536 in
theorem w_c7 : (Jvm.Cond.code ({ cls := "java/lang/StringUTF16", name := "coderFromArrayLen", desc := "([BI)B" } : Jvm.MethodName) jdk_52_method_15_code (2 : Nat) (Option.some Jvm.ClassFile.FieldType.byte)).before args0 about1 = true := code_word (m := ⟨8, 1⟩) (meth := k8m1) (c := k8c1) (by decide +kernel) rfl rfl rfl (by decide +kernel)
set_option maxRecDepth 65536 in
theorem w_c8 : (Jvm.Cond.code ({ cls := "com/example/pricefence/pricefence/replay/OrderIds", name := "<init>", desc := "(Ljava/lang/String;Ljava/lang/String;)V" } : Jvm.MethodName) prog_50_method_1_code (3 : Nat) (Option.none : Option Jvm.ClassFile.FieldType)).before args0 about1 = true := code_word (m := ⟨9, 0⟩) (meth := k9m0) (c := k9c0) (by decide +kernel) rfl rfl rfl (by decide +kernel)
set_option maxRecDepth 65536 in
theorem w_c9 : (Jvm.Cond.code ({ cls := "com/example/pricefence/pricefence/replay/SeenIds", name := "<init>", desc := "()V" } : Jvm.MethodName) prog_62_method_1_code (1 : Nat) (Option.none : Option Jvm.ClassFile.FieldType)).before args0 about1 = true := code_word (m := ⟨10, 0⟩) (meth := k10m0) (c := k10c0) (by decide +kernel) rfl rfl rfl (by decide +kernel)
set_option maxRecDepth 65536 in
theorem w_c10 : (Jvm.Cond.code ({ cls := "com/example/pricefence/pricefence/replay/OrderIds", name := "ordersFileAlone", desc := "()Z" } : Jvm.MethodName) prog_50_method_2_code (1 : Nat) (Option.some Jvm.ClassFile.FieldType.boolean)).before args0 about1 = true := code_word (m := ⟨9, 1⟩) (meth := k9m1) (c := k9c1) (by decide +kernel) rfl rfl rfl (by decide +kernel)
set_option maxRecDepth 65536 in
theorem w_c11 : (Jvm.Cond.code ({ cls := "java/lang/String", name := "valueOf", desc := "(C)Ljava/lang/String;" } : Jvm.MethodName) jdk_42_method_139_code (1 : Nat) (Option.some (Jvm.ClassFile.FieldType.object "java/lang/String"))).before args0 about1 = true := code_word (m := ⟨7, 2⟩) (meth := k7m2) (c := k7c2) (by decide +kernel) rfl rfl rfl (by decide +kernel)
set_option maxRecDepth 65536 in
theorem w_c12 : (Jvm.Cond.code ({ cls := "java/lang/StringLatin1", name := "canEncode", desc := "(C)Z" } : Jvm.MethodName) jdk_43_method_3_code (1 : Nat) (Option.some Jvm.ClassFile.FieldType.boolean)).before args0 about1 = true := code_word (m := ⟨11, 1⟩) (meth := k11m1) (c := k11c1) (by decide +kernel) rfl rfl rfl (by decide +kernel)
set_option maxRecDepth 65536 in
theorem w_c13 : (Jvm.Cond.code ({ cls := "java/lang/StringLatin1", name := "toBytes", desc := "(C)[B" } : Jvm.MethodName) jdk_43_method_46_code (1 : Nat) (Option.some (Jvm.ClassFile.FieldType.array Jvm.ClassFile.FieldType.byte))).before args0 about1 = true := code_word (m := ⟨11, 2⟩) (meth := k11m2) (c := k11c2) (by decide +kernel) rfl rfl rfl (by decide +kernel)
set_option maxRecDepth 65536 in
theorem w_c14 : (Jvm.Cond.code ({ cls := "java/lang/String", name := "<init>", desc := "([BB)V" } : Jvm.MethodName) jdk_42_method_151_code (3 : Nat) (Option.none : Option Jvm.ClassFile.FieldType)).before args0 about1 = true := code_word (m := ⟨7, 4⟩) (meth := k7m4) (c := k7c4) (by decide +kernel) rfl rfl rfl (by decide +kernel)
def codes1 : List Jvm.Cond := [Jvm.Cond.code x code maxLocals ret, Jvm.Cond.code ({ cls := "com/example/pricefence/pricefence/replay/OrderIdsOrdersFileAlonePinLaw", name := "draw", desc := "(III)Ljava/lang/String;" } : Jvm.MethodName) method_2_code (6 : Nat) (Option.some (Jvm.ClassFile.FieldType.object "java/lang/String")), Jvm.Cond.code ({ cls := "java/lang/String", name := "<init>", desc := "([C)V" } : Jvm.MethodName) jdk_42_method_3_code (2 : Nat) (Option.none : Option Jvm.ClassFile.FieldType), Jvm.Cond.code ({ cls := "java/lang/String", name := "<init>", desc := "([CIILjava/lang/Void;)V" } : Jvm.MethodName) jdk_42_method_149_code (6 : Nat) (Option.none : Option Jvm.ClassFile.FieldType), Jvm.Cond.code ({ cls := "java/lang/Object", name := "<init>", desc := "()V" } : Jvm.MethodName) object_method_1_code (1 : Nat) (Option.none : Option Jvm.ClassFile.FieldType), Jvm.Cond.code ({ cls := "java/lang/StringUTF16", name := "compress", desc := "([CII)[B" } : Jvm.MethodName) jdk_52_method_16_code (6 : Nat) (Option.some (Jvm.ClassFile.FieldType.array Jvm.ClassFile.FieldType.byte)), Jvm.Cond.code ({ cls := "java/lang/StringUTF16", name := "compress", desc := "([CI[BII)I" } : Jvm.MethodName) jdk_52_method_21_code (7 : Nat) (Option.some Jvm.ClassFile.FieldType.int), Jvm.Cond.code ({ cls := "java/lang/StringUTF16", name := "coderFromArrayLen", desc := "([BI)B" } : Jvm.MethodName) jdk_52_method_15_code (2 : Nat) (Option.some Jvm.ClassFile.FieldType.byte), Jvm.Cond.code ({ cls := "com/example/pricefence/pricefence/replay/OrderIds", name := "<init>", desc := "(Ljava/lang/String;Ljava/lang/String;)V" } : Jvm.MethodName) prog_50_method_1_code (3 : Nat) (Option.none : Option Jvm.ClassFile.FieldType), Jvm.Cond.code ({ cls := "com/example/pricefence/pricefence/replay/SeenIds", name := "<init>", desc := "()V" } : Jvm.MethodName) prog_62_method_1_code (1 : Nat) (Option.none : Option Jvm.ClassFile.FieldType), Jvm.Cond.code ({ cls := "com/example/pricefence/pricefence/replay/OrderIds", name := "ordersFileAlone", desc := "()Z" } : Jvm.MethodName) prog_50_method_2_code (1 : Nat) (Option.some Jvm.ClassFile.FieldType.boolean), Jvm.Cond.code ({ cls := "java/lang/String", name := "valueOf", desc := "(C)Ljava/lang/String;" } : Jvm.MethodName) jdk_42_method_139_code (1 : Nat) (Option.some (Jvm.ClassFile.FieldType.object "java/lang/String")), Jvm.Cond.code ({ cls := "java/lang/StringLatin1", name := "canEncode", desc := "(C)Z" } : Jvm.MethodName) jdk_43_method_3_code (1 : Nat) (Option.some Jvm.ClassFile.FieldType.boolean), Jvm.Cond.code ({ cls := "java/lang/StringLatin1", name := "toBytes", desc := "(C)[B" } : Jvm.MethodName) jdk_43_method_46_code (1 : Nat) (Option.some (Jvm.ClassFile.FieldType.array Jvm.ClassFile.FieldType.byte)), Jvm.Cond.code ({ cls := "java/lang/String", name := "<init>", desc := "([BB)V" } : Jvm.MethodName) jdk_42_method_151_code (3 : Nat) (Option.none : Option Jvm.ClassFile.FieldType)]
set_option maxRecDepth 65536 in
theorem codes_eq : words1.filter isCode = codes1 := rfl
theorem w_codes : ∀ c ∈ words1.filter isCode, c.before args0 about1 = true := by
  rw [codes_eq]
  intro c hc
  simp only [codes1, List.mem_cons, List.not_mem_nil, or_false] at hc
  rcases hc with rfl | rfl | rfl | rfl | rfl | rfl | rfl | rfl | rfl | rfl | rfl | rfl | rfl | rfl | rfl
  · exact w_c0
  · exact w_c1
  · exact w_c2
  · exact w_c3
  · exact w_c4
  · exact w_c5
  · exact w_c6
  · exact w_c7
  · exact w_c8
  · exact w_c9
  · exact w_c10
  · exact w_c11
  · exact w_c12
  · exact w_c13
  · exact w_c14
set_option maxRecDepth 65536 in
theorem w_t1 : (words1.take 24).all (fun c => isCode c || c.before args0 about1) = true := by decide +kernel
set_option maxRecDepth 65536 in
theorem w_t2 : ((words1.drop 24).take 24).all (fun c => isCode c || c.before args0 about1) = true := by decide +kernel
set_option maxRecDepth 65536 in
theorem w_t3 : (((words1.drop 24).drop 24).take 24).all (fun c => isCode c || c.before args0 about1) = true := by decide +kernel
set_option maxRecDepth 65536 in
theorem w_t4 : (((words1.drop 24).drop 24).drop 24).all (fun c => isCode c || c.before args0 about1) = true := by decide +kernel
theorem w_tables : (allAtoms (Jvm.Cond.code x code maxLocals ret :: tables_1)).before args0 about1 = true := by
  rw [allAtoms_all]
  show words1.all (fun c => c.before args0 about1) = true
  refine all_split ?_ w_codes
  rw [← List.take_append_drop 24 words1, List.all_append, w_t1, ← List.take_append_drop 24 (words1.drop 24), List.all_append, w_t2, ← List.take_append_drop 24 ((words1.drop 24).drop 24), List.all_append, w_t3, w_t4]
  rfl
set_option maxRecDepth 65536 in
theorem w_rest : rest_1_c.before args0 about1 = true := by decide +kernel
set_option maxRecDepth 65536 in
theorem w_case : (Jvm.Cond.and given_1 narrow_1).before args0 about1 = true := by decide +kernel
set_option maxRecDepth 65536 in
theorem w_consts : constsHeld consts_1 about1 := Jvm.Lit.constsHeldB_iff.mp (by decide +kernel)
theorem w_applies : (headSpec (Jvm.Cond.code x code maxLocals ret :: tables_1) room_1).applies x e0.platform about1 = true :=
  (Spec.applies_iff w_frames).mpr ⟨w_running, w_runnable, w_alone, w_named, w_hears, w_ripe, w_room, w_tables⟩
theorem atStart : AtStart classFile x code maxLocals ret World_1 tables_1 room_1 Calls_1 rest_1 Pre_1 launch0 p0 e0 about1 theMethod args0 below0 :=
  ⟨lists_1, trivial, launch0.admits_env _ _ _, launch0.least_env, fairChoices_fair.cas, fairChoices_fair.clock, w_frames, w_args, w_heap, w_applies, ⟨w_consts, trivial⟩, w_rest, w_case⟩
end start1
theorem witness_1 : WitnessClaimed_1 := ⟨start1.p0, start1.e0, start1.about1, start1.theMethod, start1.args0, start1.below0, start1.atStart⟩
end Jvm.Pilot.@@N@@
