import JvmDerived
import JvmDerived.Pilot.@@N@@Statement
import JvmDerived.Pilot.@@N@@Code
set_option linter.unusedVariables false
set_option linter.unusedSimpArgs false
@@BLOCK:NumsL.lean.txt@@
namespace Jvm.Pilot.@@N@@.Fl8
open Jvm.FP.Core
theorem wto {i : Int} {s : Bool} {c : Nat} {q e : Int} (h : Whole i (.fin s c q)) (h1 : e ≤ q) (h2 : e ≤ 0) : signed s c * ((2 ^ (q - e).toNat : Nat) : Int) = i * ((2 ^ (-e).toNat : Nat) : Int) := by
  have h3 := whole_units h h1
  rw [show e.toNat = 0 by omega, Nat.pow_zero] at h3
  have h4 : signed s (inUnits c q e) = signed s c * ((2 ^ (q - e).toNat : Nat) : Int) := signed_mul s c _
  rw [h4, Int.natCast_one, Int.mul_one] at h3
  exact h3
theorem wof {i : Int} {s : Bool} {c : Nat} {q e : Int} (h1 : e ≤ q) (h2 : e ≤ 0) (h : signed s c * ((2 ^ (q - e).toNat : Nat) : Int) = i * ((2 ^ (-e).toNat : Nat) : Int)) : Whole i (.fin s c q) := by
  show signed s (c * 2 ^ q.toNat) = i * ((2 ^ (-q).toNat : Nat) : Int)
  rw [signed_mul]
  have e1 : (q - e).toNat = q.toNat + (min q 0 - e).toNat := by omega
  have e2 : (-e).toNat = (-q).toNat + (min q 0 - e).toNat := by omega
  rw [e1, e2, Nat.pow_add, Nat.pow_add, Int.natCast_mul, Int.natCast_mul, ← Int.mul_assoc, ← Int.mul_assoc] at h
  have p : ((2 ^ (min q 0 - e).toNat : Nat) : Int) ≠ 0 := by
    have := Nat.two_pow_pos (min q 0 - e).toNat
    omega
  exact Int.eq_of_mul_eq_mul_right p h
theorem w_div {n : Int} {s : Bool} {c : Nat} {k : Int} (j : Nat) (h : Whole (((2 ^ j : Nat) : Int) * n) (.fin s c (k + j))) : Whole n (.fin s c k) := by
  have h1 := wto h (e := min k 0) (by omega) (by omega)
  refine wof (e := min k 0) (by omega) (by omega) ?_
  rw [show (k + j - min k 0).toNat = (k - min k 0).toNat + j by omega, Nat.pow_add, Int.natCast_mul] at h1
  have p : ((2 ^ j : Nat) : Int) ≠ 0 := by
    have := Nat.two_pow_pos j
    omega
  refine Int.eq_of_mul_eq_mul_right p ?_
  rw [Int.mul_assoc, h1]
  ac_rfl
theorem w_mul {n : Int} {s : Bool} {c : Nat} {q : Int} (j : Nat) (h : Whole n (.fin s c q)) : Whole (((2 ^ j : Nat) : Int) * n) (.fin s c (q + j)) := by
  have h1 := wto h (e := min q 0) (by omega) (by omega)
  refine wof (e := min q 0) (by omega) (by omega) ?_
  rw [show (q + j - min q 0).toNat = (q - min q 0).toNat + j by omega, Nat.pow_add, Int.natCast_mul, ← Int.mul_assoc, h1]
  ac_rfl
theorem sg (n : Int) : signed (decide (n < 0)) n.natAbs = n := by
  by_cases hn : n < 0
  · rw [decide_eq_true hn]
    show -(n.natAbs : Int) = n
    omega
  · rw [decide_eq_false hn]
    show (n.natAbs : Int) = n
    omega
theorem rnd {n : Int} {s : Bool} {c : Nat} {q : Int} (h : Whole n (.fin s c (q + 3))) (hn : n.natAbs ≤ 2 ^ 53) : ∃ c' q', roundRatio b64 s c 1 q = .fin s c' q' ∧ Whole n (.fin s c' (q' + 3)) := by
  by_cases h0 : n = 0
  · have hc : c = 0 := (whole_zero h).mpr h0
    subst hc
    refine ⟨0, b64.qmin, rfl, ?_⟩
    show signed s (0 * _) = n * _
    rw [Nat.zero_mul, h0, signed_zero, Int.zero_mul]
  · obtain ⟨c', q', ⟨f1, f2, f3, f4⟩, he⟩ := natFit good_b64 wide_b64 s (n := n.natAbs) hn
    have hqm : b64.qmin = -1074 := by decide
    have hq : -200 ≤ q' := by
      refine Decidable.byContradiction fun hlt => ?_
      rw [show (q' - 0).toNat = 0 by omega, Nat.pow_zero, Nat.mul_one, Nat.mul_one] at he
      have h5 : c' < 2 ^ 53 := f1
      have h6 : 2 ^ 53 ≤ 2 ^ (0 - q').toNat := Nat.pow_le_pow_right (by decide) (by omega)
      have h7 : 1 * 2 ^ (0 - q').toNat ≤ n.natAbs * 2 ^ (0 - q').toNat := Nat.mul_le_mul_right _ (by omega)
      omega
    have e1 : roundRatio b64 s c 1 q = roundRatio b64 s n.natAbs 1 (-3) := by
      refine roundRatio_congr (by decide) (by decide) ?_
      have h8 := whole_natAbs h
      rw [Nat.mul_one, Nat.mul_one, show (q - -3).toNat = (q + 3).toNat by omega, show (-3 - q).toNat = (-(q + 3)).toNat by omega]
      exact h8
    refine ⟨c', q' - 3, ?_, ?_⟩
    · rw [e1]
      refine roundRatio_exact good_b64 (by decide) ⟨f1, by omega, by omega, Or.inr (by omega)⟩ ?_
      rw [show (-3 - (q' - 3)).toNat = (0 - q').toNat by omega, show (q' - 3 - -3).toNat = (q' - 0).toNat by omega]
      exact he
    · rw [Int.sub_add_cancel]
      show signed s (c' * 2 ^ q'.toNat) = n * ((2 ^ (-q').toNat : Nat) : Int)
      have e3 : c' * 2 ^ q'.toNat = n.natAbs * 2 ^ (-q').toNat := by
        rw [show q'.toNat = (q' - 0).toNat by omega, show (-q').toNat = (0 - q').toNat by omega, he, Nat.mul_one]
      rw [e3, signed_mul, whole_sign h h0, sg]
def E8 (n : Int) (a : UInt64) : Prop := ∃ s c q, val64 a = .fin s c q ∧ Whole n (.fin s c (q + 3))
theorem E8.fin {n : Int} {a : UInt64} (h : E8 n a) : DFin a := by
  obtain ⟨s, c, q, e, -⟩ := h
  exact ⟨s, c, q, e⟩
theorem e8_int {i : Int} (hi : i.natAbs ≤ 2 ^ 50) : ∃ s c q, round b64 (ofInt i) = .fin s c q ∧ Whole (8 * i) (.fin s c (q + 3)) := by
  have h : Whole (8 * i) (.fin (decide (i < 0)) i.natAbs (0 + 3)) := w_mul 3 (show Whole i (.fin (decide (i < 0)) i.natAbs 0) from whole_ofInt i)
  obtain ⟨c', q', e1, e2⟩ := rnd h (by omega)
  exact ⟨_, c', q', e1, e2⟩
theorem e8_i2d (a : Int32) : E8 (8 * a.toInt) (Jvm.FP.i2d a) := by
  obtain ⟨s, c, q, e1, e2⟩ := e8_int (i := a.toInt) (by have := a.toInt_lt; have := a.le_toInt; omega)
  exact ⟨s, c, q, (val64_i2d a).trans e1, e2⟩
theorem e8_l2d {a : Int64} (h : a.toInt.natAbs ≤ 2 ^ 50) : E8 (8 * a.toInt) (Jvm.FP.l2d a) := by
  obtain ⟨s, c, q, e1, e2⟩ := e8_int h
  exact ⟨s, c, q, (val64_l2d a).trans e1, e2⟩
theorem e8_div (j : Nat) {D : UInt64} (hD : val64 D = .fin false (2 ^ 52) ((j : Int) - 52)) {n : Int} {a : UInt64} (h : E8 (((2 ^ j : Nat) : Int) * n) a) (hn : n.natAbs ≤ 2 ^ 53) : E8 n (Jvm.FP.ddiv a D) := by
  obtain ⟨s, c, q, e, w⟩ := h
  have w1 : Whole n (.fin s c (q - j + 3)) := w_div j (by rw [show q - (j : Int) + 3 + (j : Int) = q + 3 by omega]; exact w)
  obtain ⟨c', q', e1, e2⟩ := rnd w1 hn
  refine ⟨s, c', q', ?_, e2⟩
  have hq : quotient b64 (.fin s c q) (.fin false (2 ^ 52) ((j : Int) - 52)) = roundRatio b64 (s != false) c (2 ^ 52) (q - ((j : Int) - 52)) := rfl
  rw [val64_ddiv, e, hD, hq, ← e1, show (s != false) = s by cases s <;> rfl]
  refine roundRatio_congr (by decide) (by decide) ?_
  rw [show (q - ((j : Int) - 52) - (q - j)).toNat = 52 by omega, show (q - (j : Int) - (q - ((j : Int) - 52))).toNat = 0 by omega, Nat.pow_zero, Nat.mul_one, Nat.mul_one]
theorem shU (s : Bool) (c : Nat) (q : Int) (t : Bool) (d : Nat) (r : Int) : sumUnits s c (q + 3) t d (r + 3) (min (q + 3) (r + 3)) = sumUnits s c q t d r (min q r) := by
  show signed s (c * 2 ^ (q + 3 - min (q + 3) (r + 3)).toNat) + signed t (d * 2 ^ (r + 3 - min (q + 3) (r + 3)).toNat) = signed s (c * 2 ^ (q - min q r).toNat) + signed t (d * 2 ^ (r - min q r).toNat)
  rw [show (q + 3 - min (q + 3) (r + 3)).toNat = (q - min q r).toNat by omega, show (r + 3 - min (q + 3) (r + 3)).toNat = (r - min q r).toNat by omega]
theorem sum8 {n m : Int} {s t : Bool} {c d : Nat} {q r : Int} (w : Whole n (.fin s c (q + 3))) (w' : Whole m (.fin t d (r + 3))) (hn : (n + m).natAbs ≤ 2 ^ 53) : ∃ s' c' q', round b64 (exactSum (.fin s c q) (.fin t d r)) = .fin s' c' q' ∧ Whole (n + m) (.fin s' c' (q' + 3)) := by
  have ws := whole_sum w w'
  have he : exactSum (.fin s c (q + 3)) (.fin t d (r + 3)) = .fin (sumSign s t (sumUnits s c q t d r (min q r))) (sumUnits s c q t d r (min q r)).natAbs (min q r + 3) := by
    show Datum.fin (sumSign s t (sumUnits s c (q + 3) t d (r + 3) (min (q + 3) (r + 3)))) (sumUnits s c (q + 3) t d (r + 3) (min (q + 3) (r + 3))).natAbs (min (q + 3) (r + 3)) = _
    rw [shU, show min (q + 3) (r + 3) = min q r + 3 by omega]
  rw [he] at ws
  obtain ⟨c', q', e1, e2⟩ := rnd ws hn
  exact ⟨_, c', q', e1, e2⟩
theorem e8_add {n m : Int} {a b : UInt64} (h : E8 n a) (g : E8 m b) (hn : (n + m).natAbs ≤ 2 ^ 53) : E8 (n + m) (Jvm.FP.dadd a b) := by
  obtain ⟨s, c, q, e, w⟩ := h
  obtain ⟨t, d, r, e', w'⟩ := g
  obtain ⟨s', c', q', e1, e2⟩ := sum8 w w' hn
  refine ⟨s', c', q', ?_, e2⟩
  rw [val64_dadd, e, e']
  exact e1
theorem e8_sub {n m : Int} {a b : UInt64} (h : E8 n a) (g : E8 m b) (hn : (n - m).natAbs ≤ 2 ^ 53) : E8 (n - m) (Jvm.FP.dsub a b) := by
  obtain ⟨s, c, q, e, w⟩ := h
  obtain ⟨t, d, r, e', w'⟩ := g
  obtain ⟨s', c', q', e1, e2⟩ := sum8 w (show Whole (-m) (.fin (!t) d (r + 3)) from whole_negate w') (by rw [← Int.sub_eq_add_neg]; exact hn)
  refine ⟨s', c', q', ?_, by rw [Int.sub_eq_add_neg]; exact e2⟩
  rw [val64_dsub, e, e']
  exact e1
theorem e8_cmp {n m : Int} {a b : UInt64} (h : E8 n a) (g : E8 m b) : Jvm.FP.dcmp a b = some (compare n m) := by
  obtain ⟨s, c, q, e, w⟩ := h
  obtain ⟨t, d, r, e', w'⟩ := g
  have o := order_whole w w'
  have ho : order (.fin s c (q + 3)) (.fin t d (r + 3)) = order (.fin s c q) (.fin t d r) := by
    show some (compare (signed s (c * 2 ^ (q + 3 - min (q + 3) (r + 3)).toNat)) (signed t (d * 2 ^ (r + 3 - min (q + 3) (r + 3)).toNat))) = some (compare (signed s (c * 2 ^ (q - min q r).toNat)) (signed t (d * 2 ^ (r - min q r).toNat)))
    rw [show (q + 3 - min (q + 3) (r + 3)).toNat = (q - min q r).toNat by omega, show (r + 3 - min (q + 3) (r + 3)).toNat = (r - min q r).toNat by omega]
  show order (val64 a) (val64 b) = _
  rw [e, e', ← ho, o]
theorem v2 : val64 4611686018427387904 = .fin false (2 ^ 52) (((1 : Nat) : Int) - 52) := by decide +kernel
theorem v4 : val64 4616189618054758400 = .fin false (2 ^ 52) (((2 : Nat) : Int) - 52) := by decide +kernel
theorem v8 : val64 4620693217682128896 = .fin false (2 ^ 52) (((3 : Nat) : Int) - 52) := by decide +kernel
theorem cv {n m : Int} {x y : UInt64} (h : E8 n x) (g : E8 m y) (o : Jvm.ClassFile.CmpOp) : ((Jvm.Op.cmpValue (Jvm.FP.dcmp x y) o).toInt < 0 ↔ n < m) ∧ (0 ≤ (Jvm.Op.cmpValue (Jvm.FP.dcmp x y) o).toInt ↔ m ≤ n) := by
  rw [e8_cmp h g]
  by_cases h1 : n < m
  · rw [(compare_lt_iff n m).mpr h1]
    have q : (Jvm.Op.cmpValue (some Ordering.lt) o).toInt = -1 := by cases o <;> rfl
    rw [q]
    constructor <;> constructor <;> omega
  · by_cases h2 : n = m
    · rw [(compare_eq_iff n m).mpr h2]
      have q : (Jvm.Op.cmpValue (some Ordering.eq) o).toInt = 0 := by cases o <;> rfl
      rw [q]
      constructor <;> constructor <;> omega
    · rw [(compare_gt_iff n m).mpr (by omega)]
      have q : (Jvm.Op.cmpValue (some Ordering.gt) o).toInt = 1 := by cases o <;> rfl
      rw [q]
      constructor <;> constructor <;> omega
end Jvm.Pilot.@@N@@.Fl8
namespace Jvm.Pilot.@@N@@
open Jvm Jvm.ClassFile Sem Op Lib Jvm.Free Jvm.Stand Jvm.LawKit Jvm.RoadKit Bundle Jvm.Pilot.@@N@@.Jvm.D
def Nq (a b : Addr) : Prop := a ≠ b
section Layer
variable {p : Program} {l : Launch} {e : Env} {R : Room} {s : State} {m : MethodId} {args : Array Value} {below : List Frame} {meth : Method} {c : Code} {T T' : State} {locs : List Loc} {cells slots : Nat} {Fe : Outcome → State → List Loc → Prop} {Q : Option Value → Heap → List Loc → Prop} {pc pc' : Nat} {Ls l' : Array Slot} {g g' : JFrame} {Z : State} {a0 : Array Value}
/-- from the frame g over T the run comes to a return of which Q and the frame's condition Fe hold -/
def Ok (p : Program) (e : Env) (below : List Frame) (Fe : Outcome → State → List Loc → Prop) (Q : Option Value → Heap → List Loc → Prop) (T : State) (g : JFrame) : Prop :=
  ∃ s₂ o, Steps p.tables e below (T.setTop g) s₂ ∧ s₂.status = .running ∧ Ended s₂ below o ∧ ∃ v L, o = .returned v ∧ Q v s₂.heap L ∧ Fe o s₂ L
def NE (s : State) (nc ns : Nat) (o : Outcome) (t : State) (L : List Loc) : Prop := FrameEnd s o t L nc ns
def WE (s : State) (nc ns : Nat) (o : Outcome) (t : State) (L : List Loc) : Prop := ReturnedEndW s o t L nc ns
theorem Ok.st (h : ∀ t, Steps p.tables e below (T'.setTop g') t → Steps p.tables e below (T.setTop g) t) (k : Ok p e below Fe Q T' g') : Ok p e below Fe Q T g := by
  obtain ⟨t, o, st, r⟩ := k
  exact ⟨t, o, h t st, r⟩
theorem Ok.tr (h : Steps p.tables e below (T.setTop g) (T'.setTop g')) (k : Ok p e below Fe Q T' g') : Ok p e below Fe Q T g := Ok.st (fun _ k' => h.trans k') k
theorem Ok.fr (h : g = g') (k : Ok p e below Fe Q T g') : Ok p e below Fe Q T g := h ▸ k
theorem Ok.iadd {x y : Int32} {rest : List Value} (X : Stand p l e R s m args below meth c T locs cells slots) (hx : p.tables.exec = Jvm.exec) (hd : decode c.code pc = .ok (.iadd, 1)) (hp : pc + 1 = pc')  (k : Ok p e below Fe Q T (mkF m pc' Ls (.int (x + y) :: rest))) : Ok p e below Fe Q T (mkF m pc Ls (.int y :: .int x :: rest)) := by
  subst hp
  exact Ok.st (fun t k => XS.iadd X.here hx rfl hd rfl k) k
theorem Ok.ladd {x y : Int64} {rest : List Value} (X : Stand p l e R s m args below meth c T locs cells slots) (hx : p.tables.exec = Jvm.exec) (hd : decode c.code pc = .ok (.ladd, 1)) (hp : pc + 1 = pc')  (k : Ok p e below Fe Q T (mkF m pc' Ls (.long (x + y) :: rest))) : Ok p e below Fe Q T (mkF m pc Ls (.long y :: .long x :: rest)) := by
  subst hp
  exact Ok.st (fun t k => XS.ladd X.here hx rfl hd rfl k) k
theorem Ok.isub {x y : Int32} {rest : List Value} (X : Stand p l e R s m args below meth c T locs cells slots) (hx : p.tables.exec = Jvm.exec) (hd : decode c.code pc = .ok (.isub, 1)) (hp : pc + 1 = pc')  (k : Ok p e below Fe Q T (mkF m pc' Ls (.int (x - y) :: rest))) : Ok p e below Fe Q T (mkF m pc Ls (.int y :: .int x :: rest)) := by
  subst hp
  exact Ok.st (fun t k => XS.isub X.here hx rfl hd rfl k) k
theorem Ok.lsub {x y : Int64} {rest : List Value} (X : Stand p l e R s m args below meth c T locs cells slots) (hx : p.tables.exec = Jvm.exec) (hd : decode c.code pc = .ok (.lsub, 1)) (hp : pc + 1 = pc')  (k : Ok p e below Fe Q T (mkF m pc' Ls (.long (x - y) :: rest))) : Ok p e below Fe Q T (mkF m pc Ls (.long y :: .long x :: rest)) := by
  subst hp
  exact Ok.st (fun t k => XS.lsub X.here hx rfl hd rfl k) k
theorem Ok.imul {x y : Int32} {rest : List Value} (X : Stand p l e R s m args below meth c T locs cells slots) (hx : p.tables.exec = Jvm.exec) (hd : decode c.code pc = .ok (.imul, 1)) (hp : pc + 1 = pc')  (k : Ok p e below Fe Q T (mkF m pc' Ls (.int (x * y) :: rest))) : Ok p e below Fe Q T (mkF m pc Ls (.int y :: .int x :: rest)) := by
  subst hp
  exact Ok.st (fun t k => XS.imul X.here hx rfl hd rfl k) k
theorem Ok.lmul {x y : Int64} {rest : List Value} (X : Stand p l e R s m args below meth c T locs cells slots) (hx : p.tables.exec = Jvm.exec) (hd : decode c.code pc = .ok (.lmul, 1)) (hp : pc + 1 = pc')  (k : Ok p e below Fe Q T (mkF m pc' Ls (.long (x * y) :: rest))) : Ok p e below Fe Q T (mkF m pc Ls (.long y :: .long x :: rest)) := by
  subst hp
  exact Ok.st (fun t k => XS.lmul X.here hx rfl hd rfl k) k
theorem Ok.iand {x y : Int32} {rest : List Value} (X : Stand p l e R s m args below meth c T locs cells slots) (hx : p.tables.exec = Jvm.exec) (hd : decode c.code pc = .ok (.iand, 1)) (hp : pc + 1 = pc')  (k : Ok p e below Fe Q T (mkF m pc' Ls (.int (x &&& y) :: rest))) : Ok p e below Fe Q T (mkF m pc Ls (.int y :: .int x :: rest)) := by
  subst hp
  exact Ok.st (fun t k => XS.iand X.here hx rfl hd rfl k) k
theorem Ok.land {x y : Int64} {rest : List Value} (X : Stand p l e R s m args below meth c T locs cells slots) (hx : p.tables.exec = Jvm.exec) (hd : decode c.code pc = .ok (.land, 1)) (hp : pc + 1 = pc')  (k : Ok p e below Fe Q T (mkF m pc' Ls (.long (x &&& y) :: rest))) : Ok p e below Fe Q T (mkF m pc Ls (.long y :: .long x :: rest)) := by
  subst hp
  exact Ok.st (fun t k => XS.land X.here hx rfl hd rfl k) k
theorem Ok.ior {x y : Int32} {rest : List Value} (X : Stand p l e R s m args below meth c T locs cells slots) (hx : p.tables.exec = Jvm.exec) (hd : decode c.code pc = .ok (.ior, 1)) (hp : pc + 1 = pc')  (k : Ok p e below Fe Q T (mkF m pc' Ls (.int (x ||| y) :: rest))) : Ok p e below Fe Q T (mkF m pc Ls (.int y :: .int x :: rest)) := by
  subst hp
  exact Ok.st (fun t k => XS.ior X.here hx rfl hd rfl k) k
theorem Ok.lor {x y : Int64} {rest : List Value} (X : Stand p l e R s m args below meth c T locs cells slots) (hx : p.tables.exec = Jvm.exec) (hd : decode c.code pc = .ok (.lor, 1)) (hp : pc + 1 = pc')  (k : Ok p e below Fe Q T (mkF m pc' Ls (.long (x ||| y) :: rest))) : Ok p e below Fe Q T (mkF m pc Ls (.long y :: .long x :: rest)) := by
  subst hp
  exact Ok.st (fun t k => XS.lor X.here hx rfl hd rfl k) k
theorem Ok.ixor {x y : Int32} {rest : List Value} (X : Stand p l e R s m args below meth c T locs cells slots) (hx : p.tables.exec = Jvm.exec) (hd : decode c.code pc = .ok (.ixor, 1)) (hp : pc + 1 = pc')  (k : Ok p e below Fe Q T (mkF m pc' Ls (.int (x ^^^ y) :: rest))) : Ok p e below Fe Q T (mkF m pc Ls (.int y :: .int x :: rest)) := by
  subst hp
  exact Ok.st (fun t k => XS.ixor X.here hx rfl hd rfl k) k
theorem Ok.lxor {x y : Int64} {rest : List Value} (X : Stand p l e R s m args below meth c T locs cells slots) (hx : p.tables.exec = Jvm.exec) (hd : decode c.code pc = .ok (.lxor, 1)) (hp : pc + 1 = pc')  (k : Ok p e below Fe Q T (mkF m pc' Ls (.long (x ^^^ y) :: rest))) : Ok p e below Fe Q T (mkF m pc Ls (.long y :: .long x :: rest)) := by
  subst hp
  exact Ok.st (fun t k => XS.lxor X.here hx rfl hd rfl k) k
theorem Ok.idiv {x y : Int32} {rest : List Value} (X : Stand p l e R s m args below meth c T locs cells slots) (hx : p.tables.exec = Jvm.exec) (hd : decode c.code pc = .ok (.idiv, 1)) (hp : pc + 1 = pc') (hy : y ≠ 0) (k : Ok p e below Fe Q T (mkF m pc' Ls (.int (x / y) :: rest))) : Ok p e below Fe Q T (mkF m pc Ls (.int y :: .int x :: rest)) := by
  subst hp
  exact Ok.st (fun t k => XS.idiv X.here hx rfl hd rfl hy k) k
theorem Ok.ldiv {x y : Int64} {rest : List Value} (X : Stand p l e R s m args below meth c T locs cells slots) (hx : p.tables.exec = Jvm.exec) (hd : decode c.code pc = .ok (.ldiv, 1)) (hp : pc + 1 = pc') (hy : y ≠ 0) (k : Ok p e below Fe Q T (mkF m pc' Ls (.long (x / y) :: rest))) : Ok p e below Fe Q T (mkF m pc Ls (.long y :: .long x :: rest)) := by
  subst hp
  exact Ok.st (fun t k => XS.ldiv X.here hx rfl hd rfl hy k) k
theorem Ok.irem {x y : Int32} {rest : List Value} (X : Stand p l e R s m args below meth c T locs cells slots) (hx : p.tables.exec = Jvm.exec) (hd : decode c.code pc = .ok (.irem, 1)) (hp : pc + 1 = pc') (hy : y ≠ 0) (k : Ok p e below Fe Q T (mkF m pc' Ls (.int (x % y) :: rest))) : Ok p e below Fe Q T (mkF m pc Ls (.int y :: .int x :: rest)) := by
  subst hp
  exact Ok.st (fun t k => iremM X hx rfl hd rfl hy k) k
theorem Ok.lrem {x y : Int64} {rest : List Value} (X : Stand p l e R s m args below meth c T locs cells slots) (hx : p.tables.exec = Jvm.exec) (hd : decode c.code pc = .ok (.lrem, 1)) (hp : pc + 1 = pc') (hy : y ≠ 0) (k : Ok p e below Fe Q T (mkF m pc' Ls (.long (x - (x / y) * y) :: rest))) : Ok p e below Fe Q T (mkF m pc Ls (.long y :: .long x :: rest)) := by
  subst hp
  exact Ok.st (fun t k => XS.lrem X.here hx rfl hd rfl hy k) k
theorem Ok.ishl {x y : Int32} {rest : List Value} (X : Stand p l e R s m args below meth c T locs cells slots) (hx : p.tables.exec = Jvm.exec) (hd : decode c.code pc = .ok (.ishl, 1)) (hp : pc + 1 = pc')  (k : Ok p e below Fe Q T (mkF m pc' Ls (.int (x <<< (y &&& 31)) :: rest))) : Ok p e below Fe Q T (mkF m pc Ls (.int y :: .int x :: rest)) := by
  subst hp
  exact Ok.st (fun t k => XS.ishl X.here hx rfl hd rfl k) k
theorem Ok.ishr {x y : Int32} {rest : List Value} (X : Stand p l e R s m args below meth c T locs cells slots) (hx : p.tables.exec = Jvm.exec) (hd : decode c.code pc = .ok (.ishr, 1)) (hp : pc + 1 = pc')  (k : Ok p e below Fe Q T (mkF m pc' Ls (.int (x >>> (y &&& 31)) :: rest))) : Ok p e below Fe Q T (mkF m pc Ls (.int y :: .int x :: rest)) := by
  subst hp
  exact Ok.st (fun t k => XS.ishr X.here hx rfl hd rfl k) k
theorem Ok.iushr {x y : Int32} {rest : List Value} (X : Stand p l e R s m args below meth c T locs cells slots) (hx : p.tables.exec = Jvm.exec) (hd : decode c.code pc = .ok (.iushr, 1)) (hp : pc + 1 = pc')  (k : Ok p e below Fe Q T (mkF m pc' Ls (.int ((x.toUInt32 >>> (y &&& 31).toUInt32).toInt32) :: rest))) : Ok p e below Fe Q T (mkF m pc Ls (.int y :: .int x :: rest)) := by
  subst hp
  exact Ok.st (fun t k => XS.iushr X.here hx rfl hd rfl k) k
theorem Ok.lshl {x : Int64} {y : Int32} {rest : List Value} (X : Stand p l e R s m args below meth c T locs cells slots) (hx : p.tables.exec = Jvm.exec) (hd : decode c.code pc = .ok (.lshl, 1)) (hp : pc + 1 = pc')  (k : Ok p e below Fe Q T (mkF m pc' Ls (.long (x <<< (y &&& 0x3f).toInt64) :: rest))) : Ok p e below Fe Q T (mkF m pc Ls (.int y :: .long x :: rest)) := by
  subst hp
  exact Ok.st (fun t k => XS.lshl X.here hx rfl hd rfl k) k
theorem Ok.lshr {x : Int64} {y : Int32} {rest : List Value} (X : Stand p l e R s m args below meth c T locs cells slots) (hx : p.tables.exec = Jvm.exec) (hd : decode c.code pc = .ok (.lshr, 1)) (hp : pc + 1 = pc')  (k : Ok p e below Fe Q T (mkF m pc' Ls (.long (x >>> (y &&& 0x3f).toInt64) :: rest))) : Ok p e below Fe Q T (mkF m pc Ls (.int y :: .long x :: rest)) := by
  subst hp
  exact Ok.st (fun t k => XS.lshr X.here hx rfl hd rfl k) k
theorem Ok.lushr {x : Int64} {y : Int32} {rest : List Value} (X : Stand p l e R s m args below meth c T locs cells slots) (hx : p.tables.exec = Jvm.exec) (hd : decode c.code pc = .ok (.lushr, 1)) (hp : pc + 1 = pc')  (k : Ok p e below Fe Q T (mkF m pc' Ls (.long ((x.toUInt64 >>> (y &&& 0x3f).toInt64.toUInt64).toInt64) :: rest))) : Ok p e below Fe Q T (mkF m pc Ls (.int y :: .long x :: rest)) := by
  subst hp
  exact Ok.st (fun t k => XS.lushr X.here hx rfl hd rfl k) k
theorem Ok.ineg {x : Int32} {rest : List Value} (X : Stand p l e R s m args below meth c T locs cells slots) (hx : p.tables.exec = Jvm.exec) (hd : decode c.code pc = .ok (.ineg, 1)) (hp : pc + 1 = pc')  (k : Ok p e below Fe Q T (mkF m pc' Ls (.int (-x) :: rest))) : Ok p e below Fe Q T (mkF m pc Ls (.int x :: rest)) := by
  subst hp
  exact Ok.st (fun t k => XS.ineg X.here hx rfl hd rfl k) k
theorem Ok.lneg {x : Int64} {rest : List Value} (X : Stand p l e R s m args below meth c T locs cells slots) (hx : p.tables.exec = Jvm.exec) (hd : decode c.code pc = .ok (.lneg, 1)) (hp : pc + 1 = pc')  (k : Ok p e below Fe Q T (mkF m pc' Ls (.long (-x) :: rest))) : Ok p e below Fe Q T (mkF m pc Ls (.long x :: rest)) := by
  subst hp
  exact Ok.st (fun t k => XS.lneg X.here hx rfl hd rfl k) k
theorem Ok.i2l {x : Int32} {rest : List Value} (X : Stand p l e R s m args below meth c T locs cells slots) (hx : p.tables.exec = Jvm.exec) (hd : decode c.code pc = .ok (.i2l, 1)) (hp : pc + 1 = pc')  (k : Ok p e below Fe Q T (mkF m pc' Ls (.long x.toInt64 :: rest))) : Ok p e below Fe Q T (mkF m pc Ls (.int x :: rest)) := by
  subst hp
  exact Ok.st (fun t k => XS.i2l X.here hx rfl hd rfl k) k
theorem Ok.l2i {x : Int64} {rest : List Value} (X : Stand p l e R s m args below meth c T locs cells slots) (hx : p.tables.exec = Jvm.exec) (hd : decode c.code pc = .ok (.l2i, 1)) (hp : pc + 1 = pc')  (k : Ok p e below Fe Q T (mkF m pc' Ls (.int x.toInt32 :: rest))) : Ok p e below Fe Q T (mkF m pc Ls (.long x :: rest)) := by
  subst hp
  exact Ok.st (fun t k => XS.l2i X.here hx rfl hd rfl k) k
theorem Ok.i2b {x : Int32} {rest : List Value} (X : Stand p l e R s m args below meth c T locs cells slots) (hx : p.tables.exec = Jvm.exec) (hd : decode c.code pc = .ok (.i2b, 1)) (hp : pc + 1 = pc')  (k : Ok p e below Fe Q T (mkF m pc' Ls (.int x.toInt8.toInt32 :: rest))) : Ok p e below Fe Q T (mkF m pc Ls (.int x :: rest)) := by
  subst hp
  exact Ok.st (fun t k => XS.i2b X.here hx rfl hd rfl k) k
theorem Ok.i2c {x : Int32} {rest : List Value} (X : Stand p l e R s m args below meth c T locs cells slots) (hx : p.tables.exec = Jvm.exec) (hd : decode c.code pc = .ok (.i2c, 1)) (hp : pc + 1 = pc')  (k : Ok p e below Fe Q T (mkF m pc' Ls (.int x.toUInt32.toUInt16.toUInt32.toInt32 :: rest))) : Ok p e below Fe Q T (mkF m pc Ls (.int x :: rest)) := by
  subst hp
  exact Ok.st (fun t k => XS.i2c X.here hx rfl hd rfl k) k
theorem Ok.i2s {x : Int32} {rest : List Value} (X : Stand p l e R s m args below meth c T locs cells slots) (hx : p.tables.exec = Jvm.exec) (hd : decode c.code pc = .ok (.i2s, 1)) (hp : pc + 1 = pc')  (k : Ok p e below Fe Q T (mkF m pc' Ls (.int x.toInt16.toInt32 :: rest))) : Ok p e below Fe Q T (mkF m pc Ls (.int x :: rest)) := by
  subst hp
  exact Ok.st (fun t k => XS.i2s X.here hx rfl hd rfl k) k
theorem Ok.lcmp {x y : Int64} {rest : List Value} (X : Stand p l e R s m args below meth c T locs cells slots) (hx : p.tables.exec = Jvm.exec) (hd : decode c.code pc = .ok (.lcmp, 1)) (hp : pc + 1 = pc')  (k : Ok p e below Fe Q T (mkF m pc' Ls (.int (lcmpW x y) :: rest))) : Ok p e below Fe Q T (mkF m pc Ls (.long y :: .long x :: rest)) := by
  subst hp
  exact Ok.st (fun t k => XS.lcmp X.here hx rfl hd rfl k) k
theorem Ok.iconst {i : Int} {z : Int32} {rest : List Value} (X : Stand p l e R s m args below meth c T locs cells slots) (hx : p.tables.exec = Jvm.exec) (hd : decode c.code pc = .ok (.iconst i, 1)) (hp : pc + 1 = pc') (hz : z = Int32.ofInt i) (k : Ok p e below Fe Q T (mkF m pc' Ls (.int z :: rest))) : Ok p e below Fe Q T (mkF m pc Ls rest) := by
  subst hp
  exact Ok.st (fun t k => XS.iconst X.here hx rfl hd (hz ▸ k)) k
theorem Ok.bipush {i : Int} {z : Int32} {rest : List Value} (X : Stand p l e R s m args below meth c T locs cells slots) (hx : p.tables.exec = Jvm.exec) (hd : decode c.code pc = .ok (.bipush i, 2)) (hp : pc + 2 = pc') (hz : z = (Int8.ofInt i).toInt32) (k : Ok p e below Fe Q T (mkF m pc' Ls (.int z :: rest))) : Ok p e below Fe Q T (mkF m pc Ls rest) := by
  subst hp
  exact Ok.st (fun t k => XS.bipush X.here hx rfl hd (hz ▸ k)) k
theorem Ok.sipush {i : Int} {z : Int32} {rest : List Value} (X : Stand p l e R s m args below meth c T locs cells slots) (hx : p.tables.exec = Jvm.exec) (hd : decode c.code pc = .ok (.sipush i, 3)) (hp : pc + 3 = pc') (hz : z = (Int16.ofInt i).toInt32) (k : Ok p e below Fe Q T (mkF m pc' Ls (.int z :: rest))) : Ok p e below Fe Q T (mkF m pc Ls rest) := by
  subst hp
  exact Ok.st (fun t k => XS.sipush X.here hx rfl hd (hz ▸ k)) k
theorem Ok.lconst {i : Fin 2} {z : Int64} {rest : List Value} (X : Stand p l e R s m args below meth c T locs cells slots) (hx : p.tables.exec = Jvm.exec) (hd : decode c.code pc = .ok (.lconst i, 1)) (hp : pc + 1 = pc') (hz : z = Int64.ofNat i) (k : Ok p e below Fe Q T (mkF m pc' Ls (.long z :: rest))) : Ok p e below Fe Q T (mkF m pc Ls rest) := by
  subst hp
  exact Ok.st (fun t k => XS.lconst X.here hx rfl hd (hz ▸ k)) k
theorem Ok.aconstNull {rest : List Value} (X : Stand p l e R s m args below meth c T locs cells slots) (hx : p.tables.exec = Jvm.exec) (hd : decode c.code pc = .ok (.aconst_null, 1)) (hp : pc + 1 = pc')  (k : Ok p e below Fe Q T (mkF m pc' Ls (.null :: rest))) : Ok p e below Fe Q T (mkF m pc Ls rest) := by
  subst hp
  exact Ok.st (fun t k => XS.aconstNull X.here hx rfl hd k) k
theorem Ok.dup {x : Value} {rest : List Value} (X : Stand p l e R s m args below meth c T locs cells slots) (hx : p.tables.exec = Jvm.exec) (hd : decode c.code pc = .ok (.dup, 1)) (hp : pc + 1 = pc') (hc : x.category = 1) (k : Ok p e below Fe Q T (mkF m pc' Ls (x :: x :: rest))) : Ok p e below Fe Q T (mkF m pc Ls (x :: rest)) := by
  subst hp
  exact Ok.st (fun t k => XS.dup X.here hx rfl hd rfl hc k) k
theorem Ok.pop {x : Value} {rest : List Value} (X : Stand p l e R s m args below meth c T locs cells slots) (hx : p.tables.exec = Jvm.exec) (hd : decode c.code pc = .ok (.pop, 1)) (hp : pc + 1 = pc') (hc : x.category = 1) (k : Ok p e below Fe Q T (mkF m pc' Ls rest)) : Ok p e below Fe Q T (mkF m pc Ls (x :: rest)) := by
  subst hp
  exact Ok.st (fun t k => XS.pop X.here hx rfl hd rfl hc k) k
theorem Ok.iload {i : Nat} {v : Int32} {rest : List Value} (X : Stand p l e R s m args below meth c T locs cells slots) (hx : p.tables.exec = Jvm.exec) (hd : decode c.code pc = .ok (.iload i, 2)) (hp : pc + 2 = pc') (hl : Ls[i]? = some (.val (.int v))) (k : Ok p e below Fe Q T (mkF m pc' Ls (.int v :: rest))) : Ok p e below Fe Q T (mkF m pc Ls rest) := by
  subst hp
  exact Ok.st (fun t k => XS.iload X.here hx rfl hd hl k) k
theorem Ok.iloadN {i : Fin 4} {v : Int32} {rest : List Value} (X : Stand p l e R s m args below meth c T locs cells slots) (hx : p.tables.exec = Jvm.exec) (hd : decode c.code pc = .ok (.iload_n i, 1)) (hp : pc + 1 = pc') (hl : Ls[i.val]? = some (.val (.int v))) (k : Ok p e below Fe Q T (mkF m pc' Ls (.int v :: rest))) : Ok p e below Fe Q T (mkF m pc Ls rest) := by
  subst hp
  exact Ok.st (fun t k => XS.iloadN X.here hx rfl hd hl k) k
theorem Ok.lload {i : Nat} {v : Int64} {rest : List Value} (X : Stand p l e R s m args below meth c T locs cells slots) (hx : p.tables.exec = Jvm.exec) (hd : decode c.code pc = .ok (.lload i, 2)) (hp : pc + 2 = pc') (hl : Ls[i]? = some (.val (.long v))) (k : Ok p e below Fe Q T (mkF m pc' Ls (.long v :: rest))) : Ok p e below Fe Q T (mkF m pc Ls rest) := by
  subst hp
  exact Ok.st (fun t k => XS.lload X.here hx rfl hd hl k) k
theorem Ok.lloadN {i : Fin 4} {v : Int64} {rest : List Value} (X : Stand p l e R s m args below meth c T locs cells slots) (hx : p.tables.exec = Jvm.exec) (hd : decode c.code pc = .ok (.lload_n i, 1)) (hp : pc + 1 = pc') (hl : Ls[i.val]? = some (.val (.long v))) (k : Ok p e below Fe Q T (mkF m pc' Ls (.long v :: rest))) : Ok p e below Fe Q T (mkF m pc Ls rest) := by
  subst hp
  exact Ok.st (fun t k => XS.lloadN X.here hx rfl hd hl k) k
theorem Ok.aload {i : Nat} {v : Value} {rest : List Value} (X : Stand p l e R s m args below meth c T locs cells slots) (hx : p.tables.exec = Jvm.exec) (hd : decode c.code pc = .ok (.aload i, 2)) (hp : pc + 2 = pc') (hl : Ls[i]? = some (.val v)) (hv : v.isRef = true) (k : Ok p e below Fe Q T (mkF m pc' Ls (v :: rest))) : Ok p e below Fe Q T (mkF m pc Ls rest) := by
  subst hp
  exact Ok.st (fun t k => XS.aload X.here hx rfl hd hl hv k) k
theorem Ok.aloadN {i : Fin 4} {v : Value} {rest : List Value} (X : Stand p l e R s m args below meth c T locs cells slots) (hx : p.tables.exec = Jvm.exec) (hd : decode c.code pc = .ok (.aload_n i, 1)) (hp : pc + 1 = pc') (hl : Ls[i.val]? = some (.val v)) (hv : v.isRef = true) (k : Ok p e below Fe Q T (mkF m pc' Ls (v :: rest))) : Ok p e below Fe Q T (mkF m pc Ls rest) := by
  subst hp
  exact Ok.st (fun t k => XS.aloadN X.here hx rfl hd hl hv k) k
theorem Ok.istore {i : Nat} {x : Int32} {rest : List Value} (X : Stand p l e R s m args below meth c T locs cells slots) (hx : p.tables.exec = Jvm.exec) (hd : decode c.code pc = .ok (.istore i, 2)) (hp : pc + 2 = pc') (hl : storeLocals Ls i (.int x) = some l') (k : Ok p e below Fe Q T (mkF m pc' l' rest)) : Ok p e below Fe Q T (mkF m pc Ls ((.int x) :: rest)) := by
  subst hp
  exact Ok.st (fun t k => XS.istore X.here hx rfl hd rfl hl k) k
theorem Ok.istoreN {i : Fin 4} {x : Int32} {rest : List Value} (X : Stand p l e R s m args below meth c T locs cells slots) (hx : p.tables.exec = Jvm.exec) (hd : decode c.code pc = .ok (.istore_n i, 1)) (hp : pc + 1 = pc') (hl : storeLocals Ls i.val (.int x) = some l') (k : Ok p e below Fe Q T (mkF m pc' l' rest)) : Ok p e below Fe Q T (mkF m pc Ls ((.int x) :: rest)) := by
  subst hp
  exact Ok.st (fun t k => XS.istoreN X.here hx rfl hd rfl hl k) k
theorem Ok.lstore {i : Nat} {x : Int64} {rest : List Value} (X : Stand p l e R s m args below meth c T locs cells slots) (hx : p.tables.exec = Jvm.exec) (hd : decode c.code pc = .ok (.lstore i, 2)) (hp : pc + 2 = pc') (hl : storeLocals Ls i (.long x) = some l') (k : Ok p e below Fe Q T (mkF m pc' l' rest)) : Ok p e below Fe Q T (mkF m pc Ls ((.long x) :: rest)) := by
  subst hp
  exact Ok.st (fun t k => XS.lstore X.here hx rfl hd rfl hl k) k
theorem Ok.lstoreN {i : Fin 4} {x : Int64} {rest : List Value} (X : Stand p l e R s m args below meth c T locs cells slots) (hx : p.tables.exec = Jvm.exec) (hd : decode c.code pc = .ok (.lstore_n i, 1)) (hp : pc + 1 = pc') (hl : storeLocals Ls i.val (.long x) = some l') (k : Ok p e below Fe Q T (mkF m pc' l' rest)) : Ok p e below Fe Q T (mkF m pc Ls ((.long x) :: rest)) := by
  subst hp
  exact Ok.st (fun t k => XS.lstoreN X.here hx rfl hd rfl hl k) k
theorem Ok.astore {i : Nat} {x : Value} {rest : List Value} (X : Stand p l e R s m args below meth c T locs cells slots) (hx : p.tables.exec = Jvm.exec) (hd : decode c.code pc = .ok (.astore i, 2)) (hp : pc + 2 = pc') (hv : x.isRef = true) (hl : storeLocals Ls i x = some l') (k : Ok p e below Fe Q T (mkF m pc' l' rest)) : Ok p e below Fe Q T (mkF m pc Ls (x :: rest)) := by
  subst hp
  exact Ok.st (fun t k => XS.astore X.here hx rfl hd rfl hv hl k) k
theorem Ok.astoreN {i : Fin 4} {x : Value} {rest : List Value} (X : Stand p l e R s m args below meth c T locs cells slots) (hx : p.tables.exec = Jvm.exec) (hd : decode c.code pc = .ok (.astore_n i, 1)) (hp : pc + 1 = pc') (hv : x.isRef = true) (hl : storeLocals Ls i.val x = some l') (k : Ok p e below Fe Q T (mkF m pc' l' rest)) : Ok p e below Fe Q T (mkF m pc Ls (x :: rest)) := by
  subst hp
  exact Ok.st (fun t k => XS.astoreN X.here hx rfl hd rfl hv hl k) k
theorem Ok.iinc {i : Nat} {cst : Int} {x z : Int32} {st : List Value} (X : Stand p l e R s m args below meth c T locs cells slots) (hx : p.tables.exec = Jvm.exec) (hd : decode c.code pc = .ok (.iinc i cst, 3)) (hp : pc + 3 = pc') (hl : Ls[i]? = some (.val (.int x))) (hz : z = x + Int32.ofInt cst) (hl' : storeLocals Ls i (.int z) = some l') (k : Ok p e below Fe Q T (mkF m pc' l' st)) : Ok p e below Fe Q T (mkF m pc Ls st) := by
  subst hp hz
  exact Ok.st (fun t k => XS.iinc X.here hx rfl hd hl hl' k) k
theorem Ok.goto {o : Int} {st : List Value} (X : Stand p l e R s m args below meth c T locs cells slots) (hx : p.tables.exec = Jvm.exec) (hd : decode c.code pc = .ok (.goto o, 3)) (ho : 0 ≤ (pc : Int) + o) (hp : ((pc : Int) + o).toNat = pc') (k : Ok p e below Fe Q T (mkF m pc' Ls st)) : Ok p e below Fe Q T (mkF m pc Ls st) :=
  Ok.st (fun t k => XS.goto X.here hx rfl (pc0 := pc) rfl hd ho hp k) k
theorem Ok.ifY {cd : ClassFile.Cond} {x : Int32} {rest : List Value} {o : Int} (X : Stand p l e R s m args below meth c T locs cells slots) (hx : p.tables.exec = Jvm.exec) (hd : decode c.code pc = .ok (.ifCond cd o, 3)) (hc : ifCond.holds cd x = true) (ho : 0 ≤ (pc : Int) + o) (hp : ((pc : Int) + o).toNat = pc') (k : Ok p e below Fe Q T (mkF m pc' Ls rest)) : Ok p e below Fe Q T (mkF m pc Ls (.int x :: rest)) :=
  Ok.st (fun t k => XS.ifYes X.here hx rfl (pc0 := pc) rfl hd rfl hc ho hp k) k
theorem Ok.ifN {cd : ClassFile.Cond} {x : Int32} {rest : List Value} {o : Int} (X : Stand p l e R s m args below meth c T locs cells slots) (hx : p.tables.exec = Jvm.exec) (hd : decode c.code pc = .ok (.ifCond cd o, 3)) (hc : ifCond.holds cd x = false) (hp : pc + 3 = pc') (k : Ok p e below Fe Q T (mkF m pc' Ls rest)) : Ok p e below Fe Q T (mkF m pc Ls (.int x :: rest)) := by
  subst hp
  exact Ok.st (fun t k => XS.ifNo X.here hx rfl hd rfl hc k) k
theorem Ok.icY {cd : ClassFile.Cond} {x y : Int32} {rest : List Value} {o : Int} (X : Stand p l e R s m args below meth c T locs cells slots) (hx : p.tables.exec = Jvm.exec) (hd : decode c.code pc = .ok (.if_icmp cd o, 3)) (hc : if_icmp.holds cd x y = true) (ho : 0 ≤ (pc : Int) + o) (hp : ((pc : Int) + o).toNat = pc') (k : Ok p e below Fe Q T (mkF m pc' Ls rest)) : Ok p e below Fe Q T (mkF m pc Ls (.int y :: .int x :: rest)) :=
  Ok.st (fun t k => XS.icmpYes X.here hx rfl (pc0 := pc) rfl hd rfl hc ho hp k) k
theorem Ok.icN {cd : ClassFile.Cond} {x y : Int32} {rest : List Value} {o : Int} (X : Stand p l e R s m args below meth c T locs cells slots) (hx : p.tables.exec = Jvm.exec) (hd : decode c.code pc = .ok (.if_icmp cd o, 3)) (hc : if_icmp.holds cd x y = false) (hp : pc + 3 = pc') (k : Ok p e below Fe Q T (mkF m pc' Ls rest)) : Ok p e below Fe Q T (mkF m pc Ls (.int y :: .int x :: rest)) := by
  subst hp
  exact Ok.st (fun t k => XS.icmpNo X.here hx rfl hd rfl hc k) k
theorem Ok.nullY {rest : List Value} {o : Int} (X : Stand p l e R s m args below meth c T locs cells slots) (hx : p.tables.exec = Jvm.exec) (hd : decode c.code pc = .ok (.ifnull o, 3)) (ho : 0 ≤ (pc : Int) + o) (hp : ((pc : Int) + o).toNat = pc') (k : Ok p e below Fe Q T (mkF m pc' Ls rest)) : Ok p e below Fe Q T (mkF m pc Ls (.null :: rest)) :=
  Ok.st (fun t k => XS.ifnullYes X.here hx rfl (pc0 := pc) rfl hd rfl ho hp k) k
theorem Ok.nullN {b : Addr} {rest : List Value} {o : Int} (X : Stand p l e R s m args below meth c T locs cells slots) (hx : p.tables.exec = Jvm.exec) (hd : decode c.code pc = .ok (.ifnull o, 3)) (hp : pc + 3 = pc') (k : Ok p e below Fe Q T (mkF m pc' Ls rest)) : Ok p e below Fe Q T (mkF m pc Ls (.ref b :: rest)) := by
  subst hp
  exact Ok.st (fun t k => XS.ifnullNo X.here hx rfl hd rfl k) k
theorem Ok.nonnullY {b : Addr} {rest : List Value} {o : Int} (X : Stand p l e R s m args below meth c T locs cells slots) (hx : p.tables.exec = Jvm.exec) (hd : decode c.code pc = .ok (.ifnonnull o, 3)) (ho : 0 ≤ (pc : Int) + o) (hp : ((pc : Int) + o).toNat = pc') (k : Ok p e below Fe Q T (mkF m pc' Ls rest)) : Ok p e below Fe Q T (mkF m pc Ls (.ref b :: rest)) :=
  Ok.st (fun t k => XS.ifnonnullYes X.here hx rfl (pc0 := pc) rfl hd rfl ho hp k) k
theorem Ok.nonnullN {rest : List Value} {o : Int} (X : Stand p l e R s m args below meth c T locs cells slots) (hx : p.tables.exec = Jvm.exec) (hd : decode c.code pc = .ok (.ifnonnull o, 3)) (hp : pc + 3 = pc') (k : Ok p e below Fe Q T (mkF m pc' Ls rest)) : Ok p e below Fe Q T (mkF m pc Ls (.null :: rest)) := by
  subst hp
  exact Ok.st (fun t k => XS.ifnonnullNo X.here hx rfl hd rfl k) k
theorem Ok.ldcI {own : String} {index : Nat} {v : Int32} {st : List Value} (X : Stand p l e R s m args below meth c T locs cells slots) (hx : p.tables.exec = Jvm.exec) (hZ : Z.Warmed39 s.vm) (hown : s.vm.findClass own = some m.cls) (w : (Jvm.Cond.constant own index v).before a0 Z = true) (hd : decode c.code pc = .ok (.ldc index, 2)) (hp : pc + 2 = pc') (k : Ok p e below Fe Q T (mkF m pc' Ls (.int v :: st))) : Ok p e below Fe Q T (mkF m pc Ls st) := by
  subst hp
  exact Ok.st (X.ldcInt hx hown (mvT hZ w) (g := mkF m pc Ls st) rfl hd) k
theorem Ok.ldcJ {own : String} {index : Nat} {v : Int64} {st : List Value} (X : Stand p l e R s m args below meth c T locs cells slots) (hx : p.tables.exec = Jvm.exec) (hZ : Z.Warmed39 s.vm) (hown : s.vm.findClass own = some m.cls) (w : (Jvm.Cond.constantLong own index v).before a0 Z = true) (hd : decode c.code pc = .ok (.ldc2_w index, 3)) (hp : pc + 3 = pc') (k : Ok p e below Fe Q T (mkF m pc' Ls (.long v :: st))) : Ok p e below Fe Q T (mkF m pc Ls st) := by
  subst hp
  exact Ok.st (X.ldc2Long hx hown (mvT hZ w) (g := mkF m pc Ls st) rfl hd) k
/-! the ends -/
theorem Ok.retV (X : Stand p l e R s m args below meth c T locs cells slots) (hx : p.tables.exec = Jvm.exec) (hret : meth.sig.returnType = none) (hlk : meth.locks = false) (hd : decode c.code pc = .ok (.return_, 1)) {nc ns : Nat} (hc : cells ≤ nc) (hs : slots ≤ ns) (q : Q none T.heap locs) : Ok p e below (NE s nc ns) Q T (mkF m pc Ls []) := by
  obtain ⟨fs, hr, hrun, hended, hW, hsame⟩ := X.leave (v := none) (fun _ => rfl) hlk
  exact ⟨_, _, X.returnOut hx hret hd hr, hrun, hended, _, _, rfl, q, ⟨_, rfl⟩, hW, hsame.mono hc hs⟩
theorem Ok.retI {z : Int32} {rest : List Value} {t : FieldType} (X : Stand p l e R s m args below meth c T locs cells slots) (hx : p.tables.exec = Jvm.exec) (hret : meth.sig.returnType = some t) (hlk : meth.locks = false) (ht : t = .int ∨ t = .boolean ∨ t = .byte ∨ t = .char ∨ t = .short) (hn : narrow t (.int z) = .int z) (hd : decode c.code pc = .ok (.ireturn, 1)) {nc ns : Nat} (hc : cells ≤ nc) (hs : slots ≤ ns) (q : Q (some (.int z)) T.heap locs) : Ok p e below (NE s nc ns) Q T (mkF m pc Ls (.int z :: rest)) := by
  obtain ⟨fs, hr, hrun, hended, hW, hsame⟩ := X.leave (v := some (.int z)) (fun h => by rw [hret] at h; cases h) hlk
  exact ⟨_, _, retOut X hx hret hn (Or.inl ⟨rfl, ht, _, rfl⟩) hd hr, hrun, hended, _, _, rfl, q, ⟨_, rfl⟩, hW, hsame.mono hc hs⟩
theorem Ok.retJ {z : Int64} {rest : List Value} (X : Stand p l e R s m args below meth c T locs cells slots) (hx : p.tables.exec = Jvm.exec) (hret : meth.sig.returnType = some .long) (hlk : meth.locks = false) (hd : decode c.code pc = .ok (.lreturn, 1)) {nc ns : Nat} (hc : cells ≤ nc) (hs : slots ≤ ns) (q : Q (some (.long z)) T.heap locs) : Ok p e below (NE s nc ns) Q T (mkF m pc Ls (.long z :: rest)) := by
  obtain ⟨fs, hr, hrun, hended, hW, hsame⟩ := X.leave (v := some (.long z)) (fun h => by rw [hret] at h; cases h) hlk
  exact ⟨_, _, retOut X hx hret rfl (Or.inr (Or.inl ⟨rfl, rfl, _, rfl⟩)) hd hr, hrun, hended, _, _, rfl, q, ⟨_, rfl⟩, hW, hsame.mono hc hs⟩
theorem Ok.retA {w : Value} {rest : List Value} {t : FieldType} (X : Stand p l e R s m args below meth c T locs cells slots) (hx : p.tables.exec = Jvm.exec) (hret : meth.sig.returnType = some t) (hlk : meth.locks = false) (ht : t.isReference = true) (hn : narrow t w = w) (hw : w.isRef = true) (hd : decode c.code pc = .ok (.areturn, 1)) {nc ns : Nat} (hc : cells ≤ nc) (hs : slots ≤ ns) (q : Q (some w) T.heap locs) : Ok p e below (NE s nc ns) Q T (mkF m pc Ls (w :: rest)) := by
  obtain ⟨fs, hr, hrun, hended, hW, hsame⟩ := X.leave (v := some w) (fun h => by rw [hret] at h; cases h) hlk
  exact ⟨_, _, retOut X hx hret hn (Or.inr (Or.inr (Or.inr (Or.inr ⟨rfl, ht, hw⟩)))) hd hr, hrun, hended, _, _, rfl, q, ⟨_, rfl⟩, hW, hsame.mono hc hs⟩
theorem Ok.retVW {V : Vm} {n : Nat} (X : Stand p l e R (s.setVm V) m args below meth c T locs cells slots) (hx : p.tables.exec = Jvm.exec) (hS : s.Since V n) (hSn : n ≤ T.heap.size) (hret : meth.sig.returnType = none) (hlk : meth.locks = false) (hd : decode c.code pc = .ok (.return_, 1)) {nc ns : Nat} (hc : cells ≤ nc) (hs : slots ≤ ns) (q : Q none T.heap locs) : Ok p e below (WE s nc ns) Q T (mkF m pc Ls []) := by
  obtain ⟨fs, hr, hrun, hended, h1, h2, h3, h4⟩ := X.leaveW hS hSn (v := none) (fun _ => rfl) hlk
  exact ⟨_, _, X.returnOut hx hret hd hr, hrun, hended, _, _, rfl, q, h1, h2, h3, h4.mono hc hs⟩
theorem Ok.retIW {V : Vm} {n : Nat} {z : Int32} {rest : List Value} {t : FieldType} (X : Stand p l e R (s.setVm V) m args below meth c T locs cells slots) (hx : p.tables.exec = Jvm.exec) (hS : s.Since V n) (hSn : n ≤ T.heap.size) (hret : meth.sig.returnType = some t) (hlk : meth.locks = false) (ht : t = .int ∨ t = .boolean ∨ t = .byte ∨ t = .char ∨ t = .short) (hn : narrow t (.int z) = .int z) (hd : decode c.code pc = .ok (.ireturn, 1)) {nc ns : Nat} (hc : cells ≤ nc) (hs : slots ≤ ns) (q : Q (some (.int z)) T.heap locs) : Ok p e below (WE s nc ns) Q T (mkF m pc Ls (.int z :: rest)) := by
  obtain ⟨fs, hr, hrun, hended, h1, h2, h3, h4⟩ := X.leaveW hS hSn (v := some (.int z)) (fun h => by rw [hret] at h; cases h) hlk
  exact ⟨_, _, retOut X hx hret hn (Or.inl ⟨rfl, ht, _, rfl⟩) hd hr, hrun, hended, _, _, rfl, q, h1, h2, h3, h4.mono hc hs⟩
theorem Ok.retJW {V : Vm} {n : Nat} {z : Int64} {rest : List Value} (X : Stand p l e R (s.setVm V) m args below meth c T locs cells slots) (hx : p.tables.exec = Jvm.exec) (hS : s.Since V n) (hSn : n ≤ T.heap.size) (hret : meth.sig.returnType = some .long) (hlk : meth.locks = false) (hd : decode c.code pc = .ok (.lreturn, 1)) {nc ns : Nat} (hc : cells ≤ nc) (hs : slots ≤ ns) (q : Q (some (.long z)) T.heap locs) : Ok p e below (WE s nc ns) Q T (mkF m pc Ls (.long z :: rest)) := by
  obtain ⟨fs, hr, hrun, hended, h1, h2, h3, h4⟩ := X.leaveW hS hSn (v := some (.long z)) (fun h => by rw [hret] at h; cases h) hlk
  exact ⟨_, _, retOut X hx hret rfl (Or.inr (Or.inl ⟨rfl, rfl, _, rfl⟩)) hd hr, hrun, hended, _, _, rfl, q, h1, h2, h3, h4.mono hc hs⟩
theorem Ok.retAW {V : Vm} {n : Nat} {w : Value} {rest : List Value} {t : FieldType} (X : Stand p l e R (s.setVm V) m args below meth c T locs cells slots) (hx : p.tables.exec = Jvm.exec) (hS : s.Since V n) (hSn : n ≤ T.heap.size) (hret : meth.sig.returnType = some t) (hlk : meth.locks = false) (ht : t.isReference = true) (hn : narrow t w = w) (hw : w.isRef = true) (hd : decode c.code pc = .ok (.areturn, 1)) {nc ns : Nat} (hc : cells ≤ nc) (hs : slots ≤ ns) (q : Q (some w) T.heap locs) : Ok p e below (WE s nc ns) Q T (mkF m pc Ls (w :: rest)) := by
  obtain ⟨fs, hr, hrun, hended, h1, h2, h3, h4⟩ := X.leaveW hS hSn (v := some w) (fun h => by rw [hret] at h; cases h) hlk
  exact ⟨_, _, retOut X hx hret hn (Or.inr (Or.inr (Or.inr (Or.inr ⟨rfl, ht, hw⟩)))) hd hr, hrun, hended, _, _, rfl, q, h1, h2, h3, h4.mono hc hs⟩
/-! a body's contract -/
abbrev MetN (l : Launch) (Z : State) (y : MethodName) (bytes : ByteArray) (maxL : Nat) (ret : Option FieldType) (ws : List Jvm.Cond) (rm : Room) (as' : Array Value) (h0 : Heap) (Q : Option Value → Heap → List Loc → Prop) : Prop :=
  MetFree l y (head1 (Jvm.Cond.code y bytes maxL ret :: ws) rm) (fun a U => a = as' ∧ Z.Warmed39 U.vm ∧ U.heap = h0) (fun _ _ _ _ _ => True) (fun _ U o U' => ∃ v L, o = .returned v ∧ Q v U'.heap L ∧ FrameEnd U o U' L rm.cells rm.slots)
abbrev MetW (l : Launch) (Z : State) (y : MethodName) (bytes : ByteArray) (maxL : Nat) (ret : Option FieldType) (ws : List Jvm.Cond) (rm : Room) (as' : Array Value) (h0 : Heap) (Q : Option Value → Heap → List Loc → Prop) : Prop :=
  MetFree l y (head1 (Jvm.Cond.code y bytes maxL ret :: ws) rm) (fun a U => a = as' ∧ Z.Warmed39 U.vm ∧ U.heap = h0) (fun _ _ _ _ _ => True) (fun _ U o U' => ∃ v L, o = .returned v ∧ Q v U'.heap L ∧ ReturnedEndW U o U' L rm.cells rm.slots)
theorem met_n {y : MethodName} {bytes : ByteArray} {maxL : Nat} {ret : Option FieldType} {rm : Room} {ws : List Jvm.Cond} {as' : Array Value} {h0 : Heap} {F0 : MethodId → JFrame} (hp : plainFor y = true) (hf : ∀ m, entryFrame m as' maxL = F0 m)
    (body : ∀ (p : Program) (e : Env) (s : State) (m : MethodId) (below : List Frame) (meth : Method) (c : Code) (s₁ : State), Stand p l e rm s m as' below meth c s₁ [] 0 0 → p.tables.exec = Jvm.exec → c.code = bytes → c.maxLocals = maxL → Z.Warmed39 s.vm → s.vm.findClass y.cls = some m.cls → meth.name = y.name → meth.sig.returnType = ret → meth.locks = false → s₁.heap = h0 → Ok p e below (NE s rm.cells rm.slots) Q s₁ (F0 m)) :
    MetN l Z y bytes maxL ret ws rm as' h0 Q := by
  refine MetFree.of_bodySF hp hisR ?_
  intro p e s m args below meth c s₁ Bd hml0 hP hK
  obtain ⟨rfl, hZ, hh⟩ := hP
  have e0 : s₁.heap = h0 := by rw [← hh, Bd.state]; rfl
  exact Ok.fr (hf m) (body p e s m below meth c s₁ (Stand.of_body Bd) Bd.exec Bd.bytes hml0 hZ (findClass_of_methodNamed Bd.named) (name_of_methodNamed Bd.named Bd.method).1 Bd.returns (BodyLoose.notSynchronized Bd) e0)
theorem met_w {y : MethodName} {bytes : ByteArray} {maxL : Nat} {ret : Option FieldType} {rm : Room} {ws : List Jvm.Cond} {as' : Array Value} {h0 : Heap} {F0 : MethodId → JFrame} (hp : plainFor y = true) (hf : ∀ m, entryFrame m as' maxL = F0 m)
    (body : ∀ (p : Program) (e : Env) (s : State) (m : MethodId) (below : List Frame) (meth : Method) (c : Code) (s₁ : State) (V : Vm) (n : Nat), Stand p l e rm (s.setVm V) m as' below meth c s₁ [] 0 0 → p.tables.exec = Jvm.exec → c.code = bytes → c.maxLocals = maxL → Z.Warmed39 V → V.findClass y.cls = some m.cls → meth.name = y.name → meth.sig.returnType = ret → meth.locks = false → s₁.heap = h0 → s.Since V n → n ≤ h0.size → Ok p e below (WE s rm.cells rm.slots) Q s₁ (F0 m)) :
    MetW l Z y bytes maxL ret ws rm as' h0 Q := by
  refine MetFree.of_bodySF hp hisR ?_
  intro p e s m args below meth c s₁ Bd hml0 hP hK
  obtain ⟨rfl, hZ, hh⟩ := hP
  have e0 : s₁.heap = h0 := by rw [← hh, Bd.state]; rfl
  exact Ok.fr (hf m) (body p e s m below meth c s₁ s.vm 0 (Stand.of_body Bd) Bd.exec Bd.bytes hml0 hZ (findClass_of_methodNamed Bd.named) (name_of_methodNamed Bd.named Bd.method).1 Bd.returns (BodyLoose.notSynchronized Bd) e0 ((State.WarmedH.refl s).since 0) (Nat.zero_le _))
/-! calls, by a contract -/
theorem Ok.callS {y : MethodName} {bytes : ByteArray} {maxL : Nat} {ret : Option FieldType} {rm : Room} {as' : Array Value} {h : Heap} {Qc : Option Value → Heap → List Loc → Prop} {own : String} {index : Nat} {argsL rest st : List Value} {W : Nat} (X : Stand p l e R s m args below meth c T locs cells slots) (hx : p.tables.exec = Jvm.exec) (hZ : Z.Warmed39 s.vm) (hown : s.vm.findClass own = some m.cls)
    (hM : MetN l Z y bytes maxL ret [] rm as' h Qc) (wl : (Jvm.Cond.methodLink own index y).before a0 Z = true) (ws : (Jvm.Cond.static y).before a0 Z = true) (wz : (Jvm.Cond.initialized y.cls).before a0 Z = true) (wc : (Jvm.Cond.code y bytes maxL ret).before a0 Z = true) (hy : y.cls ≠ "java/lang/invoke/MethodHandle" ∧ y.cls ≠ "java/lang/invoke/VarHandle")
    (eT : T.heap = h) (hf : rm.frames + 1 ≤ R.frames) (hl : W + (maxL + 11) + rm.locals ≤ R.locals) (hc : cells + rm.cells ≤ R.cells) (hs : slots + rm.slots ≤ R.slots) (hlen : ∀ sig, parseMethodDescriptor y.desc = some sig → argsL.length = sig.parameters.length) (has : argsL.toArray = as') (hst : st = argsL.reverse ++ rest) (hW : (rest.map fun v => v.category).sum ≤ W) (hsize : Ls.size = c.maxLocals)
    (hd : decode c.code pc = .ok (.invokestatic index, 3)) (hp : pc + 3 = pc')
    (k : ∀ (v : Option Value) (T' : State) (L : List Loc), Stand p l e R s m args below meth c T' (locs ++ L) (cells + rm.cells) (slots + rm.slots) → Qc v T'.heap L → Ok p e below Fe Q T' (mkF m pc' Ls (v.toList ++ rest))) : Ok p e below Fe Q T (mkF m pc Ls st) := by
  subst hp
  obtain ⟨v, _, ⟨T1, L1, k1, n1⟩, -, X1, ⟨Lc, hQ, l1, y1, z1⟩, st1⟩ := Jvm.LawKit.callS X hx (y := y) hown (mvT hZ wl) (mvT hZ ws) (mvT hZ wz) (mvT hZ wc) hy (backOf (W := W) hM hZ wc wz hf hl) (g := mkF m pc Ls st) rfl hsize (argsL := argsL) (rest := rest) hlen hst (by show 2 * 0 + _ ≤ _; omega) hd (fun _ _ => ⟨has, eT, hc, hs⟩)
  dsimp only [Pt.U, Pt.locs, Pt.cells, Pt.slots] at X1 l1 y1 z1 st1 hQ
  subst l1 y1 z1
  exact Ok.st st1 (k v T1 Lc X1 hQ)
theorem Ok.init {y : MethodName} {bytes : ByteArray} {maxL : Nat} {rm : Room} {as' : Array Value} {h : Heap} {Qc : Option Value → Heap → List Loc → Prop} {own : String} {index : Nat} {a : Addr} {argsL rest st : List Value} {W : Nat} (X : Stand p l e R s m args below meth c T locs cells slots) (hx : p.tables.exec = Jvm.exec) (hZ : Z.Warmed39 s.vm) (hown : s.vm.findClass own = some m.cls)
    (hM : MetN l Z y bytes maxL none [] rm as' h Qc) (hyn : y.name = "<init>") (wl : (Jvm.Cond.methodLink own index y).before a0 Z = true) (wi : (Jvm.Cond.instanceMethod y).before a0 Z = true) (wz : (Jvm.Cond.initialized y.cls).before a0 Z = true) (wc : (Jvm.Cond.code y bytes maxL none).before a0 Z = true) (hy : y.cls ≠ "java/lang/invoke/MethodHandle" ∧ y.cls ≠ "java/lang/invoke/VarHandle")
    (eT : T.heap = h) (hf : rm.frames + 1 ≤ R.frames) (hl : W + (maxL + 11) + rm.locals ≤ R.locals) (hc : cells + rm.cells ≤ R.cells) (hs : slots + rm.slots ≤ R.slots) (hlen : ∀ sig, parseMethodDescriptor y.desc = some sig → argsL.length = sig.parameters.length) (has : (.ref a :: argsL).toArray = as') (hst : st = argsL.reverse ++ .ref a :: rest) (hW : (rest.map fun v => v.category).sum ≤ W) (hsize : Ls.size = c.maxLocals)
    (hd : decode c.code pc = .ok (.invokespecial index, 3)) (hp : pc + 3 = pc')
    (k : ∀ (v : Option Value) (T' : State) (L : List Loc), Stand p l e R s m args below meth c T' (locs ++ L) (cells + rm.cells) (slots + rm.slots) → Qc v T'.heap L → Ok p e below Fe Q T' (mkF m pc' Ls (v.toList ++ rest))) : Ok p e below Fe Q T (mkF m pc Ls st) := by
  subst hp
  obtain ⟨v, _, ⟨T1, L1, k1, n1⟩, -, X1, ⟨Lc, hQ, l1, y1, z1⟩, st1⟩ := X.specialBack hx (y := y) hyn hown (mvT hZ wl) (mvT hZ wi) (mvT hZ wc) hy (backOf (W := W) hM hZ wc wz hf hl) (g := mkF m pc Ls st) rfl hsize (Steps.refl _) (a := a) (argsL := argsL) (rest := rest) hlen hst (by show 2 * 0 + _ ≤ _; omega) hd (fun _ _ => ⟨has, eT, hc, hs⟩)
  dsimp only [Pt.U, Pt.locs, Pt.cells, Pt.slots] at X1 l1 y1 z1 st1 hQ
  subst l1 y1 z1
  exact Ok.tr st1 (k v T1 Lc X1 hQ)
theorem Ok.virt {y z : MethodName} {bytes : ByteArray} {maxL : Nat} {ret : Option FieldType} {rm : Room} {as' : Array Value} {h : Heap} {Qc : Option Value → Heap → List Loc → Prop} {own C : String} {index : Nat} {a : Addr} {argsL rest st : List Value} {W : Nat} (X : Stand p l e R s m args below meth c T locs cells slots) (hx : p.tables.exec = Jvm.exec) (hZ : Z.Warmed39 s.vm) (hown : s.vm.findClass own = some m.cls)
    (hM : MetN l Z z bytes maxL ret [] rm as' h Qc) (wl : (Jvm.Cond.methodLink own index y).before a0 Z = true) (wd : (Jvm.Cond.declares y).before a0 Z = true) (hnf : NotFace s y) (wse : (Jvm.Cond.selects C y z).before a0 Z = true) (wi : (Jvm.Cond.instanceMethod z).before a0 Z = true) (wz : (Jvm.Cond.initialized z.cls).before a0 Z = true) (wc : (Jvm.Cond.code z bytes maxL ret).before a0 Z = true) (hy : y.cls ≠ "java/lang/invoke/MethodHandle" ∧ y.cls ≠ "java/lang/invoke/VarHandle")
    (eT : T.heap = h) (E : Exa Z h a C) (hf : rm.frames + 1 ≤ R.frames) (hl : W + (maxL + 11) + rm.locals ≤ R.locals) (hc : cells + rm.cells ≤ R.cells) (hs : slots + rm.slots ≤ R.slots) (hlen : ∀ sig, parseMethodDescriptor y.desc = some sig → argsL.length = sig.parameters.length) (has : (.ref a :: argsL).toArray = as') (hst : st = argsL.reverse ++ .ref a :: rest) (hW : (rest.map fun v => v.category).sum ≤ W) (hsize : Ls.size = c.maxLocals)
    (hd : decode c.code pc = .ok (.invokevirtual index, 3)) (hp : pc + 3 = pc')
    (k : ∀ (v : Option Value) (T' : State) (L : List Loc), Stand p l e R s m args below meth c T' (locs ++ L) (cells + rm.cells) (slots + rm.slots) → Qc v T'.heap L → Ok p e below Fe Q T' (mkF m pc' Ls (v.toList ++ rest))) : Ok p e below Fe Q T (mkF m pc Ls st) := by
  subst hp
  obtain ⟨cq, kq, qa, qb, qc⟩ := isOf hZ eT E
  obtain ⟨v, _, ⟨T1, L1, k1, n1⟩, -, X1, ⟨Lc, hQ, l1, y1, z1⟩, st1⟩ := X.virtualBack hx (y := y) (z := z) hown (mvT hZ wl) (mvT hZ wd) hnf (mvT hZ wse) (mvT hZ wi) hy (backOf (W := W) hM hZ wc wz hf hl) qa qc (g := mkF m pc Ls st) rfl hsize (Steps.refl _) (argsL := argsL) (rest := rest) hlen hst (by show 2 * 0 + _ ≤ _; omega) hd (fun _ _ => ⟨has, eT, hc, hs⟩)
  dsimp only [Pt.U, Pt.locs, Pt.cells, Pt.slots] at X1 l1 y1 z1 st1 hQ
  subst l1 y1 z1
  exact Ok.tr st1 (k v T1 Lc X1 hQ)
/-! calls of bodies that may intern a string, by their wide contract, from a walk that may have interned -/
theorem Ok.callSW {y : MethodName} {bytes : ByteArray} {maxL : Nat} {ret : Option FieldType} {rm : Room} {as' : Array Value} {h : Heap} {Qc : Option Value → Heap → List Loc → Prop} {own : String} {index : Nat} {argsL rest st : List Value} {W n : Nat} {V : Vm} (X : Stand p l e R (s.setVm V) m args below meth c T locs cells slots) (hx : p.tables.exec = Jvm.exec) (hZ : Z.Warmed39 V) (hown : V.findClass own = some m.cls) (hS : s.Since V n) (hSn : n ≤ h.size)
    (hM : MetW l Z y bytes maxL ret [] rm as' h Qc) (wl : (Jvm.Cond.methodLink own index y).before a0 Z = true) (ws : (Jvm.Cond.static y).before a0 Z = true) (wz : (Jvm.Cond.initialized y.cls).before a0 Z = true) (wc : (Jvm.Cond.code y bytes maxL ret).before a0 Z = true) (hy : y.cls ≠ "java/lang/invoke/MethodHandle" ∧ y.cls ≠ "java/lang/invoke/VarHandle")
    (eT : T.heap = h) (hf : rm.frames + 1 ≤ R.frames) (hl : W + (maxL + 11) + rm.locals ≤ R.locals) (hc : cells + rm.cells ≤ R.cells) (hs : slots + rm.slots ≤ R.slots) (hlen : ∀ sig, parseMethodDescriptor y.desc = some sig → argsL.length = sig.parameters.length) (has : argsL.toArray = as') (hst : st = argsL.reverse ++ rest) (hW : (rest.map fun v => v.category).sum ≤ W) (hsize : Ls.size = c.maxLocals)
    (hd : decode c.code pc = .ok (.invokestatic index, 3)) (hp : pc + 3 = pc')
    (k : ∀ (v : Option Value) (T' : State) (L : List Loc), Stand p l e R (s.setVm T'.vm) m args below meth c T' (locs ++ L) (cells + rm.cells) (slots + rm.slots) → Z.Warmed39 T'.vm → T'.vm.findClass own = some m.cls → s.Since T'.vm T'.heap.size → Qc v T'.heap L → Ok p e below Fe Q T' (mkF m pc' Ls (v.toList ++ rest))) : Ok p e below Fe Q T (mkF m pc Ls st) := by
  subst hp
  have hZ' : Z.Warmed39 (s.setVm V).vm := hZ
  obtain ⟨v, _, ⟨T1, L1, k1, n1⟩, -, X1, hS1, hgr, ⟨Lc, hQ, l1, y1, z1⟩, st1⟩ := callSS X hx (y := y) hown (mvT hZ' wl) (mvT hZ' ws) (mvT hZ' wz) (mvT hZ' wc) hy (backOfS (W := W) hM hZ' wc wz hf hl) (g := mkF m pc Ls st) rfl hsize (argsL := argsL) (rest := rest) hlen hst (by show 2 * 0 + _ ≤ _; omega) hd (fun _ _ => ⟨has, eT, hc, hs⟩)
  dsimp only [Pt.U, Pt.locs, Pt.cells, Pt.slots] at X1 l1 y1 z1 st1 hQ hS1 hgr
  subst l1 y1 z1
  refine Ok.tr st1 (k v T1 Lc X1 (State.Warmed39.trans (t := s.setVm V) hZ hS1.1) (by rw [hS1.1.alike.findClass]; exact hown) (hS.trans hS1 ?_) hQ)
  rw [eT] at hgr
  exact Nat.le_trans hSn hgr
theorem Ok.initW {y : MethodName} {bytes : ByteArray} {maxL : Nat} {rm : Room} {as' : Array Value} {h : Heap} {Qc : Option Value → Heap → List Loc → Prop} {own : String} {index : Nat} {a : Addr} {argsL rest st : List Value} {W n : Nat} {V : Vm} (X : Stand p l e R (s.setVm V) m args below meth c T locs cells slots) (hx : p.tables.exec = Jvm.exec) (hZ : Z.Warmed39 V) (hown : V.findClass own = some m.cls) (hS : s.Since V n) (hSn : n ≤ h.size)
    (hM : MetW l Z y bytes maxL none [] rm as' h Qc) (hyn : y.name = "<init>") (wl : (Jvm.Cond.methodLink own index y).before a0 Z = true) (wi : (Jvm.Cond.instanceMethod y).before a0 Z = true) (wz : (Jvm.Cond.initialized y.cls).before a0 Z = true) (wc : (Jvm.Cond.code y bytes maxL none).before a0 Z = true) (hy : y.cls ≠ "java/lang/invoke/MethodHandle" ∧ y.cls ≠ "java/lang/invoke/VarHandle")
    (eT : T.heap = h) (hf : rm.frames + 1 ≤ R.frames) (hl : W + (maxL + 11) + rm.locals ≤ R.locals) (hc : cells + rm.cells ≤ R.cells) (hs : slots + rm.slots ≤ R.slots) (hlen : ∀ sig, parseMethodDescriptor y.desc = some sig → argsL.length = sig.parameters.length) (has : (.ref a :: argsL).toArray = as') (hst : st = argsL.reverse ++ .ref a :: rest) (hW : (rest.map fun v => v.category).sum ≤ W) (hsize : Ls.size = c.maxLocals)
    (hd : decode c.code pc = .ok (.invokespecial index, 3)) (hp : pc + 3 = pc')
    (k : ∀ (v : Option Value) (T' : State) (L : List Loc), Stand p l e R (s.setVm T'.vm) m args below meth c T' (locs ++ L) (cells + rm.cells) (slots + rm.slots) → Z.Warmed39 T'.vm → T'.vm.findClass own = some m.cls → s.Since T'.vm T'.heap.size → Qc v T'.heap L → Ok p e below Fe Q T' (mkF m pc' Ls (v.toList ++ rest))) : Ok p e below Fe Q T (mkF m pc Ls st) := by
  subst hp
  have hZ' : Z.Warmed39 (s.setVm V).vm := hZ
  obtain ⟨v, _, ⟨T1, L1, k1, n1⟩, -, X1, hS1, hgr, ⟨Lc, hQ, l1, y1, z1⟩, st1⟩ := X.specialBackS hx (y := y) hyn hown (mvT hZ' wl) (mvT hZ' wi) (mvT hZ' wc) hy (backOfS (W := W) hM hZ' wc wz hf hl) (g := mkF m pc Ls st) rfl hsize (Steps.refl _) (a := a) (argsL := argsL) (rest := rest) hlen hst (by show 2 * 0 + _ ≤ _; omega) hd (fun _ _ => ⟨has, eT, hc, hs⟩)
  dsimp only [Pt.U, Pt.locs, Pt.cells, Pt.slots] at X1 l1 y1 z1 st1 hQ hS1 hgr
  subst l1 y1 z1
  refine Ok.tr st1 (k v T1 Lc X1 (State.Warmed39.trans (t := s.setVm V) hZ hS1.1) (by rw [hS1.1.alike.findClass]; exact hown) (hS.trans hS1 ?_) hQ)
  rw [eT] at hgr
  exact Nat.le_trans hSn hgr
theorem Ok.virtW {y z : MethodName} {bytes : ByteArray} {maxL : Nat} {ret : Option FieldType} {rm : Room} {as' : Array Value} {h : Heap} {Qc : Option Value → Heap → List Loc → Prop} {own C : String} {index : Nat} {a : Addr} {argsL rest st : List Value} {W n : Nat} {V : Vm} (X : Stand p l e R (s.setVm V) m args below meth c T locs cells slots) (hx : p.tables.exec = Jvm.exec) (hZ : Z.Warmed39 V) (hown : V.findClass own = some m.cls) (hS : s.Since V n) (hSn : n ≤ h.size)
    (hM : MetW l Z z bytes maxL ret [] rm as' h Qc) (wl : (Jvm.Cond.methodLink own index y).before a0 Z = true) (wd : (Jvm.Cond.declares y).before a0 Z = true) (wse : (Jvm.Cond.selects C y z).before a0 Z = true) (hnf : NotFace (s.setVm V) y) (wi : (Jvm.Cond.instanceMethod z).before a0 Z = true) (wz : (Jvm.Cond.initialized z.cls).before a0 Z = true) (wc : (Jvm.Cond.code z bytes maxL ret).before a0 Z = true) (hy : y.cls ≠ "java/lang/invoke/MethodHandle" ∧ y.cls ≠ "java/lang/invoke/VarHandle")
    (eT : T.heap = h) (E : Exa Z h a C) (hf : rm.frames + 1 ≤ R.frames) (hl : W + (maxL + 11) + rm.locals ≤ R.locals) (hc : cells + rm.cells ≤ R.cells) (hs : slots + rm.slots ≤ R.slots) (hlen : ∀ sig, parseMethodDescriptor y.desc = some sig → argsL.length = sig.parameters.length) (has : (.ref a :: argsL).toArray = as') (hst : st = argsL.reverse ++ .ref a :: rest) (hW : (rest.map fun v => v.category).sum ≤ W) (hsize : Ls.size = c.maxLocals)
    (hd : decode c.code pc = .ok (.invokevirtual index, 3)) (hp : pc + 3 = pc')
    (k : ∀ (v : Option Value) (T' : State) (L : List Loc), Stand p l e R (s.setVm T'.vm) m args below meth c T' (locs ++ L) (cells + rm.cells) (slots + rm.slots) → Z.Warmed39 T'.vm → T'.vm.findClass own = some m.cls → s.Since T'.vm T'.heap.size → Qc v T'.heap L → Ok p e below Fe Q T' (mkF m pc' Ls (v.toList ++ rest))) : Ok p e below Fe Q T (mkF m pc Ls st) := by
  subst hp
  have hZ' : Z.Warmed39 (s.setVm V).vm := hZ
  obtain ⟨cq, kq, qa, qb, qc⟩ := isOf hZ' eT E
  obtain ⟨v, _, ⟨T1, L1, k1, n1⟩, -, X1, hS1, hgr, ⟨Lc, hQ, l1, y1, z1⟩, st1⟩ := X.virtualBackS hx (y := y) (z := z) hown (mvT hZ' wl) (mvT hZ' wd) hnf (mvT hZ' wse) (mvT hZ' wi) hy (backOfS (W := W) hM hZ' wc wz hf hl) qa qc (g := mkF m pc Ls st) rfl hsize (Steps.refl _) (argsL := argsL) (rest := rest) hlen hst (by show 2 * 0 + _ ≤ _; omega) hd (fun _ _ => ⟨has, eT, hc, hs⟩)
  dsimp only [Pt.U, Pt.locs, Pt.cells, Pt.slots] at X1 l1 y1 z1 st1 hQ hS1 hgr
  subst l1 y1 z1
  refine Ok.tr st1 (k v T1 Lc X1 (State.Warmed39.trans (t := s.setVm V) hZ hS1.1) (by rw [hS1.1.alike.findClass]; exact hown) (hS.trans hS1 ?_) hQ)
  rw [eT] at hgr
  exact Nat.le_trans hSn hgr
theorem Ok.faceW {y z : MethodName} {bytes : ByteArray} {maxL : Nat} {ret : Option FieldType} {rm : Room} {as' : Array Value} {h : Heap} {Qc : Option Value → Heap → List Loc → Prop} {own C : String} {index count : Nat} {a : Addr} {argsL rest st : List Value} {W n : Nat} {V : Vm} (X : Stand p l e R (s.setVm V) m args below meth c T locs cells slots) (hx : p.tables.exec = Jvm.exec) (hZ : Z.Warmed39 V) (hown : V.findClass own = some m.cls) (hS : s.Since V n) (hSn : n ≤ h.size)
    (hM : MetW l Z z bytes maxL ret [] rm as' h Qc) (wl : (Jvm.Cond.methodLink own index y).before a0 Z = true) (wd : (Jvm.Cond.declares y).before a0 Z = true) (wf : (Jvm.Cond.interfaceMethod y.cls y.cls y.name y.desc).before a0 Z = true) (hfa : ((Jvm.Cond.interfaceMethod y.cls y.cls y.name y.desc).onTables && (Jvm.Cond.interfaceMethod y.cls y.cls y.name y.desc).keepsFace) = true) (wse : (Jvm.Cond.selects C y z).before a0 Z = true) (wi : (Jvm.Cond.instanceMethod z).before a0 Z = true) (wp : (Jvm.Cond.publicMethod z).before a0 Z = true) (wu : (Jvm.Cond.unhidden C y.name y.desc).before a0 Z = true) (wk : (Jvm.Cond.castable C y.cls).before a0 Z = true) (wz : (Jvm.Cond.initialized z.cls).before a0 Z = true) (wc : (Jvm.Cond.code z bytes maxL ret).before a0 Z = true) (hy : y.cls ≠ "java/lang/invoke/MethodHandle" ∧ y.cls ≠ "java/lang/invoke/VarHandle")
    (eT : T.heap = h) (E : Exa Z h a C) (hf : rm.frames + 1 ≤ R.frames) (hl : W + (maxL + 11) + rm.locals ≤ R.locals) (hc : cells + rm.cells ≤ R.cells) (hs : slots + rm.slots ≤ R.slots) (hlen : ∀ sig, parseMethodDescriptor y.desc = some sig → argsL.length = sig.parameters.length) (has : (.ref a :: argsL).toArray = as') (hst : st = argsL.reverse ++ .ref a :: rest) (hW : (rest.map fun v => v.category).sum ≤ W) (hsize : Ls.size = c.maxLocals)
    (hd : decode c.code pc = .ok (.invokeinterface index count, 5)) (hp : pc + 5 = pc')
    (k : ∀ (v : Option Value) (T' : State) (L : List Loc), Stand p l e R (s.setVm T'.vm) m args below meth c T' (locs ++ L) (cells + rm.cells) (slots + rm.slots) → Z.Warmed39 T'.vm → T'.vm.findClass own = some m.cls → s.Since T'.vm T'.heap.size → Qc v T'.heap L → Ok p e below Fe Q T' (mkF m pc' Ls (v.toList ++ rest))) : Ok p e below Fe Q T (mkF m pc Ls st) := by
  subst hp
  have hZ' : Z.Warmed39 (s.setVm V).vm := hZ
  obtain ⟨cq, kq, qa, qb, qc⟩ := isOf hZ' eT E
  obtain ⟨v, _, ⟨T1, L1, k1, n1⟩, -, X1, hS1, hgr, ⟨Lc, hQ, l1, y1, z1⟩, st1⟩ := X.interfaceBackS hx (xi := y) (y := z) hown (mvT hZ' wl) (mvT hZ' wd) (mvT hZ' wf hfa) (mvT hZ' wse) (mvT hZ' wi) (mvT hZ' wp) (mvT hZ' wu) (mvT hZ' wk) hy (backOfS (W := W) hM hZ' wc wz hf hl) qa qb qc (g := mkF m pc Ls st) rfl hsize (Steps.refl _) (argsL := argsL) (rest := rest) hlen hst (by show 2 * 0 + _ ≤ _; omega) hd (fun _ _ => ⟨has, eT, hc, hs⟩)
  dsimp only [Pt.U, Pt.locs, Pt.cells, Pt.slots] at X1 l1 y1 z1 st1 hQ hS1 hgr
  subst l1 y1 z1
  refine Ok.tr st1 (k v T1 Lc X1 (State.Warmed39.trans (t := s.setVm V) hZ hS1.1) (by rw [hS1.1.alike.findClass]; exact hown) (hS.trans hS1 ?_) hQ)
  rw [eT] at hgr
  exact Nat.le_trans hSn hgr
theorem Ok.ldcS {own text : String} {index n N : Nat} {h : Heap} {st : List Value} {V : Vm} (X : Stand p l e R (s.setVm V) m args below meth c T locs cells slots) (hx : p.tables.exec = Jvm.exec) (hZ : Z.Warmed39 V) (hown : V.findClass own = some m.cls) (hS : s.Since V n) (hSn : n ≤ h.size) (w : (Jvm.Cond.stringLink own index text).before a0 Z = true) (wS : ∀ a ∈ Bundle.stringAtoms, a.before a0 Z = true)
    (eT : T.heap = h) (hN : 4 * text.toList.length ≤ N) (hbig : N ≤ 536870912) (hc : cells + 2 ≤ R.cells) (hl : slots + (N + 4) ≤ R.slots) (hd : decode c.code pc = .ok (.ldc index, 2)) (hp : pc + 2 = pc')
    (k : ∀ (a : Addr) (T' : State) (h' : Heap) (n' : Nat), Stand p l e R (s.setVm T'.vm) m args below meth c T' locs (cells + 2) (slots + (N + 4)) → Z.Warmed39 T'.vm → T'.vm.findClass own = some m.cls → s.Since T'.vm n' → n' ≤ h'.size → T'.heap = h' → Ext h h' → Ok p e below Fe Q T' (mkF m pc' Ls (.ref a :: st))) : Ok p e below Fe Q T (mkF m pc Ls st) := by
  subst hp
  obtain ⟨a, T1, h1, n1, X1, e1, E1, hS1, hSn1, hZ1, hown1, st1⟩ := Jvm.RoadKit.ldcS X hx hZ hown w wS eT hS hSn (g := mkF m pc Ls st) rfl hd hN hbig hc hl
  exact Ok.st st1 (k a T1 h1 n1 X1 hZ1 hown1 hS1 hSn1 e1 E1)
theorem ic_eq (x y : Int32) : (if_icmp.holds .eq x y = true ↔ x.toInt = y.toInt) ∧ (if_icmp.holds .ne x y = true ↔ ¬ x.toInt = y.toInt) ∧ (if_icmp.holds .lt x y = true ↔ x.toInt < y.toInt) ∧ (if_icmp.holds .ge x y = true ↔ y.toInt ≤ x.toInt) ∧ (if_icmp.holds .gt x y = true ↔ y.toInt < x.toInt) ∧ (if_icmp.holds .le x y = true ↔ x.toInt ≤ y.toInt) := by
  simp [if_icmp.holds, Int32.lt_iff_toInt_lt, Int32.le_iff_toInt_le, Int32.toInt_inj]
theorem bt {b : Bool} {P : Prop} (h : b = true ↔ P) (hp : P) : b = true := h.mpr hp
theorem bf {b : Bool} {P : Prop} (h : b = true ↔ P) (hp : ¬ P) : b = false := by
  cases b
  · rfl
  · exact absurd (h.mp rfl) hp
theorem i0 (cd : ClassFile.Cond) (x : Int32) {P : Prop} (h : if_icmp.holds cd x 0 = true ↔ P) : ifCond.holds cd x = true ↔ P := by rw [if0]; exact h
theorem lc_all (x y : Int64) : (ifCond.holds .eq (lcmpW x y) = true ↔ x.toInt = y.toInt) ∧ (ifCond.holds .ne (lcmpW x y) = true ↔ ¬ x.toInt = y.toInt) ∧ (ifCond.holds .lt (lcmpW x y) = true ↔ x.toInt < y.toInt) ∧ (ifCond.holds .ge (lcmpW x y) = true ↔ y.toInt ≤ x.toInt) ∧ (ifCond.holds .gt (lcmpW x y) = true ↔ y.toInt < x.toInt) ∧ (ifCond.holds .le (lcmpW x y) = true ↔ x.toInt ≤ y.toInt) := by
  have h1 := lc_lt x y
  have h2 := lc_gt x y
  have h3 := lc_eq x y
  have h4 := lc_le x y
  have h5 := lc_ge x y
  rw [← lcW] at h1 h2 h3 h4 h5
  simp only [if0, if_icmp.holds, decide_eq_true_eq, beq_iff_eq, bne_iff_ne, ne_eq, h3, GT.gt, GE.ge]
  simp only [h1, h2, h4, h5, Int64.lt_iff_toInt_lt, Int64.le_iff_toInt_le, Int64.toInt_inj]
  simp
end Layer
section Layer2
variable {p : Program} {l : Launch} {e : Env} {R : Room} {s : State} {m : MethodId} {args : Array Value} {below : List Frame} {meth : Method} {c : Code} {T T' : State} {locs : List Loc} {cells slots : Nat} {Fe : Outcome → State → List Loc → Prop} {Q : Option Value → Heap → List Loc → Prop} {pc pc' : Nat} {Ls l' : Array Slot} {g g' : JFrame} {Z : State} {a0 : Array Value} {h : Heap} {own : String} {rest st : List Value}
theorem Ok.new {C : String} {index n : Nat} (X : Stand p l e R s m args below meth c T locs cells slots) (hx : p.tables.exec = Jvm.exec) (hZ : Z.Warmed39 s.vm) (hown : s.vm.findClass own = some m.cls) (w : (Jvm.Cond.classLink own index C).before a0 Z = true) (wi : (Jvm.Cond.instantiable C n).before a0 Z = true) (wz : (Jvm.Cond.initialized C).before a0 Z = true) (eT : T.heap = h) (hd : decode c.code pc = .ok (.new index, 3)) (hp : pc + 3 = pc') (hc : cells + 1 ≤ R.cells) (hl : slots + n ≤ R.slots)
    (k : ∀ (T' : State) (h' : Heap) (a : Addr), a = h.size → Stand p l e R s m args below meth c T' locs (cells + 1) (slots + n) → T'.heap = h' → Ext h h' → Exa Z h' a C → (∀ {O nm d : String} {ty : FieldType}, Laid Z a0 C O nm d → parseFieldDescriptor d = some ty → Fld Z h' a O nm d (defaultValue ty)) → Ok p e below Fe Q T' (mkF m pc' Ls (.ref a :: st))) : Ok p e below Fe Q T (mkF m pc Ls st) := by
  subst hp
  obtain ⟨T1, h1, X1, e1, E1, A1, D1, -, st1⟩ := newO X hx hZ hown w wi wz eT (g := mkF m pc Ls st) rfl hd hc hl
  exact Ok.st st1 (k T1 h1 _ rfl X1 e1 E1 A1 D1)
theorem Ok.initO {index : Nat} {a : Addr} {W : Nat} (X : Stand p l e R s m args below meth c T locs cells slots) (hx : p.tables.exec = Jvm.exec) (hZ : Z.Warmed39 s.vm) (hown : s.vm.findClass own = some m.cls) (w1 : (Jvm.Cond.methodLink own index Lib.objectInit).before a0 Z = true) (w2 : (Jvm.Cond.instanceMethod Lib.objectInit).before a0 Z = true) (w3 : (Jvm.Cond.code Lib.objectInit ⟨#[0xb1]⟩ 1 none).before a0 Z = true) (eT : T.heap = h) (hsize : Ls.size = c.maxLocals) (hd : decode c.code pc = .ok (.invokespecial index, 3)) (hp : pc + 3 = pc') (hf : 1 ≤ R.frames) (hW : (rest.map fun v => v.category).sum ≤ W) (hl : W + 12 ≤ R.locals)
    (k : ∀ (T' : State), Stand p l e R s m args below meth c T' locs cells slots → T'.heap = h → Ok p e below Fe Q T' (mkF m pc' Ls rest)) : Ok p e below Fe Q T (mkF m pc Ls (.ref a :: rest)) := by
  subst hp
  obtain ⟨T1, X1, e1, st1⟩ := Jvm.RoadKit.initO X hx hZ hown w1 w2 w3 eT (g := mkF m pc Ls (.ref a :: rest)) rfl hsize rfl hd hf (W := W) (by show 2 * 0 + _ ≤ _; omega) hl
  exact Ok.st st1 (k T1 X1 e1)
theorem Ok.getF {R0 O n d host : String} {index : Nat} {a : Addr} {v : Value} (X : Stand p l e R s m args below meth c T locs cells slots) (hx : p.tables.exec = Jvm.exec) (hZ : Z.Warmed39 s.vm) (hown : s.vm.findClass own = some m.cls) (w : (Jvm.Cond.fieldLink own index R0 n d).before a0 Z = true ∨ (Jvm.Cond.fieldLinkNest own index R0 n d host).before a0 Z = true) (via : Via Z R0 O n d) (eT : T.heap = h) (F : Fld Z h a O n d v) (hd : decode c.code pc = .ok (.getfield index, 3)) (hp : pc + 3 = pc')
    (k : ∀ (T' : State), Stand p l e R s m args below meth c T' locs cells slots → T'.heap = h → Ok p e below Fe Q T' (mkF m pc' Ls (v :: rest))) : Ok p e below Fe Q T (mkF m pc Ls (.ref a :: rest)) := by
  subst hp
  obtain ⟨T1, X1, e1, st1⟩ := Jvm.RoadKit.getF X hx hZ hown w via eT F (g := mkF m pc Ls (.ref a :: rest)) rfl rfl hd
  exact Ok.st st1 (k T1 X1 e1)
theorem Ok.getS {R0 O n d host : String} {index : Nat} {v : Value} (X : Stand p l e R s m args below meth c T locs cells slots) (hx : p.tables.exec = Jvm.exec) (hZ : Z.Warmed39 s.vm) (hown : s.vm.findClass own = some m.cls) (w : (Jvm.Cond.fieldLink own index R0 n d).before a0 Z = true ∨ (Jvm.Cond.fieldLinkNest own index R0 n d host).before a0 Z = true) (via : Via Z R0 O n d) (eT : T.heap = h) (F : Sta Z h O n d v) (hd : decode c.code pc = .ok (.getstatic index, 3)) (hp : pc + 3 = pc')
    (k : ∀ (T' : State), Stand p l e R s m args below meth c T' locs cells slots → T'.heap = h → Ok p e below Fe Q T' (mkF m pc' Ls (v :: st))) : Ok p e below Fe Q T (mkF m pc Ls st) := by
  subst hp
  obtain ⟨T1, X1, e1, st1⟩ := Jvm.RoadKit.getS2 X hx hZ hown w via eT F (g := mkF m pc Ls st) rfl hd
  exact Ok.st st1 (k T1 X1 e1)
theorem Ok.putF {R0 O n d host C : String} {index kk : Nat} {ty : FieldType} {a : Addr} {v old : Value} (X : Stand p l e R s m args below meth c T locs cells slots) (hx : p.tables.exec = Jvm.exec) (hZ : Z.Warmed39 s.vm) (hown : s.vm.findClass own = some m.cls) (w : (Jvm.Cond.fieldLink own index R0 n d).before a0 Z = true ∨ (Jvm.Cond.fieldLinkNest own index R0 n d host).before a0 Z = true) (via : Via Z R0 O n d) (eT : T.heap = h) (F : Fld Z h a O n d old) (E : Exa Z h a C) (L : (Jvm.Cond.lays C O n d).before a0 Z = true ∨ ((Jvm.Cond.laysFinal C O n d).before a0 Z = true ∧ own = O ∧ meth.name = "<init>")) (wi : (Jvm.Cond.instantiable C kk).before a0 Z = true)
    (hty : parseFieldDescriptor d = some ty) (hn : narrow ty v = v) (hf : fits ty v = true) (hd : decode c.code pc = .ok (.putfield index, 3)) (hp : pc + 3 = pc')
    (k : ∀ (T' : State) (h' : Heap), Stand p l e R s m args below meth c T' (locs ++ [⟨a, Jvm.RoadKit.slotOf Z O n d⟩]) cells slots → T'.heap = h' → Wr h h' a (Jvm.RoadKit.slotOf Z O n d) v → Ok p e below Fe Q T' (mkF m pc' Ls rest)) : Ok p e below Fe Q T (mkF m pc Ls (v :: .ref a :: rest)) := by
  subst hp
  obtain ⟨T1, h1, X1, e1, W1, st1⟩ := Jvm.RoadKit.putF X hx hZ hown w via eT F E L wi hty hn hf (g := mkF m pc Ls (v :: .ref a :: rest)) rfl rfl hd
  exact Ok.st st1 (k T1 h1 X1 e1 W1)
theorem Ok.castY {K : String} {index : Nat} {a : Addr} (X : Stand p l e R s m args below meth c T locs cells slots) (hx : p.tables.exec = Jvm.exec) (hZ : Z.Warmed39 s.vm) (hown : s.vm.findClass own = some m.cls) (w : (Jvm.Cond.classLink own index K).before a0 Z = true) (eT : T.heap = h) (F : Ins Z h a K true) (hd : decode c.code pc = .ok (.checkcast index, 3)) (hp : pc + 3 = pc')
    (k : ∀ (T' : State), Stand p l e R s m args below meth c T' locs cells slots → T'.heap = h → Ok p e below Fe Q T' (mkF m pc' Ls (.ref a :: rest))) : Ok p e below Fe Q T (mkF m pc Ls (.ref a :: rest)) := by
  subst hp
  obtain ⟨T1, X1, e1, st1⟩ := Jvm.RoadKit.castY X hx hZ hown w eT F (g := mkF m pc Ls (.ref a :: rest)) rfl rfl hd
  exact Ok.st st1 (k T1 X1 e1)
theorem Ok.instY {K : String} {index : Nat} {a : Addr} (X : Stand p l e R s m args below meth c T locs cells slots) (hx : p.tables.exec = Jvm.exec) (hZ : Z.Warmed39 s.vm) (hown : s.vm.findClass own = some m.cls) (w : (Jvm.Cond.classLink own index K).before a0 Z = true) (eT : T.heap = h) (F : Ins Z h a K true) (hd : decode c.code pc = .ok (.instanceof index, 3)) (hp : pc + 3 = pc')
    (k : ∀ (T' : State), Stand p l e R s m args below meth c T' locs cells slots → T'.heap = h → Ok p e below Fe Q T' (mkF m pc' Ls (.int (1 : Int32) :: rest))) : Ok p e below Fe Q T (mkF m pc Ls (.ref a :: rest)) := by
  subst hp
  obtain ⟨T1, X1, e1, st1⟩ := Jvm.RoadKit.instY X hx hZ hown w eT F (g := mkF m pc Ls (.ref a :: rest)) rfl rfl hd
  exact Ok.st st1 (k T1 X1 e1)
theorem Ok.instNo {K C : String} {index : Nat} {a : Addr} (X : Stand p l e R s m args below meth c T locs cells slots) (hx : p.tables.exec = Jvm.exec) (hZ : Z.Warmed39 s.vm) (hown : s.vm.findClass own = some m.cls) (w : (Jvm.Cond.classLink own index K).before a0 Z = true) (eT : T.heap = h) (E : Exa Z h a C) (F : ∃ c t, Z.vm.findClass C = some c ∧ Z.vm.findClass K = some t ∧ Z.vm.assignable c t = false) (hd : decode c.code pc = .ok (.instanceof index, 3)) (hp : pc + 3 = pc')
    (k : ∀ (T' : State), Stand p l e R s m args below meth c T' locs cells slots → T'.heap = h → Ok p e below Fe Q T' (mkF m pc' Ls (.int (0 : Int32) :: rest))) : Ok p e below Fe Q T (mkF m pc Ls (.ref a :: rest)) := by
  subst hp
  obtain ⟨T1, X1, e1, st1⟩ := Jvm.RoadKit.instNo X hx hZ hown w eT E F (g := mkF m pc Ls (.ref a :: rest)) rfl rfl hd
  exact Ok.st st1 (k T1 X1 e1)
theorem Ok.instNull {index : Nat} (X : Stand p l e R s m args below meth c T locs cells slots) (hx : p.tables.exec = Jvm.exec) (hd : decode c.code pc = .ok (.instanceof index, 3)) (hp : pc + 3 = pc') (k : Ok p e below Fe Q T (mkF m pc' Ls (.int (0 : Int32) :: rest))) : Ok p e below Fe Q T (mkF m pc Ls (.null :: rest)) := by
  subst hp
  exact Ok.st (X.instanceofNull hx (g := mkF m pc Ls (.null :: rest)) rfl rfl hd) k
theorem Ok.newP {aty : ArrayType} {ty : FieldType} {n : Int32} {cap : Nat} (X : Stand p l e R s m args below meth c T locs cells slots) (hx : p.tables.exec = Jvm.exec) (hZ : Z.Warmed39 s.vm) (w : (Jvm.Cond.arrayClass ty).before a0 Z = true) (hty : newarray.typeOf aty = ty) (eT : T.heap = h) (hd : decode c.code pc = .ok (.newarray aty, 2)) (hp : pc + 2 = pc') (hn : ¬ n < 0) (hcap : n.toNatClampNeg ≤ cap) (hb : cap * 8 ≤ 536870912) (hc : cells + 1 ≤ R.cells) (hl : slots + cap ≤ R.slots)
    (k : ∀ (T' : State) (h' : Heap) (a : Addr) (cA : ClassId), a = h.size → Stand p l e R s m args below meth c T' locs (cells + 1) (slots + cap) → T'.heap = h' → Ext h h' → Arv Z h' a cA ty n [] (defaultValue ty) → Ok p e below Fe Q T' (mkF m pc' Ls (.ref a :: rest))) : Ok p e below Fe Q T (mkF m pc Ls (.int n :: rest)) := by
  subst hp hty
  obtain ⟨T1, h1, cA, X1, e1, E1, A1, st1⟩ := Jvm.RoadKit.newP X hx hZ w eT (g := mkF m pc Ls (.int n :: rest)) rfl hd rfl hn hcap hb hc hl
  exact Ok.st st1 (k T1 h1 _ cA rfl X1 e1 E1 (Arv.new A1 hn))
theorem Ok.stI {a : Addr} {kc : ClassId} {z j x : Int32} {vs : List Value} {dv : Value} (X : Stand p l e R s m args below meth c T locs cells slots) (hx : p.tables.exec = Jvm.exec) (hZ : Z.Warmed39 s.vm) (eT : T.heap = h) (V : Arv Z h a kc .int z vs dv) (hj : ¬ j < 0 ∧ j < z) {i : Nat} (hji : j.toNatClampNeg = i) (hi : i < vs.length) (hd : decode c.code pc = .ok (.iastore, 1)) (hp : pc + 1 = pc')
    (k : ∀ (T' : State) (h' : Heap), Stand p l e R s m args below meth c T' (locs ++ [⟨a, j.toNatClampNeg⟩]) cells slots → T'.heap = h' → Wr h h' a j.toNatClampNeg (.int x) → Arv Z h' a kc .int z (vs.set i (.int x)) dv → Ok p e below Fe Q T' (mkF m pc' Ls rest)) : Ok p e below Fe Q T (mkF m pc Ls (.int x :: .int j :: .ref a :: rest)) := by
  subst hp
  obtain ⟨cl, Ar, q, S1, N1, H1, G1⟩ := V
  obtain ⟨T1, h1, X1, e1, W1, st1⟩ := Jvm.RoadKit.stI X hx hZ eT Ar (j := j) (inb_of S1 hj) (g := mkF m pc Ls (.int x :: .int j :: .ref a :: rest)) rfl rfl hd
  exact Ok.st st1 (k T1 h1 X1 e1 W1 (Arv.set Ar q S1 N1 H1 G1 rfl W1 i hji hi))
theorem Ok.stC {a : Addr} {kc : ClassId} {z j x : Int32} {vs : List Value} {dv : Value} (X : Stand p l e R s m args below meth c T locs cells slots) (hx : p.tables.exec = Jvm.exec) (hZ : Z.Warmed39 s.vm) (eT : T.heap = h) (V : Arv Z h a kc .char z vs dv) (hj : ¬ j < 0 ∧ j < z) {i : Nat} (hji : j.toNatClampNeg = i) (hi : i < vs.length) (hd : decode c.code pc = .ok (.castore, 1)) (hp : pc + 1 = pc')
    (k : ∀ (T' : State) (h' : Heap), Stand p l e R s m args below meth c T' (locs ++ [⟨a, j.toNatClampNeg⟩]) cells slots → T'.heap = h' → Wr h h' a j.toNatClampNeg (.int (nar .char x)) → Arv Z h' a kc .char z (vs.set i (.int (nar .char x))) dv → Ok p e below Fe Q T' (mkF m pc' Ls rest)) : Ok p e below Fe Q T (mkF m pc Ls (.int x :: .int j :: .ref a :: rest)) := by
  subst hp
  obtain ⟨cl, Ar, q, S1, N1, H1, G1⟩ := V
  obtain ⟨T1, h1, X1, e1, W1, st1⟩ := Jvm.RoadKit.stC X hx hZ eT Ar (j := j) (inb_of S1 hj) (g := mkF m pc Ls (.int x :: .int j :: .ref a :: rest)) rfl rfl hd
  exact Ok.st st1 (k T1 h1 X1 e1 W1 (Arv.set Ar q S1 N1 H1 G1 (fits_nar_char _) W1 i hji hi))
theorem Ok.stB {a : Addr} {kc : ClassId} {z j x : Int32} {vs : List Value} {dv : Value} (X : Stand p l e R s m args below meth c T locs cells slots) (hx : p.tables.exec = Jvm.exec) (hZ : Z.Warmed39 s.vm) (eT : T.heap = h) (V : Arv Z h a kc .byte z vs dv) (hj : ¬ j < 0 ∧ j < z) {i : Nat} (hji : j.toNatClampNeg = i) (hi : i < vs.length) (hd : decode c.code pc = .ok (.bastore, 1)) (hp : pc + 1 = pc')
    (k : ∀ (T' : State) (h' : Heap), Stand p l e R s m args below meth c T' (locs ++ [⟨a, j.toNatClampNeg⟩]) cells slots → T'.heap = h' → Wr h h' a j.toNatClampNeg (.int x.toInt8.toInt32) → Arv Z h' a kc .byte z (vs.set i (.int x.toInt8.toInt32)) dv → Ok p e below Fe Q T' (mkF m pc' Ls rest)) : Ok p e below Fe Q T (mkF m pc Ls (.int x :: .int j :: .ref a :: rest)) := by
  subst hp
  obtain ⟨cl, Ar, q, S1, N1, H1, G1⟩ := V
  obtain ⟨T1, h1, X1, e1, W1, st1⟩ := Jvm.RoadKit.stB X hx hZ eT Ar (j := j) (inb_of S1 hj) (g := mkF m pc Ls (.int x :: .int j :: .ref a :: rest)) rfl rfl hd
  exact Ok.st st1 (k T1 h1 X1 e1 W1 (Arv.set Ar q S1 N1 H1 G1 (fits_nar_byte _) W1 i hji hi))
theorem Ok.len {a : Addr} {kc : ClassId} {ty : FieldType} {z : Int32} {vs : List Value} {dv : Value} (X : Stand p l e R s m args below meth c T locs cells slots) (hx : p.tables.exec = Jvm.exec) (hZ : Z.Warmed39 s.vm) (eT : T.heap = h) (V : Arv Z h a kc ty z vs dv) (hd : decode c.code pc = .ok (.arraylength, 1)) (hp : pc + 1 = pc') (k : Ok p e below Fe Q T (mkF m pc' Ls (.int z :: rest))) : Ok p e below Fe Q T (mkF m pc Ls (.ref a :: rest)) := by
  subst hp
  obtain ⟨cl, Ar, q, S1, N1, H1, G1⟩ := V
  refine Ok.st (X.arraylength hx (by rw [eT]; exact Ar.1) (State.isArrayOf_alike hZ.alike Ar.2.1) (g := mkF m pc Ls (.ref a :: rest)) rfl rfl hd) ?_
  rw [len_of S1 N1]
  exact k
theorem Ok.ldI {a : Addr} {kc : ClassId} {z j : Int32} {v : Value} {vs : List Value} {dv : Value} (X : Stand p l e R s m args below meth c T locs cells slots) (hx : p.tables.exec = Jvm.exec) (hZ : Z.Warmed39 s.vm) (eT : T.heap = h) (V : Arv Z h a kc .int z vs dv) (hj : ¬ j < 0 ∧ j < z) (hv : vs.getD j.toNatClampNeg dv = v) (hd : decode c.code pc = .ok (.iaload, 1)) (hp : pc + 1 = pc') (k : Ok p e below Fe Q T (mkF m pc' Ls (v :: rest))) : Ok p e below Fe Q T (mkF m pc Ls (.int j :: .ref a :: rest)) := by
  subst hp
  obtain ⟨cl, Ar, q, S1, N1, H1, G1⟩ := V
  exact Ok.st (X.iaload hx (j := j) (v := v) (by rw [eT]; exact Ar.1) (State.isArrayOf_alike hZ.alike Ar.2.1) Ar.2.2 (inb_of S1 hj) (H1.at (inb_of S1 hj) hv) (g := mkF m pc Ls (.int j :: .ref a :: rest)) rfl rfl hd) k
theorem Ok.ldB {a : Addr} {kc : ClassId} {z j : Int32} {v : Value} {vs : List Value} {dv : Value} (X : Stand p l e R s m args below meth c T locs cells slots) (hx : p.tables.exec = Jvm.exec) (hZ : Z.Warmed39 s.vm) (eT : T.heap = h) (V : Arv Z h a kc .byte z vs dv) (hj : ¬ j < 0 ∧ j < z) (hv : vs.getD j.toNatClampNeg dv = v) (hd : decode c.code pc = .ok (.baload, 1)) (hp : pc + 1 = pc') (k : Ok p e below Fe Q T (mkF m pc' Ls (v :: rest))) : Ok p e below Fe Q T (mkF m pc Ls (.int j :: .ref a :: rest)) := by
  subst hp
  obtain ⟨cl, Ar, q, S1, N1, H1, G1⟩ := V
  exact Ok.st (X.baloadBytes hx (j := j) (v := v) (by rw [eT]; exact Ar.1) (State.isArrayOf_alike hZ.alike Ar.2.1) Ar.2.2 (inb_of S1 hj) (H1.at (inb_of S1 hj) hv) (g := mkF m pc Ls (.int j :: .ref a :: rest)) rfl rfl hd) k
theorem Ok.ldC {a : Addr} {kc : ClassId} {z j : Int32} {v : Value} {vs : List Value} {dv : Value} (X : Stand p l e R s m args below meth c T locs cells slots) (hx : p.tables.exec = Jvm.exec) (hZ : Z.Warmed39 s.vm) (eT : T.heap = h) (V : Arv Z h a kc .char z vs dv) (hj : ¬ j < 0 ∧ j < z) (hv : vs.getD j.toNatClampNeg dv = v) (hd : decode c.code pc = .ok (.caload, 1)) (hp : pc + 1 = pc') (k : Ok p e below Fe Q T (mkF m pc' Ls (v :: rest))) : Ok p e below Fe Q T (mkF m pc Ls (.int j :: .ref a :: rest)) := by
  subst hp
  obtain ⟨cl, Ar, q, S1, N1, H1, G1⟩ := V
  exact Ok.st (X.caload hx (j := j) (v := v) (by rw [eT]; exact Ar.1) (State.isArrayOf_alike hZ.alike Ar.2.1) Ar.2.2 (inb_of S1 hj) (H1.at (inb_of S1 hj) hv) (g := mkF m pc Ls (.int j :: .ref a :: rest)) rfl rfl hd) k
theorem Ok.aald {a : Addr} {cl : Cell} {ty : FieldType} {j : Int32} {v : Value} (X : Stand p l e R s m args below meth c T locs cells slots) (hx : p.tables.exec = Jvm.exec) (hZ : Z.Warmed39 s.vm) (eT : T.heap = h) (A : Arr Z h a cl ty) (hty : ty.isReference = true) (hin : ¬ (j < 0 ∨ cl.slots.size ≤ j.toNatClampNeg)) (hv : cl.slots[j.toNatClampNeg]? = some v) (hd : decode c.code pc = .ok (.aaload, 1)) (hp : pc + 1 = pc') (k : Ok p e below Fe Q T (mkF m pc' Ls (v :: rest))) : Ok p e below Fe Q T (mkF m pc Ls (.int j :: .ref a :: rest)) := by
  subst hp
  exact Ok.st (X.aaload hx (j := j) (v := v) (by rw [eT]; exact A.1) (State.isArrayOf_alike hZ.alike A.2.1) hty A.2.2 hin hv (g := mkF m pc Ls (.int j :: .ref a :: rest)) rfl rfl hd) k
theorem Ok.ldcF {index : Nat} {v : UInt32} (X : Stand p l e R s m args below meth c T locs cells slots) (hx : p.tables.exec = Jvm.exec) (hZ : Z.Warmed39 s.vm) (hown : s.vm.findClass own = some m.cls) (w : (Jvm.Cond.constantFloat own index v).before a0 Z = true) (hd : decode c.code pc = .ok (.ldc index, 2)) (hp : pc + 2 = pc') (k : Ok p e below Fe Q T (mkF m pc' Ls (.float v :: st))) : Ok p e below Fe Q T (mkF m pc Ls st) := by
  subst hp
  exact Ok.st (X.ldcFloatC hx hown (mvT hZ w) (g := mkF m pc Ls st) rfl hd) k
theorem own_root {O K : String} {n : Nat} (w : (Jvm.Cond.noSuperclass O).before a0 Z = true) (wk : (Jvm.Cond.instantiable K n).before a0 Z = true) (hn : O ≠ K) : NS Z O K := by
  obtain ⟨c, k, h1, h2, h3, -, -⟩ := Cond.noSuperclass_spec w
  obtain ⟨t, k', g1, -⟩ := Cond.instantiable_spec wk
  have ne := ids_ne h1 g1 hn
  refine ⟨c, t, h1, g1, fun fuel => ?_⟩
  cases fuel with
  | zero => rfl
  | succ f => simp [Vm.isSubclassAux, ne, h2, h3]
theorem own_no {C S K : String} {n : Nat} (w : (Jvm.Cond.superclass C S).before a0 Z = true) (wk : (Jvm.Cond.instantiable K n).before a0 Z = true) (ns : NS Z C K) (hn : C ≠ K) : ∃ c t, Z.vm.findClass C = some c ∧ Z.vm.findClass K = some t ∧ Z.vm.assignable c t = false := by
  obtain ⟨c, t, h0, g0, n3⟩ := ns
  obtain ⟨p, k, kp, h1, h2, h3, h4, h5, -, h7⟩ := Cond.superclass_spec h0 w
  obtain ⟨t', k', g1, g2, g5, g7, -⟩ := Cond.instantiable_spec wk
  cases g0.symm.trans g1
  have g8 : k'.isInterface = false := by
    cases hq : k'.isInterface
    · rfl
    · rw [hq] at g7
      cases g7
  have ne := ids_ne h0 g0 hn
  refine ⟨c, t, h0, g0, ?_⟩
  show Z.vm.assignableAux (255 + 1) c t = false
  simp [Vm.assignableAux, ne, h2, g2, h5, g5, g8, Vm.isSubclass, n3]
end Layer2
section Layer4
variable {p : Program} {l : Launch} {e : Env} {R : Room} {s : State} {m : MethodId} {args : Array Value} {below : List Frame} {meth : Method} {c : Code} {T T' : State} {locs : List Loc} {cells slots : Nat} {Fe : Outcome → State → List Loc → Prop} {Q : Option Value → Heap → List Loc → Prop} {pc pc' : Nat} {Ls l' : Array Slot} {g g' : JFrame} {Z : State} {a0 : Array Value}
theorem Ok.i2d {x : Int32} {rest : List Value} (X : Stand p l e R s m args below meth c T locs cells slots) (hx : p.tables.exec = Jvm.exec) (hd : decode c.code pc = .ok (.i2d, 1)) (hp : pc + 1 = pc')  (k : Ok p e below Fe Q T (mkF m pc' Ls (.double (FP.i2d x) :: rest))) : Ok p e below Fe Q T (mkF m pc Ls (.int x :: rest)) := by
  subst hp
  exact Ok.st (fun t k => XS.i2dS X.here hx rfl hd rfl rfl k) k
theorem Ok.l2d {x : Int64} {rest : List Value} (X : Stand p l e R s m args below meth c T locs cells slots) (hx : p.tables.exec = Jvm.exec) (hd : decode c.code pc = .ok (.l2d, 1)) (hp : pc + 1 = pc')  (k : Ok p e below Fe Q T (mkF m pc' Ls (.double (FP.l2d x) :: rest))) : Ok p e below Fe Q T (mkF m pc Ls (.long x :: rest)) := by
  subst hp
  exact Ok.st (fun t k => XS.l2dS X.here hx rfl hd rfl rfl k) k
theorem Ok.dadd {x y : UInt64} {rest : List Value} (X : Stand p l e R s m args below meth c T locs cells slots) (hx : p.tables.exec = Jvm.exec) (hd : decode c.code pc = .ok (.dadd, 1)) (hp : pc + 1 = pc') (hn : Jvm.Free.Fl.NoNaN64 (FP.dadd x y)) (k : Ok p e below Fe Q T (mkF m pc' Ls (.double (FP.dadd x y) :: rest))) : Ok p e below Fe Q T (mkF m pc Ls (.double y :: .double x :: rest)) := by
  subst hp
  exact Ok.st (fun t k => XS.daddS X.here hx rfl hd rfl hn rfl k) k
theorem Ok.dsub {x y : UInt64} {rest : List Value} (X : Stand p l e R s m args below meth c T locs cells slots) (hx : p.tables.exec = Jvm.exec) (hd : decode c.code pc = .ok (.dsub, 1)) (hp : pc + 1 = pc') (hn : Jvm.Free.Fl.NoNaN64 (FP.dsub x y)) (k : Ok p e below Fe Q T (mkF m pc' Ls (.double (FP.dsub x y) :: rest))) : Ok p e below Fe Q T (mkF m pc Ls (.double y :: .double x :: rest)) := by
  subst hp
  exact Ok.st (fun t k => XS.dsubS X.here hx rfl hd rfl hn rfl k) k
theorem Ok.ddiv {x y : UInt64} {rest : List Value} (X : Stand p l e R s m args below meth c T locs cells slots) (hx : p.tables.exec = Jvm.exec) (hd : decode c.code pc = .ok (.ddiv, 1)) (hp : pc + 1 = pc') (hn : Jvm.Free.Fl.NoNaN64 (FP.ddiv x y)) (k : Ok p e below Fe Q T (mkF m pc' Ls (.double (FP.ddiv x y) :: rest))) : Ok p e below Fe Q T (mkF m pc Ls (.double y :: .double x :: rest)) := by
  subst hp
  exact Ok.st (fun t k => XS.ddivS X.here hx rfl hd rfl hn rfl k) k
theorem Ok.dcmp {x y : UInt64} {o : CmpOp} {rest : List Value} (X : Stand p l e R s m args below meth c T locs cells slots) (hx : p.tables.exec = Jvm.exec) (hd : decode c.code pc = .ok (.dcmp o, 1)) (hp : pc + 1 = pc')  (k : Ok p e below Fe Q T (mkF m pc' Ls (.int (cmpValue (FP.dcmp x y) o) :: rest))) : Ok p e below Fe Q T (mkF m pc Ls (.double y :: .double x :: rest)) := by
  subst hp
  exact Ok.st (fun t k => XS.dcmpS X.here hx rfl hd rfl rfl k) k
theorem Ok.dload {i : Nat} {v : UInt64} {rest : List Value} (X : Stand p l e R s m args below meth c T locs cells slots) (hx : p.tables.exec = Jvm.exec) (hd : decode c.code pc = .ok (.dload i, 2)) (hp : pc + 2 = pc') (hl : Ls[i]? = some (.val (.double v))) (k : Ok p e below Fe Q T (mkF m pc' Ls (.double v :: rest))) : Ok p e below Fe Q T (mkF m pc Ls rest) := by
  subst hp
  exact Ok.st (fun t k => XS.dload X.here hx rfl hd hl k) k
theorem Ok.dloadN {i : Fin 4} {v : UInt64} {rest : List Value} (X : Stand p l e R s m args below meth c T locs cells slots) (hx : p.tables.exec = Jvm.exec) (hd : decode c.code pc = .ok (.dload_n i, 1)) (hp : pc + 1 = pc') (hl : Ls[i.val]? = some (.val (.double v))) (k : Ok p e below Fe Q T (mkF m pc' Ls (.double v :: rest))) : Ok p e below Fe Q T (mkF m pc Ls rest) := by
  subst hp
  exact Ok.st (fun t k => XS.dloadN X.here hx rfl hd hl k) k
theorem Ok.ldcD {own : String} {index : Nat} {v : UInt64} {st : List Value} (X : Stand p l e R s m args below meth c T locs cells slots) (hx : p.tables.exec = Jvm.exec) (hZ : Z.Warmed39 s.vm) (hown : s.vm.findClass own = some m.cls) (w : (Jvm.Cond.constantDouble own index v).before a0 Z = true) (hd : decode c.code pc = .ok (.ldc2_w index, 3)) (hp : pc + 3 = pc') (k : Ok p e below Fe Q T (mkF m pc' Ls (.double v :: st))) : Ok p e below Fe Q T (mkF m pc Ls st) := by
  subst hp
  exact Ok.st (X.ldc2DoubleC hx hown (mvT hZ w) (g := mkF m pc Ls st) rfl hd) k
end Layer4

theorem nn {n : Int} {a : UInt64} (h : Fl8.E8 n a) : Jvm.Free.Fl.NoNaN64 a := (Jvm.Free.Fl.fin64_core.mpr h.fin).noNaN
theorem shr12 (x : Int32) : -524288 ≤ (x >>> ((12 : Int32) &&& 31)).toInt ∧ (x >>> ((12 : Int32) &&& 31)).toInt ≤ 524287 := by
  have h := Jvm.Kit.i32_shr x ((12 : Int32) &&& 31) (k := 12) (by decide)
  have h1 := x.toInt_lt
  have h2 := x.le_toInt
  omega
theorem lo_v {a b : Int32} (a1 : -524288 ≤ a.toInt) (a2 : a.toInt ≤ 524287) (b1 : -524288 ≤ b.toInt) (b2 : b.toInt ≤ 524287) : (((2 : Int64) * a.toInt64) - b.toInt64).toInt = 2 * a.toInt - b.toInt ∧ (((2 : Int64) * a.toInt64) + b.toInt64).toInt = 2 * a.toInt + b.toInt := by
  have e2 : ((2 : Int64)).toInt = 2 := rfl
  have ha := Jvm.Kit.i64_of_i32 a
  have hb := Jvm.Kit.i64_of_i32 b
  have h1 := Jvm.Kit.i64_mul (x := 2) (y := a.toInt64) (by rw [e2, ha]; omega) (by rw [e2, ha]; omega)
  rw [e2, ha] at h1
  rw [Jvm.Kit.i64_sub (by rw [h1, hb]; omega) (by rw [h1, hb]; omega), Jvm.Kit.i64_add (by rw [h1, hb]; omega) (by rw [h1, hb]; omega), h1, hb]
  exact ⟨rfl, rfl⟩
theorem rem5 (x : Int32) : -4 ≤ (x % (5 : Int32)).toInt ∧ (x % (5 : Int32)).toInt ≤ 4 := by
  rw [Jvm.Kit.i32_rem, show ((5 : Int32)).toInt = 5 from rfl]
  by_cases h : 0 ≤ x.toInt
  · rw [Int.tmod_eq_emod_of_nonneg h]
    omega
  · have h1 : x.toInt.tmod 5 = -((-x.toInt).tmod 5) := by rw [Int.neg_tmod, Int.neg_neg]
    rw [h1, Int.tmod_eq_emod_of_nonneg (by omega)]
    omega
theorem pd_0 : parseMethodDescriptor "(IIIDDD)V" = some ⟨[.int, .int, .int, .double, .double, .double], none⟩ := by decide +kernel
theorem pd_1 : parseMethodDescriptor "()V" = some ⟨[], none⟩ := by decide +kernel
theorem pd_2 : parseMethodDescriptor "(D)Z" = some ⟨[.double], some .boolean⟩ := by decide +kernel
theorem Sta_keep {Z : State} {h h' : Heap} {C n d : String} {w : Value} {ws : List Addr} (F : Sta Z h C n d w) (K : Keep h h' ws) (q : ∀ x ∈ ws, ∃ k, Exa Z h x k) : Sta Z h' C n d w := by
  obtain ⟨cf, i, k, f, st, cell, h1, h2, h3, h4, h5, h6, h7⟩ := F
  refine ⟨cf, i, k, f, st, cell, h1, h2, h3, h4, K.2.1 st cell h5 fun hm => ?_, h6, h7⟩
  obtain ⟨k', c', k'', g1, -, -, g4, -⟩ := q st hm
  cases h5.symm.trans g1
  rw [h6] at g4
  cases g4
theorem d2_0 : decode jdk_30_method_1_code 0 = .ok (.aload_n 0, 1) := by decide +kernel
theorem d2_1 : decode jdk_30_method_1_code 1 = .ok (.invokespecial 1, 3) := by decide +kernel
theorem d2_4 : decode jdk_30_method_1_code 4 = .ok (.return_, 1) := by decide +kernel
theorem pn_0 : plainName "java/lang/Record" = true := by first | (simp [plainName, overriddenIn]; done) | decide +kernel
theorem ef_2 (m : MethodId) (x0 : Addr) : entryFrame m #[(.ref x0)] 1 = mkF m 0 #[.val (.ref x0)] [] := by first | (simp [entryFrame, mkF, argsToLocals, Value.category]; done) | rfl
def Q2 (Z : State) (a1 : Addr) (h0 : Heap) (n0 : Nat) (v : Option Value) (h : Heap) (L : List Loc) : Prop := v = none ∧ Fr n0 L ∧ h = h0
set_option maxRecDepth 65536 in
set_option maxHeartbeats 40000000 in
theorem rm2 (l : Launch) (Z : State) (a0 : Array Value) (hw : ∀ d ∈ tables_1, d.before a0 Z = true) (a1 : Addr) (h0 : Heap) (n0 : Nat) (Z0 : n0 ≤ h0.size)  :
    MetN l Z (⟨"java/lang/Record", "<init>", "()V"⟩ : MethodName) jdk_30_method_1_code 1 none [] ({ frames := 1, cells := 0, slots := 0, locals := 12 } : Room) #[(.ref a1)] h0 (Q2 Z a1 h0 n0) := by
  refine met_n (plainFor_of_name pn_0) (fun m => ef_2 m a1) ?_
  intro p e s m below meth c s₁ X0 hx hby hml hZ hown hnm hret hlk e0
  replace hown : s.vm.findClass "java/lang/Record" = some m.cls := hown
  replace hnm : meth.name = "<init>" := hnm
  replace hret : meth.sig.returnType = none := hret
  have N0 := Fr.nil n0
  have K0 : Keep h0 h0 [] := Keep.refl _ _
  show Ok p e below _ _ s₁ (mkF m 0 #[.val (.ref a1)] [])
  refine Ok.aloadN (pc' := 1) X0 hx (hb hby d2_0) rfl rfl rfl ?_
  refine Ok.initO (pc' := 4) (W := 0) X0 hx hZ hown (hw _ (List.mem_of_getElem? (i := 13) rfl)) (hw _ (List.mem_of_getElem? (i := 14) rfl)) (hw _ (List.mem_of_getElem? (i := 15) rfl)) e0 (by rw [hml]; rfl) (hb hby d2_1) rfl (by decide) (Nat.le_of_eq rfl) (by decide) ?_
  intro T1 X1 e1
  refine Ok.retV X1 hx hret hlk (hb hby d2_4) (by decide) (by decide) ?_
  show Q2 Z a1 h0 n0 _ T1.heap _
  rw [e1]
  exact ⟨rfl, N0, rfl⟩
theorem d1_0 : decode prog_56_method_1_code 0 = .ok (.aload_n 0, 1) := by decide +kernel
theorem d1_1 : decode prog_56_method_1_code 1 = .ok (.invokespecial 1, 3) := by decide +kernel
theorem d1_4 : decode prog_56_method_1_code 4 = .ok (.aload_n 0, 1) := by decide +kernel
theorem d1_5 : decode prog_56_method_1_code 5 = .ok (.iload_n 1, 1) := by decide +kernel
theorem d1_6 : decode prog_56_method_1_code 6 = .ok (.putfield 7, 3) := by decide +kernel
theorem d1_9 : decode prog_56_method_1_code 9 = .ok (.aload_n 0, 1) := by decide +kernel
theorem d1_10 : decode prog_56_method_1_code 10 = .ok (.iload_n 2, 1) := by decide +kernel
theorem d1_11 : decode prog_56_method_1_code 11 = .ok (.putfield 13, 3) := by decide +kernel
theorem d1_14 : decode prog_56_method_1_code 14 = .ok (.aload_n 0, 1) := by decide +kernel
theorem d1_15 : decode prog_56_method_1_code 15 = .ok (.iload_n 3, 1) := by decide +kernel
theorem d1_16 : decode prog_56_method_1_code 16 = .ok (.putfield 16, 3) := by decide +kernel
theorem d1_19 : decode prog_56_method_1_code 19 = .ok (.aload_n 0, 1) := by decide +kernel
theorem d1_20 : decode prog_56_method_1_code 20 = .ok (.dload 4, 2) := by decide +kernel
theorem d1_22 : decode prog_56_method_1_code 22 = .ok (.putfield 19, 3) := by decide +kernel
theorem d1_25 : decode prog_56_method_1_code 25 = .ok (.aload_n 0, 1) := by decide +kernel
theorem d1_26 : decode prog_56_method_1_code 26 = .ok (.dload 6, 2) := by decide +kernel
theorem d1_28 : decode prog_56_method_1_code 28 = .ok (.putfield 23, 3) := by decide +kernel
theorem d1_31 : decode prog_56_method_1_code 31 = .ok (.aload_n 0, 1) := by decide +kernel
theorem d1_32 : decode prog_56_method_1_code 32 = .ok (.dload 8, 2) := by decide +kernel
theorem d1_34 : decode prog_56_method_1_code 34 = .ok (.putfield 26, 3) := by decide +kernel
theorem d1_37 : decode prog_56_method_1_code 37 = .ok (.return_, 1) := by decide +kernel
theorem pn_1 : plainName "com/example/raie/raie/made/WindowRow" = true := by first | (simp [plainName, overriddenIn]; done) | decide +kernel
theorem ef_1 (m : MethodId) (x0 : Addr) (x1 : Int32) (x2 : Int32) (x3 : Int32) (x4 : UInt64) (x5 : UInt64) (x6 : UInt64) : entryFrame m #[(.ref x0), (.int x1), (.int x2), (.int x3), (.double x4), (.double x5), (.double x6)] 10 = mkF m 0 #[.val (.ref x0), .val (.int x1), .val (.int x2), .val (.int x3), .val (.double x4), .second, .val (.double x5), .second, .val (.double x6), .second] [] := by first | (simp [entryFrame, mkF, argsToLocals, Value.category]; done) | rfl
def Q1 (Z : State) (a1 : Addr) (q2 : Int32) (q3 : Int32) (q4 : Int32) (q5 : UInt64) (q6 : UInt64) (q7 : UInt64) (u_group : Value) (u_scanBegin : Value) (u_scanEnd : Value) (u_isolationMz : Value) (u_isolationWidth : Value) (u_collisionEnergy : Value) (h0 : Heap) (n0 : Nat) (v : Option Value) (h : Heap) (L : List Loc) : Prop := v = none ∧ Fr n0 L ∧ Keep h0 h [a1] ∧ Exa Z h a1 "com/example/raie/raie/made/WindowRow" ∧ Fld Z h a1 "com/example/raie/raie/made/WindowRow" "group" "I" (.int q2) ∧ Fld Z h a1 "com/example/raie/raie/made/WindowRow" "scanBegin" "I" (.int q3) ∧ Fld Z h a1 "com/example/raie/raie/made/WindowRow" "scanEnd" "I" (.int q4) ∧ Fld Z h a1 "com/example/raie/raie/made/WindowRow" "isolationMz" "D" (.double q5) ∧ Fld Z h a1 "com/example/raie/raie/made/WindowRow" "isolationWidth" "D" (.double q6) ∧ Fld Z h a1 "com/example/raie/raie/made/WindowRow" "collisionEnergy" "D" (.double q7)
set_option maxRecDepth 65536 in
set_option maxHeartbeats 40000000 in
theorem rm1 (l : Launch) (Z : State) (a0 : Array Value) (hw : ∀ d ∈ tables_1, d.before a0 Z = true) (a1 : Addr) (q2 : Int32) (q3 : Int32) (q4 : Int32) (q5 : UInt64) (q6 : UInt64) (q7 : UInt64) (u_group : Value) (u_scanBegin : Value) (u_scanEnd : Value) (u_isolationMz : Value) (u_isolationWidth : Value) (u_collisionEnergy : Value) (h0 : Heap) (n0 : Nat) (Z0 : n0 ≤ h0.size) (E_a1 : Exa Z h0 a1 "com/example/raie/raie/made/WindowRow") (g_a1 : n0 ≤ a1) (F_group : Fld Z h0 a1 "com/example/raie/raie/made/WindowRow" "group" "I" u_group) (F_scanBegin : Fld Z h0 a1 "com/example/raie/raie/made/WindowRow" "scanBegin" "I" u_scanBegin) (F_scanEnd : Fld Z h0 a1 "com/example/raie/raie/made/WindowRow" "scanEnd" "I" u_scanEnd) (F_isolationMz : Fld Z h0 a1 "com/example/raie/raie/made/WindowRow" "isolationMz" "D" u_isolationMz) (F_isolationWidth : Fld Z h0 a1 "com/example/raie/raie/made/WindowRow" "isolationWidth" "D" u_isolationWidth) (F_collisionEnergy : Fld Z h0 a1 "com/example/raie/raie/made/WindowRow" "collisionEnergy" "D" u_collisionEnergy) :
    MetN l Z (⟨"com/example/raie/raie/made/WindowRow", "<init>", "(IIIDDD)V"⟩ : MethodName) prog_56_method_1_code 10 none [] ({ frames := 2, cells := 0, slots := 0, locals := 24 } : Room) #[(.ref a1), (.int q2), (.int q3), (.int q4), (.double q5), (.double q6), (.double q7)] h0 (Q1 Z a1 q2 q3 q4 q5 q6 q7 u_group u_scanBegin u_scanEnd u_isolationMz u_isolationWidth u_collisionEnergy h0 n0) := by
  refine met_n (plainFor_of_name pn_1) (fun m => ef_1 m a1 q2 q3 q4 q5 q6 q7) ?_
  intro p e s m below meth c s₁ X0 hx hby hml hZ hown hnm hret hlk e0
  replace hown : s.vm.findClass "com/example/raie/raie/made/WindowRow" = some m.cls := hown
  replace hnm : meth.name = "<init>" := hnm
  replace hret : meth.sig.returnType = none := hret
  have N0 := Fr.nil n0
  have K0 : Keep h0 h0 [a1] := Keep.refl _ _
  show Ok p e below _ _ s₁ (mkF m 0 #[.val (.ref a1), .val (.int q2), .val (.int q3), .val (.int q4), .val (.double q5), .second, .val (.double q6), .second, .val (.double q7), .second] [])
  refine Ok.aloadN (pc' := 1) X0 hx (hb hby d1_0) rfl rfl rfl ?_
  refine Ok.init (pc' := 4) (W := 0) (a := a1)  (argsL := []) (rest := []) X0 hx hZ hown (rm2 l Z a0 hw a1 h0 n0 Z0 ) rfl (hw _ (List.mem_of_getElem? (i := 8) rfl)) (hw _ (List.mem_of_getElem? (i := 9) rfl)) (hw _ (List.mem_of_getElem? (i := 11) rfl)) (hw _ (List.mem_of_getElem? (i := 12) rfl)) (by decide) e0 (by decide) (by decide) (by decide) (by decide) (lenOf pd_1 rfl) rfl rfl (Nat.le_of_eq rfl) (by rw [hml]; rfl) (hb hby d1_1) rfl ?_
  intro v2 T2 L2 X2 hQ2
  obtain ⟨rfl, Nq2, eq2⟩ := hQ2
  have N2 := Fr.app N0 Nq2
  show Ok p e below _ _ T2 (mkF m 4 #[.val (.ref a1), .val (.int q2), .val (.int q3), .val (.int q4), .val (.double q5), .second, .val (.double q6), .second, .val (.double q7), .second] [])
  refine Ok.aloadN (pc' := 5) X2 hx (hb hby d1_4) rfl rfl rfl ?_
  refine Ok.iloadN (pc' := 6) X2 hx (hb hby d1_5) rfl rfl ?_
  refine Ok.putF (pc' := 9) (ty := .int) X2 hx hZ hown (host := "") (Or.inl (hw _ (List.mem_of_getElem? (i := 16) rfl))) Via.refl eq2 F_group E_a1 (Or.inr ⟨(hw _ (List.mem_of_getElem? (i := 17) rfl)), rfl, hnm⟩) (hw _ (List.mem_of_getElem? (i := 2) rfl)) (by decide) rfl rfl (hb hby d1_6) rfl ?_
  intro T3 h3 X3 e3 W3
  replace F_group := F_group.same W3
  replace E_a1 := E_a1.wr W3
  replace F_scanBegin := F_scanBegin.other W3 (Or.inr (slot_ne (Or.inr (hw _ (List.mem_of_getElem? (i := 19) rfl))) (Or.inr (hw _ (List.mem_of_getElem? (i := 17) rfl))) (by decide) (t := .int) (t' := .int) (by decide) (by decide)))
  replace F_scanEnd := F_scanEnd.other W3 (Or.inr (slot_ne (Or.inr (hw _ (List.mem_of_getElem? (i := 21) rfl))) (Or.inr (hw _ (List.mem_of_getElem? (i := 17) rfl))) (by decide) (t := .int) (t' := .int) (by decide) (by decide)))
  replace F_isolationMz := F_isolationMz.other W3 (Or.inr (slot_ne (Or.inr (hw _ (List.mem_of_getElem? (i := 23) rfl))) (Or.inr (hw _ (List.mem_of_getElem? (i := 17) rfl))) (by decide) (t := .double) (t' := .int) (by decide) (by decide)))
  replace F_isolationWidth := F_isolationWidth.other W3 (Or.inr (slot_ne (Or.inr (hw _ (List.mem_of_getElem? (i := 25) rfl))) (Or.inr (hw _ (List.mem_of_getElem? (i := 17) rfl))) (by decide) (t := .double) (t' := .int) (by decide) (by decide)))
  replace F_collisionEnergy := F_collisionEnergy.other W3 (Or.inr (slot_ne (Or.inr (hw _ (List.mem_of_getElem? (i := 27) rfl))) (Or.inr (hw _ (List.mem_of_getElem? (i := 17) rfl))) (by decide) (t := .double) (t' := .int) (by decide) (by decide)))
  have N3 := Fr.snoc X3 N2 g_a1
  have K3 : Keep h0 h3 [a1] := K0.wr W3 (Or.inl (List.mem_of_getElem? (i := 0) rfl))
  have Z4 : n0 ≤ h3.size := Nat.le_trans Z0 (Keep.of_wr W3).1
  refine Ok.aloadN (pc' := 10) X3 hx (hb hby d1_9) rfl rfl rfl ?_
  refine Ok.iloadN (pc' := 11) X3 hx (hb hby d1_10) rfl rfl ?_
  refine Ok.putF (pc' := 14) (ty := .int) X3 hx hZ hown (host := "") (Or.inl (hw _ (List.mem_of_getElem? (i := 18) rfl))) Via.refl e3 F_scanBegin E_a1 (Or.inr ⟨(hw _ (List.mem_of_getElem? (i := 19) rfl)), rfl, hnm⟩) (hw _ (List.mem_of_getElem? (i := 2) rfl)) (by decide) rfl rfl (hb hby d1_11) rfl ?_
  intro T5 h5 X5 e5 W5
  replace F_scanBegin := F_scanBegin.same W5
  replace E_a1 := E_a1.wr W5
  replace F_scanEnd := F_scanEnd.other W5 (Or.inr (slot_ne (Or.inr (hw _ (List.mem_of_getElem? (i := 21) rfl))) (Or.inr (hw _ (List.mem_of_getElem? (i := 19) rfl))) (by decide) (t := .int) (t' := .int) (by decide) (by decide)))
  replace F_isolationMz := F_isolationMz.other W5 (Or.inr (slot_ne (Or.inr (hw _ (List.mem_of_getElem? (i := 23) rfl))) (Or.inr (hw _ (List.mem_of_getElem? (i := 19) rfl))) (by decide) (t := .double) (t' := .int) (by decide) (by decide)))
  replace F_isolationWidth := F_isolationWidth.other W5 (Or.inr (slot_ne (Or.inr (hw _ (List.mem_of_getElem? (i := 25) rfl))) (Or.inr (hw _ (List.mem_of_getElem? (i := 19) rfl))) (by decide) (t := .double) (t' := .int) (by decide) (by decide)))
  replace F_collisionEnergy := F_collisionEnergy.other W5 (Or.inr (slot_ne (Or.inr (hw _ (List.mem_of_getElem? (i := 27) rfl))) (Or.inr (hw _ (List.mem_of_getElem? (i := 19) rfl))) (by decide) (t := .double) (t' := .int) (by decide) (by decide)))
  replace F_group := F_group.other W5 (Or.inr (slot_ne (Or.inr (hw _ (List.mem_of_getElem? (i := 17) rfl))) (Or.inr (hw _ (List.mem_of_getElem? (i := 19) rfl))) (by decide) (t := .int) (t' := .int) (by decide) (by decide)))
  have N5 := Fr.snoc X5 N3 g_a1
  have K5 : Keep h0 h5 [a1] := K3.wr W5 (Or.inl (List.mem_of_getElem? (i := 0) rfl))
  have Z6 : n0 ≤ h5.size := Nat.le_trans Z4 (Keep.of_wr W5).1
  refine Ok.aloadN (pc' := 15) X5 hx (hb hby d1_14) rfl rfl rfl ?_
  refine Ok.iloadN (pc' := 16) X5 hx (hb hby d1_15) rfl rfl ?_
  refine Ok.putF (pc' := 19) (ty := .int) X5 hx hZ hown (host := "") (Or.inl (hw _ (List.mem_of_getElem? (i := 20) rfl))) Via.refl e5 F_scanEnd E_a1 (Or.inr ⟨(hw _ (List.mem_of_getElem? (i := 21) rfl)), rfl, hnm⟩) (hw _ (List.mem_of_getElem? (i := 2) rfl)) (by decide) rfl rfl (hb hby d1_16) rfl ?_
  intro T7 h7 X7 e7 W7
  replace F_scanEnd := F_scanEnd.same W7
  replace E_a1 := E_a1.wr W7
  replace F_isolationMz := F_isolationMz.other W7 (Or.inr (slot_ne (Or.inr (hw _ (List.mem_of_getElem? (i := 23) rfl))) (Or.inr (hw _ (List.mem_of_getElem? (i := 21) rfl))) (by decide) (t := .double) (t' := .int) (by decide) (by decide)))
  replace F_isolationWidth := F_isolationWidth.other W7 (Or.inr (slot_ne (Or.inr (hw _ (List.mem_of_getElem? (i := 25) rfl))) (Or.inr (hw _ (List.mem_of_getElem? (i := 21) rfl))) (by decide) (t := .double) (t' := .int) (by decide) (by decide)))
  replace F_collisionEnergy := F_collisionEnergy.other W7 (Or.inr (slot_ne (Or.inr (hw _ (List.mem_of_getElem? (i := 27) rfl))) (Or.inr (hw _ (List.mem_of_getElem? (i := 21) rfl))) (by decide) (t := .double) (t' := .int) (by decide) (by decide)))
  replace F_group := F_group.other W7 (Or.inr (slot_ne (Or.inr (hw _ (List.mem_of_getElem? (i := 17) rfl))) (Or.inr (hw _ (List.mem_of_getElem? (i := 21) rfl))) (by decide) (t := .int) (t' := .int) (by decide) (by decide)))
  replace F_scanBegin := F_scanBegin.other W7 (Or.inr (slot_ne (Or.inr (hw _ (List.mem_of_getElem? (i := 19) rfl))) (Or.inr (hw _ (List.mem_of_getElem? (i := 21) rfl))) (by decide) (t := .int) (t' := .int) (by decide) (by decide)))
  have N7 := Fr.snoc X7 N5 g_a1
  have K7 : Keep h0 h7 [a1] := K5.wr W7 (Or.inl (List.mem_of_getElem? (i := 0) rfl))
  have Z8 : n0 ≤ h7.size := Nat.le_trans Z6 (Keep.of_wr W7).1
  refine Ok.aloadN (pc' := 20) X7 hx (hb hby d1_19) rfl rfl rfl ?_
  refine Ok.dload (pc' := 22) X7 hx (hb hby d1_20) rfl rfl ?_
  refine Ok.putF (pc' := 25) (ty := .double) X7 hx hZ hown (host := "") (Or.inl (hw _ (List.mem_of_getElem? (i := 22) rfl))) Via.refl e7 F_isolationMz E_a1 (Or.inr ⟨(hw _ (List.mem_of_getElem? (i := 23) rfl)), rfl, hnm⟩) (hw _ (List.mem_of_getElem? (i := 2) rfl)) (by decide) rfl rfl (hb hby d1_22) rfl ?_
  intro T9 h9 X9 e9 W9
  replace F_isolationMz := F_isolationMz.same W9
  replace E_a1 := E_a1.wr W9
  replace F_isolationWidth := F_isolationWidth.other W9 (Or.inr (slot_ne (Or.inr (hw _ (List.mem_of_getElem? (i := 25) rfl))) (Or.inr (hw _ (List.mem_of_getElem? (i := 23) rfl))) (by decide) (t := .double) (t' := .double) (by decide) (by decide)))
  replace F_collisionEnergy := F_collisionEnergy.other W9 (Or.inr (slot_ne (Or.inr (hw _ (List.mem_of_getElem? (i := 27) rfl))) (Or.inr (hw _ (List.mem_of_getElem? (i := 23) rfl))) (by decide) (t := .double) (t' := .double) (by decide) (by decide)))
  replace F_group := F_group.other W9 (Or.inr (slot_ne (Or.inr (hw _ (List.mem_of_getElem? (i := 17) rfl))) (Or.inr (hw _ (List.mem_of_getElem? (i := 23) rfl))) (by decide) (t := .int) (t' := .double) (by decide) (by decide)))
  replace F_scanBegin := F_scanBegin.other W9 (Or.inr (slot_ne (Or.inr (hw _ (List.mem_of_getElem? (i := 19) rfl))) (Or.inr (hw _ (List.mem_of_getElem? (i := 23) rfl))) (by decide) (t := .int) (t' := .double) (by decide) (by decide)))
  replace F_scanEnd := F_scanEnd.other W9 (Or.inr (slot_ne (Or.inr (hw _ (List.mem_of_getElem? (i := 21) rfl))) (Or.inr (hw _ (List.mem_of_getElem? (i := 23) rfl))) (by decide) (t := .int) (t' := .double) (by decide) (by decide)))
  have N9 := Fr.snoc X9 N7 g_a1
  have K9 : Keep h0 h9 [a1] := K7.wr W9 (Or.inl (List.mem_of_getElem? (i := 0) rfl))
  have Z10 : n0 ≤ h9.size := Nat.le_trans Z8 (Keep.of_wr W9).1
  refine Ok.aloadN (pc' := 26) X9 hx (hb hby d1_25) rfl rfl rfl ?_
  refine Ok.dload (pc' := 28) X9 hx (hb hby d1_26) rfl rfl ?_
  refine Ok.putF (pc' := 31) (ty := .double) X9 hx hZ hown (host := "") (Or.inl (hw _ (List.mem_of_getElem? (i := 24) rfl))) Via.refl e9 F_isolationWidth E_a1 (Or.inr ⟨(hw _ (List.mem_of_getElem? (i := 25) rfl)), rfl, hnm⟩) (hw _ (List.mem_of_getElem? (i := 2) rfl)) (by decide) rfl rfl (hb hby d1_28) rfl ?_
  intro T11 h11 X11 e11 W11
  replace F_isolationWidth := F_isolationWidth.same W11
  replace E_a1 := E_a1.wr W11
  replace F_collisionEnergy := F_collisionEnergy.other W11 (Or.inr (slot_ne (Or.inr (hw _ (List.mem_of_getElem? (i := 27) rfl))) (Or.inr (hw _ (List.mem_of_getElem? (i := 25) rfl))) (by decide) (t := .double) (t' := .double) (by decide) (by decide)))
  replace F_group := F_group.other W11 (Or.inr (slot_ne (Or.inr (hw _ (List.mem_of_getElem? (i := 17) rfl))) (Or.inr (hw _ (List.mem_of_getElem? (i := 25) rfl))) (by decide) (t := .int) (t' := .double) (by decide) (by decide)))
  replace F_scanBegin := F_scanBegin.other W11 (Or.inr (slot_ne (Or.inr (hw _ (List.mem_of_getElem? (i := 19) rfl))) (Or.inr (hw _ (List.mem_of_getElem? (i := 25) rfl))) (by decide) (t := .int) (t' := .double) (by decide) (by decide)))
  replace F_scanEnd := F_scanEnd.other W11 (Or.inr (slot_ne (Or.inr (hw _ (List.mem_of_getElem? (i := 21) rfl))) (Or.inr (hw _ (List.mem_of_getElem? (i := 25) rfl))) (by decide) (t := .int) (t' := .double) (by decide) (by decide)))
  replace F_isolationMz := F_isolationMz.other W11 (Or.inr (slot_ne (Or.inr (hw _ (List.mem_of_getElem? (i := 23) rfl))) (Or.inr (hw _ (List.mem_of_getElem? (i := 25) rfl))) (by decide) (t := .double) (t' := .double) (by decide) (by decide)))
  have N11 := Fr.snoc X11 N9 g_a1
  have K11 : Keep h0 h11 [a1] := K9.wr W11 (Or.inl (List.mem_of_getElem? (i := 0) rfl))
  have Z12 : n0 ≤ h11.size := Nat.le_trans Z10 (Keep.of_wr W11).1
  refine Ok.aloadN (pc' := 32) X11 hx (hb hby d1_31) rfl rfl rfl ?_
  refine Ok.dload (pc' := 34) X11 hx (hb hby d1_32) rfl rfl ?_
  refine Ok.putF (pc' := 37) (ty := .double) X11 hx hZ hown (host := "") (Or.inl (hw _ (List.mem_of_getElem? (i := 26) rfl))) Via.refl e11 F_collisionEnergy E_a1 (Or.inr ⟨(hw _ (List.mem_of_getElem? (i := 27) rfl)), rfl, hnm⟩) (hw _ (List.mem_of_getElem? (i := 2) rfl)) (by decide) rfl rfl (hb hby d1_34) rfl ?_
  intro T13 h13 X13 e13 W13
  replace F_collisionEnergy := F_collisionEnergy.same W13
  replace E_a1 := E_a1.wr W13
  replace F_group := F_group.other W13 (Or.inr (slot_ne (Or.inr (hw _ (List.mem_of_getElem? (i := 17) rfl))) (Or.inr (hw _ (List.mem_of_getElem? (i := 27) rfl))) (by decide) (t := .int) (t' := .double) (by decide) (by decide)))
  replace F_scanBegin := F_scanBegin.other W13 (Or.inr (slot_ne (Or.inr (hw _ (List.mem_of_getElem? (i := 19) rfl))) (Or.inr (hw _ (List.mem_of_getElem? (i := 27) rfl))) (by decide) (t := .int) (t' := .double) (by decide) (by decide)))
  replace F_scanEnd := F_scanEnd.other W13 (Or.inr (slot_ne (Or.inr (hw _ (List.mem_of_getElem? (i := 21) rfl))) (Or.inr (hw _ (List.mem_of_getElem? (i := 27) rfl))) (by decide) (t := .int) (t' := .double) (by decide) (by decide)))
  replace F_isolationMz := F_isolationMz.other W13 (Or.inr (slot_ne (Or.inr (hw _ (List.mem_of_getElem? (i := 23) rfl))) (Or.inr (hw _ (List.mem_of_getElem? (i := 27) rfl))) (by decide) (t := .double) (t' := .double) (by decide) (by decide)))
  replace F_isolationWidth := F_isolationWidth.other W13 (Or.inr (slot_ne (Or.inr (hw _ (List.mem_of_getElem? (i := 25) rfl))) (Or.inr (hw _ (List.mem_of_getElem? (i := 27) rfl))) (by decide) (t := .double) (t' := .double) (by decide) (by decide)))
  have N13 := Fr.snoc X13 N11 g_a1
  have K13 : Keep h0 h13 [a1] := K11.wr W13 (Or.inl (List.mem_of_getElem? (i := 0) rfl))
  have Z14 : n0 ≤ h13.size := Nat.le_trans Z12 (Keep.of_wr W13).1
  refine Ok.retV X13 hx hret hlk (hb hby d1_37) (by decide) (by decide) ?_
  show Q1 Z a1 q2 q3 q4 q5 q6 q7 u_group u_scanBegin u_scanEnd u_isolationMz u_isolationWidth u_collisionEnergy h0 n0 _ T13.heap _
  rw [e13]
  exact ⟨rfl, N13, K13, E_a1, F_group, F_scanBegin, F_scanEnd, F_isolationMz, F_isolationWidth, F_collisionEnergy⟩
theorem d3_0 : decode prog_56_method_4_code 0 = .ok (.dload_n 1, 1) := by decide +kernel
theorem d3_1 : decode prog_56_method_4_code 1 = .ok (.aload_n 0, 1) := by decide +kernel
theorem d3_2 : decode prog_56_method_4_code 2 = .ok (.getfield 19, 3) := by decide +kernel
theorem d3_5 : decode prog_56_method_4_code 5 = .ok (.aload_n 0, 1) := by decide +kernel
theorem d3_6 : decode prog_56_method_4_code 6 = .ok (.getfield 23, 3) := by decide +kernel
theorem d3_9 : decode prog_56_method_4_code 9 = .ok (.ldc2_w 81, 3) := by decide +kernel
theorem d3_12 : decode prog_56_method_4_code 12 = .ok (.ddiv, 1) := by decide +kernel
theorem d3_13 : decode prog_56_method_4_code 13 = .ok (.dsub, 1) := by decide +kernel
theorem d3_14 : decode prog_56_method_4_code 14 = .ok (.dcmp .l, 1) := by decide +kernel
theorem d3_15 : decode prog_56_method_4_code 15 = .ok (.ifCond .lt 25, 3) := by decide +kernel
theorem d3_18 : decode prog_56_method_4_code 18 = .ok (.dload_n 1, 1) := by decide +kernel
theorem d3_19 : decode prog_56_method_4_code 19 = .ok (.aload_n 0, 1) := by decide +kernel
theorem d3_20 : decode prog_56_method_4_code 20 = .ok (.getfield 19, 3) := by decide +kernel
theorem d3_23 : decode prog_56_method_4_code 23 = .ok (.aload_n 0, 1) := by decide +kernel
theorem d3_24 : decode prog_56_method_4_code 24 = .ok (.getfield 23, 3) := by decide +kernel
theorem d3_27 : decode prog_56_method_4_code 27 = .ok (.ldc2_w 81, 3) := by decide +kernel
theorem d3_30 : decode prog_56_method_4_code 30 = .ok (.ddiv, 1) := by decide +kernel
theorem d3_31 : decode prog_56_method_4_code 31 = .ok (.dadd, 1) := by decide +kernel
theorem d3_32 : decode prog_56_method_4_code 32 = .ok (.dcmp .g, 1) := by decide +kernel
theorem d3_33 : decode prog_56_method_4_code 33 = .ok (.ifCond .ge 7, 3) := by decide +kernel
theorem d3_36 : decode prog_56_method_4_code 36 = .ok (.iconst 1, 1) := by decide +kernel
theorem d3_37 : decode prog_56_method_4_code 37 = .ok (.goto 4, 3) := by decide +kernel
theorem d3_40 : decode prog_56_method_4_code 40 = .ok (.iconst 0, 1) := by decide +kernel
theorem d3_41 : decode prog_56_method_4_code 41 = .ok (.ireturn, 1) := by decide +kernel
theorem ef_3 (m : MethodId) (x0 : Addr) (x1 : UInt64) : entryFrame m #[(.ref x0), (.double x1)] 3 = mkF m 0 #[.val (.ref x0), .val (.double x1), .second] [] := by first | (simp [entryFrame, mkF, argsToLocals, Value.category]; done) | rfl
def Q3 (Z : State) (a1 : Addr) (mz : UInt64) (iso : UInt64) (wid : UInt64) (nm : Int) (ni : Int) (nh : Int) (h0 : Heap) (n0 : Nat) (v : Option Value) (h : Heap) (L : List Loc) : Prop := ∃ b : Int32, v = some (.int b) ∧ (b.toInt = 1 ∧ (ni - nh ≤ nm ∧ nm < ni + nh) ∨ b.toInt = 0 ∧ ¬ (ni - nh ≤ nm ∧ nm < ni + nh)) ∧ Fr n0 L ∧ h = h0
set_option maxRecDepth 65536 in
set_option maxHeartbeats 40000000 in
theorem rm3 (l : Launch) (Z : State) (a0 : Array Value) (hw : ∀ d ∈ tables_1, d.before a0 Z = true) (a1 : Addr) (mz : UInt64) (iso : UInt64) (wid : UInt64) (nm : Int) (ni : Int) (nh : Int) (h0 : Heap) (n0 : Nat) (Z0 : n0 ≤ h0.size) (F_i : Fld Z h0 a1 "com/example/raie/raie/made/WindowRow" "isolationMz" "D" (.double iso)) (F_w : Fld Z h0 a1 "com/example/raie/raie/made/WindowRow" "isolationWidth" "D" (.double wid)) (Hm : Fl8.E8 nm mz) (Hi : Fl8.E8 ni iso) (Hw : Fl8.E8 (2 * nh) wid) (b1 : ni.natAbs ≤ 4398046511104) (b2 : nh.natAbs ≤ 4398046511104) :
    MetN l Z (⟨"com/example/raie/raie/made/WindowRow", "holdsMz", "(D)Z"⟩ : MethodName) prog_56_method_4_code 3 (some .boolean) [] ({ frames := 0, cells := 0, slots := 0, locals := 0 } : Room) #[(.ref a1), (.double mz)] h0 (Q3 Z a1 mz iso wid nm ni nh h0 n0) := by
  refine met_n (plainFor_of_name pn_1) (fun m => ef_3 m a1 mz) ?_
  intro p e s m below meth c s₁ X0 hx hby hml hZ hown hnm hret hlk e0
  replace hown : s.vm.findClass "com/example/raie/raie/made/WindowRow" = some m.cls := hown
  replace hnm : meth.name = "holdsMz" := hnm
  replace hret : meth.sig.returnType = (some .boolean) := hret
  have N0 := Fr.nil n0
  have K0 : Keep h0 h0 [] := Keep.refl _ _
  show Ok p e below _ _ s₁ (mkF m 0 #[.val (.ref a1), .val (.double mz), .second] [])
  refine Ok.dloadN (pc' := 1) X0 hx (hb hby d3_0) rfl rfl ?_
  refine Ok.aloadN (pc' := 2) X0 hx (hb hby d3_1) rfl rfl rfl ?_
  refine Ok.getF (pc' := 5) X0 hx hZ hown (host := "") (Or.inl (hw _ (List.mem_of_getElem? (i := 22) rfl))) Via.refl e0 F_i (hb hby d3_2) rfl ?_
  intro T15 X15 e15
  refine Ok.aloadN (pc' := 6) X15 hx (hb hby d3_5) rfl rfl rfl ?_
  refine Ok.getF (pc' := 9) X15 hx hZ hown (host := "") (Or.inl (hw _ (List.mem_of_getElem? (i := 24) rfl))) Via.refl e15 F_w (hb hby d3_6) rfl ?_
  intro T16 X16 e16
  refine Ok.ldcD (pc' := 12) (v := (4611686018427387904 : UInt64)) X16 hx hZ hown (hw _ (List.mem_of_getElem? (i := 34) rfl)) (hb hby d3_9) rfl ?_
  have D17 : Fl8.E8 (nh) (FP.ddiv wid (4611686018427387904 : UInt64)) := Fl8.e8_div 1 Fl8.v2 (show Fl8.E8 (((2 ^ 1 : Nat) : Int) * nh) wid from Hw) (by omega)
  refine Ok.ddiv (pc' := 13) X16 hx (hb hby d3_12) rfl (nn D17) ?_
  have D18 : Fl8.E8 (ni - nh) (FP.dsub iso (FP.ddiv wid (4611686018427387904 : UInt64))) := Fl8.e8_sub Hi D17 (by omega)
  refine Ok.dsub (pc' := 14) X16 hx (hb hby d3_13) rfl (nn D18) ?_
  refine Ok.dcmp (pc' := 15) X16 hx (hb hby d3_14) rfl ?_
  have c15 := (Fl8.cv Hm D18 .l).1
  by_cases hc15 : (cmpValue (FP.dcmp mz (FP.dsub iso (FP.ddiv wid (4611686018427387904 : UInt64)))) .l).toInt < 0
  · refine Ok.ifY (pc' := 40) X16 hx (hb hby d3_15) (bt (i0 .lt (cmpValue (FP.dcmp mz (FP.dsub iso (FP.ddiv wid (4611686018427387904 : UInt64)))) .l) (ic_eq (cmpValue (FP.dcmp mz (FP.dsub iso (FP.ddiv wid (4611686018427387904 : UInt64)))) .l) 0).2.2.1) hc15) (by decide) (by decide) ?_
    refine Ok.iconst (z := (0 : Int32)) (pc' := 41) X16 hx (hb hby d3_40) rfl rfl ?_
    refine Ok.retI X16 hx hret hlk (Or.inr (Or.inl rfl)) rfl (hb hby d3_41) (by decide) (by decide) ?_
    show Q3 Z a1 mz iso wid nm ni nh h0 n0 _ T16.heap _
    rw [e16]
    exact ⟨(0 : Int32), rfl, by rw [show ((0 : Int32)).toInt = 0 from rfl]; omega, N0, rfl⟩
  · refine Ok.ifN (pc' := 18) X16 hx (hb hby d3_15) (bf (i0 .lt (cmpValue (FP.dcmp mz (FP.dsub iso (FP.ddiv wid (4611686018427387904 : UInt64)))) .l) (ic_eq (cmpValue (FP.dcmp mz (FP.dsub iso (FP.ddiv wid (4611686018427387904 : UInt64)))) .l) 0).2.2.1) hc15) rfl ?_
    refine Ok.dloadN (pc' := 19) X16 hx (hb hby d3_18) rfl rfl ?_
    refine Ok.aloadN (pc' := 20) X16 hx (hb hby d3_19) rfl rfl rfl ?_
    refine Ok.getF (pc' := 23) X16 hx hZ hown (host := "") (Or.inl (hw _ (List.mem_of_getElem? (i := 22) rfl))) Via.refl e16 F_i (hb hby d3_20) rfl ?_
    intro T19 X19 e19
    refine Ok.aloadN (pc' := 24) X19 hx (hb hby d3_23) rfl rfl rfl ?_
    refine Ok.getF (pc' := 27) X19 hx hZ hown (host := "") (Or.inl (hw _ (List.mem_of_getElem? (i := 24) rfl))) Via.refl e19 F_w (hb hby d3_24) rfl ?_
    intro T20 X20 e20
    refine Ok.ldcD (pc' := 30) (v := (4611686018427387904 : UInt64)) X20 hx hZ hown (hw _ (List.mem_of_getElem? (i := 34) rfl)) (hb hby d3_27) rfl ?_
    have D21 : Fl8.E8 (nh) (FP.ddiv wid (4611686018427387904 : UInt64)) := Fl8.e8_div 1 Fl8.v2 (show Fl8.E8 (((2 ^ 1 : Nat) : Int) * nh) wid from Hw) (by omega)
    refine Ok.ddiv (pc' := 31) X20 hx (hb hby d3_30) rfl (nn D21) ?_
    have D22 : Fl8.E8 (ni + nh) (FP.dadd iso (FP.ddiv wid (4611686018427387904 : UInt64))) := Fl8.e8_add Hi D21 (by omega)
    refine Ok.dadd (pc' := 32) X20 hx (hb hby d3_31) rfl (nn D22) ?_
    refine Ok.dcmp (pc' := 33) X20 hx (hb hby d3_32) rfl ?_
    have c33 := (Fl8.cv Hm D22 .g).2
    by_cases hc33 : 0 ≤ (cmpValue (FP.dcmp mz (FP.dadd iso (FP.ddiv wid (4611686018427387904 : UInt64)))) .g).toInt
    · refine Ok.ifY (pc' := 40) X20 hx (hb hby d3_33) (bt (i0 .ge (cmpValue (FP.dcmp mz (FP.dadd iso (FP.ddiv wid (4611686018427387904 : UInt64)))) .g) (ic_eq (cmpValue (FP.dcmp mz (FP.dadd iso (FP.ddiv wid (4611686018427387904 : UInt64)))) .g) 0).2.2.2.1) hc33) (by decide) (by decide) ?_
      refine Ok.iconst (z := (0 : Int32)) (pc' := 41) X20 hx (hb hby d3_40) rfl rfl ?_
      refine Ok.retI X20 hx hret hlk (Or.inr (Or.inl rfl)) rfl (hb hby d3_41) (by decide) (by decide) ?_
      show Q3 Z a1 mz iso wid nm ni nh h0 n0 _ T20.heap _
      rw [e20]
      exact ⟨(0 : Int32), rfl, by rw [show ((0 : Int32)).toInt = 0 from rfl]; omega, N0, rfl⟩
    · refine Ok.ifN (pc' := 36) X20 hx (hb hby d3_33) (bf (i0 .ge (cmpValue (FP.dcmp mz (FP.dadd iso (FP.ddiv wid (4611686018427387904 : UInt64)))) .g) (ic_eq (cmpValue (FP.dcmp mz (FP.dadd iso (FP.ddiv wid (4611686018427387904 : UInt64)))) .g) 0).2.2.2.1) hc33) rfl ?_
      refine Ok.iconst (z := (1 : Int32)) (pc' := 37) X20 hx (hb hby d3_36) rfl rfl ?_
      refine Ok.goto (pc' := 41) X20 hx (hb hby d3_37) (by decide) (by decide) ?_
      refine Ok.retI X20 hx hret hlk (Or.inr (Or.inl rfl)) rfl (hb hby d3_41) (by decide) (by decide) ?_
      show Q3 Z a1 mz iso wid nm ni nh h0 n0 _ T20.heap _
      rw [e20]
      exact ⟨(1 : Int32), rfl, by rw [show ((1 : Int32)).toInt = 1 from rfl]; omega, N0, rfl⟩
theorem pn_2 : plainName "com/example/raie/raie/made/WindowRowHoldsMzPinLaw" = true := by first | (simp [plainName, overriddenIn]; done) | decide +kernel
theorem ef_0 (m : MethodId) (x0 : Int32) (x1 : Int32) (x2 : Int32) (x3 : Int32) (x4 : Int32) (x5 : Int32) : entryFrame m #[(.int x0), (.int x1), (.int x2), (.int x3), (.int x4), (.int x5)] maxLocals = mkF m 0 #[.val (.int x0), .val (.int x1), .val (.int x2), .val (.int x3), .val (.int x4), .val (.int x5), .unset, .unset, .unset, .unset, .unset, .unset, .unset, .unset, .unset, .unset, .unset, .unset] [] := by first | (simp [entryFrame, mkF, argsToLocals, Value.category, maxLocals]; done) | rfl
def Q0 (Z : State) (p0 : Int32) (p1 : Int32) (p2 : Int32) (p3 : Int32) (p4 : Int32) (p5 : Int32) (h0 : Heap) (n0 : Nat) (v : Option Value) (h : Heap) (L : List Loc) : Prop := v = some (.int (1 : Int32)) ∧ Fr n0 L
set_option maxRecDepth 65536 in
set_option maxHeartbeats 40000000 in
theorem rm0 (l : Launch) (Z : State) (a0 : Array Value) (hw : ∀ d ∈ tables_1, d.before a0 Z = true) (ws : List Jvm.Cond) (p0 : Int32) (p1 : Int32) (p2 : Int32) (p3 : Int32) (p4 : Int32) (p5 : Int32) (h0 : Heap) (n0 : Nat) (Z0 : n0 ≤ h0.size)  :
    MetN l Z x code maxLocals ret ws room_1 #[(.int p0), (.int p1), (.int p2), (.int p3), (.int p4), (.int p5)] h0 (Q0 Z p0 p1 p2 p3 p4 p5 h0 n0) := by
  refine met_n (plainFor_of_name pn_2) (fun m => ef_0 m p0 p1 p2 p3 p4 p5) ?_
  intro p e s m below meth c s₁ X0 hx hby hml hZ hown hnm hret hlk e0
  replace hown : s.vm.findClass "com/example/raie/raie/made/WindowRowHoldsMzPinLaw" = some m.cls := hown
  replace hnm : meth.name = "law" := hnm
  replace hret : meth.sig.returnType = (some .boolean) := hret
  have N0 := Fr.nil n0
  have K0 : Keep h0 h0 [] := Keep.refl _ _
  show Ok p e below _ _ s₁ (mkF m 0 #[.val (.int p0), .val (.int p1), .val (.int p2), .val (.int p3), .val (.int p4), .val (.int p5), .unset, .unset, .unset, .unset, .unset, .unset, .unset, .unset, .unset, .unset, .unset, .unset] [])
  refine Ok.iloadN (pc' := 1) X0 hx (hb hby at_0) rfl rfl ?_
  refine Ok.bipush (z := (12 : Int32)) (pc' := 3) X0 hx (hb hby at_1) rfl rfl ?_
  refine Ok.ishr (pc' := 4) X0 hx (hb hby at_3) rfl ?_
  obtain ⟨ca, e_ca, h_ca⟩ : ∃ z : Int32, (p0 >>> ((12 : Int32) &&& 31)) = z ∧ -524288 ≤ z.toInt ∧ z.toInt ≤ 524287 := ⟨_, rfl, shr12 p0⟩
  rw [e_ca]
  show Ok p e below _ _ s₁ (mkF m 4 #[.val (.int p0), .val (.int p1), .val (.int p2), .val (.int p3), .val (.int p4), .val (.int p5), .unset, .unset, .unset, .unset, .unset, .unset, .unset, .unset, .unset, .unset, .unset, .unset] [(.int ca)])
  refine Ok.istore (l' := #[.val (.int p0), .val (.int p1), .val (.int p2), .val (.int p3), .val (.int p4), .val (.int p5), .val (.int ca), .unset, .unset, .unset, .unset, .unset, .unset, .unset, .unset, .unset, .unset, .unset]) (pc' := 6) X0 hx (hb hby at_4) rfl rfl ?_
  refine Ok.iloadN (pc' := 7) X0 hx (hb hby at_6) rfl rfl ?_
  refine Ok.bipush (z := (12 : Int32)) (pc' := 9) X0 hx (hb hby at_7) rfl rfl ?_
  refine Ok.ishr (pc' := 10) X0 hx (hb hby at_9) rfl ?_
  obtain ⟨cw, e_cw, h_cw⟩ : ∃ z : Int32, (p1 >>> ((12 : Int32) &&& 31)) = z ∧ -524288 ≤ z.toInt ∧ z.toInt ≤ 524287 := ⟨_, rfl, shr12 p1⟩
  rw [e_cw]
  show Ok p e below _ _ s₁ (mkF m 10 #[.val (.int p0), .val (.int p1), .val (.int p2), .val (.int p3), .val (.int p4), .val (.int p5), .val (.int ca), .unset, .unset, .unset, .unset, .unset, .unset, .unset, .unset, .unset, .unset, .unset] [(.int cw)])
  refine Ok.istore (l' := #[.val (.int p0), .val (.int p1), .val (.int p2), .val (.int p3), .val (.int p4), .val (.int p5), .val (.int ca), .val (.int cw), .unset, .unset, .unset, .unset, .unset, .unset, .unset, .unset, .unset, .unset]) (pc' := 12) X0 hx (hb hby at_10) rfl rfl ?_
  refine Ok.ldcJ (pc' := 15) (v := (2 : Int64)) X0 hx hZ hown (hw _ (List.mem_of_getElem? (i := 0) rfl)) (hb hby at_12) rfl ?_
  refine Ok.iload (pc' := 17) X0 hx (hb hby at_15) rfl rfl ?_
  refine Ok.i2l (pc' := 18) X0 hx (hb hby at_17) rfl ?_
  refine Ok.lmul (pc' := 19) X0 hx (hb hby at_18) rfl ?_
  refine Ok.iload (pc' := 21) X0 hx (hb hby at_19) rfl rfl ?_
  refine Ok.i2l (pc' := 22) X0 hx (hb hby at_21) rfl ?_
  refine Ok.lsub (pc' := 23) X0 hx (hb hby at_22) rfl ?_
  obtain ⟨lo, e_lo, h_lo⟩ : ∃ z : Int64, (((2 : Int64) * ca.toInt64) - cw.toInt64) = z ∧ z.toInt = 2 * ca.toInt - cw.toInt := ⟨_, rfl, (lo_v h_ca.1 h_ca.2 h_cw.1 h_cw.2).1⟩
  rw [e_lo]
  show Ok p e below _ _ s₁ (mkF m 23 #[.val (.int p0), .val (.int p1), .val (.int p2), .val (.int p3), .val (.int p4), .val (.int p5), .val (.int ca), .val (.int cw), .unset, .unset, .unset, .unset, .unset, .unset, .unset, .unset, .unset, .unset] [(.long lo)])
  refine Ok.lstore (l' := #[.val (.int p0), .val (.int p1), .val (.int p2), .val (.int p3), .val (.int p4), .val (.int p5), .val (.int ca), .val (.int cw), .val (.long lo), .second, .unset, .unset, .unset, .unset, .unset, .unset, .unset, .unset]) (pc' := 25) X0 hx (hb hby at_23) rfl rfl ?_
  refine Ok.ldcJ (pc' := 28) (v := (2 : Int64)) X0 hx hZ hown (hw _ (List.mem_of_getElem? (i := 0) rfl)) (hb hby at_25) rfl ?_
  refine Ok.iload (pc' := 30) X0 hx (hb hby at_28) rfl rfl ?_
  refine Ok.i2l (pc' := 31) X0 hx (hb hby at_30) rfl ?_
  refine Ok.lmul (pc' := 32) X0 hx (hb hby at_31) rfl ?_
  refine Ok.iload (pc' := 34) X0 hx (hb hby at_32) rfl rfl ?_
  refine Ok.i2l (pc' := 35) X0 hx (hb hby at_34) rfl ?_
  refine Ok.ladd (pc' := 36) X0 hx (hb hby at_35) rfl ?_
  obtain ⟨hi, e_hi, h_hi⟩ : ∃ z : Int64, (((2 : Int64) * ca.toInt64) + cw.toInt64) = z ∧ z.toInt = 2 * ca.toInt + cw.toInt := ⟨_, rfl, (lo_v h_ca.1 h_ca.2 h_cw.1 h_cw.2).2⟩
  rw [e_hi]
  show Ok p e below _ _ s₁ (mkF m 36 #[.val (.int p0), .val (.int p1), .val (.int p2), .val (.int p3), .val (.int p4), .val (.int p5), .val (.int ca), .val (.int cw), .val (.long lo), .second, .unset, .unset, .unset, .unset, .unset, .unset, .unset, .unset] [(.long hi)])
  refine Ok.lstore (l' := #[.val (.int p0), .val (.int p1), .val (.int p2), .val (.int p3), .val (.int p4), .val (.int p5), .val (.int ca), .val (.int cw), .val (.long lo), .second, .val (.long hi), .second, .unset, .unset, .unset, .unset, .unset, .unset]) (pc' := 38) X0 hx (hb hby at_36) rfl rfl ?_
  refine Ok.iloadN (pc' := 39) X0 hx (hb hby at_38) rfl rfl ?_
  refine Ok.iconst (z := (3 : Int32)) (pc' := 40) X0 hx (hb hby at_39) rfl rfl ?_
  refine Ok.iand (pc' := 41) X0 hx (hb hby at_40) rfl ?_
  refine Ok.istore (l' := #[.val (.int p0), .val (.int p1), .val (.int p2), .val (.int p3), .val (.int p4), .val (.int p5), .val (.int ca), .val (.int cw), .val (.long lo), .second, .val (.long hi), .second, .val (.int (p3 &&& (3 : Int32))), .unset, .unset, .unset, .unset, .unset]) (pc' := 43) X0 hx (hb hby at_41) rfl rfl ?_
  refine Ok.iloadN (pc' := 44) X0 hx (hb hby at_43) rfl rfl ?_
  refine Ok.iconst (z := (5 : Int32)) (pc' := 45) X0 hx (hb hby at_44) rfl rfl ?_
  refine Ok.irem (pc' := 46) X0 hx (hb hby at_45) rfl (by decide) ?_
  obtain ⟨dd, e_dd, h_dd⟩ : ∃ z : Int32, (p2 % (5 : Int32)) = z ∧ -4 ≤ z.toInt ∧ z.toInt ≤ 4 := ⟨_, rfl, rem5 p2⟩
  rw [e_dd]
  show Ok p e below _ _ s₁ (mkF m 46 #[.val (.int p0), .val (.int p1), .val (.int p2), .val (.int p3), .val (.int p4), .val (.int p5), .val (.int ca), .val (.int cw), .val (.long lo), .second, .val (.long hi), .second, .val (.int (p3 &&& (3 : Int32))), .unset, .unset, .unset, .unset, .unset] [(.int dd)])
  refine Ok.istore (l' := #[.val (.int p0), .val (.int p1), .val (.int p2), .val (.int p3), .val (.int p4), .val (.int p5), .val (.int ca), .val (.int cw), .val (.long lo), .second, .val (.long hi), .second, .val (.int (p3 &&& (3 : Int32))), .val (.int dd), .unset, .unset, .unset, .unset]) (pc' := 48) X0 hx (hb hby at_46) rfl rfl ?_
  have k88 : ∀ (cm : Int64) (hcm : -4398046511104 ≤ cm.toInt ∧ cm.toInt ≤ 4398046511104), Ok p e below (NE s room_1.cells room_1.slots) (Q0 Z p0 p1 p2 p3 p4 p5 h0 n0) s₁ (mkF m 88 #[.val (.int p0), .val (.int p1), .val (.int p2), .val (.int p3), .val (.int p4), .val (.int p5), .val (.int ca), .val (.int cw), .val (.long lo), .second, .val (.long hi), .second, .val (.int (p3 &&& (3 : Int32))), .val (.int dd), .val (.long cm), .second, .unset, .unset] []) := by
    intro cm hcm
    refine Ok.new (pc' := 91) X0 hx hZ hown (hw _ (List.mem_of_getElem? (i := 1) rfl)) (hw _ (List.mem_of_getElem? (i := 2) rfl)) (hw _ (List.mem_of_getElem? (i := 3) rfl)) e0 (hb hby at_88) rfl (by decide) (by decide) ?_
    intro T23 h23 b23 g23 X23 e23 E23 A23 D23
    have ge_b23 : n0 ≤ b23 := Nat.le_trans Z0 (Nat.le_of_eq g23.symm)
    have sz_b23 : h0.size ≤ b23 := Nat.le_trans K0.1 (Nat.le_of_eq g23.symm)
    have K23 : Keep h0 h23 [] := K0.ext E23
    have Z24 : n0 ≤ h23.size := Nat.le_trans Z0 E23.1
    have F23_group : Fld Z h23 b23 "com/example/raie/raie/made/WindowRow" "group" "I" (.int (0 : Int32)) := D23 (Or.inr (hw _ (List.mem_of_getElem? (i := 17) rfl))) (ty := .int) (by decide)
    have F23_scanBegin : Fld Z h23 b23 "com/example/raie/raie/made/WindowRow" "scanBegin" "I" (.int (0 : Int32)) := D23 (Or.inr (hw _ (List.mem_of_getElem? (i := 19) rfl))) (ty := .int) (by decide)
    have F23_scanEnd : Fld Z h23 b23 "com/example/raie/raie/made/WindowRow" "scanEnd" "I" (.int (0 : Int32)) := D23 (Or.inr (hw _ (List.mem_of_getElem? (i := 21) rfl))) (ty := .int) (by decide)
    have F23_isolationMz : Fld Z h23 b23 "com/example/raie/raie/made/WindowRow" "isolationMz" "D" (.double 0) := D23 (Or.inr (hw _ (List.mem_of_getElem? (i := 23) rfl))) (ty := .double) (by decide)
    have F23_isolationWidth : Fld Z h23 b23 "com/example/raie/raie/made/WindowRow" "isolationWidth" "D" (.double 0) := D23 (Or.inr (hw _ (List.mem_of_getElem? (i := 25) rfl))) (ty := .double) (by decide)
    have F23_collisionEnergy : Fld Z h23 b23 "com/example/raie/raie/made/WindowRow" "collisionEnergy" "D" (.double 0) := D23 (Or.inr (hw _ (List.mem_of_getElem? (i := 27) rfl))) (ty := .double) (by decide)
    show Ok p e below _ _ T23 (mkF m 91 #[.val (.int p0), .val (.int p1), .val (.int p2), .val (.int p3), .val (.int p4), .val (.int p5), .val (.int ca), .val (.int cw), .val (.long lo), .second, .val (.long hi), .second, .val (.int (p3 &&& (3 : Int32))), .val (.int dd), .val (.long cm), .second, .unset, .unset] [(.ref b23)])
    refine Ok.dup (pc' := 92) X23 hx (hb hby at_91) rfl rfl ?_
    refine Ok.iload (pc' := 94) X23 hx (hb hby at_92) rfl rfl ?_
    refine Ok.iload (pc' := 96) X23 hx (hb hby at_94) rfl rfl ?_
    refine Ok.iload (pc' := 98) X23 hx (hb hby at_96) rfl rfl ?_
    refine Ok.iload (pc' := 100) X23 hx (hb hby at_98) rfl rfl ?_
    refine Ok.ixor (pc' := 101) X23 hx (hb hby at_100) rfl ?_
    refine Ok.iload (pc' := 103) X23 hx (hb hby at_101) rfl rfl ?_
    refine Ok.i2d (pc' := 104) X23 hx (hb hby at_103) rfl ?_
    refine Ok.ldcD (pc' := 107) (v := (4616189618054758400 : UInt64)) X23 hx hZ hown (hw _ (List.mem_of_getElem? (i := 4) rfl)) (hb hby at_104) rfl ?_
    have D25 : Fl8.E8 (2 * ca.toInt) (FP.ddiv (FP.i2d ca) (4616189618054758400 : UInt64)) := Fl8.e8_div 2 Fl8.v4 (by rw [show ((2 ^ 2 : Nat) : Int) * (2 * ca.toInt) = 8 * ca.toInt by (show (4 : Int) * (2 * ca.toInt) = 8 * ca.toInt); omega]; exact Fl8.e8_i2d ca) (by omega)
    refine Ok.ddiv (pc' := 108) X23 hx (hb hby at_107) rfl (nn D25) ?_
    refine Ok.iload (pc' := 110) X23 hx (hb hby at_108) rfl rfl ?_
    refine Ok.i2d (pc' := 111) X23 hx (hb hby at_110) rfl ?_
    refine Ok.ldcD (pc' := 114) (v := (4616189618054758400 : UInt64)) X23 hx hZ hown (hw _ (List.mem_of_getElem? (i := 4) rfl)) (hb hby at_111) rfl ?_
    have D26 : Fl8.E8 (2 * cw.toInt) (FP.ddiv (FP.i2d cw) (4616189618054758400 : UInt64)) := Fl8.e8_div 2 Fl8.v4 (by rw [show ((2 ^ 2 : Nat) : Int) * (2 * cw.toInt) = 8 * cw.toInt by (show (4 : Int) * (2 * cw.toInt) = 8 * cw.toInt); omega]; exact Fl8.e8_i2d cw) (by omega)
    refine Ok.ddiv (pc' := 115) X23 hx (hb hby at_114) rfl (nn D26) ?_
    refine Ok.iload (pc' := 117) X23 hx (hb hby at_115) rfl rfl ?_
    refine Ok.bipush (z := (16 : Int32)) (pc' := 119) X23 hx (hb hby at_117) rfl rfl ?_
    refine Ok.ishr (pc' := 120) X23 hx (hb hby at_119) rfl ?_
    refine Ok.i2d (pc' := 121) X23 hx (hb hby at_120) rfl ?_
    refine Ok.init (pc' := 124) (W := 1) (a := b23)  (argsL := [(.int p4), (.int p5), (.int (p4 ^^^ p5)), (.double (FP.ddiv (FP.i2d ca) (4616189618054758400 : UInt64))), (.double (FP.ddiv (FP.i2d cw) (4616189618054758400 : UInt64))), (.double (FP.i2d (p5 >>> ((16 : Int32) &&& 31))))]) (rest := [(.ref b23)]) X23 hx hZ hown (rm1 l Z a0 hw b23 p4 p5 (p4 ^^^ p5) (FP.ddiv (FP.i2d ca) (4616189618054758400 : UInt64)) (FP.ddiv (FP.i2d cw) (4616189618054758400 : UInt64)) (FP.i2d (p5 >>> ((16 : Int32) &&& 31))) (.int (0 : Int32)) (.int (0 : Int32)) (.int (0 : Int32)) (.double 0) (.double 0) (.double 0) h23 n0 Z24 A23 ge_b23 F23_group F23_scanBegin F23_scanEnd F23_isolationMz F23_isolationWidth F23_collisionEnergy) rfl (hw _ (List.mem_of_getElem? (i := 5) rfl)) (hw _ (List.mem_of_getElem? (i := 6) rfl)) (hw _ (List.mem_of_getElem? (i := 3) rfl)) (hw _ (List.mem_of_getElem? (i := 7) rfl)) (by decide) e23 (by decide) (by decide) (by decide) (by decide) (lenOf pd_0 rfl) rfl rfl (Nat.le_of_eq rfl) (by rw [hml]; rfl) (hb hby at_121) rfl ?_
    intro v27 T27 L27 X27 hQ27
    obtain ⟨rfl, Nq27, Kq27, Aq27, Fq27_group, Fq27_scanBegin, Fq27_scanEnd, Fq27_isolationMz, Fq27_isolationWidth, Fq27_collisionEnergy⟩ := hQ27
    have N27 := Fr.app N0 Nq27
    replace A23 := A23.keep Kq27
    have K27' : Keep h0 T27.heap [] := K23.trans Kq27 (allS (Or.inr sz_b23) all0)
    have Z28 : n0 ≤ T27.heap.size := Nat.le_trans Z24 Kq27.1
    show Ok p e below _ _ T27 (mkF m 124 #[.val (.int p0), .val (.int p1), .val (.int p2), .val (.int p3), .val (.int p4), .val (.int p5), .val (.int ca), .val (.int cw), .val (.long lo), .second, .val (.long hi), .second, .val (.int (p3 &&& (3 : Int32))), .val (.int dd), .val (.long cm), .second, .unset, .unset] [(.ref b23)])
    refine Ok.astore (l' := #[.val (.int p0), .val (.int p1), .val (.int p2), .val (.int p3), .val (.int p4), .val (.int p5), .val (.int ca), .val (.int cw), .val (.long lo), .second, .val (.long hi), .second, .val (.int (p3 &&& (3 : Int32))), .val (.int dd), .val (.long cm), .second, .val (.ref b23), .unset]) (pc' := 126) X27 hx (hb hby at_124) rfl rfl rfl ?_
    refine Ok.lload (pc' := 128) X27 hx (hb hby at_126) rfl rfl ?_
    refine Ok.lload (pc' := 130) X27 hx (hb hby at_128) rfl rfl ?_
    refine Ok.lcmp (pc' := 131) X27 hx (hb hby at_130) rfl ?_
    by_cases hc131 : cm.toInt < lo.toInt
    · refine Ok.ifY (pc' := 146) X27 hx (hb hby at_131) (bt (lc_all cm lo).2.2.1 hc131) (by decide) (by decide) ?_
      refine Ok.iconst (z := (0 : Int32)) (pc' := 147) X27 hx (hb hby at_146) rfl rfl ?_
      refine Ok.istore (l' := #[.val (.int p0), .val (.int p1), .val (.int p2), .val (.int p3), .val (.int p4), .val (.int p5), .val (.int ca), .val (.int cw), .val (.long lo), .second, .val (.long hi), .second, .val (.int (p3 &&& (3 : Int32))), .val (.int dd), .val (.long cm), .second, .val (.ref b23), .val (.int (0 : Int32))]) (pc' := 149) X27 hx (hb hby at_147) rfl rfl ?_
      refine Ok.aload (pc' := 151) X27 hx (hb hby at_149) rfl rfl rfl ?_
      refine Ok.lload (pc' := 153) X27 hx (hb hby at_151) rfl rfl ?_
      refine Ok.l2d (pc' := 154) X27 hx (hb hby at_153) rfl ?_
      refine Ok.ldcD (pc' := 157) (v := (4620693217682128896 : UInt64)) X27 hx hZ hown (hw _ (List.mem_of_getElem? (i := 28) rfl)) (hb hby at_154) rfl ?_
      have D29 : Fl8.E8 (cm.toInt) (FP.ddiv (FP.l2d cm) (4620693217682128896 : UInt64)) := Fl8.e8_div 3 Fl8.v8 (show Fl8.E8 (((2 ^ 3 : Nat) : Int) * cm.toInt) _ from Fl8.e8_l2d (by omega)) (by omega)
      refine Ok.ddiv (pc' := 158) X27 hx (hb hby at_157) rfl (nn D29) ?_
      refine Ok.virt (pc' := 161) (W := 0) (a := b23)  (argsL := [(.double (FP.ddiv (FP.l2d cm) (4620693217682128896 : UInt64)))]) (rest := []) X27 hx hZ hown (rm3 l Z a0 hw b23 (FP.ddiv (FP.l2d cm) (4620693217682128896 : UInt64)) (FP.ddiv (FP.i2d ca) (4616189618054758400 : UInt64)) (FP.ddiv (FP.i2d cw) (4616189618054758400 : UInt64)) cm.toInt (2 * ca.toInt) cw.toInt T27.heap n0 Z28 Fq27_isolationMz Fq27_isolationWidth D29 D25 D26 (by omega) (by omega)) (hw _ (List.mem_of_getElem? (i := 29) rfl)) (hw _ (List.mem_of_getElem? (i := 30) rfl)) (notFace_of_selects (args := #[]) (mvT hZ (hw _ (List.mem_of_getElem? (i := 32) rfl)))) (hw _ (List.mem_of_getElem? (i := 32) rfl)) (hw _ (List.mem_of_getElem? (i := 31) rfl)) (hw _ (List.mem_of_getElem? (i := 3) rfl)) (hw _ (List.mem_of_getElem? (i := 33) rfl)) (by decide) rfl A23 (by decide) (by decide) (by decide) (by decide) (lenOf pd_2 rfl) rfl rfl (Nat.le_of_eq rfl) (by rw [hml]; rfl) (hb hby at_158) rfl ?_
      intro v30 T30 L30 X30 hQ30
      obtain ⟨b30, rfl, hb30, Nq30, eq30⟩ := hQ30
      have N30 := Fr.app N27 Nq30
      show Ok p e below _ _ T30 (mkF m 161 #[.val (.int p0), .val (.int p1), .val (.int p2), .val (.int p3), .val (.int p4), .val (.int p5), .val (.int ca), .val (.int cw), .val (.long lo), .second, .val (.long hi), .second, .val (.int (p3 &&& (3 : Int32))), .val (.int dd), .val (.long cm), .second, .val (.ref b23), .val (.int (0 : Int32))] [(.int b30)])
      refine Ok.iload (pc' := 163) X30 hx (hb hby at_161) rfl rfl ?_
      by_cases hc163 : ¬ b30.toInt = 0
      · refine Ok.icY (pc' := 170) X30 hx (hb hby at_163) (bt (ic_eq b30 (0 : Int32)).2.1 hc163) (by decide) (by decide) ?_
        refine Ok.iconst (z := (0 : Int32)) (pc' := 171) X30 hx (hb hby at_170) rfl rfl ?_
        exfalso
        omega
      · refine Ok.icN (pc' := 166) X30 hx (hb hby at_163) (bf (ic_eq b30 (0 : Int32)).2.1 hc163) rfl ?_
        refine Ok.iconst (z := (1 : Int32)) (pc' := 167) X30 hx (hb hby at_166) rfl rfl ?_
        refine Ok.goto (pc' := 171) X30 hx (hb hby at_167) (by decide) (by decide) ?_
        refine Ok.retI X30 hx hret hlk (Or.inr (Or.inl rfl)) rfl (hb hby at_171) (by decide) (by decide) ?_
        show Q0 Z p0 p1 p2 p3 p4 p5 h0 n0 _ T30.heap _
        rw [eq30]
        exact ⟨rfl, N30⟩
    · refine Ok.ifN (pc' := 134) X27 hx (hb hby at_131) (bf (lc_all cm lo).2.2.1 hc131) rfl ?_
      refine Ok.lload (pc' := 136) X27 hx (hb hby at_134) rfl rfl ?_
      refine Ok.lload (pc' := 138) X27 hx (hb hby at_136) rfl rfl ?_
      refine Ok.lcmp (pc' := 139) X27 hx (hb hby at_138) rfl ?_
      by_cases hc139 : hi.toInt ≤ cm.toInt
      · refine Ok.ifY (pc' := 146) X27 hx (hb hby at_139) (bt (lc_all cm hi).2.2.2.1 hc139) (by decide) (by decide) ?_
        refine Ok.iconst (z := (0 : Int32)) (pc' := 147) X27 hx (hb hby at_146) rfl rfl ?_
        refine Ok.istore (l' := #[.val (.int p0), .val (.int p1), .val (.int p2), .val (.int p3), .val (.int p4), .val (.int p5), .val (.int ca), .val (.int cw), .val (.long lo), .second, .val (.long hi), .second, .val (.int (p3 &&& (3 : Int32))), .val (.int dd), .val (.long cm), .second, .val (.ref b23), .val (.int (0 : Int32))]) (pc' := 149) X27 hx (hb hby at_147) rfl rfl ?_
        refine Ok.aload (pc' := 151) X27 hx (hb hby at_149) rfl rfl rfl ?_
        refine Ok.lload (pc' := 153) X27 hx (hb hby at_151) rfl rfl ?_
        refine Ok.l2d (pc' := 154) X27 hx (hb hby at_153) rfl ?_
        refine Ok.ldcD (pc' := 157) (v := (4620693217682128896 : UInt64)) X27 hx hZ hown (hw _ (List.mem_of_getElem? (i := 28) rfl)) (hb hby at_154) rfl ?_
        have D31 : Fl8.E8 (cm.toInt) (FP.ddiv (FP.l2d cm) (4620693217682128896 : UInt64)) := Fl8.e8_div 3 Fl8.v8 (show Fl8.E8 (((2 ^ 3 : Nat) : Int) * cm.toInt) _ from Fl8.e8_l2d (by omega)) (by omega)
        refine Ok.ddiv (pc' := 158) X27 hx (hb hby at_157) rfl (nn D31) ?_
        refine Ok.virt (pc' := 161) (W := 0) (a := b23)  (argsL := [(.double (FP.ddiv (FP.l2d cm) (4620693217682128896 : UInt64)))]) (rest := []) X27 hx hZ hown (rm3 l Z a0 hw b23 (FP.ddiv (FP.l2d cm) (4620693217682128896 : UInt64)) (FP.ddiv (FP.i2d ca) (4616189618054758400 : UInt64)) (FP.ddiv (FP.i2d cw) (4616189618054758400 : UInt64)) cm.toInt (2 * ca.toInt) cw.toInt T27.heap n0 Z28 Fq27_isolationMz Fq27_isolationWidth D31 D25 D26 (by omega) (by omega)) (hw _ (List.mem_of_getElem? (i := 29) rfl)) (hw _ (List.mem_of_getElem? (i := 30) rfl)) (notFace_of_selects (args := #[]) (mvT hZ (hw _ (List.mem_of_getElem? (i := 32) rfl)))) (hw _ (List.mem_of_getElem? (i := 32) rfl)) (hw _ (List.mem_of_getElem? (i := 31) rfl)) (hw _ (List.mem_of_getElem? (i := 3) rfl)) (hw _ (List.mem_of_getElem? (i := 33) rfl)) (by decide) rfl A23 (by decide) (by decide) (by decide) (by decide) (lenOf pd_2 rfl) rfl rfl (Nat.le_of_eq rfl) (by rw [hml]; rfl) (hb hby at_158) rfl ?_
        intro v32 T32 L32 X32 hQ32
        obtain ⟨b32, rfl, hb32, Nq32, eq32⟩ := hQ32
        have N32 := Fr.app N27 Nq32
        show Ok p e below _ _ T32 (mkF m 161 #[.val (.int p0), .val (.int p1), .val (.int p2), .val (.int p3), .val (.int p4), .val (.int p5), .val (.int ca), .val (.int cw), .val (.long lo), .second, .val (.long hi), .second, .val (.int (p3 &&& (3 : Int32))), .val (.int dd), .val (.long cm), .second, .val (.ref b23), .val (.int (0 : Int32))] [(.int b32)])
        refine Ok.iload (pc' := 163) X32 hx (hb hby at_161) rfl rfl ?_
        by_cases hc163 : ¬ b32.toInt = 0
        · refine Ok.icY (pc' := 170) X32 hx (hb hby at_163) (bt (ic_eq b32 (0 : Int32)).2.1 hc163) (by decide) (by decide) ?_
          refine Ok.iconst (z := (0 : Int32)) (pc' := 171) X32 hx (hb hby at_170) rfl rfl ?_
          exfalso
          omega
        · refine Ok.icN (pc' := 166) X32 hx (hb hby at_163) (bf (ic_eq b32 (0 : Int32)).2.1 hc163) rfl ?_
          refine Ok.iconst (z := (1 : Int32)) (pc' := 167) X32 hx (hb hby at_166) rfl rfl ?_
          refine Ok.goto (pc' := 171) X32 hx (hb hby at_167) (by decide) (by decide) ?_
          refine Ok.retI X32 hx hret hlk (Or.inr (Or.inl rfl)) rfl (hb hby at_171) (by decide) (by decide) ?_
          show Q0 Z p0 p1 p2 p3 p4 p5 h0 n0 _ T32.heap _
          rw [eq32]
          exact ⟨rfl, N32⟩
      · refine Ok.ifN (pc' := 142) X27 hx (hb hby at_139) (bf (lc_all cm hi).2.2.2.1 hc139) rfl ?_
        refine Ok.iconst (z := (1 : Int32)) (pc' := 143) X27 hx (hb hby at_142) rfl rfl ?_
        refine Ok.goto (pc' := 147) X27 hx (hb hby at_143) (by decide) (by decide) ?_
        refine Ok.istore (l' := #[.val (.int p0), .val (.int p1), .val (.int p2), .val (.int p3), .val (.int p4), .val (.int p5), .val (.int ca), .val (.int cw), .val (.long lo), .second, .val (.long hi), .second, .val (.int (p3 &&& (3 : Int32))), .val (.int dd), .val (.long cm), .second, .val (.ref b23), .val (.int (1 : Int32))]) (pc' := 149) X27 hx (hb hby at_147) rfl rfl ?_
        refine Ok.aload (pc' := 151) X27 hx (hb hby at_149) rfl rfl rfl ?_
        refine Ok.lload (pc' := 153) X27 hx (hb hby at_151) rfl rfl ?_
        refine Ok.l2d (pc' := 154) X27 hx (hb hby at_153) rfl ?_
        refine Ok.ldcD (pc' := 157) (v := (4620693217682128896 : UInt64)) X27 hx hZ hown (hw _ (List.mem_of_getElem? (i := 28) rfl)) (hb hby at_154) rfl ?_
        have D33 : Fl8.E8 (cm.toInt) (FP.ddiv (FP.l2d cm) (4620693217682128896 : UInt64)) := Fl8.e8_div 3 Fl8.v8 (show Fl8.E8 (((2 ^ 3 : Nat) : Int) * cm.toInt) _ from Fl8.e8_l2d (by omega)) (by omega)
        refine Ok.ddiv (pc' := 158) X27 hx (hb hby at_157) rfl (nn D33) ?_
        refine Ok.virt (pc' := 161) (W := 0) (a := b23)  (argsL := [(.double (FP.ddiv (FP.l2d cm) (4620693217682128896 : UInt64)))]) (rest := []) X27 hx hZ hown (rm3 l Z a0 hw b23 (FP.ddiv (FP.l2d cm) (4620693217682128896 : UInt64)) (FP.ddiv (FP.i2d ca) (4616189618054758400 : UInt64)) (FP.ddiv (FP.i2d cw) (4616189618054758400 : UInt64)) cm.toInt (2 * ca.toInt) cw.toInt T27.heap n0 Z28 Fq27_isolationMz Fq27_isolationWidth D33 D25 D26 (by omega) (by omega)) (hw _ (List.mem_of_getElem? (i := 29) rfl)) (hw _ (List.mem_of_getElem? (i := 30) rfl)) (notFace_of_selects (args := #[]) (mvT hZ (hw _ (List.mem_of_getElem? (i := 32) rfl)))) (hw _ (List.mem_of_getElem? (i := 32) rfl)) (hw _ (List.mem_of_getElem? (i := 31) rfl)) (hw _ (List.mem_of_getElem? (i := 3) rfl)) (hw _ (List.mem_of_getElem? (i := 33) rfl)) (by decide) rfl A23 (by decide) (by decide) (by decide) (by decide) (lenOf pd_2 rfl) rfl rfl (Nat.le_of_eq rfl) (by rw [hml]; rfl) (hb hby at_158) rfl ?_
        intro v34 T34 L34 X34 hQ34
        obtain ⟨b34, rfl, hb34, Nq34, eq34⟩ := hQ34
        have N34 := Fr.app N27 Nq34
        show Ok p e below _ _ T34 (mkF m 161 #[.val (.int p0), .val (.int p1), .val (.int p2), .val (.int p3), .val (.int p4), .val (.int p5), .val (.int ca), .val (.int cw), .val (.long lo), .second, .val (.long hi), .second, .val (.int (p3 &&& (3 : Int32))), .val (.int dd), .val (.long cm), .second, .val (.ref b23), .val (.int (1 : Int32))] [(.int b34)])
        refine Ok.iload (pc' := 163) X34 hx (hb hby at_161) rfl rfl ?_
        by_cases hc163 : ¬ b34.toInt = 1
        · refine Ok.icY (pc' := 170) X34 hx (hb hby at_163) (bt (ic_eq b34 (1 : Int32)).2.1 hc163) (by decide) (by decide) ?_
          refine Ok.iconst (z := (0 : Int32)) (pc' := 171) X34 hx (hb hby at_170) rfl rfl ?_
          exfalso
          omega
        · refine Ok.icN (pc' := 166) X34 hx (hb hby at_163) (bf (ic_eq b34 (1 : Int32)).2.1 hc163) rfl ?_
          refine Ok.iconst (z := (1 : Int32)) (pc' := 167) X34 hx (hb hby at_166) rfl rfl ?_
          refine Ok.goto (pc' := 171) X34 hx (hb hby at_167) (by decide) (by decide) ?_
          refine Ok.retI X34 hx hret hlk (Or.inr (Or.inl rfl)) rfl (hb hby at_171) (by decide) (by decide) ?_
          show Q0 Z p0 p1 p2 p3 p4 p5 h0 n0 _ T34.heap _
          rw [eq34]
          exact ⟨rfl, N34⟩
  refine Ok.iload (pc' := 50) X0 hx (hb hby at_48) rfl rfl ?_
  by_cases hc50 : ¬ (p3 &&& (3 : Int32)).toInt = 0
  · refine Ok.ifY (pc' := 64) X0 hx (hb hby at_50) (bt (i0 .ne (p3 &&& (3 : Int32)) (ic_eq (p3 &&& (3 : Int32)) 0).2.1) hc50) (by decide) (by decide) ?_
    refine Ok.iload (pc' := 66) X0 hx (hb hby at_64) rfl rfl ?_
    refine Ok.iconst (z := (1 : Int32)) (pc' := 67) X0 hx (hb hby at_66) rfl rfl ?_
    by_cases hc67 : ¬ (p3 &&& (3 : Int32)).toInt = 1
    · refine Ok.icY (pc' := 81) X0 hx (hb hby at_67) (bt (ic_eq (p3 &&& (3 : Int32)) (1 : Int32)).2.1 hc67) (by decide) (by decide) ?_
      refine Ok.iloadN (pc' := 82) X0 hx (hb hby at_81) rfl rfl ?_
      refine Ok.bipush (z := (10 : Int32)) (pc' := 84) X0 hx (hb hby at_82) rfl rfl ?_
      refine Ok.ishr (pc' := 85) X0 hx (hb hby at_84) rfl ?_
      refine Ok.i2l (pc' := 86) X0 hx (hb hby at_85) rfl ?_
      refine Ok.lstore (l' := #[.val (.int p0), .val (.int p1), .val (.int p2), .val (.int p3), .val (.int p4), .val (.int p5), .val (.int ca), .val (.int cw), .val (.long lo), .second, .val (.long hi), .second, .val (.int (p3 &&& (3 : Int32))), .val (.int dd), .val (.long (p2 >>> ((10 : Int32) &&& 31)).toInt64), .second, .unset, .unset]) (pc' := 88) X0 hx (hb hby at_86) rfl rfl ?_
      exact k88 _ (by have h1 := Jvm.Kit.i64_of_i32 (p2 >>> ((10 : Int32) &&& 31)); have h2 := Int32.toInt_lt (p2 >>> ((10 : Int32) &&& 31)); have h3 := Int32.le_toInt (p2 >>> ((10 : Int32) &&& 31)); omega)
    · refine Ok.icN (pc' := 70) X0 hx (hb hby at_67) (bf (ic_eq (p3 &&& (3 : Int32)) (1 : Int32)).2.1 hc67) rfl ?_
      refine Ok.lload (pc' := 72) X0 hx (hb hby at_70) rfl rfl ?_
      refine Ok.iload (pc' := 74) X0 hx (hb hby at_72) rfl rfl ?_
      refine Ok.i2l (pc' := 75) X0 hx (hb hby at_74) rfl ?_
      refine Ok.ladd (pc' := 76) X0 hx (hb hby at_75) rfl ?_
      refine Ok.lstore (l' := #[.val (.int p0), .val (.int p1), .val (.int p2), .val (.int p3), .val (.int p4), .val (.int p5), .val (.int ca), .val (.int cw), .val (.long lo), .second, .val (.long hi), .second, .val (.int (p3 &&& (3 : Int32))), .val (.int dd), .val (.long (hi + dd.toInt64)), .second, .unset, .unset]) (pc' := 78) X0 hx (hb hby at_76) rfl rfl ?_
      refine Ok.goto (pc' := 88) X0 hx (hb hby at_78) (by decide) (by decide) ?_
      exact k88 _ (by have h1 := Jvm.Kit.i64_of_i32 dd; have h2 := Jvm.Kit.i64_add (x := hi) (y := dd.toInt64) (by rw [h1]; omega) (by rw [h1]; omega); omega)
  · refine Ok.ifN (pc' := 53) X0 hx (hb hby at_50) (bf (i0 .ne (p3 &&& (3 : Int32)) (ic_eq (p3 &&& (3 : Int32)) 0).2.1) hc50) rfl ?_
    refine Ok.lload (pc' := 55) X0 hx (hb hby at_53) rfl rfl ?_
    refine Ok.iload (pc' := 57) X0 hx (hb hby at_55) rfl rfl ?_
    refine Ok.i2l (pc' := 58) X0 hx (hb hby at_57) rfl ?_
    refine Ok.ladd (pc' := 59) X0 hx (hb hby at_58) rfl ?_
    refine Ok.lstore (l' := #[.val (.int p0), .val (.int p1), .val (.int p2), .val (.int p3), .val (.int p4), .val (.int p5), .val (.int ca), .val (.int cw), .val (.long lo), .second, .val (.long hi), .second, .val (.int (p3 &&& (3 : Int32))), .val (.int dd), .val (.long (lo + dd.toInt64)), .second, .unset, .unset]) (pc' := 61) X0 hx (hb hby at_59) rfl rfl ?_
    refine Ok.goto (pc' := 88) X0 hx (hb hby at_61) (by decide) (by decide) ?_
    exact k88 _ (by have h1 := Jvm.Kit.i64_of_i32 dd; have h2 := Jvm.Kit.i64_add (x := lo) (y := dd.toInt64) (by rw [h1]; omega) (by rw [h1]; omega); omega)
set_option maxRecDepth 65536 in
set_option maxHeartbeats 40000000 in
theorem comes_1 {Post : Tables → Env → Array Value → State → Outcome → State → Prop} (hpost : ∀ tb e args s v u, (limb_1_1.after args s (.returned v) u = true ∧ limb_1_2.after args s (.returned v) u = true ∧ True) → FrameEnd s (.returned v) u (Jvm.fieldLocs frame_1_writes args s ++ Jvm.arrayLocs frame_1_arrays args s ++ Jvm.staticLocs frame_1_statics s) 16 128 → Post tb e args s (.returned v) u) :
    ArmFor flags0 classFile x code maxLocals ret World_1 tables_1 room_1 Calls_1 rest_1 Pre_1 Post := by
  intro l hfl _ _ p e ha hc hk s m args below hf hA hF happ hP
  obtain ⟨hcalls, hrest, hpre⟩ := hP
  obtain ⟨-, -, -, hnamed, -, -, -, hat⟩ := (Spec.applies_iff hf).mp happ
  obtain ⟨hg, hn⟩ := and_e (Cond.before_iff.mp (show (Jvm.Cond.and given_1 narrow_1).before args s = true from hpre))
  obtain ⟨hcount, hg0⟩ := and_e hg
  obtain ⟨hk0, hg1⟩ := and_e hg0
  obtain ⟨hk1, hg2⟩ := and_e hg1
  obtain ⟨hk2, hg3⟩ := and_e hg2
  obtain ⟨hk3, hg4⟩ := and_e hg3
  obtain ⟨hk4, hg5⟩ := and_e hg4
  have hk5 := hg5
  obtain ⟨w0, w1, w2, w3, w4, w5, rfl⟩ : ∃ w0 w1 w2 w3 w4 w5 : Value, args = #[w0, w1, w2, w3, w4, w5] := by
    have hs : args.size = 6 := by simpa [Cond.value, given_1] using hcount
    obtain ⟨L⟩ := args
    match L, hs with
    | [w0, w1, w2, w3, w4, w5], _ => exact ⟨w0, w1, w2, w3, w4, w5, rfl⟩
  have hw := fun d (hd : d ∈ tables_1) => atoms_spec (ws := Jvm.Cond.code x code maxLocals ret :: tables_1) hat d (List.mem_cons_of_mem _ hd)
  obtain ⟨i0, ei0⟩ := is_v hk0
  obtain rfl : w0 = (.int i0) := Option.some.inj ei0
  obtain ⟨i1, ei1⟩ := is_v hk1
  obtain rfl : w1 = (.int i1) := Option.some.inj ei1
  obtain ⟨i2, ei2⟩ := is_v hk2
  obtain rfl : w2 = (.int i2) := Option.some.inj ei2
  obtain ⟨i3, ei3⟩ := is_v hk3
  obtain rfl : w3 = (.int i3) := Option.some.inj ei3
  obtain ⟨i4, ei4⟩ := is_v hk4
  obtain rfl : w4 = (.int i4) := Option.some.inj ei4
  obtain ⟨i5, ei5⟩ := is_v hk5
  obtain rfl : w5 = (.int i5) := Option.some.inj ei5
  obtain ⟨n, o, h1, h2, h3, _, L, rfl, ⟨rfl, N⟩, hq⟩ := rm0 l s _ hw tables_1 i0 i1 i2 i3 i4 i5 s.heap s.heap.size (Nat.le_refl _)  p e ha hc hk s m _ below hf ((Spec.applies_iff_loose hf).mp happ).1 ⟨rfl, State.Warmed39.refl s, rfl⟩ trivial
  refine ⟨n, _, h1, h2, h3, hpost _ _ _ _ _ _ ⟨Cond.after_iff.mpr rfl, Cond.after_iff.mpr (eq_i res_at (Term.int_eval (1)) rfl), trivial⟩ ⟨hq.1, hq.2.1, (hq.2.2.sift fun y hy => Or.inr (N y hy)).mono (by decide) (by decide)⟩⟩
theorem main_1_1 : Claimed_1_1 := comes_1 fun _ _ _ _ _ _ h hF => ⟨h.1, hF⟩
theorem main_1_2 : Claimed_1_2 := comes_1 fun _ _ _ _ _ _ h hF => ⟨h.2.1, hF⟩
end Jvm.Pilot.@@N@@
namespace Jvm.Pilot.@@N@@
open Jvm Jvm.ClassFile Sem Op Lib Jvm.Free Jvm.Stand Jvm.Pilot.@@N@@.Jvm.D
/-! MADE BY PROGRAM (witnessworld.py) out of the Statement's table words and the real class files: 10 classes; the members and pool entries that the words name. The judged class is class 1, her method 1. -/
namespace start1
open Jvm.ClassFile
def u (s : String) : CpInfo := .utf8 (stringToUtf16 s)
/-- a pool by its gaps: so many unusable entries, then the entry; so many at the end -/
def gap : Nat → List CpInfo → List CpInfo
  | 0, r => r
  | n + 1, r => .unusable :: gap n r
def poolList (es : List (Nat × CpInfo)) (last : Nat) : List CpInfo := es.foldr (fun e r => gap e.1 (e.2 :: r)) (gap last [])
def pool (es : List (Nat × CpInfo)) (last : Nat) : Array CpInfo := ⟨poolList es last⟩
def fileOf (pool : Array CpInfo) (this : Nat) (attrs : Array Attribute := #[]) (ms : Array MethodInfo := #[]) (fl : Nat := 33) (sup : Nat := 0) (ifs : Array Nat := #[]) (fds : Array FieldInfo := #[]) : ClassFile where
  minorVersion := 0
  majorVersion := 65
  constantPool := pool
  accessFlags := fl
  thisClass := this
  superClass := sup
  interfaces := ifs
  fields := fds
  methods := ms
  attributes := attrs
def plain (name : String) (sup : Option ClassId) : Class where
  name := name
  kind := .ordinary
  loader := none
  accessFlags := 33
  super := sup
  interfaces := #[]
  cf := none
  fields := #[]
  methods := #[]
  instanceTypes := #[]
  staticTypes := #[]
  resolved := #[]
  callSites := []
  init := .initialized
  statics := none
  mirror := none

def pool0 : Array CpInfo := pool [(5, u "<init>"), (0, u "()V"), (1, .class_ 10), (1, u "java/lang/Object")] 113

def k0c0 : Code := { maxStack := 0, maxLocals := 1, code := object_method_1_code, exceptionTable := #[], attributes := #[] }
def k0m0 : Method := { name := "<init>", desc := "()V", sig := { parameters := [], returnType := none }, accessFlags := 1, code := some k0c0 }
/-- java/lang/Object -/
def k0 : Class := { plain "java/lang/Object" none with
  accessFlags := 33
  interfaces := #[]
  cf := some (fileOf pool0 8 #[] #[{ accessFlags := 1, nameIndex := 5, descriptorIndex := 6, attributes := #[] }] 33 0 #[] #[])
  fields := #[]
  methods := #[k0m0]
  instanceTypes := #[]
  staticTypes := #[]
  resolved := Array.replicate 124 none
  statics := none }

def pool1 : Array CpInfo := pool [(2, .class_ 4), (1, u "java/lang/Object"), (0, u "<init>"), (0, u "()V"), (0, .long 2), (1, .class_ 10), (0, u "com/example/raie/raie/made/WindowRow"), (0, .double 4616189618054758400), (1, .methodref 9 14), (0, .nameAndType 5 15), (0, u "(IIIDDD)V"), (0, .double 4620693217682128896), (1, .methodref 9 19), (0, .nameAndType 20 21), (0, u "holdsMz"), (0, u "(D)Z"), (0, .class_ 23), (0, u "com/example/raie/raie/made/WindowRowHoldsMzPinLaw"), (2, u "law"), (0, u "(IIIIII)Z")] 3

def k1m0 : Method := { name := "<init>", desc := "()V", sig := { parameters := [], returnType := none }, accessFlags := 1, code := none }
def k1c1 : Code := { maxStack := 11, maxLocals := 18, code := code, exceptionTable := #[], attributes := #[] }
def k1m1 : Method := { name := "law", desc := "(IIIIII)Z", sig := { parameters := [.int, .int, .int, .int, .int, .int], returnType := some .boolean }, accessFlags := 9, code := some k1c1 }
/-- com/example/raie/raie/made/WindowRowHoldsMzPinLaw -/
def k1 : Class := { plain "com/example/raie/raie/made/WindowRowHoldsMzPinLaw" (some 0) with
  accessFlags := 49
  interfaces := #[]
  cf := some (fileOf pool1 22 #[] #[{ accessFlags := 1, nameIndex := 5, descriptorIndex := 6, attributes := #[] }, { accessFlags := 9, nameIndex := 26, descriptorIndex := 27, attributes := #[] }] 49 2 #[] #[])
  fields := #[]
  methods := #[k1m0, k1m1]
  instanceTypes := #[]
  staticTypes := #[]
  resolved := Array.replicate 31 none
  statics := none }

def pool2 : Array CpInfo := pool [(1, .methodref 2 3), (0, .class_ 4), (0, .nameAndType 5 6), (0, u "java/lang/Object"), (0, u "<init>"), (0, u "()V"), (0, .class_ 8), (0, u "java/lang/Record")] 13

def k2c0 : Code := { maxStack := 1, maxLocals := 1, code := jdk_30_method_1_code, exceptionTable := #[], attributes := #[] }
def k2m0 : Method := { name := "<init>", desc := "()V", sig := { parameters := [], returnType := none }, accessFlags := 4, code := some k2c0 }
/-- java/lang/Record -/
def k2 : Class := { plain "java/lang/Record" (some 0) with
  accessFlags := 1057
  interfaces := #[]
  cf := some (fileOf pool2 7 #[] #[{ accessFlags := 4, nameIndex := 5, descriptorIndex := 6, attributes := #[] }] 1057 2 #[] #[])
  fields := #[]
  methods := #[k2m0]
  instanceTypes := #[]
  staticTypes := #[]
  resolved := Array.replicate 22 none
  statics := none }

def pool3 : Array CpInfo := pool [(1, .methodref 2 3), (0, .class_ 4), (0, .nameAndType 5 6), (0, u "java/lang/Record"), (0, u "<init>"), (0, u "()V"), (0, .fieldref 8 9), (0, .class_ 10), (0, .nameAndType 11 12), (0, u "com/example/raie/raie/made/WindowRow"), (0, u "group"), (0, u "I"), (0, .fieldref 8 14), (0, .nameAndType 15 12), (0, u "scanBegin"), (0, .fieldref 8 17), (0, .nameAndType 18 12), (0, u "scanEnd"), (0, .fieldref 8 20), (0, .nameAndType 21 22), (0, u "isolationMz"), (0, u "D"), (0, .fieldref 8 24), (0, .nameAndType 25 22), (0, u "isolationWidth"), (0, .fieldref 8 27), (0, .nameAndType 28 22), (0, u "collisionEnergy"), (37, u "(IIIDDD)V"), (12, u "holdsMz"), (0, u "(D)Z"), (0, .double 4611686018427387904), (22, u "GROUPS"), (2, u "FIRST_LOW_WINDOW"), (0, u "FIRST_HIGH_WINDOW"), (0, u "WIDTH"), (0, u "MOBILITY_REACH")] 40

def k3c0 : Code := { maxStack := 3, maxLocals := 10, code := prog_56_method_1_code, exceptionTable := #[], attributes := #[] }
def k3m0 : Method := { name := "<init>", desc := "(IIIDDD)V", sig := { parameters := [.int, .int, .int, .double, .double, .double], returnType := none }, accessFlags := 1, code := some k3c0 }
def k3c1 : Code := { maxStack := 8, maxLocals := 3, code := prog_56_method_4_code, exceptionTable := #[], attributes := #[] }
def k3m1 : Method := { name := "holdsMz", desc := "(D)Z", sig := { parameters := [.double], returnType := some .boolean }, accessFlags := 0, code := some k3c1 }
/-- com/example/raie/raie/made/WindowRow -/
def k3 : Class := { plain "com/example/raie/raie/made/WindowRow" (some 2) with
  accessFlags := 49
  interfaces := #[]
  cf := some (fileOf pool3 8 #[] #[{ accessFlags := 1, nameIndex := 5, descriptorIndex := 66, attributes := #[] }, { accessFlags := 0, nameIndex := 79, descriptorIndex := 80, attributes := #[] }] 49 2 #[] #[{ accessFlags := 18, nameIndex := 11, descriptorIndex := 12, attributes := #[] }, { accessFlags := 18, nameIndex := 15, descriptorIndex := 12, attributes := #[] }, { accessFlags := 18, nameIndex := 18, descriptorIndex := 12, attributes := #[] }, { accessFlags := 18, nameIndex := 21, descriptorIndex := 22, attributes := #[] }, { accessFlags := 18, nameIndex := 25, descriptorIndex := 22, attributes := #[] }, { accessFlags := 18, nameIndex := 28, descriptorIndex := 22, attributes := #[] }, { accessFlags := 26, nameIndex := 104, descriptorIndex := 12, attributes := #[] }, { accessFlags := 26, nameIndex := 107, descriptorIndex := 22, attributes := #[] }, { accessFlags := 26, nameIndex := 108, descriptorIndex := 22, attributes := #[] }, { accessFlags := 26, nameIndex := 109, descriptorIndex := 22, attributes := #[] }, { accessFlags := 26, nameIndex := 110, descriptorIndex := 22, attributes := #[] }])
  fields := #[{ name := "group", type := .int, accessFlags := 18, slot := 0, constantValue := 0 }, { name := "scanBegin", type := .int, accessFlags := 18, slot := 1, constantValue := 0 }, { name := "scanEnd", type := .int, accessFlags := 18, slot := 2, constantValue := 0 }, { name := "isolationMz", type := .double, accessFlags := 18, slot := 3, constantValue := 0 }, { name := "isolationWidth", type := .double, accessFlags := 18, slot := 4, constantValue := 0 }, { name := "collisionEnergy", type := .double, accessFlags := 18, slot := 5, constantValue := 0 }, { name := "GROUPS", type := .int, accessFlags := 26, slot := 0, constantValue := 0 }, { name := "FIRST_LOW_WINDOW", type := .double, accessFlags := 26, slot := 1, constantValue := 0 }, { name := "FIRST_HIGH_WINDOW", type := .double, accessFlags := 26, slot := 2, constantValue := 0 }, { name := "WIDTH", type := .double, accessFlags := 26, slot := 3, constantValue := 0 }, { name := "MOBILITY_REACH", type := .double, accessFlags := 26, slot := 4, constantValue := 0 }]
  methods := #[k3m0, k3m1]
  instanceTypes := #[.int, .int, .int, .double, .double, .double]
  staticTypes := #[.int, .double, .double, .double, .double]
  resolved := Array.replicate 151 none
  statics := none }

def pool4 : Array CpInfo := pool [(1, u "java/lang/Cloneable"), (0, .class_ 1), (0, u "java/lang/Object"), (0, .class_ 3)] 3

/-- java/lang/Cloneable -/
def k4 : Class := { plain "java/lang/Cloneable" (some 0) with
  accessFlags := 1537
  interfaces := #[]
  cf := some (fileOf pool4 2 #[] #[] 1537 4 #[] #[])
  fields := #[]
  methods := #[]
  instanceTypes := #[]
  staticTypes := #[]
  resolved := Array.replicate 8 none
  statics := none }

def pool5 : Array CpInfo := pool [(1, u "java/io/Serializable"), (0, .class_ 1), (0, u "java/lang/Object"), (0, .class_ 3)] 3

/-- java/io/Serializable -/
def k5 : Class := { plain "java/io/Serializable" (some 0) with
  accessFlags := 1537
  interfaces := #[]
  cf := some (fileOf pool5 2 #[] #[] 1537 4 #[] #[])
  fields := #[]
  methods := #[]
  instanceTypes := #[]
  staticTypes := #[]
  resolved := Array.replicate 8 none
  statics := none }

/-- the primitive byte -/
def k6 : Class := { plain "byte" none with kind := .primitive 'B', accessFlags := 0x411 }
/-- [B -/
def k7 : Class := { plain "[B" (some 0) with kind := .array 6 .byte, interfaces := #[4, 5], accessFlags := 1041 }

/-- the primitive int -/
def k8 : Class := { plain "int" none with kind := .primitive 'I', accessFlags := 0x411 }
/-- [I -/
def k9 : Class := { plain "[I" (some 0) with kind := .array 8 .int, interfaces := #[4, 5], accessFlags := 1041 }

def heap : Heap := #[]
def classes : Array Class := #[k0, k1, k2, k3, k4, k5, k6, k7, k8, k9]
def interned : List (Array UInt16 × Addr) := []
def slotsUsed : Nat := 0
def theMethod : MethodId := ⟨1, 1⟩
def args0 : Array Value := #[.int 1, .int 2, .int 3, .int 4, .int 5, .int 6]
def aboutOver (below : List Frame) : State where
  vm := { classes := classes, interned := interned.toArray }
  heap := heap
  slotsUsed := slotsUsed
  threads := #[{ frames := .invoking theMethod args0 :: below }]
def below0 : List Frame := [.native { method := ⟨0, 0⟩, args := #[] }]
def about1 : State := aboutOver below0
def p0 : Program := .bare "" "" ""
def e0 : Env := launch0.env 0 0 0
theorem w_frames : about1.frames = Frame.invoking theMethod args0 :: below0 := rfl
set_option maxRecDepth 65536 in
theorem w_args : argsFit about1.vm theMethod args0 = true := by decide +kernel
set_option maxRecDepth 65536 in
theorem w_heap : heapFits about1 = true := by decide +kernel
set_option maxRecDepth 65536 in
theorem w_runnable : about1.curStatus? = some .runnable := by decide +kernel
set_option maxRecDepth 65536 in
theorem w_alone : about1.alone = true := by decide +kernel
set_option maxRecDepth 65536 in
theorem w_named : about1.methodNamed? x = some theMethod := by decide +kernel
set_option maxRecDepth 65536 in
theorem w_hears : about1.hears theMethod below0 = true := by decide +kernel
set_option maxRecDepth 65536 in
theorem w_ripe : about1.ripe theMethod args0 below0 = true := by decide +kernel
theorem w_running : about1.status = .running := rfl
set_option maxRecDepth 65536 in
theorem w_room : about1.hasRoom e0.platform room_1 = true :=
  launch0.hasRoom_least _ room_1 (by decide +kernel) (by decide +kernel) (by decide +kernel) (by decide +kernel) (by decide +kernel) (by decide +kernel)
theorem allAtoms_all (ts : List Jvm.Cond) (a : Array Jvm.Value) (st : Jvm.State) : (allAtoms ts).before a st = ts.all (fun c => c.before a st) := by
  induction ts with
  | nil => rfl
  | cons c t ih =>
    show (Jvm.Cond.and c (allAtoms t)).before a st = _
    rw [Jvm.Cond.before_and, ih, List.all_cons]
def words1 : List Jvm.Cond := Jvm.Cond.code x code maxLocals ret :: tables_1
/-- a 'code' word, met by the world's own term for the bytes: nothing is compared byte by byte -/
theorem code_word {y : MethodName} {bytes : ByteArray} {mx : Nat} {rt : Option FieldType} {a : Array Value} {s : State} {m : MethodId} {meth : Method} {c : Code} (h1 : s.methodNamed? y = some m) (h2 : s.vm.method? m = some meth) (h3 : meth.code = some c) (h4 : c.code = bytes)
    (h5 : (c.maxLocals == mx && c.exceptionTable.isEmpty && decide (c.maxStack ≤ mostOperands) && decide (meth.sig.returnType = rt) && !meth.locks && decide (parseMethodDescriptor y.desc = some meth.sig)) = true) : (Jvm.Cond.code y bytes mx rt).before a s = true := by
  simp only [Bool.and_eq_true, beq_iff_eq, Bool.not_eq_true', decide_eq_true_eq] at h5
  obtain ⟨⟨⟨⟨⟨g1, g2⟩, g3⟩, g4⟩, g5⟩, g6⟩ := h5
  simp [Cond.before, Cond.holds, Cond.value, h1, h2, h3, h4, g1, g2, g3, g4, g5, g6]
def isCode : Jvm.Cond → Bool
  | .code _ _ _ _ => true
  | _ => false
theorem all_split {L : List Jvm.Cond} {P : Jvm.Cond → Bool} (h1 : L.all (fun c => isCode c || P c) = true) (h2 : ∀ c ∈ L.filter isCode, P c = true) : L.all P = true := by
  refine List.all_eq_true.mpr fun c hc => ?_
  have h := List.all_eq_true.mp h1 c hc
  rcases Bool.eq_false_or_eq_true (isCode c) with hi | hi
  · exact h2 c (List.mem_filter.mpr ⟨hc, hi⟩)
  · simpa [hi] using h
set_option maxRecDepth 65536 in
theorem w_c0 : (Jvm.Cond.code x code maxLocals ret).before args0 about1 = true := code_word (m := ⟨1, 1⟩) (meth := k1m1) (c := k1c1) (by decide +kernel) rfl rfl rfl (by decide +kernel)
set_option maxRecDepth 65536 in
theorem w_c1 : (Jvm.Cond.code ({ cls := "com/example/raie/raie/made/WindowRow", name := "<init>", desc := "(IIIDDD)V" } : Jvm.MethodName) prog_56_method_1_code (10 : Nat) (Option.none : Option Jvm.ClassFile.FieldType)).before args0 about1 = true := code_word (m := ⟨3, 0⟩) (meth := k3m0) (c := k3c0) (by decide +kernel) rfl rfl rfl (by decide +kernel)
set_option maxRecDepth 65536 in
theorem w_c2 : (Jvm.Cond.code ({ cls := "java/lang/Record", name := "<init>", desc := "()V" } : Jvm.MethodName) jdk_30_method_1_code (1 : Nat) (Option.none : Option Jvm.ClassFile.FieldType)).before args0 about1 = true := code_word (m := ⟨2, 0⟩) (meth := k2m0) (c := k2c0) (by decide +kernel) rfl rfl rfl (by decide +kernel)
set_option maxRecDepth 65536 in
theorem w_c3 : (Jvm.Cond.code ({ cls := "java/lang/Object", name := "<init>", desc := "()V" } : Jvm.MethodName) object_method_1_code (1 : Nat) (Option.none : Option Jvm.ClassFile.FieldType)).before args0 about1 = true := code_word (m := ⟨0, 0⟩) (meth := k0m0) (c := k0c0) (by decide +kernel) rfl rfl rfl (by decide +kernel)
set_option maxRecDepth 65536 in
theorem w_c4 : (Jvm.Cond.code ({ cls := "com/example/raie/raie/made/WindowRow", name := "holdsMz", desc := "(D)Z" } : Jvm.MethodName) prog_56_method_4_code (3 : Nat) (Option.some Jvm.ClassFile.FieldType.boolean)).before args0 about1 = true := code_word (m := ⟨3, 1⟩) (meth := k3m1) (c := k3c1) (by decide +kernel) rfl rfl rfl (by decide +kernel)
def codes1 : List Jvm.Cond := [Jvm.Cond.code x code maxLocals ret, Jvm.Cond.code ({ cls := "com/example/raie/raie/made/WindowRow", name := "<init>", desc := "(IIIDDD)V" } : Jvm.MethodName) prog_56_method_1_code (10 : Nat) (Option.none : Option Jvm.ClassFile.FieldType), Jvm.Cond.code ({ cls := "java/lang/Record", name := "<init>", desc := "()V" } : Jvm.MethodName) jdk_30_method_1_code (1 : Nat) (Option.none : Option Jvm.ClassFile.FieldType), Jvm.Cond.code ({ cls := "java/lang/Object", name := "<init>", desc := "()V" } : Jvm.MethodName) object_method_1_code (1 : Nat) (Option.none : Option Jvm.ClassFile.FieldType), Jvm.Cond.code ({ cls := "com/example/raie/raie/made/WindowRow", name := "holdsMz", desc := "(D)Z" } : Jvm.MethodName) prog_56_method_4_code (3 : Nat) (Option.some Jvm.ClassFile.FieldType.boolean)]
set_option maxRecDepth 65536 in
theorem codes_eq : words1.filter isCode = codes1 := rfl
theorem w_codes : ∀ c ∈ words1.filter isCode, c.before args0 about1 = true := by
  rw [codes_eq]
  intro c hc
  simp only [codes1, List.mem_cons, List.not_mem_nil, or_false] at hc
  rcases hc with rfl | rfl | rfl | rfl | rfl
  · exact w_c0
  · exact w_c1
  · exact w_c2
  · exact w_c3
  · exact w_c4
set_option maxRecDepth 65536 in
theorem w_t1 : (words1.take 24).all (fun c => isCode c || c.before args0 about1) = true := by decide +kernel
set_option maxRecDepth 65536 in
theorem w_t2 : (words1.drop 24).all (fun c => isCode c || c.before args0 about1) = true := by decide +kernel
theorem w_tables : (allAtoms (Jvm.Cond.code x code maxLocals ret :: tables_1)).before args0 about1 = true := by
  rw [allAtoms_all]
  show words1.all (fun c => c.before args0 about1) = true
  refine all_split ?_ w_codes
  rw [← List.take_append_drop 24 words1, List.all_append, w_t1, w_t2]
  rfl
set_option maxRecDepth 65536 in
theorem w_case : (Jvm.Cond.and given_1 narrow_1).before args0 about1 = true := by decide +kernel
theorem w_applies : (headSpec (Jvm.Cond.code x code maxLocals ret :: tables_1) room_1).applies x e0.platform about1 = true :=
  (Spec.applies_iff w_frames).mpr ⟨w_running, w_runnable, w_alone, w_named, w_hears, w_ripe, w_room, w_tables⟩
theorem atStart : AtStart classFile x code maxLocals ret World_1 tables_1 room_1 Calls_1 rest_1 Pre_1 launch0 p0 e0 about1 theMethod args0 below0 :=
  ⟨lists_1, trivial, launch0.admits_env _ _ _, launch0.least_env, fairChoices_fair.cas, fairChoices_fair.clock, w_frames, w_args, w_heap, w_applies, trivial, trivial, w_case⟩
end start1
theorem witness_1 : WitnessClaimed_1 := ⟨start1.p0, start1.e0, start1.about1, start1.theMethod, start1.args0, start1.below0, start1.atStart⟩
end Jvm.Pilot.@@N@@
