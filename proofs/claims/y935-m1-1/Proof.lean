import JvmDerived
import JvmDerived.Pilot.@@N@@Statement
import JvmDerived.Pilot.@@N@@Code
set_option linter.unusedVariables false
set_option linter.unusedSimpArgs false
namespace Jvm.RoadKit
open Sem ClassFile Op Lib Jvm.Stand Jvm.Free Jvm.LawKit
section New
variable {p : Program} {l : Launch} {e : Env} {R : Room} {s : State} {m : MethodId} {args : Array Value} {below : List Frame} {meth : Method} {c : Code} {T : State} {locs : List Loc} {cells slots : Nat}
theorem retI (X : Stand p l e R s m args below meth c T locs cells slots) (hx : p.tables.exec = Jvm.exec) {pc : Nat} {Ls : Array Slot} {z : Int32} {rest : List Value} (hret : meth.sig.returnType = some .int) (hd : decode c.code pc = .ok (.ireturn, 1)) {fs : List Frame}
    (hl : ∀ (f : JFrame) (acts : List Action), f.method = m → f.locked = none → f.entered = [] → (doReturn e (T.setTop f) acts (some (.int z))).1 = T.setFrames fs) : Steps p.tables e below (T.setTop (mkF m pc Ls (.int z :: rest))) (T.setFrames fs) := by
  have hm' : T.vm.method? m = some meth := X.method'
  have hn : narrow .int (.int z) = .int z := rfl
  show Steps p.tables e below (T.setTop { method := m, pc := pc, locals := Ls, stack := _ :: rest, locked := none }) _
  jvm_step X.here [X.here.top, hx, hd, hm', hret, hn]
  first | (intro acts; rw [hl _ acts rfl rfl rfl]) | rw [hl _ _ rfl rfl rfl]
  exact Steps.refl _
theorem own_lrem {g : JFrame} {target : State} (X : Stand p l e R s m args below meth c T locs cells slots) (hx : p.tables.exec = Jvm.exec) (hg : g.method = m) {x y : Int64} {rest : List Value} (hd : decode c.code g.pc = .ok (.lrem, 1)) (hs : g.stack = .long y :: .long x :: rest) (hy : y ≠ 0)
    (hr : Steps p.tables e below (T.setTop { g with pc := g.pc + 1, stack := .long (x % y) :: rest }) target) : Steps p.tables e below (T.setTop g) target := by
  have q : x - (x / y) * y = x % y := lrem_mod x y
  exact XS.lrem X.here hx hg hd hs hy (by rw [q]; exact hr)
theorem own_b1 {P : Prop} [Decidable P] (h : P) : ¬ ((if P then (1 : Int32) else 0) = 0) := by rw [if_pos h]; decide
theorem own_b0 {P : Prop} [Decidable P] (h : ¬ P) : (if P then (1 : Int32) else 0) = 0 := if_neg h
theorem own_c1 {P : Prop} [Decidable P] (h : P) : (if P then (1 : Int32) else 0) = 1 := if_pos h
theorem own_c0 {P : Prop} [Decidable P] (h : ¬ P) : ¬ ((if P then (1 : Int32) else 0) = 1) := by rw [if_neg h]; decide
theorem own_bb {P Q : Prop} [Decidable P] [Decidable Q] (h : P ↔ Q) : (if P then (1 : Int32) else 0) = (if Q then (1 : Int32) else 0) := by
  by_cases p : P
  · rw [if_pos p, if_pos (h.mp p)]
  · rw [if_neg p, if_neg (fun q => p (h.mpr q))]
theorem own_bn {P Q : Prop} [Decidable P] [Decidable Q] (h : ¬ (P ↔ Q)) : ¬ ((if P then (1 : Int32) else 0) = (if Q then (1 : Int32) else 0)) := fun e => h (by
  by_cases p : P <;> by_cases q : Q
  · exact ⟨fun _ => q, fun _ => p⟩
  · rw [if_pos p, if_neg q] at e; exact absurd e (by decide)
  · rw [if_neg p, if_pos q] at e; exact absurd e (by decide)
  · exact ⟨fun a => absurd a p, fun a => absurd a q⟩)
theorem own_t {P : Prop} [Decidable P] (h : P) : some (Value.int 1) = some (Value.int (if P then (1 : Int32) else 0)) := by rw [if_pos h]
theorem own_f {P : Prop} [Decidable P] (h : ¬ P) : some (Value.int 0) = some (Value.int (if P then (1 : Int32) else 0)) := by rw [if_neg h]
end New
end Jvm.RoadKit
namespace Jvm.Pilot.@@N@@
open Jvm Jvm.ClassFile Sem Op Lib Jvm.Free Jvm.Stand Jvm.LawKit Jvm.RoadKit Bundle Jvm.Pilot.@@N@@.Jvm.D
section OwnFP
open Jvm.FP.Core
theorem own_zone : zval b64 (val64 dconst1) = (one64 : Int) := by
  have h := DInt_zval dint_one
  have e : (4607182418800017408 : UInt64) = dconst1 := by decide
  rw [e] at h; rw [h]; omega
theorem own_zzero : zval b64 (val64 dconst0) = 0 := by rw [val64_dconst0]; decide +kernel
theorem own_nn1 : val64 dconst1 ≠ .nan := by rw [val64_dconst1]; exact Datum.noConfusion
theorem own_nn0 : val64 dconst0 ≠ .nan := by rw [val64_dconst0]; exact Datum.noConfusion
theorem own_ord {a b : UInt64} (ha : val64 a ≠ .nan) (hb : val64 b ≠ .nan) : dcmp a b = some (compare (zval b64 (val64 a)) (zval b64 (val64 b))) := order_zval good_b64 (val64_fits a) (val64_fits b) ha hb
/-- a quotient of two numbers, the divisor not zero -/
theorem own_quo {a b : UInt64} {s t : Bool} {c d : Nat} {q r : Int} (ha : val64 a = .fin s c q) (hb : val64 b = .fin t d r) (hd : d ≠ 0) : val64 (ddiv a b) = roundRatio b64 (s != t) c d (q - r) := by
  rw [val64_ddiv, ha, hb]; simp only [quotient, if_neg hd]
theorem own_e1 (c : Nat) (s : Bool) (q r : Int) (hq : b64.qmin ≤ q) : inUnits c (q - r) (2 * b64.qmin - r) = zmag b64 (.fin s c q) * one64 := by
  rw [← pow_qmin64]
  show c * _ = c * _ * _
  have := qmin_b64
  rw [Nat.mul_assoc, ← Nat.pow_add]; congr 2; omega
theorem own_e2 (d : Nat) (t : Bool) (r : Int) : 2 ^ (b64.qmin - (2 * b64.qmin - r)).toNat * d = zmag b64 (.fin t d r) := by
  show _ = d * _
  rw [Nat.mul_comm]; congr 2; omega
theorem own_quo_le {s t u : Bool} {c d : Nat} {q r : Int} {V : Datum} (hx : Jvm.FP.Core.fits b64 (.fin s c q)) (hy : Jvm.FP.Core.fits b64 (.fin t d r)) (hd : d ≠ 0) (hV : Jvm.FP.Core.fits b64 V) (hn : V ≠ .nan) (h : zmag b64 (.fin s c q) * one64 ≤ zmag b64 V * zmag b64 (.fin t d r)) : zmag b64 (roundRatio b64 u c d (q - r)) ≤ zmag b64 V := by
  have hq := qmin_neg good_b64
  have h1 := hx.2.1
  have h2 := hy.2.1
  refine zmag_roundRatio_le good_b64 (e0 := 2 * b64.qmin - r) (by omega) hV hn (by omega) (by omega) ?_
  rw [own_e1 c s q r h1, Nat.mul_assoc, own_e2 d t r]; exact h
theorem own_quo_ge {s t u : Bool} {c d : Nat} {q r : Int} {V : Datum} (hx : Jvm.FP.Core.fits b64 (.fin s c q)) (hy : Jvm.FP.Core.fits b64 (.fin t d r)) (hd : d ≠ 0) (hV : Jvm.FP.Core.fits b64 V) (h : zmag b64 V * zmag b64 (.fin t d r) ≤ zmag b64 (.fin s c q) * one64) : zmag b64 V ≤ zmag b64 (roundRatio b64 u c d (q - r)) := by
  have hq := qmin_neg good_b64
  have h1 := hx.2.1
  have h2 := hy.2.1
  refine zmag_roundRatio_ge good_b64 (e0 := 2 * b64.qmin - r) (by omega) hV (by omega) (by omega) ?_
  rw [own_e1 c s q r h1, Nat.mul_assoc, own_e2 d t r]; exact h
/-- an int as a double: its shape and size -/
theorem own_i2d (n : Int32) : ∃ s c q, val64 (i2d n) = .fin s c q ∧ Jvm.FP.Core.fits b64 (.fin s c q) ∧ zmag b64 (.fin s c q) = n.toInt.natAbs * one64 ∧ (n.toInt < 0 → s = true) ∧ (0 < n.toInt → s = false) := by
  obtain ⟨s, c, q, h⟩ := i2d_fin n
  have z := DInt_zval (i2d_int n)
  have f := val64_fits (i2d n)
  rw [h] at z f
  have o := one64_pos
  have z' : signed s (zmag b64 (.fin s c q)) = n.toInt * (one64 : Int) := z
  refine ⟨s, c, q, h, f, ?_, ?_, ?_⟩
  · have z2 := congrArg Int.natAbs z'
    rw [Int.natAbs_mul, Int.natAbs_natCast] at z2
    rw [← z2]
    cases s <;> simp [signed]
  · intro hn
    cases s with
    | true => rfl
    | false =>
      exfalso
      have z3 : ((zmag b64 (.fin false c q) : Nat) : Int) = n.toInt * (one64 : Int) := z'
      have := Int.mul_neg_of_neg_of_pos hn (show (0 : Int) < (one64 : Int) by omega)
      omega
  · intro hn
    cases s with
    | false => rfl
    | true =>
      exfalso
      have z3 : -((zmag b64 (.fin true c q) : Nat) : Int) = n.toInt * (one64 : Int) := z'
      have := Int.mul_pos hn (show (0 : Int) < (one64 : Int) by omega)
      omega
theorem own_ac1 (a b c : Nat) : a * b * b * c = (a * c) * (b * b) := by ac_rfl
theorem own_ac2 (k o m : Nat) : k * o * (m * o) = (k * m) * (o * o) := by ac_rfl
theorem own_ac3 (o m : Nat) : o * (m * o) = m * o * o := by ac_rfl
theorem own_big : 2 ^ 31 ≤ one64 := by decide +kernel
def own_below : UInt64 := 0x3fefffffffffffff
theorem own_below_val : val64 own_below = .fin false (2 ^ 53 - 1) (-53) := by decide +kernel
theorem own_below_mag : zmag b64 (val64 own_below) * 2 ^ 53 = (2 ^ 53 - 1) * one64 := by decide +kernel
theorem own_one_mag : zmag b64 (val64 dconst1) = one64 := by decide +kernel
theorem own_tiny_mag : zmag b64 (val64 1) = 1 := by decide +kernel
theorem own_tiny_nn : val64 1 ≠ .nan := by decide +kernel
/-- what the quotient of two ints is worth -/
theorem own_ratio (n m : Int32) (hm : m.toInt ≠ 0) : val64 (ddiv (i2d n) (i2d m)) ≠ .nan ∧
    (0 < zval b64 (val64 (ddiv (i2d n) (i2d m))) ↔ (0 < n.toInt ∧ 0 < m.toInt) ∨ (n.toInt < 0 ∧ m.toInt < 0)) ∧
    ((0 < n.toInt ∧ 0 < m.toInt) ∨ (n.toInt < 0 ∧ m.toInt < 0) → (zval b64 (val64 (ddiv (i2d n) (i2d m))) < (one64 : Int) ↔ n.toInt.natAbs < m.toInt.natAbs)) := by
  obtain ⟨s, c, q, x1, x2, x3, x4, x5⟩ := own_i2d n
  obtain ⟨t, d, r, y1, y2, y3, y4, y5⟩ := own_i2d m
  have o := one64_pos
  have rm := rng32 m
  have mp : 0 < m.toInt.natAbs := by omega
  have hd : d ≠ 0 := by
    rintro rfl
    have z : zmag b64 (.fin t 0 r) = 0 := Nat.zero_mul _
    rw [z] at y3
    have := Nat.mul_pos mp o
    omega
  have hq := own_quo x1 y1 hd
  have nn : val64 (ddiv (i2d n) (i2d m)) ≠ .nan := by rw [hq]; exact roundRatio_ne_nan _ _ _ _ _
  have hz : zval b64 (val64 (ddiv (i2d n) (i2d m))) = signed (s != t) (zmag b64 (roundRatio b64 (s != t) c d (q - r))) := by
    rw [hq]; unfold zval; rw [sgn_roundRatio]
  have pos : n.toInt.natAbs ≠ 0 → 1 ≤ zmag b64 (roundRatio b64 (s != t) c d (q - r)) := by
    intro h
    have g := own_quo_ge (u := (s != t)) x2 y2 hd (val64_fits 1) (by
      rw [own_tiny_mag, x3, y3, Nat.one_mul]
      have h1 : m.toInt.natAbs ≤ one64 := Nat.le_trans (show m.toInt.natAbs ≤ 2 ^ 31 by omega) own_big
      calc m.toInt.natAbs * one64 ≤ one64 * one64 := Nat.mul_le_mul_right _ h1
        _ = 1 * one64 * one64 := by rw [Nat.one_mul]
        _ ≤ n.toInt.natAbs * one64 * one64 := Nat.mul_le_mul_right _ (Nat.mul_le_mul_right _ (by omega)))
    rw [own_tiny_mag] at g; exact g
  have zer : n.toInt.natAbs = 0 → zmag b64 (roundRatio b64 (s != t) c d (q - r)) = 0 := by
    intro h
    rw [h, Nat.zero_mul] at x3
    have c0 : c = 0 := by
      have x3' : c * 2 ^ (q - b64.qmin).toNat = 0 := x3
      rcases Nat.mul_eq_zero.mp x3' with h | h
      · exact h
      · exact absurd h (Nat.ne_of_gt (Nat.two_pow_pos _))
    subst c0
    unfold roundRatio
    rw [if_pos rfl]
    exact Nat.zero_mul _
  have lo : n.toInt.natAbs < m.toInt.natAbs → zmag b64 (roundRatio b64 (s != t) c d (q - r)) < one64 := by
    intro h
    have g := own_quo_le (u := (s != t)) x2 y2 hd (val64_fits own_below) (by rw [own_below_val]; exact Datum.noConfusion) (by
      rw [x3, y3]
      apply Nat.le_of_mul_le_mul_right (c := 2 ^ 53) _ (by decide)
      have e : zmag b64 (val64 own_below) * (m.toInt.natAbs * one64) * 2 ^ 53 = (zmag b64 (val64 own_below) * 2 ^ 53) * (m.toInt.natAbs * one64) := by
        rw [Nat.mul_assoc, Nat.mul_comm (m.toInt.natAbs * one64), ← Nat.mul_assoc]
      rw [e, own_below_mag]
      have e2 : n.toInt.natAbs * one64 * one64 * 2 ^ 53 = (n.toInt.natAbs * 2 ^ 53) * (one64 * one64) := own_ac1 _ _ _
      have e3 : (2 ^ 53 - 1) * one64 * (m.toInt.natAbs * one64) = ((2 ^ 53 - 1) * m.toInt.natAbs) * (one64 * one64) := own_ac2 _ _ _
      rw [e2, e3]
      exact Nat.mul_le_mul_right _ (by omega))
    have g2 : zmag b64 (val64 own_below) < one64 := by decide +kernel
    omega
  have hi : ¬ n.toInt.natAbs < m.toInt.natAbs → one64 ≤ zmag b64 (roundRatio b64 (s != t) c d (q - r)) := by
    intro h
    have g := own_quo_ge (u := (s != t)) x2 y2 hd (val64_fits dconst1) (by
      rw [own_one_mag, x3, y3]
      calc one64 * (m.toInt.natAbs * one64) = m.toInt.natAbs * one64 * one64 := own_ac3 _ _
        _ ≤ n.toInt.natAbs * one64 * one64 := Nat.mul_le_mul_right _ (Nat.mul_le_mul_right _ (by omega)))
    rw [own_one_mag] at g; exact g
  refine ⟨nn, ?_, ?_⟩
  · rw [hz]
    generalize zmag b64 (roundRatio b64 (s != t) c d (q - r)) = w at *
    rcases Int.lt_trichotomy n.toInt 0 with h | h | h <;> rcases Int.lt_trichotomy m.toInt 0 with k | k | k <;> first | exact absurd k hm | skip
    · rw [x4 h, y4 k]; have := pos (by omega); simp only [signed]; simp; omega
    · rw [x4 h, y5 k]; have := pos (by omega); simp only [signed]; simp; omega
    · have := zer (by omega); subst this; cases s <;> cases t <;> simp [signed] <;> omega
    · have := zer (by omega); subst this; cases s <;> cases t <;> simp [signed] <;> omega
    · rw [x5 h, y4 k]; have := pos (by omega); simp only [signed]; simp; omega
    · rw [x5 h, y5 k]; have := pos (by omega); simp only [signed]; simp; omega
  · intro h
    rw [hz]
    have hs : (s != t) = false := by
      rcases h with ⟨a, b⟩ | ⟨a, b⟩
      · rw [x5 a, y5 b]; rfl
      · rw [x4 a, y4 b]; rfl
    generalize zmag b64 (roundRatio b64 (s != t) c d (q - r)) = w at *
    rw [hs]
    show (w : Int) < (one64 : Int) ↔ _
    constructor
    · intro k
      rcases Nat.lt_or_ge n.toInt.natAbs m.toInt.natAbs with g | g
      · exact g
      · have := hi (by omega); omega
    · intro k
      have := lo k; omega
end OwnFP
theorem own_nonan {r : UInt64} (h : Jvm.FP.Core.val64 r ≠ .nan) : Jvm.Free.Fl.NoNaN64 r := Jvm.Free.Fl.val64_no.mpr h
theorem own_cmpl {a b : UInt64} (ha : Jvm.FP.Core.val64 a ≠ .nan) (hb : Jvm.FP.Core.val64 b ≠ .nan) : (0 : Int32) < cmpValue (FP.dcmp a b) .l ↔ Jvm.FP.Core.zval Jvm.FP.Core.b64 (Jvm.FP.Core.val64 b) < Jvm.FP.Core.zval Jvm.FP.Core.b64 (Jvm.FP.Core.val64 a) := by
  rw [show FP.dcmp a b = _ from own_ord ha hb, Jvm.FP.Core.compare_ite]
  split
  · constructor
    · intro h; exact absurd h (by decide)
    · intro h; omega
  · split
    · constructor
      · intro h; exact absurd h (by decide)
      · intro h; omega
    · constructor
      · intro h; omega
      · intro h; decide
theorem own_cmpg {a b : UInt64} (ha : Jvm.FP.Core.val64 a ≠ .nan) (hb : Jvm.FP.Core.val64 b ≠ .nan) : cmpValue (FP.dcmp a b) .g < (0 : Int32) ↔ Jvm.FP.Core.zval Jvm.FP.Core.b64 (Jvm.FP.Core.val64 a) < Jvm.FP.Core.zval Jvm.FP.Core.b64 (Jvm.FP.Core.val64 b) := by
  rw [show FP.dcmp a b = _ from own_ord ha hb, Jvm.FP.Core.compare_ite]
  split
  · constructor
    · intro h; assumption
    · intro h; decide
  · split
    · constructor
      · intro h; exact absurd h (by decide)
      · intro h; omega
    · constructor
      · intro h; exact absurd h (by decide)
      · intro h; omega
def own_it (a x : Int64) : Int64 := x * ((2 : Int64) - (a * x))
def own_inv (a : Int64) : Int64 := own_it a (own_it a (own_it a (own_it a (own_it a a))))
def own_sr (x : Int64) (k : Int32) : Int64 := ((x.toUInt64 >>> (k &&& 0x3f).toInt64.toUInt64).toInt64)
def own_x1 (x : Int64) (k : Int32) : Int64 := x ^^^ own_sr x k
def own_x2 (x : Int64) (k j : Int32) : Int64 := (x ^^^ own_sr x k) ^^^ own_sr x j
def own_unmix (z : Int64) : Int64 := own_x2 (own_x2 (own_x2 z 31 62 * own_inv (-7723592293110705685 : Int64)) 27 54 * own_inv (-4658895280553007687 : Int64)) 30 60 - (-7046029254386353131 : Int64)
def own_mix (s : Int64) : Int64 := own_x1 (own_x1 (own_x1 (s + (-7046029254386353131 : Int64)) 30 * (-4658895280553007687 : Int64)) 27 * (-7723592293110705685 : Int64)) 31
def own_top (z : Int64) : Int64 := own_sr z 11
def own_c53 : UInt64 := 4368491638549381120
def own_t (z : Int64) : UInt64 := FP.dmul (FP.l2d (own_top z)) (4368491638549381120 : UInt64)
theorem own_bit {k j : Nat} (b : BitVec 64) (h : 64 ≤ 3 * k) (e : j = 2 * k) : (b ^^^ (b >>> k) ^^^ (b >>> j)) ^^^ ((b ^^^ (b >>> k) ^^^ (b >>> j)) >>> k) = b := by
  subst e
  apply BitVec.eq_of_getLsbD_eq
  intro i hi
  simp only [BitVec.getLsbD_xor, BitVec.getLsbD_ushiftRight]
  have h1 : b.getLsbD (2 * k + (k + i)) = false := BitVec.getLsbD_of_ge _ _ (by omega)
  have h2 : k + (k + i) = 2 * k + i := by omega
  rw [h1, h2]
  cases b.getLsbD i <;> cases b.getLsbD (k + i) <;> cases b.getLsbD (2 * k + i) <;> rfl
theorem own_r31 (x : Int64) : own_x1 (own_x2 x 31 62) 31 = x := Int64.toBitVec_inj.mp (own_bit (k := 31) (j := 62) x.toBitVec (by decide) rfl)
theorem own_r27 (x : Int64) : own_x1 (own_x2 x 27 54) 27 = x := Int64.toBitVec_inj.mp (own_bit (k := 27) (j := 54) x.toBitVec (by decide) rfl)
theorem own_r30 (x : Int64) : own_x1 (own_x2 x 30 60) 30 = x := Int64.toBitVec_inj.mp (own_bit (k := 30) (j := 60) x.toBitVec (by decide) rfl)
theorem own_m1 (x : Int64) : x * own_inv (-7723592293110705685 : Int64) * (-7723592293110705685 : Int64) = x := by
  rw [Int64.mul_assoc]
  have : own_inv (-7723592293110705685 : Int64) * (-7723592293110705685 : Int64) = 1 := by decide +kernel
  rw [this, Int64.mul_one]
theorem own_m2 (x : Int64) : x * own_inv (-4658895280553007687 : Int64) * (-4658895280553007687 : Int64) = x := by
  rw [Int64.mul_assoc]
  have : own_inv (-4658895280553007687 : Int64) * (-4658895280553007687 : Int64) = 1 := by decide +kernel
  rw [this, Int64.mul_one]
theorem own_back (z : Int64) : own_mix (own_unmix z) = z := by
  unfold own_mix own_unmix
  rw [Int64.sub_add_cancel, own_r30, own_m2, own_r27, own_m1, own_r31]
theorem own_top_b (z : Int64) : 0 ≤ (own_top z).toInt ∧ (own_top z).toInt < 9007199254740992 := by
  have e := c_lushr z (11 : Int32) 11 (by decide) (by decide)
  have e' : (own_top z).toInt = (z.toInt % 18446744073709551616) / (2 ^ 11 : Nat) := e
  rw [e']; omega
section OwnT
open Jvm.FP.Core
theorem own_c_val : val64 (4368491638549381120 : UInt64) = .fin false (2 ^ 52) (-105) := by decide +kernel
theorem own_c_mag : zmag b64 (val64 (4368491638549381120 : UInt64)) * 2 ^ 53 = one64 := by decide +kernel
theorem own_tval (v : Int64) (h0 : 0 ≤ v.toInt) (h1 : v.toInt < 9007199254740992) : val64 (dmul (l2d v) (4368491638549381120 : UInt64)) ≠ .nan ∧ 0 ≤ zval b64 (val64 (dmul (l2d v) (4368491638549381120 : UInt64))) ∧ zval b64 (val64 (dmul (l2d v) (4368491638549381120 : UInt64))) < (one64 : Int) := by
  obtain ⟨c, q, x1⟩ := l2d_shape v
  have s0 : decide (v.toInt < 0) = false := decide_eq_false (by omega)
  rw [s0] at x1
  have z := DInt_zval (show DInt v.toInt (l2d v) from l2d_whole ⟨by omega, h1⟩)
  have f := val64_fits (l2d v)
  rw [x1] at z f
  have z' : ((zmag b64 (.fin false c q) : Nat) : Int) = v.toInt * (one64 : Int) := z
  have zn : zmag b64 (.fin false c q) = v.toInt.toNat * one64 := by
    have : ((v.toInt.toNat * one64 : Nat) : Int) = v.toInt * (one64 : Int) := by
      rw [Int.natCast_mul]; congr 1; omega
    omega
  have fc := val64_fits (4368491638549381120 : UInt64)
  rw [own_c_val] at fc
  obtain ⟨p1, p2, p3⟩ := product_units f fc
  have hd : val64 (dmul (l2d v) (4368491638549381120 : UInt64)) = roundRatio b64 false (c * 2 ^ 52) 1 (q + (-105)) := by
    rw [val64_dmul, x1, own_c_val, p1]; rfl
  have hq := qmin_neg good_b64
  have cm := own_c_mag
  rw [own_c_val] at cm
  have le : zmag b64 (roundRatio b64 false (c * 2 ^ 52) 1 (q + (-105))) ≤ zmag b64 (val64 own_below) := by
    refine zmag_roundRatio_le good_b64 (e0 := 2 * b64.qmin) (by decide) (val64_fits own_below) (by rw [own_below_val]; exact Datum.noConfusion) (by omega) p2 ?_
    rw [p3, zn, Nat.mul_one, show b64.qmin - 2 * b64.qmin = -b64.qmin from by rw [qmin_b64]; rfl, pow_qmin64]
    apply Nat.le_of_mul_le_mul_right (c := 2 ^ 53) _ (by decide)
    rw [Nat.mul_assoc, cm]
    have e2 : zmag b64 (val64 own_below) * one64 * 2 ^ 53 = (zmag b64 (val64 own_below) * 2 ^ 53) * one64 := by
      rw [Nat.mul_assoc, Nat.mul_comm one64, ← Nat.mul_assoc]
    rw [e2, own_below_mag]
    exact Nat.mul_le_mul_right _ (Nat.mul_le_mul_right _ (by omega))
  have g2 : zmag b64 (val64 own_below) < one64 := by decide +kernel
  rw [hd]
  refine ⟨roundRatio_ne_nan _ _ _ _ _, ?_, ?_⟩
  · unfold zval; rw [sgn_roundRatio]; exact Int.natCast_nonneg _
  · unfold zval; rw [sgn_roundRatio]
    show ((zmag b64 (roundRatio b64 false (c * 2 ^ 52) 1 (q + (-105))) : Nat) : Int) < (one64 : Int)
    omega
end OwnT
theorem own_tt (z : Int64) : Jvm.FP.Core.val64 (own_t z) ≠ .nan ∧ 0 ≤ Jvm.FP.Core.zval Jvm.FP.Core.b64 (Jvm.FP.Core.val64 (own_t z)) ∧ Jvm.FP.Core.zval Jvm.FP.Core.b64 (Jvm.FP.Core.val64 (own_t z)) < (Jvm.FP.Core.one64 : Int) := own_tval (own_top z) (own_top_b z).1 (own_top_b z).2
theorem own_tn (z : Int64) : Jvm.Free.Fl.NoNaN64 (FP.dmul (FP.l2d (own_top z)) (4368491638549381120 : UInt64)) := own_nonan (own_tt z).1
theorem own_self (z : Int64) : cmpValue (FP.dcmp (own_t z) (own_t z)) .l = (0 : Int32) := dcmpV_self (own_nonan (own_tt z).1) .l
theorem own_lt (z : Int64) : cmpValue (FP.dcmp (own_t z) FP.dconst1) .g < (0 : Int32) := by
  refine (own_cmpg (own_tt z).1 own_nn1).mpr ?_
  have h := (own_tt z).2.2
  rw [own_zone]; exact h
theorem own_ge (z : Int64) : ¬ (0 : Int32) < cmpValue (FP.dcmp FP.dconst0 (own_t z)) .g := by
  have h := (own_tt z).2.1
  have o : Jvm.FP.Core.zval Jvm.FP.Core.b64 (Jvm.FP.Core.val64 FP.dconst0) = 0 := own_zzero
  rw [show FP.dcmp FP.dconst0 (own_t z) = _ from own_ord own_nn0 (own_tt z).1, o, Jvm.FP.Core.compare_ite]
  split
  · decide
  · split
    · decide
    · omega
theorem pn_0 : plainName "com/example/querist/querist/policies/RandomPolicyThresholdPinLaw" = true := by first | (simp [plainName, overriddenIn]; done) | decide +kernel
theorem d2_0 : decode method_2_code 0 = .ok (.lload_n 0, 1) := by decide +kernel
theorem d2_1 : decode method_2_code 1 = .ok (.lstore_n 2, 1) := by decide +kernel
theorem d2_2 : decode method_2_code 2 = .ok (.lload_n 2, 1) := by decide +kernel
theorem d2_3 : decode method_2_code 3 = .ok (.ldc2_w 7, 3) := by decide +kernel
theorem d2_6 : decode method_2_code 6 = .ok (.lload_n 0, 1) := by decide +kernel
theorem d2_7 : decode method_2_code 7 = .ok (.lload_n 2, 1) := by decide +kernel
theorem d2_8 : decode method_2_code 8 = .ok (.lmul, 1) := by decide +kernel
theorem d2_9 : decode method_2_code 9 = .ok (.lsub, 1) := by decide +kernel
theorem d2_10 : decode method_2_code 10 = .ok (.lmul, 1) := by decide +kernel
theorem d2_11 : decode method_2_code 11 = .ok (.lstore_n 2, 1) := by decide +kernel
theorem d2_12 : decode method_2_code 12 = .ok (.lload_n 2, 1) := by decide +kernel
theorem d2_13 : decode method_2_code 13 = .ok (.ldc2_w 7, 3) := by decide +kernel
theorem d2_16 : decode method_2_code 16 = .ok (.lload_n 0, 1) := by decide +kernel
theorem d2_17 : decode method_2_code 17 = .ok (.lload_n 2, 1) := by decide +kernel
theorem d2_18 : decode method_2_code 18 = .ok (.lmul, 1) := by decide +kernel
theorem d2_19 : decode method_2_code 19 = .ok (.lsub, 1) := by decide +kernel
theorem d2_20 : decode method_2_code 20 = .ok (.lmul, 1) := by decide +kernel
theorem d2_21 : decode method_2_code 21 = .ok (.lstore_n 2, 1) := by decide +kernel
theorem d2_22 : decode method_2_code 22 = .ok (.lload_n 2, 1) := by decide +kernel
theorem d2_23 : decode method_2_code 23 = .ok (.ldc2_w 7, 3) := by decide +kernel
theorem d2_26 : decode method_2_code 26 = .ok (.lload_n 0, 1) := by decide +kernel
theorem d2_27 : decode method_2_code 27 = .ok (.lload_n 2, 1) := by decide +kernel
theorem d2_28 : decode method_2_code 28 = .ok (.lmul, 1) := by decide +kernel
theorem d2_29 : decode method_2_code 29 = .ok (.lsub, 1) := by decide +kernel
theorem d2_30 : decode method_2_code 30 = .ok (.lmul, 1) := by decide +kernel
theorem d2_31 : decode method_2_code 31 = .ok (.lstore_n 2, 1) := by decide +kernel
theorem d2_32 : decode method_2_code 32 = .ok (.lload_n 2, 1) := by decide +kernel
theorem d2_33 : decode method_2_code 33 = .ok (.ldc2_w 7, 3) := by decide +kernel
theorem d2_36 : decode method_2_code 36 = .ok (.lload_n 0, 1) := by decide +kernel
theorem d2_37 : decode method_2_code 37 = .ok (.lload_n 2, 1) := by decide +kernel
theorem d2_38 : decode method_2_code 38 = .ok (.lmul, 1) := by decide +kernel
theorem d2_39 : decode method_2_code 39 = .ok (.lsub, 1) := by decide +kernel
theorem d2_40 : decode method_2_code 40 = .ok (.lmul, 1) := by decide +kernel
theorem d2_41 : decode method_2_code 41 = .ok (.lstore_n 2, 1) := by decide +kernel
theorem d2_42 : decode method_2_code 42 = .ok (.lload_n 2, 1) := by decide +kernel
theorem d2_43 : decode method_2_code 43 = .ok (.ldc2_w 7, 3) := by decide +kernel
theorem d2_46 : decode method_2_code 46 = .ok (.lload_n 0, 1) := by decide +kernel
theorem d2_47 : decode method_2_code 47 = .ok (.lload_n 2, 1) := by decide +kernel
theorem d2_48 : decode method_2_code 48 = .ok (.lmul, 1) := by decide +kernel
theorem d2_49 : decode method_2_code 49 = .ok (.lsub, 1) := by decide +kernel
theorem d2_50 : decode method_2_code 50 = .ok (.lmul, 1) := by decide +kernel
theorem d2_51 : decode method_2_code 51 = .ok (.lstore_n 2, 1) := by decide +kernel
theorem d2_52 : decode method_2_code 52 = .ok (.lload_n 2, 1) := by decide +kernel
theorem d2_53 : decode method_2_code 53 = .ok (.lreturn, 1) := by decide +kernel
theorem ef_2 (m : MethodId) (x0 : Int64) : entryFrame m #[(.long x0)] 4 = mkF m 0 #[.val (.long x0), .second, .unset, .unset] [] := by first | (simp [entryFrame, mkF, argsToLocals, Value.category]; done) | rfl
def Q2 (Z : State) (q0 : Int64) (h0 : Heap) (n0 : Nat) (v : Option Value) (h : Heap) (L : List Loc) : Prop := v = some (.long (own_inv q0)) ∧ Fr n0 L ∧ h = h0
set_option maxRecDepth 65536 in
set_option maxHeartbeats 40000000 in
theorem rm2 (l : Launch) (Z : State) (a0 : Array Value) (hw : ∀ d ∈ tables_1, d.before a0 Z = true) (ws : List Jvm.Cond) (q0 : Int64) (h0 : Heap) (n0 : Nat) (Z0 : n0 ≤ h0.size) :
    MetFree l (⟨"com/example/querist/querist/policies/RandomPolicyThresholdPinLaw", "inverse", "(J)J"⟩ : MethodName) (head1 (Jvm.Cond.code (⟨"com/example/querist/querist/policies/RandomPolicyThresholdPinLaw", "inverse", "(J)J"⟩ : MethodName) method_2_code 4 (some .long) :: ws) ({ frames := 0, cells := 0, slots := 0, locals := 0 } : Room)) (fun a U => a = #[(.long q0)] ∧ Z.Warmed39 U.vm ∧ U.heap = h0) (fun _ _ _ _ _ => True) (fun _ U o U' => ∃ v L, o = .returned v ∧ Q2 Z q0 h0 n0 v U'.heap L ∧ FrameEnd U o U' L ({ frames := 0, cells := 0, slots := 0, locals := 0 } : Room).cells ({ frames := 0, cells := 0, slots := 0, locals := 0 } : Room).slots) := by
  refine MetFree.of_bodySF (plainFor_of_name pn_0) hisR ?_
  intro p e s m args below meth c s₁ Bd hml0 hP hK
  obtain ⟨rfl, hZ, hh⟩ := hP
  have hx := Bd.exec
  have hby := Bd.bytes
  have hml : c.maxLocals = 4 := hml0
  have hown : s.vm.findClass "com/example/querist/querist/policies/RandomPolicyThresholdPinLaw" = some m.cls := findClass_of_methodNamed Bd.named
  have hnm := (name_of_methodNamed Bd.named Bd.method).1
  have X0 : Stand p l e ({ frames := 0, cells := 0, slots := 0, locals := 0 } : Room) s m #[(.long q0)] below meth c s₁ [] 0 0 := Stand.of_body Bd
  have e0 : s₁.heap = h0 := by rw [← hh, Bd.state]; rfl
  have N0 := Fr.nil n0
  have pre0 : ∀ t, Steps p.tables e below (s₁.setTop (mkF m 0 #[.val (.long q0), .second, .unset, .unset] [])) t → Steps p.tables e below (s₁.setTop (entryFrame m #[(.long q0)] 4)) t := fun t k => castTop (ef_2 m q0) k
  have pre1 : ∀ t, Steps p.tables e below (s₁.setTop (mkF m 53 #[.val (.long q0), .second, .val (.long (own_it q0 (own_it q0 (own_it q0 (own_it q0 (own_it q0 q0)))))), .second] [(.long (own_it q0 (own_it q0 (own_it q0 (own_it q0 (own_it q0 q0))))))])) t → Steps p.tables e below (s₁.setTop (entryFrame m #[(.long q0)] 4)) t := fun t k => pre0 t (by
    show Steps p.tables e below (s₁.setTop (mkF m 0 #[.val (.long q0), .second, .unset, .unset] [])) _
    refine XS.lloadN X0.here hx rfl (hb hby d2_0) rfl ?_
    show Steps p.tables e below (s₁.setTop (mkF m 1 #[.val (.long q0), .second, .unset, .unset] [(.long q0)])) _
    refine XS.lstoreN X0.here hx rfl (hb hby d2_1) rfl (l' := #[.val (.long q0), .second, .val (.long q0), .second]) rfl ?_
    show Steps p.tables e below (s₁.setTop (mkF m 2 #[.val (.long q0), .second, .val (.long q0), .second] [])) _
    refine XS.lloadN X0.here hx rfl (hb hby d2_2) rfl ?_
    show Steps p.tables e below (s₁.setTop (mkF m 3 #[.val (.long q0), .second, .val (.long q0), .second] [(.long q0)])) _
    refine X0.ldc2Long hx hown (mvT hZ (hw _ (List.mem_of_getElem? (i := 8) rfl))) (g := (mkF m 3 #[.val (.long q0), .second, .val (.long q0), .second] [(.long q0)])) rfl (hb hby d2_3) _ ?_
    show Steps p.tables e below (s₁.setTop (mkF m 6 #[.val (.long q0), .second, .val (.long q0), .second] [(.long (2 : Int64)), (.long q0)])) _
    refine XS.lloadN X0.here hx rfl (hb hby d2_6) rfl ?_
    show Steps p.tables e below (s₁.setTop (mkF m 7 #[.val (.long q0), .second, .val (.long q0), .second] [(.long q0), (.long (2 : Int64)), (.long q0)])) _
    refine XS.lloadN X0.here hx rfl (hb hby d2_7) rfl ?_
    show Steps p.tables e below (s₁.setTop (mkF m 8 #[.val (.long q0), .second, .val (.long q0), .second] [(.long q0), (.long q0), (.long (2 : Int64)), (.long q0)])) _
    refine XS.lmul X0.here hx rfl (hb hby d2_8) rfl ?_
    show Steps p.tables e below (s₁.setTop (mkF m 9 #[.val (.long q0), .second, .val (.long q0), .second] [(.long (q0 * q0)), (.long (2 : Int64)), (.long q0)])) _
    refine XS.lsub X0.here hx rfl (hb hby d2_9) rfl ?_
    show Steps p.tables e below (s₁.setTop (mkF m 10 #[.val (.long q0), .second, .val (.long q0), .second] [(.long ((2 : Int64) - (q0 * q0))), (.long q0)])) _
    refine XS.lmul X0.here hx rfl (hb hby d2_10) rfl ?_
    show Steps p.tables e below (s₁.setTop (mkF m 11 #[.val (.long q0), .second, .val (.long q0), .second] [(.long (q0 * ((2 : Int64) - (q0 * q0))))])) _
    refine XS.lstoreN X0.here hx rfl (hb hby d2_11) rfl (l' := #[.val (.long q0), .second, .val (.long (q0 * ((2 : Int64) - (q0 * q0)))), .second]) rfl ?_
    show Steps p.tables e below (s₁.setTop (mkF m 12 #[.val (.long q0), .second, .val (.long (own_it q0 q0)), .second] [])) _
    refine XS.lloadN X0.here hx rfl (hb hby d2_12) rfl ?_
    show Steps p.tables e below (s₁.setTop (mkF m 13 #[.val (.long q0), .second, .val (.long (own_it q0 q0)), .second] [(.long (own_it q0 q0))])) _
    refine X0.ldc2Long hx hown (mvT hZ (hw _ (List.mem_of_getElem? (i := 8) rfl))) (g := (mkF m 13 #[.val (.long q0), .second, .val (.long (own_it q0 q0)), .second] [(.long (own_it q0 q0))])) rfl (hb hby d2_13) _ ?_
    show Steps p.tables e below (s₁.setTop (mkF m 16 #[.val (.long q0), .second, .val (.long (own_it q0 q0)), .second] [(.long (2 : Int64)), (.long (own_it q0 q0))])) _
    refine XS.lloadN X0.here hx rfl (hb hby d2_16) rfl ?_
    show Steps p.tables e below (s₁.setTop (mkF m 17 #[.val (.long q0), .second, .val (.long (own_it q0 q0)), .second] [(.long q0), (.long (2 : Int64)), (.long (own_it q0 q0))])) _
    refine XS.lloadN X0.here hx rfl (hb hby d2_17) rfl ?_
    show Steps p.tables e below (s₁.setTop (mkF m 18 #[.val (.long q0), .second, .val (.long (own_it q0 q0)), .second] [(.long (own_it q0 q0)), (.long q0), (.long (2 : Int64)), (.long (own_it q0 q0))])) _
    refine XS.lmul X0.here hx rfl (hb hby d2_18) rfl ?_
    show Steps p.tables e below (s₁.setTop (mkF m 19 #[.val (.long q0), .second, .val (.long (own_it q0 q0)), .second] [(.long (q0 * (own_it q0 q0))), (.long (2 : Int64)), (.long (own_it q0 q0))])) _
    refine XS.lsub X0.here hx rfl (hb hby d2_19) rfl ?_
    show Steps p.tables e below (s₁.setTop (mkF m 20 #[.val (.long q0), .second, .val (.long (own_it q0 q0)), .second] [(.long ((2 : Int64) - (q0 * (own_it q0 q0)))), (.long (own_it q0 q0))])) _
    refine XS.lmul X0.here hx rfl (hb hby d2_20) rfl ?_
    show Steps p.tables e below (s₁.setTop (mkF m 21 #[.val (.long q0), .second, .val (.long (own_it q0 q0)), .second] [(.long ((own_it q0 q0) * ((2 : Int64) - (q0 * (own_it q0 q0)))))])) _
    refine XS.lstoreN X0.here hx rfl (hb hby d2_21) rfl (l' := #[.val (.long q0), .second, .val (.long ((own_it q0 q0) * ((2 : Int64) - (q0 * (own_it q0 q0))))), .second]) rfl ?_
    show Steps p.tables e below (s₁.setTop (mkF m 22 #[.val (.long q0), .second, .val (.long (own_it q0 (own_it q0 q0))), .second] [])) _
    refine XS.lloadN X0.here hx rfl (hb hby d2_22) rfl ?_
    show Steps p.tables e below (s₁.setTop (mkF m 23 #[.val (.long q0), .second, .val (.long (own_it q0 (own_it q0 q0))), .second] [(.long (own_it q0 (own_it q0 q0)))])) _
    refine X0.ldc2Long hx hown (mvT hZ (hw _ (List.mem_of_getElem? (i := 8) rfl))) (g := (mkF m 23 #[.val (.long q0), .second, .val (.long (own_it q0 (own_it q0 q0))), .second] [(.long (own_it q0 (own_it q0 q0)))])) rfl (hb hby d2_23) _ ?_
    show Steps p.tables e below (s₁.setTop (mkF m 26 #[.val (.long q0), .second, .val (.long (own_it q0 (own_it q0 q0))), .second] [(.long (2 : Int64)), (.long (own_it q0 (own_it q0 q0)))])) _
    refine XS.lloadN X0.here hx rfl (hb hby d2_26) rfl ?_
    show Steps p.tables e below (s₁.setTop (mkF m 27 #[.val (.long q0), .second, .val (.long (own_it q0 (own_it q0 q0))), .second] [(.long q0), (.long (2 : Int64)), (.long (own_it q0 (own_it q0 q0)))])) _
    refine XS.lloadN X0.here hx rfl (hb hby d2_27) rfl ?_
    show Steps p.tables e below (s₁.setTop (mkF m 28 #[.val (.long q0), .second, .val (.long (own_it q0 (own_it q0 q0))), .second] [(.long (own_it q0 (own_it q0 q0))), (.long q0), (.long (2 : Int64)), (.long (own_it q0 (own_it q0 q0)))])) _
    refine XS.lmul X0.here hx rfl (hb hby d2_28) rfl ?_
    show Steps p.tables e below (s₁.setTop (mkF m 29 #[.val (.long q0), .second, .val (.long (own_it q0 (own_it q0 q0))), .second] [(.long (q0 * (own_it q0 (own_it q0 q0)))), (.long (2 : Int64)), (.long (own_it q0 (own_it q0 q0)))])) _
    refine XS.lsub X0.here hx rfl (hb hby d2_29) rfl ?_
    show Steps p.tables e below (s₁.setTop (mkF m 30 #[.val (.long q0), .second, .val (.long (own_it q0 (own_it q0 q0))), .second] [(.long ((2 : Int64) - (q0 * (own_it q0 (own_it q0 q0))))), (.long (own_it q0 (own_it q0 q0)))])) _
    refine XS.lmul X0.here hx rfl (hb hby d2_30) rfl ?_
    show Steps p.tables e below (s₁.setTop (mkF m 31 #[.val (.long q0), .second, .val (.long (own_it q0 (own_it q0 q0))), .second] [(.long ((own_it q0 (own_it q0 q0)) * ((2 : Int64) - (q0 * (own_it q0 (own_it q0 q0))))))])) _
    refine XS.lstoreN X0.here hx rfl (hb hby d2_31) rfl (l' := #[.val (.long q0), .second, .val (.long ((own_it q0 (own_it q0 q0)) * ((2 : Int64) - (q0 * (own_it q0 (own_it q0 q0)))))), .second]) rfl ?_
    show Steps p.tables e below (s₁.setTop (mkF m 32 #[.val (.long q0), .second, .val (.long (own_it q0 (own_it q0 (own_it q0 q0)))), .second] [])) _
    refine XS.lloadN X0.here hx rfl (hb hby d2_32) rfl ?_
    show Steps p.tables e below (s₁.setTop (mkF m 33 #[.val (.long q0), .second, .val (.long (own_it q0 (own_it q0 (own_it q0 q0)))), .second] [(.long (own_it q0 (own_it q0 (own_it q0 q0))))])) _
    refine X0.ldc2Long hx hown (mvT hZ (hw _ (List.mem_of_getElem? (i := 8) rfl))) (g := (mkF m 33 #[.val (.long q0), .second, .val (.long (own_it q0 (own_it q0 (own_it q0 q0)))), .second] [(.long (own_it q0 (own_it q0 (own_it q0 q0))))])) rfl (hb hby d2_33) _ ?_
    show Steps p.tables e below (s₁.setTop (mkF m 36 #[.val (.long q0), .second, .val (.long (own_it q0 (own_it q0 (own_it q0 q0)))), .second] [(.long (2 : Int64)), (.long (own_it q0 (own_it q0 (own_it q0 q0))))])) _
    refine XS.lloadN X0.here hx rfl (hb hby d2_36) rfl ?_
    show Steps p.tables e below (s₁.setTop (mkF m 37 #[.val (.long q0), .second, .val (.long (own_it q0 (own_it q0 (own_it q0 q0)))), .second] [(.long q0), (.long (2 : Int64)), (.long (own_it q0 (own_it q0 (own_it q0 q0))))])) _
    refine XS.lloadN X0.here hx rfl (hb hby d2_37) rfl ?_
    show Steps p.tables e below (s₁.setTop (mkF m 38 #[.val (.long q0), .second, .val (.long (own_it q0 (own_it q0 (own_it q0 q0)))), .second] [(.long (own_it q0 (own_it q0 (own_it q0 q0)))), (.long q0), (.long (2 : Int64)), (.long (own_it q0 (own_it q0 (own_it q0 q0))))])) _
    refine XS.lmul X0.here hx rfl (hb hby d2_38) rfl ?_
    show Steps p.tables e below (s₁.setTop (mkF m 39 #[.val (.long q0), .second, .val (.long (own_it q0 (own_it q0 (own_it q0 q0)))), .second] [(.long (q0 * (own_it q0 (own_it q0 (own_it q0 q0))))), (.long (2 : Int64)), (.long (own_it q0 (own_it q0 (own_it q0 q0))))])) _
    refine XS.lsub X0.here hx rfl (hb hby d2_39) rfl ?_
    show Steps p.tables e below (s₁.setTop (mkF m 40 #[.val (.long q0), .second, .val (.long (own_it q0 (own_it q0 (own_it q0 q0)))), .second] [(.long ((2 : Int64) - (q0 * (own_it q0 (own_it q0 (own_it q0 q0)))))), (.long (own_it q0 (own_it q0 (own_it q0 q0))))])) _
    refine XS.lmul X0.here hx rfl (hb hby d2_40) rfl ?_
    show Steps p.tables e below (s₁.setTop (mkF m 41 #[.val (.long q0), .second, .val (.long (own_it q0 (own_it q0 (own_it q0 q0)))), .second] [(.long ((own_it q0 (own_it q0 (own_it q0 q0))) * ((2 : Int64) - (q0 * (own_it q0 (own_it q0 (own_it q0 q0)))))))])) _
    refine XS.lstoreN X0.here hx rfl (hb hby d2_41) rfl (l' := #[.val (.long q0), .second, .val (.long ((own_it q0 (own_it q0 (own_it q0 q0))) * ((2 : Int64) - (q0 * (own_it q0 (own_it q0 (own_it q0 q0))))))), .second]) rfl ?_
    show Steps p.tables e below (s₁.setTop (mkF m 42 #[.val (.long q0), .second, .val (.long (own_it q0 (own_it q0 (own_it q0 (own_it q0 q0))))), .second] [])) _
    refine XS.lloadN X0.here hx rfl (hb hby d2_42) rfl ?_
    show Steps p.tables e below (s₁.setTop (mkF m 43 #[.val (.long q0), .second, .val (.long (own_it q0 (own_it q0 (own_it q0 (own_it q0 q0))))), .second] [(.long (own_it q0 (own_it q0 (own_it q0 (own_it q0 q0)))))])) _
    refine X0.ldc2Long hx hown (mvT hZ (hw _ (List.mem_of_getElem? (i := 8) rfl))) (g := (mkF m 43 #[.val (.long q0), .second, .val (.long (own_it q0 (own_it q0 (own_it q0 (own_it q0 q0))))), .second] [(.long (own_it q0 (own_it q0 (own_it q0 (own_it q0 q0)))))])) rfl (hb hby d2_43) _ ?_
    show Steps p.tables e below (s₁.setTop (mkF m 46 #[.val (.long q0), .second, .val (.long (own_it q0 (own_it q0 (own_it q0 (own_it q0 q0))))), .second] [(.long (2 : Int64)), (.long (own_it q0 (own_it q0 (own_it q0 (own_it q0 q0)))))])) _
    refine XS.lloadN X0.here hx rfl (hb hby d2_46) rfl ?_
    show Steps p.tables e below (s₁.setTop (mkF m 47 #[.val (.long q0), .second, .val (.long (own_it q0 (own_it q0 (own_it q0 (own_it q0 q0))))), .second] [(.long q0), (.long (2 : Int64)), (.long (own_it q0 (own_it q0 (own_it q0 (own_it q0 q0)))))])) _
    refine XS.lloadN X0.here hx rfl (hb hby d2_47) rfl ?_
    show Steps p.tables e below (s₁.setTop (mkF m 48 #[.val (.long q0), .second, .val (.long (own_it q0 (own_it q0 (own_it q0 (own_it q0 q0))))), .second] [(.long (own_it q0 (own_it q0 (own_it q0 (own_it q0 q0))))), (.long q0), (.long (2 : Int64)), (.long (own_it q0 (own_it q0 (own_it q0 (own_it q0 q0)))))])) _
    refine XS.lmul X0.here hx rfl (hb hby d2_48) rfl ?_
    show Steps p.tables e below (s₁.setTop (mkF m 49 #[.val (.long q0), .second, .val (.long (own_it q0 (own_it q0 (own_it q0 (own_it q0 q0))))), .second] [(.long (q0 * (own_it q0 (own_it q0 (own_it q0 (own_it q0 q0)))))), (.long (2 : Int64)), (.long (own_it q0 (own_it q0 (own_it q0 (own_it q0 q0)))))])) _
    refine XS.lsub X0.here hx rfl (hb hby d2_49) rfl ?_
    show Steps p.tables e below (s₁.setTop (mkF m 50 #[.val (.long q0), .second, .val (.long (own_it q0 (own_it q0 (own_it q0 (own_it q0 q0))))), .second] [(.long ((2 : Int64) - (q0 * (own_it q0 (own_it q0 (own_it q0 (own_it q0 q0))))))), (.long (own_it q0 (own_it q0 (own_it q0 (own_it q0 q0)))))])) _
    refine XS.lmul X0.here hx rfl (hb hby d2_50) rfl ?_
    show Steps p.tables e below (s₁.setTop (mkF m 51 #[.val (.long q0), .second, .val (.long (own_it q0 (own_it q0 (own_it q0 (own_it q0 q0))))), .second] [(.long ((own_it q0 (own_it q0 (own_it q0 (own_it q0 q0)))) * ((2 : Int64) - (q0 * (own_it q0 (own_it q0 (own_it q0 (own_it q0 q0))))))))])) _
    refine XS.lstoreN X0.here hx rfl (hb hby d2_51) rfl (l' := #[.val (.long q0), .second, .val (.long ((own_it q0 (own_it q0 (own_it q0 (own_it q0 q0)))) * ((2 : Int64) - (q0 * (own_it q0 (own_it q0 (own_it q0 (own_it q0 q0)))))))), .second]) rfl ?_
    show Steps p.tables e below (s₁.setTop (mkF m 52 #[.val (.long q0), .second, .val (.long (own_it q0 (own_it q0 (own_it q0 (own_it q0 (own_it q0 q0)))))), .second] [])) _
    refine XS.lloadN X0.here hx rfl (hb hby d2_52) rfl ?_
    exact k)
  obtain ⟨fs, hr, hrun, hended, hW, hsame⟩ := X0.leave (v := some (.long (own_it q0 (own_it q0 (own_it q0 (own_it q0 (own_it q0 q0))))))) (fun h => by rw [Bd.returns] at h; cases h)
  refine ⟨_, _, pre1 _ ?_, hrun, hended, _, _, rfl, ?_, ⟨_, rfl⟩, hW, hsame.mono (by decide) (by decide)⟩
  · exact X0.lreturnOut hx Bd.returns (hb hby d2_53) hr
  · show Q2 Z q0 h0 n0 _ s₁.heap _
    rw [e0]
    exact ⟨rfl, N0, rfl⟩
theorem d1_0 : decode method_3_code 0 = .ok (.lload_n 0, 1) := by decide +kernel
theorem d1_1 : decode method_3_code 1 = .ok (.lload_n 0, 1) := by decide +kernel
theorem d1_2 : decode method_3_code 2 = .ok (.bipush 31, 2) := by decide +kernel
theorem d1_4 : decode method_3_code 4 = .ok (.lushr, 1) := by decide +kernel
theorem d1_5 : decode method_3_code 5 = .ok (.lxor, 1) := by decide +kernel
theorem d1_6 : decode method_3_code 6 = .ok (.lload_n 0, 1) := by decide +kernel
theorem d1_7 : decode method_3_code 7 = .ok (.bipush 62, 2) := by decide +kernel
theorem d1_9 : decode method_3_code 9 = .ok (.lushr, 1) := by decide +kernel
theorem d1_10 : decode method_3_code 10 = .ok (.lxor, 1) := by decide +kernel
theorem d1_11 : decode method_3_code 11 = .ok (.lstore_n 2, 1) := by decide +kernel
theorem d1_12 : decode method_3_code 12 = .ok (.lload_n 2, 1) := by decide +kernel
theorem d1_13 : decode method_3_code 13 = .ok (.ldc2_w 9, 3) := by decide +kernel
theorem pd_0 : parseMethodDescriptor "(J)J" = some ⟨[.long], some .long⟩ := by decide +kernel
theorem d1_16 : decode method_3_code 16 = .ok (.invokestatic 11, 3) := by decide +kernel
theorem d1_19 : decode method_3_code 19 = .ok (.lmul, 1) := by decide +kernel
theorem d1_20 : decode method_3_code 20 = .ok (.lstore 4, 2) := by decide +kernel
theorem d1_22 : decode method_3_code 22 = .ok (.lload 4, 2) := by decide +kernel
theorem d1_24 : decode method_3_code 24 = .ok (.lload 4, 2) := by decide +kernel
theorem d1_26 : decode method_3_code 26 = .ok (.bipush 27, 2) := by decide +kernel
theorem d1_28 : decode method_3_code 28 = .ok (.lushr, 1) := by decide +kernel
theorem d1_29 : decode method_3_code 29 = .ok (.lxor, 1) := by decide +kernel
theorem d1_30 : decode method_3_code 30 = .ok (.lload 4, 2) := by decide +kernel
theorem d1_32 : decode method_3_code 32 = .ok (.bipush 54, 2) := by decide +kernel
theorem d1_34 : decode method_3_code 34 = .ok (.lushr, 1) := by decide +kernel
theorem d1_35 : decode method_3_code 35 = .ok (.lxor, 1) := by decide +kernel
theorem d1_36 : decode method_3_code 36 = .ok (.lstore 6, 2) := by decide +kernel
theorem d1_38 : decode method_3_code 38 = .ok (.lload 6, 2) := by decide +kernel
theorem d1_40 : decode method_3_code 40 = .ok (.ldc2_w 17, 3) := by decide +kernel
theorem d1_43 : decode method_3_code 43 = .ok (.invokestatic 11, 3) := by decide +kernel
theorem d1_46 : decode method_3_code 46 = .ok (.lmul, 1) := by decide +kernel
theorem d1_47 : decode method_3_code 47 = .ok (.lstore 8, 2) := by decide +kernel
theorem d1_49 : decode method_3_code 49 = .ok (.lload 8, 2) := by decide +kernel
theorem d1_51 : decode method_3_code 51 = .ok (.lload 8, 2) := by decide +kernel
theorem d1_53 : decode method_3_code 53 = .ok (.bipush 30, 2) := by decide +kernel
theorem d1_55 : decode method_3_code 55 = .ok (.lushr, 1) := by decide +kernel
theorem d1_56 : decode method_3_code 56 = .ok (.lxor, 1) := by decide +kernel
theorem d1_57 : decode method_3_code 57 = .ok (.lload 8, 2) := by decide +kernel
theorem d1_59 : decode method_3_code 59 = .ok (.bipush 60, 2) := by decide +kernel
theorem d1_61 : decode method_3_code 61 = .ok (.lushr, 1) := by decide +kernel
theorem d1_62 : decode method_3_code 62 = .ok (.lxor, 1) := by decide +kernel
theorem d1_63 : decode method_3_code 63 = .ok (.lstore 10, 2) := by decide +kernel
theorem d1_65 : decode method_3_code 65 = .ok (.lload 10, 2) := by decide +kernel
theorem d1_67 : decode method_3_code 67 = .ok (.ldc2_w 19, 3) := by decide +kernel
theorem d1_70 : decode method_3_code 70 = .ok (.lsub, 1) := by decide +kernel
theorem d1_71 : decode method_3_code 71 = .ok (.lreturn, 1) := by decide +kernel
theorem ef_1 (m : MethodId) (x0 : Int64) : entryFrame m #[(.long x0)] 12 = mkF m 0 #[.val (.long x0), .second, .unset, .unset, .unset, .unset, .unset, .unset, .unset, .unset, .unset, .unset] [] := by first | (simp [entryFrame, mkF, argsToLocals, Value.category]; done) | rfl
def Q1 (Z : State) (q0 : Int64) (h0 : Heap) (n0 : Nat) (v : Option Value) (h : Heap) (L : List Loc) : Prop := v = some (.long (own_unmix q0)) ∧ Fr n0 L ∧ h = h0
set_option maxRecDepth 65536 in
set_option maxHeartbeats 40000000 in
theorem rm1 (l : Launch) (Z : State) (a0 : Array Value) (hw : ∀ d ∈ tables_1, d.before a0 Z = true) (ws : List Jvm.Cond) (q0 : Int64) (h0 : Heap) (n0 : Nat) (Z0 : n0 ≤ h0.size) :
    MetFree l (⟨"com/example/querist/querist/policies/RandomPolicyThresholdPinLaw", "unmix", "(J)J"⟩ : MethodName) (head1 (Jvm.Cond.code (⟨"com/example/querist/querist/policies/RandomPolicyThresholdPinLaw", "unmix", "(J)J"⟩ : MethodName) method_3_code 12 (some .long) :: ws) ({ frames := 1, cells := 0, slots := 0, locals := 17 } : Room)) (fun a U => a = #[(.long q0)] ∧ Z.Warmed39 U.vm ∧ U.heap = h0) (fun _ _ _ _ _ => True) (fun _ U o U' => ∃ v L, o = .returned v ∧ Q1 Z q0 h0 n0 v U'.heap L ∧ FrameEnd U o U' L ({ frames := 1, cells := 0, slots := 0, locals := 17 } : Room).cells ({ frames := 1, cells := 0, slots := 0, locals := 17 } : Room).slots) := by
  refine MetFree.of_bodySF (plainFor_of_name pn_0) hisR ?_
  intro p e s m args below meth c s₁ Bd hml0 hP hK
  obtain ⟨rfl, hZ, hh⟩ := hP
  have hx := Bd.exec
  have hby := Bd.bytes
  have hml : c.maxLocals = 12 := hml0
  have hown : s.vm.findClass "com/example/querist/querist/policies/RandomPolicyThresholdPinLaw" = some m.cls := findClass_of_methodNamed Bd.named
  have hnm := (name_of_methodNamed Bd.named Bd.method).1
  have X0 : Stand p l e ({ frames := 1, cells := 0, slots := 0, locals := 17 } : Room) s m #[(.long q0)] below meth c s₁ [] 0 0 := Stand.of_body Bd
  have e0 : s₁.heap = h0 := by rw [← hh, Bd.state]; rfl
  have N0 := Fr.nil n0
  have pre0 : ∀ t, Steps p.tables e below (s₁.setTop (mkF m 0 #[.val (.long q0), .second, .unset, .unset, .unset, .unset, .unset, .unset, .unset, .unset, .unset, .unset] [])) t → Steps p.tables e below (s₁.setTop (entryFrame m #[(.long q0)] 12)) t := fun t k => castTop (ef_1 m q0) k
  obtain ⟨_, _, ⟨T1, L1, k1, n1⟩, -, X1, ⟨Lc1, hQ1, l1, y1, z1⟩, st1⟩ := Jvm.LawKit.callS X0 hx (y := (⟨"com/example/querist/querist/policies/RandomPolicyThresholdPinLaw", "inverse", "(J)J"⟩ : MethodName)) hown (mvT hZ (hw _ (List.mem_of_getElem? (i := 5) rfl))) (mvT hZ (hw _ (List.mem_of_getElem? (i := 6) rfl))) (mvT hZ (hw _ (List.mem_of_getElem? (i := 2) rfl))) (mvT hZ (hw _ (List.mem_of_getElem? (i := 7) rfl))) (by decide) (backOf (W := 2) (rm2 l Z a0 hw [] (-7723592293110705685 : Int64) h0 n0 Z0 ) hZ (hw _ (List.mem_of_getElem? (i := 7) rfl)) (hw _ (List.mem_of_getElem? (i := 2) rfl)) (by decide) (by decide)) (g := (mkF m 16 #[.val (.long q0), .second, .val (.long (own_x2 q0 31 62)), .second, .unset, .unset, .unset, .unset, .unset, .unset, .unset, .unset] [(.long (-7723592293110705685 : Int64)), (.long (own_x2 q0 31 62))])) rfl (by rw [hml]; rfl) (argsL := [(.long (-7723592293110705685 : Int64))]) (rest := [(.long (own_x2 q0 31 62))]) (lenOf pd_0 rfl) rfl (by show 2 * 0 + _ ≤ _; exact Nat.le_of_eq rfl) (hb hby d1_16) (fun _ _ => ⟨rfl, e0, (by decide : 0 + 0 ≤ _), (by decide : 0 + 0 ≤ _)⟩)
  dsimp only [Pt.U, Pt.locs, Pt.cells, Pt.slots] at X1 l1 y1 z1 st1 hQ1
  subst l1 y1 z1
  obtain ⟨rfl, N1q, hh1⟩ := hQ1
  have N1 := Fr.app N0 N1q
  obtain ⟨_, _, ⟨T2, L2, k2, n2⟩, -, X2, ⟨Lc2, hQ2, l2, y2, z2⟩, st2⟩ := Jvm.LawKit.callS X1 hx (y := (⟨"com/example/querist/querist/policies/RandomPolicyThresholdPinLaw", "inverse", "(J)J"⟩ : MethodName)) hown (mvT hZ (hw _ (List.mem_of_getElem? (i := 5) rfl))) (mvT hZ (hw _ (List.mem_of_getElem? (i := 6) rfl))) (mvT hZ (hw _ (List.mem_of_getElem? (i := 2) rfl))) (mvT hZ (hw _ (List.mem_of_getElem? (i := 7) rfl))) (by decide) (backOf (W := 2) (rm2 l Z a0 hw [] (-4658895280553007687 : Int64) h0 n0 Z0 ) hZ (hw _ (List.mem_of_getElem? (i := 7) rfl)) (hw _ (List.mem_of_getElem? (i := 2) rfl)) (by decide) (by decide)) (g := (mkF m 43 #[.val (.long q0), .second, .val (.long (own_x2 q0 31 62)), .second, .val (.long ((own_x2 q0 31 62) * own_inv (-7723592293110705685 : Int64))), .second, .val (.long (own_x2 ((own_x2 q0 31 62) * own_inv (-7723592293110705685 : Int64)) 27 54)), .second, .unset, .unset, .unset, .unset] [(.long (-4658895280553007687 : Int64)), (.long (own_x2 ((own_x2 q0 31 62) * own_inv (-7723592293110705685 : Int64)) 27 54))])) rfl (by rw [hml]; rfl) (argsL := [(.long (-4658895280553007687 : Int64))]) (rest := [(.long (own_x2 ((own_x2 q0 31 62) * own_inv (-7723592293110705685 : Int64)) 27 54))]) (lenOf pd_0 rfl) rfl (by show 2 * 0 + _ ≤ _; exact Nat.le_of_eq rfl) (hb hby d1_43) (fun _ _ => ⟨rfl, hh1, (by decide : 0 + 0 ≤ _), (by decide : 0 + 0 ≤ _)⟩)
  dsimp only [Pt.U, Pt.locs, Pt.cells, Pt.slots] at X2 l2 y2 z2 st2 hQ2
  subst l2 y2 z2
  obtain ⟨rfl, N2q, hh2⟩ := hQ2
  have N2 := Fr.app N1 N2q
  have pre3 : ∀ t, Steps p.tables e below (T2.setTop (mkF m 71 #[.val (.long q0), .second, .val (.long (own_x2 q0 31 62)), .second, .val (.long ((own_x2 q0 31 62) * own_inv (-7723592293110705685 : Int64))), .second, .val (.long (own_x2 ((own_x2 q0 31 62) * own_inv (-7723592293110705685 : Int64)) 27 54)), .second, .val (.long ((own_x2 ((own_x2 q0 31 62) * own_inv (-7723592293110705685 : Int64)) 27 54) * own_inv (-4658895280553007687 : Int64))), .second, .val (.long (own_x2 ((own_x2 ((own_x2 q0 31 62) * own_inv (-7723592293110705685 : Int64)) 27 54) * own_inv (-4658895280553007687 : Int64)) 30 60)), .second] [(.long ((own_x2 ((own_x2 ((own_x2 q0 31 62) * own_inv (-7723592293110705685 : Int64)) 27 54) * own_inv (-4658895280553007687 : Int64)) 30 60) - (-7046029254386353131 : Int64)))])) t → Steps p.tables e below (s₁.setTop (entryFrame m #[(.long q0)] 12)) t := fun t k => pre0 t (by
    show Steps p.tables e below (s₁.setTop (mkF m 0 #[.val (.long q0), .second, .unset, .unset, .unset, .unset, .unset, .unset, .unset, .unset, .unset, .unset] [])) _
    refine XS.lloadN X0.here hx rfl (hb hby d1_0) rfl ?_
    show Steps p.tables e below (s₁.setTop (mkF m 1 #[.val (.long q0), .second, .unset, .unset, .unset, .unset, .unset, .unset, .unset, .unset, .unset, .unset] [(.long q0)])) _
    refine XS.lloadN X0.here hx rfl (hb hby d1_1) rfl ?_
    show Steps p.tables e below (s₁.setTop (mkF m 2 #[.val (.long q0), .second, .unset, .unset, .unset, .unset, .unset, .unset, .unset, .unset, .unset, .unset] [(.long q0), (.long q0)])) _
    refine XS.bipush X0.here hx rfl (hb hby d1_2) ?_
    show Steps p.tables e below (s₁.setTop (mkF m 4 #[.val (.long q0), .second, .unset, .unset, .unset, .unset, .unset, .unset, .unset, .unset, .unset, .unset] [(.int (31 : Int32)), (.long q0), (.long q0)])) _
    refine XS.lushr X0.here hx rfl (hb hby d1_4) rfl ?_
    show Steps p.tables e below (s₁.setTop (mkF m 5 #[.val (.long q0), .second, .unset, .unset, .unset, .unset, .unset, .unset, .unset, .unset, .unset, .unset] [(.long ((q0.toUInt64 >>> ((31 : Int32) &&& 0x3f).toInt64.toUInt64).toInt64)), (.long q0)])) _
    refine XS.lxor X0.here hx rfl (hb hby d1_5) rfl ?_
    show Steps p.tables e below (s₁.setTop (mkF m 6 #[.val (.long q0), .second, .unset, .unset, .unset, .unset, .unset, .unset, .unset, .unset, .unset, .unset] [(.long (q0 ^^^ ((q0.toUInt64 >>> ((31 : Int32) &&& 0x3f).toInt64.toUInt64).toInt64)))])) _
    refine XS.lloadN X0.here hx rfl (hb hby d1_6) rfl ?_
    show Steps p.tables e below (s₁.setTop (mkF m 7 #[.val (.long q0), .second, .unset, .unset, .unset, .unset, .unset, .unset, .unset, .unset, .unset, .unset] [(.long q0), (.long (q0 ^^^ ((q0.toUInt64 >>> ((31 : Int32) &&& 0x3f).toInt64.toUInt64).toInt64)))])) _
    refine XS.bipush X0.here hx rfl (hb hby d1_7) ?_
    show Steps p.tables e below (s₁.setTop (mkF m 9 #[.val (.long q0), .second, .unset, .unset, .unset, .unset, .unset, .unset, .unset, .unset, .unset, .unset] [(.int (62 : Int32)), (.long q0), (.long (q0 ^^^ ((q0.toUInt64 >>> ((31 : Int32) &&& 0x3f).toInt64.toUInt64).toInt64)))])) _
    refine XS.lushr X0.here hx rfl (hb hby d1_9) rfl ?_
    show Steps p.tables e below (s₁.setTop (mkF m 10 #[.val (.long q0), .second, .unset, .unset, .unset, .unset, .unset, .unset, .unset, .unset, .unset, .unset] [(.long ((q0.toUInt64 >>> ((62 : Int32) &&& 0x3f).toInt64.toUInt64).toInt64)), (.long (q0 ^^^ ((q0.toUInt64 >>> ((31 : Int32) &&& 0x3f).toInt64.toUInt64).toInt64)))])) _
    refine XS.lxor X0.here hx rfl (hb hby d1_10) rfl ?_
    show Steps p.tables e below (s₁.setTop (mkF m 11 #[.val (.long q0), .second, .unset, .unset, .unset, .unset, .unset, .unset, .unset, .unset, .unset, .unset] [(.long ((q0 ^^^ ((q0.toUInt64 >>> ((31 : Int32) &&& 0x3f).toInt64.toUInt64).toInt64)) ^^^ ((q0.toUInt64 >>> ((62 : Int32) &&& 0x3f).toInt64.toUInt64).toInt64)))])) _
    refine XS.lstoreN X0.here hx rfl (hb hby d1_11) rfl (l' := #[.val (.long q0), .second, .val (.long ((q0 ^^^ ((q0.toUInt64 >>> ((31 : Int32) &&& 0x3f).toInt64.toUInt64).toInt64)) ^^^ ((q0.toUInt64 >>> ((62 : Int32) &&& 0x3f).toInt64.toUInt64).toInt64))), .second, .unset, .unset, .unset, .unset, .unset, .unset, .unset, .unset]) rfl ?_
    show Steps p.tables e below (s₁.setTop (mkF m 12 #[.val (.long q0), .second, .val (.long (own_x2 q0 31 62)), .second, .unset, .unset, .unset, .unset, .unset, .unset, .unset, .unset] [])) _
    refine XS.lloadN X0.here hx rfl (hb hby d1_12) rfl ?_
    show Steps p.tables e below (s₁.setTop (mkF m 13 #[.val (.long q0), .second, .val (.long (own_x2 q0 31 62)), .second, .unset, .unset, .unset, .unset, .unset, .unset, .unset, .unset] [(.long (own_x2 q0 31 62))])) _
    refine X0.ldc2Long hx hown (mvT hZ (hw _ (List.mem_of_getElem? (i := 4) rfl))) (g := (mkF m 13 #[.val (.long q0), .second, .val (.long (own_x2 q0 31 62)), .second, .unset, .unset, .unset, .unset, .unset, .unset, .unset, .unset] [(.long (own_x2 q0 31 62))])) rfl (hb hby d1_13) _ ?_
    show Steps p.tables e below (s₁.setTop (mkF m 16 #[.val (.long q0), .second, .val (.long (own_x2 q0 31 62)), .second, .unset, .unset, .unset, .unset, .unset, .unset, .unset, .unset] [(.long (-7723592293110705685 : Int64)), (.long (own_x2 q0 31 62))])) _
    refine st1 _ ?_
    show Steps p.tables e below (T1.setTop (mkF m 19 #[.val (.long q0), .second, .val (.long (own_x2 q0 31 62)), .second, .unset, .unset, .unset, .unset, .unset, .unset, .unset, .unset] [(.long (own_inv (-7723592293110705685 : Int64))), (.long (own_x2 q0 31 62))])) _
    refine XS.lmul X1.here hx rfl (hb hby d1_19) rfl ?_
    show Steps p.tables e below (T1.setTop (mkF m 20 #[.val (.long q0), .second, .val (.long (own_x2 q0 31 62)), .second, .unset, .unset, .unset, .unset, .unset, .unset, .unset, .unset] [(.long ((own_x2 q0 31 62) * (own_inv (-7723592293110705685 : Int64))))])) _
    refine XS.lstore X1.here hx rfl (hb hby d1_20) rfl (l' := #[.val (.long q0), .second, .val (.long (own_x2 q0 31 62)), .second, .val (.long ((own_x2 q0 31 62) * (own_inv (-7723592293110705685 : Int64)))), .second, .unset, .unset, .unset, .unset, .unset, .unset]) rfl ?_
    show Steps p.tables e below (T1.setTop (mkF m 22 #[.val (.long q0), .second, .val (.long (own_x2 q0 31 62)), .second, .val (.long ((own_x2 q0 31 62) * own_inv (-7723592293110705685 : Int64))), .second, .unset, .unset, .unset, .unset, .unset, .unset] [])) _
    refine XS.lload X1.here hx rfl (hb hby d1_22) rfl ?_
    show Steps p.tables e below (T1.setTop (mkF m 24 #[.val (.long q0), .second, .val (.long (own_x2 q0 31 62)), .second, .val (.long ((own_x2 q0 31 62) * own_inv (-7723592293110705685 : Int64))), .second, .unset, .unset, .unset, .unset, .unset, .unset] [(.long ((own_x2 q0 31 62) * own_inv (-7723592293110705685 : Int64)))])) _
    refine XS.lload X1.here hx rfl (hb hby d1_24) rfl ?_
    show Steps p.tables e below (T1.setTop (mkF m 26 #[.val (.long q0), .second, .val (.long (own_x2 q0 31 62)), .second, .val (.long ((own_x2 q0 31 62) * own_inv (-7723592293110705685 : Int64))), .second, .unset, .unset, .unset, .unset, .unset, .unset] [(.long ((own_x2 q0 31 62) * own_inv (-7723592293110705685 : Int64))), (.long ((own_x2 q0 31 62) * own_inv (-7723592293110705685 : Int64)))])) _
    refine XS.bipush X1.here hx rfl (hb hby d1_26) ?_
    show Steps p.tables e below (T1.setTop (mkF m 28 #[.val (.long q0), .second, .val (.long (own_x2 q0 31 62)), .second, .val (.long ((own_x2 q0 31 62) * own_inv (-7723592293110705685 : Int64))), .second, .unset, .unset, .unset, .unset, .unset, .unset] [(.int (27 : Int32)), (.long ((own_x2 q0 31 62) * own_inv (-7723592293110705685 : Int64))), (.long ((own_x2 q0 31 62) * own_inv (-7723592293110705685 : Int64)))])) _
    refine XS.lushr X1.here hx rfl (hb hby d1_28) rfl ?_
    show Steps p.tables e below (T1.setTop (mkF m 29 #[.val (.long q0), .second, .val (.long (own_x2 q0 31 62)), .second, .val (.long ((own_x2 q0 31 62) * own_inv (-7723592293110705685 : Int64))), .second, .unset, .unset, .unset, .unset, .unset, .unset] [(.long ((((own_x2 q0 31 62) * own_inv (-7723592293110705685 : Int64)).toUInt64 >>> ((27 : Int32) &&& 0x3f).toInt64.toUInt64).toInt64)), (.long ((own_x2 q0 31 62) * own_inv (-7723592293110705685 : Int64)))])) _
    refine XS.lxor X1.here hx rfl (hb hby d1_29) rfl ?_
    show Steps p.tables e below (T1.setTop (mkF m 30 #[.val (.long q0), .second, .val (.long (own_x2 q0 31 62)), .second, .val (.long ((own_x2 q0 31 62) * own_inv (-7723592293110705685 : Int64))), .second, .unset, .unset, .unset, .unset, .unset, .unset] [(.long (((own_x2 q0 31 62) * own_inv (-7723592293110705685 : Int64)) ^^^ ((((own_x2 q0 31 62) * own_inv (-7723592293110705685 : Int64)).toUInt64 >>> ((27 : Int32) &&& 0x3f).toInt64.toUInt64).toInt64)))])) _
    refine XS.lload X1.here hx rfl (hb hby d1_30) rfl ?_
    show Steps p.tables e below (T1.setTop (mkF m 32 #[.val (.long q0), .second, .val (.long (own_x2 q0 31 62)), .second, .val (.long ((own_x2 q0 31 62) * own_inv (-7723592293110705685 : Int64))), .second, .unset, .unset, .unset, .unset, .unset, .unset] [(.long ((own_x2 q0 31 62) * own_inv (-7723592293110705685 : Int64))), (.long (((own_x2 q0 31 62) * own_inv (-7723592293110705685 : Int64)) ^^^ ((((own_x2 q0 31 62) * own_inv (-7723592293110705685 : Int64)).toUInt64 >>> ((27 : Int32) &&& 0x3f).toInt64.toUInt64).toInt64)))])) _
    refine XS.bipush X1.here hx rfl (hb hby d1_32) ?_
    show Steps p.tables e below (T1.setTop (mkF m 34 #[.val (.long q0), .second, .val (.long (own_x2 q0 31 62)), .second, .val (.long ((own_x2 q0 31 62) * own_inv (-7723592293110705685 : Int64))), .second, .unset, .unset, .unset, .unset, .unset, .unset] [(.int (54 : Int32)), (.long ((own_x2 q0 31 62) * own_inv (-7723592293110705685 : Int64))), (.long (((own_x2 q0 31 62) * own_inv (-7723592293110705685 : Int64)) ^^^ ((((own_x2 q0 31 62) * own_inv (-7723592293110705685 : Int64)).toUInt64 >>> ((27 : Int32) &&& 0x3f).toInt64.toUInt64).toInt64)))])) _
    refine XS.lushr X1.here hx rfl (hb hby d1_34) rfl ?_
    show Steps p.tables e below (T1.setTop (mkF m 35 #[.val (.long q0), .second, .val (.long (own_x2 q0 31 62)), .second, .val (.long ((own_x2 q0 31 62) * own_inv (-7723592293110705685 : Int64))), .second, .unset, .unset, .unset, .unset, .unset, .unset] [(.long ((((own_x2 q0 31 62) * own_inv (-7723592293110705685 : Int64)).toUInt64 >>> ((54 : Int32) &&& 0x3f).toInt64.toUInt64).toInt64)), (.long (((own_x2 q0 31 62) * own_inv (-7723592293110705685 : Int64)) ^^^ ((((own_x2 q0 31 62) * own_inv (-7723592293110705685 : Int64)).toUInt64 >>> ((27 : Int32) &&& 0x3f).toInt64.toUInt64).toInt64)))])) _
    refine XS.lxor X1.here hx rfl (hb hby d1_35) rfl ?_
    show Steps p.tables e below (T1.setTop (mkF m 36 #[.val (.long q0), .second, .val (.long (own_x2 q0 31 62)), .second, .val (.long ((own_x2 q0 31 62) * own_inv (-7723592293110705685 : Int64))), .second, .unset, .unset, .unset, .unset, .unset, .unset] [(.long ((((own_x2 q0 31 62) * own_inv (-7723592293110705685 : Int64)) ^^^ ((((own_x2 q0 31 62) * own_inv (-7723592293110705685 : Int64)).toUInt64 >>> ((27 : Int32) &&& 0x3f).toInt64.toUInt64).toInt64)) ^^^ ((((own_x2 q0 31 62) * own_inv (-7723592293110705685 : Int64)).toUInt64 >>> ((54 : Int32) &&& 0x3f).toInt64.toUInt64).toInt64)))])) _
    refine XS.lstore X1.here hx rfl (hb hby d1_36) rfl (l' := #[.val (.long q0), .second, .val (.long (own_x2 q0 31 62)), .second, .val (.long ((own_x2 q0 31 62) * own_inv (-7723592293110705685 : Int64))), .second, .val (.long ((((own_x2 q0 31 62) * own_inv (-7723592293110705685 : Int64)) ^^^ ((((own_x2 q0 31 62) * own_inv (-7723592293110705685 : Int64)).toUInt64 >>> ((27 : Int32) &&& 0x3f).toInt64.toUInt64).toInt64)) ^^^ ((((own_x2 q0 31 62) * own_inv (-7723592293110705685 : Int64)).toUInt64 >>> ((54 : Int32) &&& 0x3f).toInt64.toUInt64).toInt64))), .second, .unset, .unset, .unset, .unset]) rfl ?_
    show Steps p.tables e below (T1.setTop (mkF m 38 #[.val (.long q0), .second, .val (.long (own_x2 q0 31 62)), .second, .val (.long ((own_x2 q0 31 62) * own_inv (-7723592293110705685 : Int64))), .second, .val (.long (own_x2 ((own_x2 q0 31 62) * own_inv (-7723592293110705685 : Int64)) 27 54)), .second, .unset, .unset, .unset, .unset] [])) _
    refine XS.lload X1.here hx rfl (hb hby d1_38) rfl ?_
    show Steps p.tables e below (T1.setTop (mkF m 40 #[.val (.long q0), .second, .val (.long (own_x2 q0 31 62)), .second, .val (.long ((own_x2 q0 31 62) * own_inv (-7723592293110705685 : Int64))), .second, .val (.long (own_x2 ((own_x2 q0 31 62) * own_inv (-7723592293110705685 : Int64)) 27 54)), .second, .unset, .unset, .unset, .unset] [(.long (own_x2 ((own_x2 q0 31 62) * own_inv (-7723592293110705685 : Int64)) 27 54))])) _
    refine X1.ldc2Long hx hown (mvT hZ (hw _ (List.mem_of_getElem? (i := 9) rfl))) (g := (mkF m 40 #[.val (.long q0), .second, .val (.long (own_x2 q0 31 62)), .second, .val (.long ((own_x2 q0 31 62) * own_inv (-7723592293110705685 : Int64))), .second, .val (.long (own_x2 ((own_x2 q0 31 62) * own_inv (-7723592293110705685 : Int64)) 27 54)), .second, .unset, .unset, .unset, .unset] [(.long (own_x2 ((own_x2 q0 31 62) * own_inv (-7723592293110705685 : Int64)) 27 54))])) rfl (hb hby d1_40) _ ?_
    show Steps p.tables e below (T1.setTop (mkF m 43 #[.val (.long q0), .second, .val (.long (own_x2 q0 31 62)), .second, .val (.long ((own_x2 q0 31 62) * own_inv (-7723592293110705685 : Int64))), .second, .val (.long (own_x2 ((own_x2 q0 31 62) * own_inv (-7723592293110705685 : Int64)) 27 54)), .second, .unset, .unset, .unset, .unset] [(.long (-4658895280553007687 : Int64)), (.long (own_x2 ((own_x2 q0 31 62) * own_inv (-7723592293110705685 : Int64)) 27 54))])) _
    refine st2 _ ?_
    show Steps p.tables e below (T2.setTop (mkF m 46 #[.val (.long q0), .second, .val (.long (own_x2 q0 31 62)), .second, .val (.long ((own_x2 q0 31 62) * own_inv (-7723592293110705685 : Int64))), .second, .val (.long (own_x2 ((own_x2 q0 31 62) * own_inv (-7723592293110705685 : Int64)) 27 54)), .second, .unset, .unset, .unset, .unset] [(.long (own_inv (-4658895280553007687 : Int64))), (.long (own_x2 ((own_x2 q0 31 62) * own_inv (-7723592293110705685 : Int64)) 27 54))])) _
    refine XS.lmul X2.here hx rfl (hb hby d1_46) rfl ?_
    show Steps p.tables e below (T2.setTop (mkF m 47 #[.val (.long q0), .second, .val (.long (own_x2 q0 31 62)), .second, .val (.long ((own_x2 q0 31 62) * own_inv (-7723592293110705685 : Int64))), .second, .val (.long (own_x2 ((own_x2 q0 31 62) * own_inv (-7723592293110705685 : Int64)) 27 54)), .second, .unset, .unset, .unset, .unset] [(.long ((own_x2 ((own_x2 q0 31 62) * own_inv (-7723592293110705685 : Int64)) 27 54) * (own_inv (-4658895280553007687 : Int64))))])) _
    refine XS.lstore X2.here hx rfl (hb hby d1_47) rfl (l' := #[.val (.long q0), .second, .val (.long (own_x2 q0 31 62)), .second, .val (.long ((own_x2 q0 31 62) * own_inv (-7723592293110705685 : Int64))), .second, .val (.long (own_x2 ((own_x2 q0 31 62) * own_inv (-7723592293110705685 : Int64)) 27 54)), .second, .val (.long ((own_x2 ((own_x2 q0 31 62) * own_inv (-7723592293110705685 : Int64)) 27 54) * (own_inv (-4658895280553007687 : Int64)))), .second, .unset, .unset]) rfl ?_
    show Steps p.tables e below (T2.setTop (mkF m 49 #[.val (.long q0), .second, .val (.long (own_x2 q0 31 62)), .second, .val (.long ((own_x2 q0 31 62) * own_inv (-7723592293110705685 : Int64))), .second, .val (.long (own_x2 ((own_x2 q0 31 62) * own_inv (-7723592293110705685 : Int64)) 27 54)), .second, .val (.long ((own_x2 ((own_x2 q0 31 62) * own_inv (-7723592293110705685 : Int64)) 27 54) * own_inv (-4658895280553007687 : Int64))), .second, .unset, .unset] [])) _
    refine XS.lload X2.here hx rfl (hb hby d1_49) rfl ?_
    show Steps p.tables e below (T2.setTop (mkF m 51 #[.val (.long q0), .second, .val (.long (own_x2 q0 31 62)), .second, .val (.long ((own_x2 q0 31 62) * own_inv (-7723592293110705685 : Int64))), .second, .val (.long (own_x2 ((own_x2 q0 31 62) * own_inv (-7723592293110705685 : Int64)) 27 54)), .second, .val (.long ((own_x2 ((own_x2 q0 31 62) * own_inv (-7723592293110705685 : Int64)) 27 54) * own_inv (-4658895280553007687 : Int64))), .second, .unset, .unset] [(.long ((own_x2 ((own_x2 q0 31 62) * own_inv (-7723592293110705685 : Int64)) 27 54) * own_inv (-4658895280553007687 : Int64)))])) _
    refine XS.lload X2.here hx rfl (hb hby d1_51) rfl ?_
    show Steps p.tables e below (T2.setTop (mkF m 53 #[.val (.long q0), .second, .val (.long (own_x2 q0 31 62)), .second, .val (.long ((own_x2 q0 31 62) * own_inv (-7723592293110705685 : Int64))), .second, .val (.long (own_x2 ((own_x2 q0 31 62) * own_inv (-7723592293110705685 : Int64)) 27 54)), .second, .val (.long ((own_x2 ((own_x2 q0 31 62) * own_inv (-7723592293110705685 : Int64)) 27 54) * own_inv (-4658895280553007687 : Int64))), .second, .unset, .unset] [(.long ((own_x2 ((own_x2 q0 31 62) * own_inv (-7723592293110705685 : Int64)) 27 54) * own_inv (-4658895280553007687 : Int64))), (.long ((own_x2 ((own_x2 q0 31 62) * own_inv (-7723592293110705685 : Int64)) 27 54) * own_inv (-4658895280553007687 : Int64)))])) _
    refine XS.bipush X2.here hx rfl (hb hby d1_53) ?_
    show Steps p.tables e below (T2.setTop (mkF m 55 #[.val (.long q0), .second, .val (.long (own_x2 q0 31 62)), .second, .val (.long ((own_x2 q0 31 62) * own_inv (-7723592293110705685 : Int64))), .second, .val (.long (own_x2 ((own_x2 q0 31 62) * own_inv (-7723592293110705685 : Int64)) 27 54)), .second, .val (.long ((own_x2 ((own_x2 q0 31 62) * own_inv (-7723592293110705685 : Int64)) 27 54) * own_inv (-4658895280553007687 : Int64))), .second, .unset, .unset] [(.int (30 : Int32)), (.long ((own_x2 ((own_x2 q0 31 62) * own_inv (-7723592293110705685 : Int64)) 27 54) * own_inv (-4658895280553007687 : Int64))), (.long ((own_x2 ((own_x2 q0 31 62) * own_inv (-7723592293110705685 : Int64)) 27 54) * own_inv (-4658895280553007687 : Int64)))])) _
    refine XS.lushr X2.here hx rfl (hb hby d1_55) rfl ?_
    show Steps p.tables e below (T2.setTop (mkF m 56 #[.val (.long q0), .second, .val (.long (own_x2 q0 31 62)), .second, .val (.long ((own_x2 q0 31 62) * own_inv (-7723592293110705685 : Int64))), .second, .val (.long (own_x2 ((own_x2 q0 31 62) * own_inv (-7723592293110705685 : Int64)) 27 54)), .second, .val (.long ((own_x2 ((own_x2 q0 31 62) * own_inv (-7723592293110705685 : Int64)) 27 54) * own_inv (-4658895280553007687 : Int64))), .second, .unset, .unset] [(.long ((((own_x2 ((own_x2 q0 31 62) * own_inv (-7723592293110705685 : Int64)) 27 54) * own_inv (-4658895280553007687 : Int64)).toUInt64 >>> ((30 : Int32) &&& 0x3f).toInt64.toUInt64).toInt64)), (.long ((own_x2 ((own_x2 q0 31 62) * own_inv (-7723592293110705685 : Int64)) 27 54) * own_inv (-4658895280553007687 : Int64)))])) _
    refine XS.lxor X2.here hx rfl (hb hby d1_56) rfl ?_
    show Steps p.tables e below (T2.setTop (mkF m 57 #[.val (.long q0), .second, .val (.long (own_x2 q0 31 62)), .second, .val (.long ((own_x2 q0 31 62) * own_inv (-7723592293110705685 : Int64))), .second, .val (.long (own_x2 ((own_x2 q0 31 62) * own_inv (-7723592293110705685 : Int64)) 27 54)), .second, .val (.long ((own_x2 ((own_x2 q0 31 62) * own_inv (-7723592293110705685 : Int64)) 27 54) * own_inv (-4658895280553007687 : Int64))), .second, .unset, .unset] [(.long (((own_x2 ((own_x2 q0 31 62) * own_inv (-7723592293110705685 : Int64)) 27 54) * own_inv (-4658895280553007687 : Int64)) ^^^ ((((own_x2 ((own_x2 q0 31 62) * own_inv (-7723592293110705685 : Int64)) 27 54) * own_inv (-4658895280553007687 : Int64)).toUInt64 >>> ((30 : Int32) &&& 0x3f).toInt64.toUInt64).toInt64)))])) _
    refine XS.lload X2.here hx rfl (hb hby d1_57) rfl ?_
    show Steps p.tables e below (T2.setTop (mkF m 59 #[.val (.long q0), .second, .val (.long (own_x2 q0 31 62)), .second, .val (.long ((own_x2 q0 31 62) * own_inv (-7723592293110705685 : Int64))), .second, .val (.long (own_x2 ((own_x2 q0 31 62) * own_inv (-7723592293110705685 : Int64)) 27 54)), .second, .val (.long ((own_x2 ((own_x2 q0 31 62) * own_inv (-7723592293110705685 : Int64)) 27 54) * own_inv (-4658895280553007687 : Int64))), .second, .unset, .unset] [(.long ((own_x2 ((own_x2 q0 31 62) * own_inv (-7723592293110705685 : Int64)) 27 54) * own_inv (-4658895280553007687 : Int64))), (.long (((own_x2 ((own_x2 q0 31 62) * own_inv (-7723592293110705685 : Int64)) 27 54) * own_inv (-4658895280553007687 : Int64)) ^^^ ((((own_x2 ((own_x2 q0 31 62) * own_inv (-7723592293110705685 : Int64)) 27 54) * own_inv (-4658895280553007687 : Int64)).toUInt64 >>> ((30 : Int32) &&& 0x3f).toInt64.toUInt64).toInt64)))])) _
    refine XS.bipush X2.here hx rfl (hb hby d1_59) ?_
    show Steps p.tables e below (T2.setTop (mkF m 61 #[.val (.long q0), .second, .val (.long (own_x2 q0 31 62)), .second, .val (.long ((own_x2 q0 31 62) * own_inv (-7723592293110705685 : Int64))), .second, .val (.long (own_x2 ((own_x2 q0 31 62) * own_inv (-7723592293110705685 : Int64)) 27 54)), .second, .val (.long ((own_x2 ((own_x2 q0 31 62) * own_inv (-7723592293110705685 : Int64)) 27 54) * own_inv (-4658895280553007687 : Int64))), .second, .unset, .unset] [(.int (60 : Int32)), (.long ((own_x2 ((own_x2 q0 31 62) * own_inv (-7723592293110705685 : Int64)) 27 54) * own_inv (-4658895280553007687 : Int64))), (.long (((own_x2 ((own_x2 q0 31 62) * own_inv (-7723592293110705685 : Int64)) 27 54) * own_inv (-4658895280553007687 : Int64)) ^^^ ((((own_x2 ((own_x2 q0 31 62) * own_inv (-7723592293110705685 : Int64)) 27 54) * own_inv (-4658895280553007687 : Int64)).toUInt64 >>> ((30 : Int32) &&& 0x3f).toInt64.toUInt64).toInt64)))])) _
    refine XS.lushr X2.here hx rfl (hb hby d1_61) rfl ?_
    show Steps p.tables e below (T2.setTop (mkF m 62 #[.val (.long q0), .second, .val (.long (own_x2 q0 31 62)), .second, .val (.long ((own_x2 q0 31 62) * own_inv (-7723592293110705685 : Int64))), .second, .val (.long (own_x2 ((own_x2 q0 31 62) * own_inv (-7723592293110705685 : Int64)) 27 54)), .second, .val (.long ((own_x2 ((own_x2 q0 31 62) * own_inv (-7723592293110705685 : Int64)) 27 54) * own_inv (-4658895280553007687 : Int64))), .second, .unset, .unset] [(.long ((((own_x2 ((own_x2 q0 31 62) * own_inv (-7723592293110705685 : Int64)) 27 54) * own_inv (-4658895280553007687 : Int64)).toUInt64 >>> ((60 : Int32) &&& 0x3f).toInt64.toUInt64).toInt64)), (.long (((own_x2 ((own_x2 q0 31 62) * own_inv (-7723592293110705685 : Int64)) 27 54) * own_inv (-4658895280553007687 : Int64)) ^^^ ((((own_x2 ((own_x2 q0 31 62) * own_inv (-7723592293110705685 : Int64)) 27 54) * own_inv (-4658895280553007687 : Int64)).toUInt64 >>> ((30 : Int32) &&& 0x3f).toInt64.toUInt64).toInt64)))])) _
    refine XS.lxor X2.here hx rfl (hb hby d1_62) rfl ?_
    show Steps p.tables e below (T2.setTop (mkF m 63 #[.val (.long q0), .second, .val (.long (own_x2 q0 31 62)), .second, .val (.long ((own_x2 q0 31 62) * own_inv (-7723592293110705685 : Int64))), .second, .val (.long (own_x2 ((own_x2 q0 31 62) * own_inv (-7723592293110705685 : Int64)) 27 54)), .second, .val (.long ((own_x2 ((own_x2 q0 31 62) * own_inv (-7723592293110705685 : Int64)) 27 54) * own_inv (-4658895280553007687 : Int64))), .second, .unset, .unset] [(.long ((((own_x2 ((own_x2 q0 31 62) * own_inv (-7723592293110705685 : Int64)) 27 54) * own_inv (-4658895280553007687 : Int64)) ^^^ ((((own_x2 ((own_x2 q0 31 62) * own_inv (-7723592293110705685 : Int64)) 27 54) * own_inv (-4658895280553007687 : Int64)).toUInt64 >>> ((30 : Int32) &&& 0x3f).toInt64.toUInt64).toInt64)) ^^^ ((((own_x2 ((own_x2 q0 31 62) * own_inv (-7723592293110705685 : Int64)) 27 54) * own_inv (-4658895280553007687 : Int64)).toUInt64 >>> ((60 : Int32) &&& 0x3f).toInt64.toUInt64).toInt64)))])) _
    refine XS.lstore X2.here hx rfl (hb hby d1_63) rfl (l' := #[.val (.long q0), .second, .val (.long (own_x2 q0 31 62)), .second, .val (.long ((own_x2 q0 31 62) * own_inv (-7723592293110705685 : Int64))), .second, .val (.long (own_x2 ((own_x2 q0 31 62) * own_inv (-7723592293110705685 : Int64)) 27 54)), .second, .val (.long ((own_x2 ((own_x2 q0 31 62) * own_inv (-7723592293110705685 : Int64)) 27 54) * own_inv (-4658895280553007687 : Int64))), .second, .val (.long ((((own_x2 ((own_x2 q0 31 62) * own_inv (-7723592293110705685 : Int64)) 27 54) * own_inv (-4658895280553007687 : Int64)) ^^^ ((((own_x2 ((own_x2 q0 31 62) * own_inv (-7723592293110705685 : Int64)) 27 54) * own_inv (-4658895280553007687 : Int64)).toUInt64 >>> ((30 : Int32) &&& 0x3f).toInt64.toUInt64).toInt64)) ^^^ ((((own_x2 ((own_x2 q0 31 62) * own_inv (-7723592293110705685 : Int64)) 27 54) * own_inv (-4658895280553007687 : Int64)).toUInt64 >>> ((60 : Int32) &&& 0x3f).toInt64.toUInt64).toInt64))), .second]) rfl ?_
    show Steps p.tables e below (T2.setTop (mkF m 65 #[.val (.long q0), .second, .val (.long (own_x2 q0 31 62)), .second, .val (.long ((own_x2 q0 31 62) * own_inv (-7723592293110705685 : Int64))), .second, .val (.long (own_x2 ((own_x2 q0 31 62) * own_inv (-7723592293110705685 : Int64)) 27 54)), .second, .val (.long ((own_x2 ((own_x2 q0 31 62) * own_inv (-7723592293110705685 : Int64)) 27 54) * own_inv (-4658895280553007687 : Int64))), .second, .val (.long (own_x2 ((own_x2 ((own_x2 q0 31 62) * own_inv (-7723592293110705685 : Int64)) 27 54) * own_inv (-4658895280553007687 : Int64)) 30 60)), .second] [])) _
    refine XS.lload X2.here hx rfl (hb hby d1_65) rfl ?_
    show Steps p.tables e below (T2.setTop (mkF m 67 #[.val (.long q0), .second, .val (.long (own_x2 q0 31 62)), .second, .val (.long ((own_x2 q0 31 62) * own_inv (-7723592293110705685 : Int64))), .second, .val (.long (own_x2 ((own_x2 q0 31 62) * own_inv (-7723592293110705685 : Int64)) 27 54)), .second, .val (.long ((own_x2 ((own_x2 q0 31 62) * own_inv (-7723592293110705685 : Int64)) 27 54) * own_inv (-4658895280553007687 : Int64))), .second, .val (.long (own_x2 ((own_x2 ((own_x2 q0 31 62) * own_inv (-7723592293110705685 : Int64)) 27 54) * own_inv (-4658895280553007687 : Int64)) 30 60)), .second] [(.long (own_x2 ((own_x2 ((own_x2 q0 31 62) * own_inv (-7723592293110705685 : Int64)) 27 54) * own_inv (-4658895280553007687 : Int64)) 30 60))])) _
    refine X2.ldc2Long hx hown (mvT hZ (hw _ (List.mem_of_getElem? (i := 10) rfl))) (g := (mkF m 67 #[.val (.long q0), .second, .val (.long (own_x2 q0 31 62)), .second, .val (.long ((own_x2 q0 31 62) * own_inv (-7723592293110705685 : Int64))), .second, .val (.long (own_x2 ((own_x2 q0 31 62) * own_inv (-7723592293110705685 : Int64)) 27 54)), .second, .val (.long ((own_x2 ((own_x2 q0 31 62) * own_inv (-7723592293110705685 : Int64)) 27 54) * own_inv (-4658895280553007687 : Int64))), .second, .val (.long (own_x2 ((own_x2 ((own_x2 q0 31 62) * own_inv (-7723592293110705685 : Int64)) 27 54) * own_inv (-4658895280553007687 : Int64)) 30 60)), .second] [(.long (own_x2 ((own_x2 ((own_x2 q0 31 62) * own_inv (-7723592293110705685 : Int64)) 27 54) * own_inv (-4658895280553007687 : Int64)) 30 60))])) rfl (hb hby d1_67) _ ?_
    show Steps p.tables e below (T2.setTop (mkF m 70 #[.val (.long q0), .second, .val (.long (own_x2 q0 31 62)), .second, .val (.long ((own_x2 q0 31 62) * own_inv (-7723592293110705685 : Int64))), .second, .val (.long (own_x2 ((own_x2 q0 31 62) * own_inv (-7723592293110705685 : Int64)) 27 54)), .second, .val (.long ((own_x2 ((own_x2 q0 31 62) * own_inv (-7723592293110705685 : Int64)) 27 54) * own_inv (-4658895280553007687 : Int64))), .second, .val (.long (own_x2 ((own_x2 ((own_x2 q0 31 62) * own_inv (-7723592293110705685 : Int64)) 27 54) * own_inv (-4658895280553007687 : Int64)) 30 60)), .second] [(.long (-7046029254386353131 : Int64)), (.long (own_x2 ((own_x2 ((own_x2 q0 31 62) * own_inv (-7723592293110705685 : Int64)) 27 54) * own_inv (-4658895280553007687 : Int64)) 30 60))])) _
    refine XS.lsub X2.here hx rfl (hb hby d1_70) rfl ?_
    exact k)
  obtain ⟨fs, hr, hrun, hended, hW, hsame⟩ := X2.leave (v := some (.long ((own_x2 ((own_x2 ((own_x2 q0 31 62) * own_inv (-7723592293110705685 : Int64)) 27 54) * own_inv (-4658895280553007687 : Int64)) 30 60) - (-7046029254386353131 : Int64)))) (fun h => by rw [Bd.returns] at h; cases h)
  refine ⟨_, _, pre3 _ ?_, hrun, hended, _, _, rfl, ?_, ⟨_, rfl⟩, hW, hsame.mono (by decide) (by decide)⟩
  · exact X2.lreturnOut hx Bd.returns (hb hby d1_71) hr
  · show Q1 Z q0 h0 n0 _ T2.heap _
    rw [hh2]
    exact ⟨rfl, N2, rfl⟩
theorem pn_1 : plainName "com/example/querist/querist/policies/RandomPolicy" = true := by first | (simp [plainName, overriddenIn]; done) | decide +kernel
theorem d3_0 : decode prog_79_method_6_code 0 = .ok (.lload_n 0, 1) := by decide +kernel
theorem d3_1 : decode prog_79_method_6_code 1 = .ok (.ldc2_w 95, 3) := by decide +kernel
theorem d3_4 : decode prog_79_method_6_code 4 = .ok (.ladd, 1) := by decide +kernel
theorem d3_5 : decode prog_79_method_6_code 5 = .ok (.lstore_n 2, 1) := by decide +kernel
theorem d3_6 : decode prog_79_method_6_code 6 = .ok (.lload_n 2, 1) := by decide +kernel
theorem d3_7 : decode prog_79_method_6_code 7 = .ok (.lload_n 2, 1) := by decide +kernel
theorem d3_8 : decode prog_79_method_6_code 8 = .ok (.bipush 30, 2) := by decide +kernel
theorem d3_10 : decode prog_79_method_6_code 10 = .ok (.lushr, 1) := by decide +kernel
theorem d3_11 : decode prog_79_method_6_code 11 = .ok (.lxor, 1) := by decide +kernel
theorem d3_12 : decode prog_79_method_6_code 12 = .ok (.ldc2_w 97, 3) := by decide +kernel
theorem d3_15 : decode prog_79_method_6_code 15 = .ok (.lmul, 1) := by decide +kernel
theorem d3_16 : decode prog_79_method_6_code 16 = .ok (.lstore_n 2, 1) := by decide +kernel
theorem d3_17 : decode prog_79_method_6_code 17 = .ok (.lload_n 2, 1) := by decide +kernel
theorem d3_18 : decode prog_79_method_6_code 18 = .ok (.lload_n 2, 1) := by decide +kernel
theorem d3_19 : decode prog_79_method_6_code 19 = .ok (.bipush 27, 2) := by decide +kernel
theorem d3_21 : decode prog_79_method_6_code 21 = .ok (.lushr, 1) := by decide +kernel
theorem d3_22 : decode prog_79_method_6_code 22 = .ok (.lxor, 1) := by decide +kernel
theorem d3_23 : decode prog_79_method_6_code 23 = .ok (.ldc2_w 99, 3) := by decide +kernel
theorem d3_26 : decode prog_79_method_6_code 26 = .ok (.lmul, 1) := by decide +kernel
theorem d3_27 : decode prog_79_method_6_code 27 = .ok (.lstore_n 2, 1) := by decide +kernel
theorem d3_28 : decode prog_79_method_6_code 28 = .ok (.lload_n 2, 1) := by decide +kernel
theorem d3_29 : decode prog_79_method_6_code 29 = .ok (.lload_n 2, 1) := by decide +kernel
theorem d3_30 : decode prog_79_method_6_code 30 = .ok (.bipush 31, 2) := by decide +kernel
theorem d3_32 : decode prog_79_method_6_code 32 = .ok (.lushr, 1) := by decide +kernel
theorem d3_33 : decode prog_79_method_6_code 33 = .ok (.lxor, 1) := by decide +kernel
theorem d3_34 : decode prog_79_method_6_code 34 = .ok (.lstore_n 2, 1) := by decide +kernel
theorem d3_35 : decode prog_79_method_6_code 35 = .ok (.lload_n 2, 1) := by decide +kernel
theorem d3_36 : decode prog_79_method_6_code 36 = .ok (.bipush 11, 2) := by decide +kernel
theorem d3_38 : decode prog_79_method_6_code 38 = .ok (.lushr, 1) := by decide +kernel
theorem d3_39 : decode prog_79_method_6_code 39 = .ok (.l2d, 1) := by decide +kernel
theorem d3_40 : decode prog_79_method_6_code 40 = .ok (.ldc2_w 101, 3) := by decide +kernel
theorem d3_43 : decode prog_79_method_6_code 43 = .ok (.dmul, 1) := by decide +kernel
theorem d3_44 : decode prog_79_method_6_code 44 = .ok (.dreturn, 1) := by decide +kernel
theorem ef_3 (m : MethodId) (x0 : Int64) : entryFrame m #[(.long x0)] 4 = mkF m 0 #[.val (.long x0), .second, .unset, .unset] [] := by first | (simp [entryFrame, mkF, argsToLocals, Value.category]; done) | rfl
def Q3 (Z : State) (q0 : Int64) (z : Int64) (h0 : Heap) (n0 : Nat) (v : Option Value) (h : Heap) (L : List Loc) : Prop := v = some (.double (own_t z)) ∧ Fr n0 L ∧ h = h0
set_option maxRecDepth 65536 in
set_option maxHeartbeats 40000000 in
theorem rm3 (l : Launch) (Z : State) (a0 : Array Value) (hw : ∀ d ∈ tables_1, d.before a0 Z = true) (ws : List Jvm.Cond) (q0 : Int64) (z : Int64) (h0 : Heap) (n0 : Nat) (Z0 : n0 ≤ h0.size) (hz : own_mix q0 = z) :
    MetFree l (⟨"com/example/querist/querist/policies/RandomPolicy", "threshold", "(J)D"⟩ : MethodName) (head1 (Jvm.Cond.code (⟨"com/example/querist/querist/policies/RandomPolicy", "threshold", "(J)D"⟩ : MethodName) prog_79_method_6_code 4 (some .double) :: ws) ({ frames := 0, cells := 0, slots := 0, locals := 0 } : Room)) (fun a U => a = #[(.long q0)] ∧ Z.Warmed39 U.vm ∧ U.heap = h0) (fun _ _ _ _ _ => True) (fun _ U o U' => ∃ v L, o = .returned v ∧ Q3 Z q0 z h0 n0 v U'.heap L ∧ FrameEnd U o U' L ({ frames := 0, cells := 0, slots := 0, locals := 0 } : Room).cells ({ frames := 0, cells := 0, slots := 0, locals := 0 } : Room).slots) := by
  refine MetFree.of_bodySF (plainFor_of_name pn_1) hisR ?_
  intro p e s m args below meth c s₁ Bd hml0 hP hK
  obtain ⟨rfl, hZ, hh⟩ := hP
  have hx := Bd.exec
  have hby := Bd.bytes
  have hml : c.maxLocals = 4 := hml0
  have hown : s.vm.findClass "com/example/querist/querist/policies/RandomPolicy" = some m.cls := findClass_of_methodNamed Bd.named
  have hnm := (name_of_methodNamed Bd.named Bd.method).1
  have X0 : Stand p l e ({ frames := 0, cells := 0, slots := 0, locals := 0 } : Room) s m #[(.long q0)] below meth c s₁ [] 0 0 := Stand.of_body Bd
  have e0 : s₁.heap = h0 := by rw [← hh, Bd.state]; rfl
  have N0 := Fr.nil n0
  have pre0 : ∀ t, Steps p.tables e below (s₁.setTop (mkF m 0 #[.val (.long q0), .second, .unset, .unset] [])) t → Steps p.tables e below (s₁.setTop (entryFrame m #[(.long q0)] 4)) t := fun t k => castTop (ef_3 m q0) k
  have pre1 : ∀ t, Steps p.tables e below (s₁.setTop (mkF m 44 #[.val (.long q0), .second, .val (.long (own_mix q0)), .second] [(.double (FP.dmul (FP.l2d (own_top (own_mix q0))) (4368491638549381120 : UInt64)))])) t → Steps p.tables e below (s₁.setTop (entryFrame m #[(.long q0)] 4)) t := fun t k => pre0 t (by
    show Steps p.tables e below (s₁.setTop (mkF m 0 #[.val (.long q0), .second, .unset, .unset] [])) _
    refine XS.lloadN X0.here hx rfl (hb hby d3_0) rfl ?_
    show Steps p.tables e below (s₁.setTop (mkF m 1 #[.val (.long q0), .second, .unset, .unset] [(.long q0)])) _
    refine X0.ldc2Long hx hown (mvT hZ (hw _ (List.mem_of_getElem? (i := 15) rfl))) (g := (mkF m 1 #[.val (.long q0), .second, .unset, .unset] [(.long q0)])) rfl (hb hby d3_1) _ ?_
    show Steps p.tables e below (s₁.setTop (mkF m 4 #[.val (.long q0), .second, .unset, .unset] [(.long (-7046029254386353131 : Int64)), (.long q0)])) _
    refine XS.ladd X0.here hx rfl (hb hby d3_4) rfl ?_
    show Steps p.tables e below (s₁.setTop (mkF m 5 #[.val (.long q0), .second, .unset, .unset] [(.long (q0 + (-7046029254386353131 : Int64)))])) _
    refine XS.lstoreN X0.here hx rfl (hb hby d3_5) rfl (l' := #[.val (.long q0), .second, .val (.long (q0 + (-7046029254386353131 : Int64))), .second]) rfl ?_
    show Steps p.tables e below (s₁.setTop (mkF m 6 #[.val (.long q0), .second, .val (.long (q0 + (-7046029254386353131 : Int64))), .second] [])) _
    refine XS.lloadN X0.here hx rfl (hb hby d3_6) rfl ?_
    show Steps p.tables e below (s₁.setTop (mkF m 7 #[.val (.long q0), .second, .val (.long (q0 + (-7046029254386353131 : Int64))), .second] [(.long (q0 + (-7046029254386353131 : Int64)))])) _
    refine XS.lloadN X0.here hx rfl (hb hby d3_7) rfl ?_
    show Steps p.tables e below (s₁.setTop (mkF m 8 #[.val (.long q0), .second, .val (.long (q0 + (-7046029254386353131 : Int64))), .second] [(.long (q0 + (-7046029254386353131 : Int64))), (.long (q0 + (-7046029254386353131 : Int64)))])) _
    refine XS.bipush X0.here hx rfl (hb hby d3_8) ?_
    show Steps p.tables e below (s₁.setTop (mkF m 10 #[.val (.long q0), .second, .val (.long (q0 + (-7046029254386353131 : Int64))), .second] [(.int (30 : Int32)), (.long (q0 + (-7046029254386353131 : Int64))), (.long (q0 + (-7046029254386353131 : Int64)))])) _
    refine XS.lushr X0.here hx rfl (hb hby d3_10) rfl ?_
    show Steps p.tables e below (s₁.setTop (mkF m 11 #[.val (.long q0), .second, .val (.long (q0 + (-7046029254386353131 : Int64))), .second] [(.long (((q0 + (-7046029254386353131 : Int64)).toUInt64 >>> ((30 : Int32) &&& 0x3f).toInt64.toUInt64).toInt64)), (.long (q0 + (-7046029254386353131 : Int64)))])) _
    refine XS.lxor X0.here hx rfl (hb hby d3_11) rfl ?_
    show Steps p.tables e below (s₁.setTop (mkF m 12 #[.val (.long q0), .second, .val (.long (q0 + (-7046029254386353131 : Int64))), .second] [(.long ((q0 + (-7046029254386353131 : Int64)) ^^^ (((q0 + (-7046029254386353131 : Int64)).toUInt64 >>> ((30 : Int32) &&& 0x3f).toInt64.toUInt64).toInt64)))])) _
    refine X0.ldc2Long hx hown (mvT hZ (hw _ (List.mem_of_getElem? (i := 16) rfl))) (g := (mkF m 12 #[.val (.long q0), .second, .val (.long (q0 + (-7046029254386353131 : Int64))), .second] [(.long ((q0 + (-7046029254386353131 : Int64)) ^^^ (((q0 + (-7046029254386353131 : Int64)).toUInt64 >>> ((30 : Int32) &&& 0x3f).toInt64.toUInt64).toInt64)))])) rfl (hb hby d3_12) _ ?_
    show Steps p.tables e below (s₁.setTop (mkF m 15 #[.val (.long q0), .second, .val (.long (q0 + (-7046029254386353131 : Int64))), .second] [(.long (-4658895280553007687 : Int64)), (.long ((q0 + (-7046029254386353131 : Int64)) ^^^ (((q0 + (-7046029254386353131 : Int64)).toUInt64 >>> ((30 : Int32) &&& 0x3f).toInt64.toUInt64).toInt64)))])) _
    refine XS.lmul X0.here hx rfl (hb hby d3_15) rfl ?_
    show Steps p.tables e below (s₁.setTop (mkF m 16 #[.val (.long q0), .second, .val (.long (q0 + (-7046029254386353131 : Int64))), .second] [(.long (((q0 + (-7046029254386353131 : Int64)) ^^^ (((q0 + (-7046029254386353131 : Int64)).toUInt64 >>> ((30 : Int32) &&& 0x3f).toInt64.toUInt64).toInt64)) * (-4658895280553007687 : Int64)))])) _
    refine XS.lstoreN X0.here hx rfl (hb hby d3_16) rfl (l' := #[.val (.long q0), .second, .val (.long (((q0 + (-7046029254386353131 : Int64)) ^^^ (((q0 + (-7046029254386353131 : Int64)).toUInt64 >>> ((30 : Int32) &&& 0x3f).toInt64.toUInt64).toInt64)) * (-4658895280553007687 : Int64))), .second]) rfl ?_
    show Steps p.tables e below (s₁.setTop (mkF m 17 #[.val (.long q0), .second, .val (.long (own_x1 (q0 + (-7046029254386353131 : Int64)) 30 * (-4658895280553007687 : Int64))), .second] [])) _
    refine XS.lloadN X0.here hx rfl (hb hby d3_17) rfl ?_
    show Steps p.tables e below (s₁.setTop (mkF m 18 #[.val (.long q0), .second, .val (.long (own_x1 (q0 + (-7046029254386353131 : Int64)) 30 * (-4658895280553007687 : Int64))), .second] [(.long (own_x1 (q0 + (-7046029254386353131 : Int64)) 30 * (-4658895280553007687 : Int64)))])) _
    refine XS.lloadN X0.here hx rfl (hb hby d3_18) rfl ?_
    show Steps p.tables e below (s₁.setTop (mkF m 19 #[.val (.long q0), .second, .val (.long (own_x1 (q0 + (-7046029254386353131 : Int64)) 30 * (-4658895280553007687 : Int64))), .second] [(.long (own_x1 (q0 + (-7046029254386353131 : Int64)) 30 * (-4658895280553007687 : Int64))), (.long (own_x1 (q0 + (-7046029254386353131 : Int64)) 30 * (-4658895280553007687 : Int64)))])) _
    refine XS.bipush X0.here hx rfl (hb hby d3_19) ?_
    show Steps p.tables e below (s₁.setTop (mkF m 21 #[.val (.long q0), .second, .val (.long (own_x1 (q0 + (-7046029254386353131 : Int64)) 30 * (-4658895280553007687 : Int64))), .second] [(.int (27 : Int32)), (.long (own_x1 (q0 + (-7046029254386353131 : Int64)) 30 * (-4658895280553007687 : Int64))), (.long (own_x1 (q0 + (-7046029254386353131 : Int64)) 30 * (-4658895280553007687 : Int64)))])) _
    refine XS.lushr X0.here hx rfl (hb hby d3_21) rfl ?_
    show Steps p.tables e below (s₁.setTop (mkF m 22 #[.val (.long q0), .second, .val (.long (own_x1 (q0 + (-7046029254386353131 : Int64)) 30 * (-4658895280553007687 : Int64))), .second] [(.long (((own_x1 (q0 + (-7046029254386353131 : Int64)) 30 * (-4658895280553007687 : Int64)).toUInt64 >>> ((27 : Int32) &&& 0x3f).toInt64.toUInt64).toInt64)), (.long (own_x1 (q0 + (-7046029254386353131 : Int64)) 30 * (-4658895280553007687 : Int64)))])) _
    refine XS.lxor X0.here hx rfl (hb hby d3_22) rfl ?_
    show Steps p.tables e below (s₁.setTop (mkF m 23 #[.val (.long q0), .second, .val (.long (own_x1 (q0 + (-7046029254386353131 : Int64)) 30 * (-4658895280553007687 : Int64))), .second] [(.long ((own_x1 (q0 + (-7046029254386353131 : Int64)) 30 * (-4658895280553007687 : Int64)) ^^^ (((own_x1 (q0 + (-7046029254386353131 : Int64)) 30 * (-4658895280553007687 : Int64)).toUInt64 >>> ((27 : Int32) &&& 0x3f).toInt64.toUInt64).toInt64)))])) _
    refine X0.ldc2Long hx hown (mvT hZ (hw _ (List.mem_of_getElem? (i := 17) rfl))) (g := (mkF m 23 #[.val (.long q0), .second, .val (.long (own_x1 (q0 + (-7046029254386353131 : Int64)) 30 * (-4658895280553007687 : Int64))), .second] [(.long ((own_x1 (q0 + (-7046029254386353131 : Int64)) 30 * (-4658895280553007687 : Int64)) ^^^ (((own_x1 (q0 + (-7046029254386353131 : Int64)) 30 * (-4658895280553007687 : Int64)).toUInt64 >>> ((27 : Int32) &&& 0x3f).toInt64.toUInt64).toInt64)))])) rfl (hb hby d3_23) _ ?_
    show Steps p.tables e below (s₁.setTop (mkF m 26 #[.val (.long q0), .second, .val (.long (own_x1 (q0 + (-7046029254386353131 : Int64)) 30 * (-4658895280553007687 : Int64))), .second] [(.long (-7723592293110705685 : Int64)), (.long ((own_x1 (q0 + (-7046029254386353131 : Int64)) 30 * (-4658895280553007687 : Int64)) ^^^ (((own_x1 (q0 + (-7046029254386353131 : Int64)) 30 * (-4658895280553007687 : Int64)).toUInt64 >>> ((27 : Int32) &&& 0x3f).toInt64.toUInt64).toInt64)))])) _
    refine XS.lmul X0.here hx rfl (hb hby d3_26) rfl ?_
    show Steps p.tables e below (s₁.setTop (mkF m 27 #[.val (.long q0), .second, .val (.long (own_x1 (q0 + (-7046029254386353131 : Int64)) 30 * (-4658895280553007687 : Int64))), .second] [(.long (((own_x1 (q0 + (-7046029254386353131 : Int64)) 30 * (-4658895280553007687 : Int64)) ^^^ (((own_x1 (q0 + (-7046029254386353131 : Int64)) 30 * (-4658895280553007687 : Int64)).toUInt64 >>> ((27 : Int32) &&& 0x3f).toInt64.toUInt64).toInt64)) * (-7723592293110705685 : Int64)))])) _
    refine XS.lstoreN X0.here hx rfl (hb hby d3_27) rfl (l' := #[.val (.long q0), .second, .val (.long (((own_x1 (q0 + (-7046029254386353131 : Int64)) 30 * (-4658895280553007687 : Int64)) ^^^ (((own_x1 (q0 + (-7046029254386353131 : Int64)) 30 * (-4658895280553007687 : Int64)).toUInt64 >>> ((27 : Int32) &&& 0x3f).toInt64.toUInt64).toInt64)) * (-7723592293110705685 : Int64))), .second]) rfl ?_
    show Steps p.tables e below (s₁.setTop (mkF m 28 #[.val (.long q0), .second, .val (.long (own_x1 (own_x1 (q0 + (-7046029254386353131 : Int64)) 30 * (-4658895280553007687 : Int64)) 27 * (-7723592293110705685 : Int64))), .second] [])) _
    refine XS.lloadN X0.here hx rfl (hb hby d3_28) rfl ?_
    show Steps p.tables e below (s₁.setTop (mkF m 29 #[.val (.long q0), .second, .val (.long (own_x1 (own_x1 (q0 + (-7046029254386353131 : Int64)) 30 * (-4658895280553007687 : Int64)) 27 * (-7723592293110705685 : Int64))), .second] [(.long (own_x1 (own_x1 (q0 + (-7046029254386353131 : Int64)) 30 * (-4658895280553007687 : Int64)) 27 * (-7723592293110705685 : Int64)))])) _
    refine XS.lloadN X0.here hx rfl (hb hby d3_29) rfl ?_
    show Steps p.tables e below (s₁.setTop (mkF m 30 #[.val (.long q0), .second, .val (.long (own_x1 (own_x1 (q0 + (-7046029254386353131 : Int64)) 30 * (-4658895280553007687 : Int64)) 27 * (-7723592293110705685 : Int64))), .second] [(.long (own_x1 (own_x1 (q0 + (-7046029254386353131 : Int64)) 30 * (-4658895280553007687 : Int64)) 27 * (-7723592293110705685 : Int64))), (.long (own_x1 (own_x1 (q0 + (-7046029254386353131 : Int64)) 30 * (-4658895280553007687 : Int64)) 27 * (-7723592293110705685 : Int64)))])) _
    refine XS.bipush X0.here hx rfl (hb hby d3_30) ?_
    show Steps p.tables e below (s₁.setTop (mkF m 32 #[.val (.long q0), .second, .val (.long (own_x1 (own_x1 (q0 + (-7046029254386353131 : Int64)) 30 * (-4658895280553007687 : Int64)) 27 * (-7723592293110705685 : Int64))), .second] [(.int (31 : Int32)), (.long (own_x1 (own_x1 (q0 + (-7046029254386353131 : Int64)) 30 * (-4658895280553007687 : Int64)) 27 * (-7723592293110705685 : Int64))), (.long (own_x1 (own_x1 (q0 + (-7046029254386353131 : Int64)) 30 * (-4658895280553007687 : Int64)) 27 * (-7723592293110705685 : Int64)))])) _
    refine XS.lushr X0.here hx rfl (hb hby d3_32) rfl ?_
    show Steps p.tables e below (s₁.setTop (mkF m 33 #[.val (.long q0), .second, .val (.long (own_x1 (own_x1 (q0 + (-7046029254386353131 : Int64)) 30 * (-4658895280553007687 : Int64)) 27 * (-7723592293110705685 : Int64))), .second] [(.long (((own_x1 (own_x1 (q0 + (-7046029254386353131 : Int64)) 30 * (-4658895280553007687 : Int64)) 27 * (-7723592293110705685 : Int64)).toUInt64 >>> ((31 : Int32) &&& 0x3f).toInt64.toUInt64).toInt64)), (.long (own_x1 (own_x1 (q0 + (-7046029254386353131 : Int64)) 30 * (-4658895280553007687 : Int64)) 27 * (-7723592293110705685 : Int64)))])) _
    refine XS.lxor X0.here hx rfl (hb hby d3_33) rfl ?_
    show Steps p.tables e below (s₁.setTop (mkF m 34 #[.val (.long q0), .second, .val (.long (own_x1 (own_x1 (q0 + (-7046029254386353131 : Int64)) 30 * (-4658895280553007687 : Int64)) 27 * (-7723592293110705685 : Int64))), .second] [(.long ((own_x1 (own_x1 (q0 + (-7046029254386353131 : Int64)) 30 * (-4658895280553007687 : Int64)) 27 * (-7723592293110705685 : Int64)) ^^^ (((own_x1 (own_x1 (q0 + (-7046029254386353131 : Int64)) 30 * (-4658895280553007687 : Int64)) 27 * (-7723592293110705685 : Int64)).toUInt64 >>> ((31 : Int32) &&& 0x3f).toInt64.toUInt64).toInt64)))])) _
    refine XS.lstoreN X0.here hx rfl (hb hby d3_34) rfl (l' := #[.val (.long q0), .second, .val (.long ((own_x1 (own_x1 (q0 + (-7046029254386353131 : Int64)) 30 * (-4658895280553007687 : Int64)) 27 * (-7723592293110705685 : Int64)) ^^^ (((own_x1 (own_x1 (q0 + (-7046029254386353131 : Int64)) 30 * (-4658895280553007687 : Int64)) 27 * (-7723592293110705685 : Int64)).toUInt64 >>> ((31 : Int32) &&& 0x3f).toInt64.toUInt64).toInt64))), .second]) rfl ?_
    show Steps p.tables e below (s₁.setTop (mkF m 35 #[.val (.long q0), .second, .val (.long (own_mix q0)), .second] [])) _
    refine XS.lloadN X0.here hx rfl (hb hby d3_35) rfl ?_
    show Steps p.tables e below (s₁.setTop (mkF m 36 #[.val (.long q0), .second, .val (.long (own_mix q0)), .second] [(.long (own_mix q0))])) _
    refine XS.bipush X0.here hx rfl (hb hby d3_36) ?_
    show Steps p.tables e below (s₁.setTop (mkF m 38 #[.val (.long q0), .second, .val (.long (own_mix q0)), .second] [(.int (11 : Int32)), (.long (own_mix q0))])) _
    refine XS.lushr X0.here hx rfl (hb hby d3_38) rfl ?_
    show Steps p.tables e below (s₁.setTop (mkF m 39 #[.val (.long q0), .second, .val (.long (own_mix q0)), .second] [(.long (own_top (own_mix q0)))])) _
    refine XS.l2dS X0.here hx rfl (hb hby d3_39) rfl rfl ?_
    show Steps p.tables e below (s₁.setTop (mkF m 40 #[.val (.long q0), .second, .val (.long (own_mix q0)), .second] [(.double (FP.l2d (own_top (own_mix q0))))])) _
    refine X0.ldc2DoubleC hx hown (mvT hZ (hw _ (List.mem_of_getElem? (i := 18) rfl))) (g := (mkF m 40 #[.val (.long q0), .second, .val (.long (own_mix q0)), .second] [(.double (FP.l2d (own_top (own_mix q0))))])) rfl (hb hby d3_40) _ ?_
    show Steps p.tables e below (s₁.setTop (mkF m 43 #[.val (.long q0), .second, .val (.long (own_mix q0)), .second] [(.double (4368491638549381120 : UInt64)), (.double (FP.l2d (own_top (own_mix q0))))])) _
    refine XS.dmulS X0.here hx rfl (hb hby d3_43) rfl (own_tn (own_mix q0)) rfl ?_
    exact k)
  obtain ⟨fs, hr, hrun, hended, hW, hsame⟩ := X0.leave (v := some (.double (FP.dmul (FP.l2d (own_top (own_mix q0))) (4368491638549381120 : UInt64)))) (fun h => by rw [Bd.returns] at h; cases h)
  refine ⟨_, _, pre1 _ ?_, hrun, hended, _, _, rfl, ?_, ⟨_, rfl⟩, hW, hsame.mono (by decide) (by decide)⟩
  · exact retOut X0 hx (i := .dreturn) Bd.returns rfl (Or.inr (Or.inr (Or.inl ⟨rfl, rfl, _, rfl⟩))) (hb hby d3_44) hr
  · show Q3 Z q0 z h0 n0 _ s₁.heap _
    rw [e0]
    exact ⟨by rw [← hz]; rfl, N0, rfl⟩
theorem pd_1 : parseMethodDescriptor "(J)D" = some ⟨[.long], some .double⟩ := by decide +kernel
theorem ef_0 (m : MethodId) (x0 : Int64) : entryFrame m #[(.long x0)] maxLocals = mkF m 0 #[.val (.long x0), .second, .unset, .unset, .unset, .unset, .unset, .unset] [] := by first | (simp [entryFrame, mkF, argsToLocals, Value.category, maxLocals]; done) | rfl
def Q0 (Z : State) (q0 : Int64) (h0 : Heap) (n0 : Nat) (v : Option Value) (h : Heap) (L : List Loc) : Prop := v = some (.int 1) ∧ Fr n0 L
set_option maxRecDepth 65536 in
set_option maxHeartbeats 40000000 in
theorem rm0 (l : Launch) (Z : State) (a0 : Array Value) (hw : ∀ d ∈ tables_1, d.before a0 Z = true) (ws : List Jvm.Cond) (q0 : Int64) (h0 : Heap) (n0 : Nat) (Z0 : n0 ≤ h0.size) :
    MetFree l x (head1 (Jvm.Cond.code x code maxLocals ret :: ws) room_1) (fun a U => a = #[(.long q0)] ∧ Z.Warmed39 U.vm ∧ U.heap = h0) (fun _ _ _ _ _ => True) (fun _ U o U' => ∃ v L, o = .returned v ∧ Q0 Z q0 h0 n0 v U'.heap L ∧ FrameEnd U o U' L room_1.cells room_1.slots) := by
  refine MetFree.of_bodySF (plainFor_of_name pn_0) hisR ?_
  intro p e s m args below meth c s₁ Bd hml0 hP hK
  obtain ⟨rfl, hZ, hh⟩ := hP
  have hx := Bd.exec
  have hby := Bd.bytes
  have hml : c.maxLocals = 8 := hml0
  have hown : s.vm.findClass "com/example/querist/querist/policies/RandomPolicyThresholdPinLaw" = some m.cls := findClass_of_methodNamed Bd.named
  have hnm := (name_of_methodNamed Bd.named Bd.method).1
  have X0 : Stand p l e room_1 s m #[(.long q0)] below meth c s₁ [] 0 0 := Stand.of_body Bd
  have e0 : s₁.heap = h0 := by rw [← hh, Bd.state]; rfl
  have N0 := Fr.nil n0
  have pre0 : ∀ t, Steps p.tables e below (s₁.setTop (mkF m 0 #[.val (.long q0), .second, .unset, .unset, .unset, .unset, .unset, .unset] [])) t → Steps p.tables e below (s₁.setTop (entryFrame m #[(.long q0)] maxLocals)) t := fun t k => castTop (ef_0 m q0) k
  obtain ⟨_, _, ⟨T1, L1, k1, n1⟩, -, X1, ⟨Lc1, hQ1, l1, y1, z1⟩, st1⟩ := Jvm.LawKit.callS X0 hx (y := (⟨"com/example/querist/querist/policies/RandomPolicyThresholdPinLaw", "unmix", "(J)J"⟩ : MethodName)) hown (mvT hZ (hw _ (List.mem_of_getElem? (i := 0) rfl))) (mvT hZ (hw _ (List.mem_of_getElem? (i := 1) rfl))) (mvT hZ (hw _ (List.mem_of_getElem? (i := 2) rfl))) (mvT hZ (hw _ (List.mem_of_getElem? (i := 3) rfl))) (by decide) (backOf (W := 0) (rm1 l Z a0 hw [] q0 h0 n0 Z0 ) hZ (hw _ (List.mem_of_getElem? (i := 3) rfl)) (hw _ (List.mem_of_getElem? (i := 2) rfl)) (by decide) (by decide)) (g := (mkF m 1 #[.val (.long q0), .second, .unset, .unset, .unset, .unset, .unset, .unset] [(.long q0)])) rfl (by rw [hml]; rfl) (argsL := [(.long q0)]) (rest := []) (lenOf pd_0 rfl) rfl (by show 2 * 0 + _ ≤ _; exact Nat.le_of_eq rfl) (hb hby at_1) (fun _ _ => ⟨rfl, e0, (by decide : 0 + 0 ≤ _), (by decide : 0 + 0 ≤ _)⟩)
  dsimp only [Pt.U, Pt.locs, Pt.cells, Pt.slots] at X1 l1 y1 z1 st1 hQ1
  subst l1 y1 z1
  obtain ⟨rfl, N1q, hh1⟩ := hQ1
  have N1 := Fr.app N0 N1q
  obtain ⟨_, _, ⟨T2, L2, k2, n2⟩, -, X2, ⟨Lc2, hQ2, l2, y2, z2⟩, st2⟩ := Jvm.LawKit.callS X1 hx (y := (⟨"com/example/querist/querist/policies/RandomPolicy", "threshold", "(J)D"⟩ : MethodName)) hown (mvT hZ (hw _ (List.mem_of_getElem? (i := 11) rfl))) (mvT hZ (hw _ (List.mem_of_getElem? (i := 12) rfl))) (mvT hZ (hw _ (List.mem_of_getElem? (i := 13) rfl))) (mvT hZ (hw _ (List.mem_of_getElem? (i := 14) rfl))) (by decide) (backOf (W := 0) (rm3 l Z a0 hw [] (own_unmix q0) q0 h0 n0 Z0 (own_back q0)) hZ (hw _ (List.mem_of_getElem? (i := 14) rfl)) (hw _ (List.mem_of_getElem? (i := 13) rfl)) (by decide) (by decide)) (g := (mkF m 6 #[.val (.long q0), .second, .val (.long (own_unmix q0)), .second, .unset, .unset, .unset, .unset] [(.long (own_unmix q0))])) rfl (by rw [hml]; rfl) (argsL := [(.long (own_unmix q0))]) (rest := []) (lenOf pd_1 rfl) rfl (by show 2 * 0 + _ ≤ _; exact Nat.le_of_eq rfl) (hb hby at_6) (fun _ _ => ⟨rfl, hh1, (by decide : 0 + 0 ≤ _), (by decide : 0 + 0 ≤ _)⟩)
  dsimp only [Pt.U, Pt.locs, Pt.cells, Pt.slots] at X2 l2 y2 z2 st2 hQ2
  subst l2 y2 z2
  obtain ⟨rfl, N2q, hh2⟩ := hQ2
  have N2 := Fr.app N1 N2q
  have pre3 : ∀ t, Steps p.tables e below (T2.setTop (mkF m 49 #[.val (.long q0), .second, .val (.long (own_unmix q0)), .second, .val (.double (own_t q0)), .second, .val (.double (own_t q0)), .second] [(.int (1 : Int32))])) t → Steps p.tables e below (s₁.setTop (entryFrame m #[(.long q0)] maxLocals)) t := fun t k => pre0 t (by
    show Steps p.tables e below (s₁.setTop (mkF m 0 #[.val (.long q0), .second, .unset, .unset, .unset, .unset, .unset, .unset] [])) _
    refine XS.lloadN X0.here hx rfl (hb hby at_0) rfl ?_
    show Steps p.tables e below (s₁.setTop (mkF m 1 #[.val (.long q0), .second, .unset, .unset, .unset, .unset, .unset, .unset] [(.long q0)])) _
    refine st1 _ ?_
    show Steps p.tables e below (T1.setTop (mkF m 4 #[.val (.long q0), .second, .unset, .unset, .unset, .unset, .unset, .unset] [(.long (own_unmix q0))])) _
    refine XS.lstoreN X1.here hx rfl (hb hby at_4) rfl (l' := #[.val (.long q0), .second, .val (.long (own_unmix q0)), .second, .unset, .unset, .unset, .unset]) rfl ?_
    show Steps p.tables e below (T1.setTop (mkF m 5 #[.val (.long q0), .second, .val (.long (own_unmix q0)), .second, .unset, .unset, .unset, .unset] [])) _
    refine XS.lloadN X1.here hx rfl (hb hby at_5) rfl ?_
    show Steps p.tables e below (T1.setTop (mkF m 6 #[.val (.long q0), .second, .val (.long (own_unmix q0)), .second, .unset, .unset, .unset, .unset] [(.long (own_unmix q0))])) _
    refine st2 _ ?_
    show Steps p.tables e below (T2.setTop (mkF m 9 #[.val (.long q0), .second, .val (.long (own_unmix q0)), .second, .unset, .unset, .unset, .unset] [(.double (own_t q0))])) _
    refine XS.dstore X2.here hx rfl (hb hby at_9) rfl (l' := #[.val (.long q0), .second, .val (.long (own_unmix q0)), .second, .val (.double (own_t q0)), .second, .unset, .unset]) rfl ?_
    show Steps p.tables e below (T2.setTop (mkF m 11 #[.val (.long q0), .second, .val (.long (own_unmix q0)), .second, .val (.double (own_t q0)), .second, .unset, .unset] [])) _
    refine XS.lloadN X2.here hx rfl (hb hby at_11) rfl ?_
    show Steps p.tables e below (T2.setTop (mkF m 12 #[.val (.long q0), .second, .val (.long (own_unmix q0)), .second, .val (.double (own_t q0)), .second, .unset, .unset] [(.long q0)])) _
    refine XS.bipush X2.here hx rfl (hb hby at_12) ?_
    show Steps p.tables e below (T2.setTop (mkF m 14 #[.val (.long q0), .second, .val (.long (own_unmix q0)), .second, .val (.double (own_t q0)), .second, .unset, .unset] [(.int (11 : Int32)), (.long q0)])) _
    refine XS.lushr X2.here hx rfl (hb hby at_14) rfl ?_
    show Steps p.tables e below (T2.setTop (mkF m 15 #[.val (.long q0), .second, .val (.long (own_unmix q0)), .second, .val (.double (own_t q0)), .second, .unset, .unset] [(.long ((q0.toUInt64 >>> ((11 : Int32) &&& 0x3f).toInt64.toUInt64).toInt64))])) _
    refine XS.l2dS X2.here hx rfl (hb hby at_15) rfl rfl ?_
    show Steps p.tables e below (T2.setTop (mkF m 16 #[.val (.long q0), .second, .val (.long (own_unmix q0)), .second, .val (.double (own_t q0)), .second, .unset, .unset] [(.double (FP.l2d ((q0.toUInt64 >>> ((11 : Int32) &&& 0x3f).toInt64.toUInt64).toInt64)))])) _
    refine X2.ldc2DoubleC hx hown (mvT hZ (hw _ (List.mem_of_getElem? (i := 19) rfl))) (g := (mkF m 16 #[.val (.long q0), .second, .val (.long (own_unmix q0)), .second, .val (.double (own_t q0)), .second, .unset, .unset] [(.double (FP.l2d ((q0.toUInt64 >>> ((11 : Int32) &&& 0x3f).toInt64.toUInt64).toInt64)))])) rfl (hb hby at_16) _ ?_
    show Steps p.tables e below (T2.setTop (mkF m 19 #[.val (.long q0), .second, .val (.long (own_unmix q0)), .second, .val (.double (own_t q0)), .second, .unset, .unset] [(.double (4368491638549381120 : UInt64)), (.double (FP.l2d ((q0.toUInt64 >>> ((11 : Int32) &&& 0x3f).toInt64.toUInt64).toInt64)))])) _
    refine XS.dmulS X2.here hx rfl (hb hby at_19) rfl (own_tn q0) rfl ?_
    show Steps p.tables e below (T2.setTop (mkF m 20 #[.val (.long q0), .second, .val (.long (own_unmix q0)), .second, .val (.double (own_t q0)), .second, .unset, .unset] [(.double (own_t q0))])) _
    refine XS.dstore X2.here hx rfl (hb hby at_20) rfl (l' := #[.val (.long q0), .second, .val (.long (own_unmix q0)), .second, .val (.double (own_t q0)), .second, .val (.double (own_t q0)), .second]) rfl ?_
    show Steps p.tables e below (T2.setTop (mkF m 22 #[.val (.long q0), .second, .val (.long (own_unmix q0)), .second, .val (.double (own_t q0)), .second, .val (.double (own_t q0)), .second] [])) _
    refine XS.dload X2.here hx rfl (hb hby at_22) rfl ?_
    show Steps p.tables e below (T2.setTop (mkF m 24 #[.val (.long q0), .second, .val (.long (own_unmix q0)), .second, .val (.double (own_t q0)), .second, .val (.double (own_t q0)), .second] [(.double (own_t q0))])) _
    refine XS.dload X2.here hx rfl (hb hby at_24) rfl ?_
    show Steps p.tables e below (T2.setTop (mkF m 26 #[.val (.long q0), .second, .val (.long (own_unmix q0)), .second, .val (.double (own_t q0)), .second, .val (.double (own_t q0)), .second] [(.double (own_t q0)), (.double (own_t q0))])) _
    refine XS.dcmpS X2.here hx rfl (hb hby at_26) rfl rfl ?_
    show Steps p.tables e below (T2.setTop (mkF m 27 #[.val (.long q0), .second, .val (.long (own_unmix q0)), .second, .val (.double (own_t q0)), .second, .val (.double (own_t q0)), .second] [(.int (cmpValue (FP.dcmp (own_t q0) (own_t q0)) .l))])) _
    refine XS.ifNo X2.here hx rfl (hb hby at_27) rfl ((if0 _ _).trans (teq (own_self q0)).2) ?_
    show Steps p.tables e below (T2.setTop (mkF m 30 #[.val (.long q0), .second, .val (.long (own_unmix q0)), .second, .val (.double (own_t q0)), .second, .val (.double (own_t q0)), .second] [])) _
    refine XS.dconst0 X2.here hx rfl (hb hby at_30) rfl ?_
    show Steps p.tables e below (T2.setTop (mkF m 31 #[.val (.long q0), .second, .val (.long (own_unmix q0)), .second, .val (.double (own_t q0)), .second, .val (.double (own_t q0)), .second] [(.double FP.dconst0)])) _
    refine XS.dload X2.here hx rfl (hb hby at_31) rfl ?_
    show Steps p.tables e below (T2.setTop (mkF m 33 #[.val (.long q0), .second, .val (.long (own_unmix q0)), .second, .val (.double (own_t q0)), .second, .val (.double (own_t q0)), .second] [(.double (own_t q0)), (.double FP.dconst0)])) _
    refine XS.dcmpS X2.here hx rfl (hb hby at_33) rfl rfl ?_
    show Steps p.tables e below (T2.setTop (mkF m 34 #[.val (.long q0), .second, .val (.long (own_unmix q0)), .second, .val (.double (own_t q0)), .second, .val (.double (own_t q0)), .second] [(.int (cmpValue (FP.dcmp FP.dconst0 (own_t q0)) .g))])) _
    refine XS.ifNo X2.here hx rfl (hb hby at_34) rfl ((if0 _ _).trans (flt (own_ge q0)).2.2.1) ?_
    show Steps p.tables e below (T2.setTop (mkF m 37 #[.val (.long q0), .second, .val (.long (own_unmix q0)), .second, .val (.double (own_t q0)), .second, .val (.double (own_t q0)), .second] [])) _
    refine XS.dload X2.here hx rfl (hb hby at_37) rfl ?_
    show Steps p.tables e below (T2.setTop (mkF m 39 #[.val (.long q0), .second, .val (.long (own_unmix q0)), .second, .val (.double (own_t q0)), .second, .val (.double (own_t q0)), .second] [(.double (own_t q0))])) _
    refine XS.dconst1 X2.here hx rfl (hb hby at_39) rfl ?_
    show Steps p.tables e below (T2.setTop (mkF m 40 #[.val (.long q0), .second, .val (.long (own_unmix q0)), .second, .val (.double (own_t q0)), .second, .val (.double (own_t q0)), .second] [(.double FP.dconst1), (.double (own_t q0))])) _
    refine XS.dcmpS X2.here hx rfl (hb hby at_40) rfl rfl ?_
    show Steps p.tables e below (T2.setTop (mkF m 41 #[.val (.long q0), .second, .val (.long (own_unmix q0)), .second, .val (.double (own_t q0)), .second, .val (.double (own_t q0)), .second] [(.int (cmpValue (FP.dcmp (own_t q0) FP.dconst1) .g))])) _
    refine XS.ifNo X2.here hx rfl (hb hby at_41) rfl ((if0 _ _).trans (tlt (own_lt q0)).2.1) ?_
    show Steps p.tables e below (T2.setTop (mkF m 44 #[.val (.long q0), .second, .val (.long (own_unmix q0)), .second, .val (.double (own_t q0)), .second, .val (.double (own_t q0)), .second] [])) _
    refine XS.iconst X2.here hx rfl (hb hby at_44) ?_
    show Steps p.tables e below (T2.setTop (mkF m 45 #[.val (.long q0), .second, .val (.long (own_unmix q0)), .second, .val (.double (own_t q0)), .second, .val (.double (own_t q0)), .second] [(.int (1 : Int32))])) _
    refine XS.goto X2.here hx rfl (pc0 := 45) (pc' := 49) rfl (hb hby at_45) (by decide) (by decide) ?_
    exact k)
  obtain ⟨fs, hr, hrun, hended, hW, hsame⟩ := X2.leave (v := some (.int (1 : Int32))) (fun h => by rw [Bd.returns] at h; cases h)
  refine ⟨_, _, pre3 _ ?_, hrun, hended, _, _, rfl, ?_, ⟨_, rfl⟩, hW, hsame.mono (by decide) (by decide)⟩
  · exact retN X2 hx (t := .boolean) Bd.returns (by simp) (hb hby at_49) hr
  · show Q0 Z q0 h0 n0 _ T2.heap _
    rw [hh2]
    exact ⟨rfl, N2⟩
set_option maxRecDepth 65536 in
set_option maxHeartbeats 40000000 in
theorem comes_1 {Post : Tables → Env → Array Value → State → Outcome → State → Prop} (hpost : ∀ tb e args s v u, (limb_1_1.after args s (.returned v) u = true ∧ limb_1_2.after args s (.returned v) u = true ∧ True) → FrameEnd s (.returned v) u (Jvm.fieldLocs frame_1_writes args s ++ Jvm.arrayLocs frame_1_arrays args s ++ Jvm.staticLocs frame_1_statics s) 0 0 → Post tb e args s (.returned v) u) :
    ArmFor flags0 classFile x code maxLocals ret World_1 tables_1 room_1 Calls_1 rest_1 Pre_1 Post := by
  intro l hfl _ _ p e ha hc hk s m args below hf hA hF happ hP
  obtain ⟨hcalls, hrest, hpre⟩ := hP
  obtain ⟨-, -, -, hnamed, -, -, -, hat⟩ := (Spec.applies_iff hf).mp happ
  obtain ⟨hg, hn⟩ := and_e (Cond.before_iff.mp (show (Jvm.Cond.and given_1 narrow_1).before args s = true from hpre))
  obtain ⟨g1, g2⟩ := and_e hg
  obtain ⟨w0, rfl⟩ : ∃ w0 : Value, args = #[w0] := by
    have hs : args.size = 1 := by simpa [Cond.value, given_1] using g1
    obtain ⟨L⟩ := args
    match L, hs with
    | [w0], _ => exact ⟨w0, rfl⟩
  have hw := fun d (hd : d ∈ tables_1) => atoms_spec (ws := Jvm.Cond.code x code maxLocals ret :: tables_1) hat d (List.mem_cons_of_mem _ hd)
  have hfit : Fit s := fun {y c} hc i hi => by
    obtain ⟨ha, rfl⟩ := Array.getElem?_eq_some_iff.mp hc
    have q := List.all_eq_true.mp ((Array.all_eq_true_iff_forall_mem.mp hF) _ (Array.getElem_mem ha)) i (List.mem_range.mpr hi)
    simpa [Array.getElem?_eq_getElem hi] using q
  obtain ⟨i0, ei0⟩ := isL_v g2
  obtain rfl : w0 = (.long i0) := Option.some.inj ei0
  obtain ⟨n, o, h1, h2, h3, _, L, rfl, ⟨rfl, N⟩, hq⟩ := rm0 l s _ hw tables_1 i0 s.heap s.heap.size (Nat.le_refl _) p e ha hc hk s m _ below hf ((Spec.applies_iff_loose hf).mp happ).1 ⟨rfl, State.Warmed39.refl s, rfl⟩ trivial
  refine ⟨n, _, h1, h2, h3, hpost _ _ _ _ _ _ ⟨Cond.after_iff.mpr rfl, Cond.after_iff.mpr (eq_i res_at (Term.int_eval (1)) rfl), trivial⟩ ⟨hq.1, hq.2.1, (hq.2.2.sift fun y hy => Or.inr (N y hy)).mono (by decide) (by decide)⟩⟩
theorem main_1_1 : Claimed_1_1 := comes_1 fun _ _ _ _ _ _ h hF => ⟨h.1, hF⟩
theorem main_1_2 : Claimed_1_2 := comes_1 fun _ _ _ _ _ _ h hF => ⟨h.2.1, hF⟩
end Jvm.Pilot.@@N@@
namespace Jvm.Pilot.@@N@@
open Jvm Jvm.ClassFile Sem Op Lib Jvm.Free Jvm.Stand Jvm.Pilot.@@N@@.Jvm.D
/-! MADE BY PROGRAM (witnessworld.py) out of the Statement's table words and the real class files: 10 classes; the members and pool entries that the words name. The judged class is class 1, her method 3. -/
namespace start1
open Jvm.ClassFile
def u (s : String) : CpInfo := .utf8 (stringToUtf16 s)
/-- a pool by its gaps: so many unusable entries, then the entry; so many at the end -/
def gap : Nat → List CpInfo → List CpInfo
  | 0, r => r
  | n + 1, r => .unusable :: gap n r
def poolList (es : List (Nat × CpInfo)) (last : Nat) : List CpInfo := es.foldr (fun e r => gap e.1 (e.2 :: r)) (gap last [])
def pool (es : List (Nat × CpInfo)) (last : Nat) : Array CpInfo := ⟨poolList es last⟩
def fileOf (pool : Array CpInfo) (this : Nat) (attrs : Array Attribute := #[]) (ms : Array MethodInfo := #[]) (fl : Nat := 33) (sup : Nat := 0) (ifs : Array Nat := #[]) (fds : Array FieldInfo := #[]) : ClassFile where
  minorVersion := 0
  majorVersion := 65
  constantPool := pool
  accessFlags := fl
  thisClass := this
  superClass := sup
  interfaces := ifs
  fields := fds
  methods := ms
  attributes := attrs
def plain (name : String) (sup : Option ClassId) : Class where
  name := name
  kind := .ordinary
  loader := none
  accessFlags := 33
  super := sup
  interfaces := #[]
  cf := none
  fields := #[]
  methods := #[]
  instanceTypes := #[]
  staticTypes := #[]
  resolved := #[]
  callSites := []
  init := .initialized
  statics := none
  mirror := none

def pool0 : Array CpInfo := pool [(5, u "<init>"), (0, u "()V"), (1, .class_ 10), (1, u "java/lang/Object")] 113

def k0m0 : Method := { name := "<init>", desc := "()V", sig := { parameters := [], returnType := none }, accessFlags := 1, code := none }
/-- java/lang/Object -/
def k0 : Class := { plain "java/lang/Object" none with
  accessFlags := 33
  interfaces := #[]
  cf := some (fileOf pool0 8 #[] #[{ accessFlags := 1, nameIndex := 5, descriptorIndex := 6, attributes := #[] }] 33 0 #[] #[])
  fields := #[]
  methods := #[k0m0]
  instanceTypes := #[]
  staticTypes := #[]
  resolved := Array.replicate 124 none
  statics := none }

def pool1 : Array CpInfo := pool [(2, .class_ 4), (1, u "java/lang/Object"), (0, u "<init>"), (0, u "()V"), (0, .long 2), (1, .long 10723151780598845931), (1, .methodref 12 13), (0, .class_ 14), (0, .nameAndType 15 16), (0, u "com/example/querist/querist/policies/RandomPolicyThresholdPinLaw"), (0, u "inverse"), (0, u "(J)J"), (0, .long 13787848793156543929), (1, .long 11400714819323198485), (1, .methodref 12 22), (0, .nameAndType 23 16), (0, u "unmix"), (0, .methodref 25 26), (0, .class_ 27), (0, .nameAndType 28 29), (0, u "com/example/querist/querist/policies/RandomPolicy"), (0, u "threshold"), (0, u "(J)D"), (0, .double 4368491638549381120), (3, u "law"), (0, u "(J)Z")] 3

def k1m0 : Method := { name := "<init>", desc := "()V", sig := { parameters := [], returnType := none }, accessFlags := 2, code := none }
def k1c1 : Code := { maxStack := 8, maxLocals := 4, code := method_2_code, exceptionTable := #[], attributes := #[] }
def k1m1 : Method := { name := "inverse", desc := "(J)J", sig := { parameters := [.long], returnType := some .long }, accessFlags := 10, code := some k1c1 }
def k1c2 : Code := { maxStack := 5, maxLocals := 12, code := method_3_code, exceptionTable := #[], attributes := #[] }
def k1m2 : Method := { name := "unmix", desc := "(J)J", sig := { parameters := [.long], returnType := some .long }, accessFlags := 10, code := some k1c2 }
def k1c3 : Code := { maxStack := 4, maxLocals := 8, code := code, exceptionTable := #[], attributes := #[] }
def k1m3 : Method := { name := "law", desc := "(J)Z", sig := { parameters := [.long], returnType := some .boolean }, accessFlags := 9, code := some k1c3 }
/-- com/example/querist/querist/policies/RandomPolicyThresholdPinLaw -/
def k1 : Class := { plain "com/example/querist/querist/policies/RandomPolicyThresholdPinLaw" (some 0) with
  accessFlags := 49
  interfaces := #[]
  cf := some (fileOf pool1 12 #[] #[{ accessFlags := 2, nameIndex := 5, descriptorIndex := 6, attributes := #[] }, { accessFlags := 10, nameIndex := 15, descriptorIndex := 16, attributes := #[] }, { accessFlags := 10, nameIndex := 23, descriptorIndex := 16, attributes := #[] }, { accessFlags := 9, nameIndex := 34, descriptorIndex := 35, attributes := #[] }] 49 2 #[] #[])
  fields := #[]
  methods := #[k1m0, k1m1, k1m2, k1m3]
  instanceTypes := #[]
  staticTypes := #[]
  resolved := Array.replicate 39 none
  statics := none }

def pool2 : Array CpInfo := pool [(7, .class_ 8), (0, u "com/example/querist/querist/policies/MstPolicy"), (0, .class_ 10), (0, u "java/lang/Object")] 9

/-- com/example/querist/querist/policies/MstPolicy -/
def k2 : Class := { plain "com/example/querist/querist/policies/MstPolicy" (some 0) with
  accessFlags := 1537
  interfaces := #[]
  cf := some (fileOf pool2 7 #[] #[] 1537 9 #[] #[])
  fields := #[]
  methods := #[]
  instanceTypes := #[]
  staticTypes := #[]
  resolved := Array.replicate 20 none
  statics := none }

def pool3 : Array CpInfo := pool [(2, .class_ 4), (1, u "com/example/querist/querist/policies/RandomPolicy"), (0, u "ALPHA"), (0, u "D"), (5, .class_ 14), (1, u "java/lang/Object"), (24, u "seed"), (0, u "J"), (2, u "alpha"), (26, u "threshold"), (0, u "(J)D"), (23, .long 11400714819323198485), (1, .long 13787848793156543929), (1, .long 10723151780598845931), (1, .double 4368491638549381120), (89, .class_ 192), (0, u "com/example/querist/querist/policies/MstPolicy"), (0, u "NAME"), (0, u "Ljava/lang/String;"), (1, u "GOLDEN_GAMMA")] 60

def k3c0 : Code := { maxStack := 5, maxLocals := 4, code := prog_79_method_6_code, exceptionTable := #[], attributes := #[] }
def k3m0 : Method := { name := "threshold", desc := "(J)D", sig := { parameters := [.long], returnType := some .double }, accessFlags := 8, code := some k3c0 }
/-- com/example/querist/querist/policies/RandomPolicy -/
def k3 : Class := { plain "com/example/querist/querist/policies/RandomPolicy" (some 0) with
  accessFlags := 49
  interfaces := #[2]
  cf := some (fileOf pool3 2 #[] #[{ accessFlags := 8, nameIndex := 70, descriptorIndex := 71, attributes := #[] }] 49 12 #[191] #[{ accessFlags := 25, nameIndex := 193, descriptorIndex := 194, attributes := #[] }, { accessFlags := 25, nameIndex := 5, descriptorIndex := 6, attributes := #[] }, { accessFlags := 26, nameIndex := 196, descriptorIndex := 40, attributes := #[] }, { accessFlags := 18, nameIndex := 39, descriptorIndex := 40, attributes := #[] }, { accessFlags := 18, nameIndex := 43, descriptorIndex := 6, attributes := #[] }])
  fields := #[{ name := "NAME", type := (.object "java/lang/String"), accessFlags := 25, slot := 0, constantValue := 0 }, { name := "ALPHA", type := .double, accessFlags := 25, slot := 1, constantValue := 0 }, { name := "GOLDEN_GAMMA", type := .long, accessFlags := 26, slot := 2, constantValue := 0 }, { name := "seed", type := .long, accessFlags := 18, slot := 0, constantValue := 0 }, { name := "alpha", type := .double, accessFlags := 18, slot := 1, constantValue := 0 }]
  methods := #[k3m0]
  instanceTypes := #[.long, .double]
  staticTypes := #[(.object "java/lang/String"), .double, .long]
  resolved := Array.replicate 257 none
  statics := none }

def pool4 : Array CpInfo := pool [(1, u "java/lang/Cloneable"), (0, .class_ 1), (0, u "java/lang/Object"), (0, .class_ 3)] 3

/-- java/lang/Cloneable -/
def k4 : Class := { plain "java/lang/Cloneable" (some 0) with
  accessFlags := 1537
  interfaces := #[]
  cf := some (fileOf pool4 2 #[] #[] 1537 4 #[] #[])
  fields := #[]
  methods := #[]
  instanceTypes := #[]
  staticTypes := #[]
  resolved := Array.replicate 8 none
  statics := none }

def pool5 : Array CpInfo := pool [(1, u "java/io/Serializable"), (0, .class_ 1), (0, u "java/lang/Object"), (0, .class_ 3)] 3

/-- java/io/Serializable -/
def k5 : Class := { plain "java/io/Serializable" (some 0) with
  accessFlags := 1537
  interfaces := #[]
  cf := some (fileOf pool5 2 #[] #[] 1537 4 #[] #[])
  fields := #[]
  methods := #[]
  instanceTypes := #[]
  staticTypes := #[]
  resolved := Array.replicate 8 none
  statics := none }

/-- the primitive byte -/
def k6 : Class := { plain "byte" none with kind := .primitive 'B', accessFlags := 0x411 }
/-- [B -/
def k7 : Class := { plain "[B" (some 0) with kind := .array 6 .byte, interfaces := #[4, 5], accessFlags := 1041 }

/-- the primitive int -/
def k8 : Class := { plain "int" none with kind := .primitive 'I', accessFlags := 0x411 }
/-- [I -/
def k9 : Class := { plain "[I" (some 0) with kind := .array 8 .int, interfaces := #[4, 5], accessFlags := 1041 }

def heap : Heap := #[]
def classes : Array Class := #[k0, k1, k2, k3, k4, k5, k6, k7, k8, k9]
def interned : List (Array UInt16 × Addr) := []
def slotsUsed : Nat := 0
def theMethod : MethodId := ⟨1, 3⟩
def args0 : Array Value := #[.long 5]
def aboutOver (below : List Frame) : State where
  vm := { classes := classes, interned := interned.toArray }
  heap := heap
  slotsUsed := slotsUsed
  threads := #[{ frames := .invoking theMethod args0 :: below }]
def below0 : List Frame := [.native { method := ⟨0, 0⟩, args := #[] }]
def about1 : State := aboutOver below0
def p0 : Program := .bare "" "" ""
def e0 : Env := launch0.env 0 0 0
theorem w_frames : about1.frames = Frame.invoking theMethod args0 :: below0 := rfl
set_option maxRecDepth 65536 in
theorem w_args : argsFit about1.vm theMethod args0 = true := by decide +kernel
set_option maxRecDepth 65536 in
theorem w_heap : heapFits about1 = true := by decide +kernel
set_option maxRecDepth 65536 in
theorem w_runnable : about1.curStatus? = some .runnable := by decide +kernel
set_option maxRecDepth 65536 in
theorem w_alone : about1.alone = true := by decide +kernel
set_option maxRecDepth 65536 in
theorem w_named : about1.methodNamed? x = some theMethod := by decide +kernel
set_option maxRecDepth 65536 in
theorem w_hears : about1.hears theMethod below0 = true := by decide +kernel
set_option maxRecDepth 65536 in
theorem w_ripe : about1.ripe theMethod args0 below0 = true := by decide +kernel
theorem w_running : about1.status = .running := rfl
set_option maxRecDepth 65536 in
theorem w_room : about1.hasRoom e0.platform room_1 = true :=
  launch0.hasRoom_least _ room_1 (by decide +kernel) (by decide +kernel) (by decide +kernel) (by decide +kernel) (by decide +kernel) (by decide +kernel)
theorem allAtoms_all (ts : List Jvm.Cond) (a : Array Jvm.Value) (st : Jvm.State) : (allAtoms ts).before a st = ts.all (fun c => c.before a st) := by
  induction ts with
  | nil => rfl
  | cons c t ih =>
    show (Jvm.Cond.and c (allAtoms t)).before a st = _
    rw [Jvm.Cond.before_and, ih, List.all_cons]
def words1 : List Jvm.Cond := Jvm.Cond.code x code maxLocals ret :: tables_1
/-- a 'code' word, met by the world's own term for the bytes: nothing is compared byte by byte -/
theorem code_word {y : MethodName} {bytes : ByteArray} {mx : Nat} {rt : Option FieldType} {a : Array Value} {s : State} {m : MethodId} {meth : Method} {c : Code} (h1 : s.methodNamed? y = some m) (h2 : s.vm.method? m = some meth) (h3 : meth.code = some c) (h4 : c.code = bytes)
    (h5 : (c.maxLocals == mx && c.exceptionTable.isEmpty && decide (c.maxStack ≤ mostOperands) && decide (meth.sig.returnType = rt) && !meth.locks && decide (parseMethodDescriptor y.desc = some meth.sig)) = true) : (Jvm.Cond.code y bytes mx rt).before a s = true := by
  simp only [Bool.and_eq_true, beq_iff_eq, Bool.not_eq_true', decide_eq_true_eq] at h5
  obtain ⟨⟨⟨⟨⟨g1, g2⟩, g3⟩, g4⟩, g5⟩, g6⟩ := h5
  simp [Cond.before, Cond.holds, Cond.value, h1, h2, h3, h4, g1, g2, g3, g4, g5, g6]
def isCode : Jvm.Cond → Bool
  | .code _ _ _ _ => true
  | _ => false
theorem all_split {L : List Jvm.Cond} {P : Jvm.Cond → Bool} (h1 : L.all (fun c => isCode c || P c) = true) (h2 : ∀ c ∈ L.filter isCode, P c = true) : L.all P = true := by
  refine List.all_eq_true.mpr fun c hc => ?_
  have h := List.all_eq_true.mp h1 c hc
  rcases Bool.eq_false_or_eq_true (isCode c) with hi | hi
  · exact h2 c (List.mem_filter.mpr ⟨hc, hi⟩)
  · simpa [hi] using h
set_option maxRecDepth 65536 in
theorem w_c0 : (Jvm.Cond.code x code maxLocals ret).before args0 about1 = true := code_word (m := ⟨1, 3⟩) (meth := k1m3) (c := k1c3) (by decide +kernel) rfl rfl rfl (by decide +kernel)
set_option maxRecDepth 65536 in
theorem w_c1 : (Jvm.Cond.code ({ cls := "com/example/querist/querist/policies/RandomPolicyThresholdPinLaw", name := "unmix", desc := "(J)J" } : Jvm.MethodName) method_3_code (12 : Nat) (Option.some Jvm.ClassFile.FieldType.long)).before args0 about1 = true := code_word (m := ⟨1, 2⟩) (meth := k1m2) (c := k1c2) (by decide +kernel) rfl rfl rfl (by decide +kernel)
set_option maxRecDepth 65536 in
theorem w_c2 : (Jvm.Cond.code ({ cls := "com/example/querist/querist/policies/RandomPolicyThresholdPinLaw", name := "inverse", desc := "(J)J" } : Jvm.MethodName) method_2_code (4 : Nat) (Option.some Jvm.ClassFile.FieldType.long)).before args0 about1 = true := code_word (m := ⟨1, 1⟩) (meth := k1m1) (c := k1c1) (by decide +kernel) rfl rfl rfl (by decide +kernel)
set_option maxRecDepth 65536 in
theorem w_c3 : (Jvm.Cond.code ({ cls := "com/example/querist/querist/policies/RandomPolicy", name := "threshold", desc := "(J)D" } : Jvm.MethodName) prog_79_method_6_code (4 : Nat) (Option.some Jvm.ClassFile.FieldType.double)).before args0 about1 = true := code_word (m := ⟨3, 0⟩) (meth := k3m0) (c := k3c0) (by decide +kernel) rfl rfl rfl (by decide +kernel)
def codes1 : List Jvm.Cond := [Jvm.Cond.code x code maxLocals ret, Jvm.Cond.code ({ cls := "com/example/querist/querist/policies/RandomPolicyThresholdPinLaw", name := "unmix", desc := "(J)J" } : Jvm.MethodName) method_3_code (12 : Nat) (Option.some Jvm.ClassFile.FieldType.long), Jvm.Cond.code ({ cls := "com/example/querist/querist/policies/RandomPolicyThresholdPinLaw", name := "inverse", desc := "(J)J" } : Jvm.MethodName) method_2_code (4 : Nat) (Option.some Jvm.ClassFile.FieldType.long), Jvm.Cond.code ({ cls := "com/example/querist/querist/policies/RandomPolicy", name := "threshold", desc := "(J)D" } : Jvm.MethodName) prog_79_method_6_code (4 : Nat) (Option.some Jvm.ClassFile.FieldType.double)]
set_option maxRecDepth 65536 in
theorem codes_eq : words1.filter isCode = codes1 := rfl
theorem w_codes : ∀ c ∈ words1.filter isCode, c.before args0 about1 = true := by
  rw [codes_eq]
  intro c hc
  simp only [codes1, List.mem_cons, List.not_mem_nil, or_false] at hc
  rcases hc with rfl | rfl | rfl | rfl
  · exact w_c0
  · exact w_c1
  · exact w_c2
  · exact w_c3
set_option maxRecDepth 65536 in
theorem w_t1 : words1.all (fun c => isCode c || c.before args0 about1) = true := by decide +kernel
theorem w_tables : (allAtoms (Jvm.Cond.code x code maxLocals ret :: tables_1)).before args0 about1 = true := by
  rw [allAtoms_all]
  show words1.all (fun c => c.before args0 about1) = true
  refine all_split ?_ w_codes
  rw [w_t1]
set_option maxRecDepth 65536 in
theorem w_case : (Jvm.Cond.and given_1 narrow_1).before args0 about1 = true := by decide +kernel
theorem w_applies : (headSpec (Jvm.Cond.code x code maxLocals ret :: tables_1) room_1).applies x e0.platform about1 = true :=
  (Spec.applies_iff w_frames).mpr ⟨w_running, w_runnable, w_alone, w_named, w_hears, w_ripe, w_room, w_tables⟩
theorem atStart : AtStart classFile x code maxLocals ret World_1 tables_1 room_1 Calls_1 rest_1 Pre_1 launch0 p0 e0 about1 theMethod args0 below0 :=
  ⟨lists_1, trivial, launch0.admits_env _ _ _, launch0.least_env, fairChoices_fair.cas, fairChoices_fair.clock, w_frames, w_args, w_heap, w_applies, trivial, trivial, w_case⟩
end start1
theorem witness_1 : WitnessClaimed_1 := ⟨start1.p0, start1.e0, start1.about1, start1.theMethod, start1.args0, start1.below0, start1.atStart⟩
end Jvm.Pilot.@@N@@
