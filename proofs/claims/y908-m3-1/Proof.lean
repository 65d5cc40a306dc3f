import JvmDerived
import JvmDerived.Pilot.@@N@@Statement
import JvmDerived.Pilot.@@N@@Code
set_option linter.unusedVariables false
set_option linter.unusedSimpArgs false
namespace Jvm.RoadKit
open Sem ClassFile Op Lib Jvm.Stand Jvm.Free Jvm.LawKit
section New
variable {p : Program} {l : Launch} {e : Env} {R : Room} {s : State} {m : MethodId} {args : Array Value} {below : List Frame} {meth : Method} {c : Code} {T : State} {locs : List Loc} {cells slots : Nat}
theorem retI (X : Stand p l e R s m args below meth c T locs cells slots) (hx : p.tables.exec = Jvm.exec) {pc : Nat} {Ls : Array Slot} {z : Int32} {rest : List Value} (hret : meth.sig.returnType = some .int) (hd : decode c.code pc = .ok (.ireturn, 1)) {fs : List Frame}
    (hl : ∀ (f : JFrame) (acts : List Action), f.method = m → f.locked = none → f.entered = [] → (doReturn e (T.setTop f) acts (some (.int z))).1 = T.setFrames fs) : Steps p.tables e below (T.setTop (mkF m pc Ls (.int z :: rest))) (T.setFrames fs) := by
  have hm' : T.vm.method? m = some meth := X.method'
  have hn : narrow .int (.int z) = .int z := rfl
  show Steps p.tables e below (T.setTop { method := m, pc := pc, locals := Ls, stack := _ :: rest, locked := none }) _
  jvm_step X.here [X.here.top, hx, hd, hm', hret, hn]
  first | (intro acts; rw [hl _ acts rfl rfl rfl]) | rw [hl _ _ rfl rfl rfl]
  exact Steps.refl _
theorem own_lrem {g : JFrame} {target : State} (X : Stand p l e R s m args below meth c T locs cells slots) (hx : p.tables.exec = Jvm.exec) (hg : g.method = m) {x y : Int64} {rest : List Value} (hd : decode c.code g.pc = .ok (.lrem, 1)) (hs : g.stack = .long y :: .long x :: rest) (hy : y ≠ 0)
    (hr : Steps p.tables e below (T.setTop { g with pc := g.pc + 1, stack := .long (x % y) :: rest }) target) : Steps p.tables e below (T.setTop g) target := by
  have q : x - (x / y) * y = x % y := lrem_mod x y
  exact XS.lrem X.here hx hg hd hs hy (by rw [q]; exact hr)
theorem own_b1 {P : Prop} [Decidable P] (h : P) : ¬ ((if P then (1 : Int32) else 0) = 0) := by rw [if_pos h]; decide
theorem own_b0 {P : Prop} [Decidable P] (h : ¬ P) : (if P then (1 : Int32) else 0) = 0 := if_neg h
theorem own_c1 {P : Prop} [Decidable P] (h : P) : (if P then (1 : Int32) else 0) = 1 := if_pos h
theorem own_c0 {P : Prop} [Decidable P] (h : ¬ P) : ¬ ((if P then (1 : Int32) else 0) = 1) := by rw [if_neg h]; decide
theorem own_bb {P Q : Prop} [Decidable P] [Decidable Q] (h : P ↔ Q) : (if P then (1 : Int32) else 0) = (if Q then (1 : Int32) else 0) := by
  by_cases p : P
  · rw [if_pos p, if_pos (h.mp p)]
  · rw [if_neg p, if_neg (fun q => p (h.mpr q))]
theorem own_bn {P Q : Prop} [Decidable P] [Decidable Q] (h : ¬ (P ↔ Q)) : ¬ ((if P then (1 : Int32) else 0) = (if Q then (1 : Int32) else 0)) := fun e => h (by
  by_cases p : P <;> by_cases q : Q
  · exact ⟨fun _ => q, fun _ => p⟩
  · rw [if_pos p, if_neg q] at e; exact absurd e (by decide)
  · rw [if_neg p, if_pos q] at e; exact absurd e (by decide)
  · exact ⟨fun a => absurd a p, fun a => absurd a q⟩)
theorem own_t {P : Prop} [Decidable P] (h : P) : some (Value.int 1) = some (Value.int (if P then (1 : Int32) else 0)) := by rw [if_pos h]
theorem own_f {P : Prop} [Decidable P] (h : ¬ P) : some (Value.int 0) = some (Value.int (if P then (1 : Int32) else 0)) := by rw [if_neg h]
end New
end Jvm.RoadKit
namespace Jvm.Pilot.@@N@@
open Jvm Jvm.ClassFile Sem Op Lib Jvm.Free Jvm.Stand Jvm.LawKit Jvm.RoadKit Bundle Jvm.Pilot.@@N@@.Jvm.D
section OwnFP
open Jvm.FP.Core
theorem own_zone : zval b64 (val64 dconst1) = (one64 : Int) := by
  have h := DInt_zval dint_one
  have e : (4607182418800017408 : UInt64) = dconst1 := by decide
  rw [e] at h; rw [h]; omega
theorem own_zzero : zval b64 (val64 dconst0) = 0 := by rw [val64_dconst0]; decide +kernel
theorem own_nn1 : val64 dconst1 ≠ .nan := by rw [val64_dconst1]; exact Datum.noConfusion
theorem own_nn0 : val64 dconst0 ≠ .nan := by rw [val64_dconst0]; exact Datum.noConfusion
theorem own_ord {a b : UInt64} (ha : val64 a ≠ .nan) (hb : val64 b ≠ .nan) : dcmp a b = some (compare (zval b64 (val64 a)) (zval b64 (val64 b))) := order_zval good_b64 (val64_fits a) (val64_fits b) ha hb
/-- a quotient of two numbers, the divisor not zero -/
theorem own_quo {a b : UInt64} {s t : Bool} {c d : Nat} {q r : Int} (ha : val64 a = .fin s c q) (hb : val64 b = .fin t d r) (hd : d ≠ 0) : val64 (ddiv a b) = roundRatio b64 (s != t) c d (q - r) := by
  rw [val64_ddiv, ha, hb]; simp only [quotient, if_neg hd]
theorem own_e1 (c : Nat) (s : Bool) (q r : Int) (hq : b64.qmin ≤ q) : inUnits c (q - r) (2 * b64.qmin - r) = zmag b64 (.fin s c q) * one64 := by
  rw [← pow_qmin64]
  show c * _ = c * _ * _
  have := qmin_b64
  rw [Nat.mul_assoc, ← Nat.pow_add]; congr 2; omega
theorem own_e2 (d : Nat) (t : Bool) (r : Int) : 2 ^ (b64.qmin - (2 * b64.qmin - r)).toNat * d = zmag b64 (.fin t d r) := by
  show _ = d * _
  rw [Nat.mul_comm]; congr 2; omega
theorem own_quo_le {s t u : Bool} {c d : Nat} {q r : Int} {V : Datum} (hx : Jvm.FP.Core.fits b64 (.fin s c q)) (hy : Jvm.FP.Core.fits b64 (.fin t d r)) (hd : d ≠ 0) (hV : Jvm.FP.Core.fits b64 V) (hn : V ≠ .nan) (h : zmag b64 (.fin s c q) * one64 ≤ zmag b64 V * zmag b64 (.fin t d r)) : zmag b64 (roundRatio b64 u c d (q - r)) ≤ zmag b64 V := by
  have hq := qmin_neg good_b64
  have h1 := hx.2.1
  have h2 := hy.2.1
  refine zmag_roundRatio_le good_b64 (e0 := 2 * b64.qmin - r) (by omega) hV hn (by omega) (by omega) ?_
  rw [own_e1 c s q r h1, Nat.mul_assoc, own_e2 d t r]; exact h
theorem own_quo_ge {s t u : Bool} {c d : Nat} {q r : Int} {V : Datum} (hx : Jvm.FP.Core.fits b64 (.fin s c q)) (hy : Jvm.FP.Core.fits b64 (.fin t d r)) (hd : d ≠ 0) (hV : Jvm.FP.Core.fits b64 V) (h : zmag b64 V * zmag b64 (.fin t d r) ≤ zmag b64 (.fin s c q) * one64) : zmag b64 V ≤ zmag b64 (roundRatio b64 u c d (q - r)) := by
  have hq := qmin_neg good_b64
  have h1 := hx.2.1
  have h2 := hy.2.1
  refine zmag_roundRatio_ge good_b64 (e0 := 2 * b64.qmin - r) (by omega) hV (by omega) (by omega) ?_
  rw [own_e1 c s q r h1, Nat.mul_assoc, own_e2 d t r]; exact h
/-- an int as a double: its shape and size -/
theorem own_i2d (n : Int32) : ∃ s c q, val64 (i2d n) = .fin s c q ∧ Jvm.FP.Core.fits b64 (.fin s c q) ∧ zmag b64 (.fin s c q) = n.toInt.natAbs * one64 ∧ (n.toInt < 0 → s = true) ∧ (0 < n.toInt → s = false) := by
  obtain ⟨s, c, q, h⟩ := i2d_fin n
  have z := DInt_zval (i2d_int n)
  have f := val64_fits (i2d n)
  rw [h] at z f
  have o := one64_pos
  have z' : signed s (zmag b64 (.fin s c q)) = n.toInt * (one64 : Int) := z
  refine ⟨s, c, q, h, f, ?_, ?_, ?_⟩
  · have z2 := congrArg Int.natAbs z'
    rw [Int.natAbs_mul, Int.natAbs_natCast] at z2
    rw [← z2]
    cases s <;> simp [signed]
  · intro hn
    cases s with
    | true => rfl
    | false =>
      exfalso
      have z3 : ((zmag b64 (.fin false c q) : Nat) : Int) = n.toInt * (one64 : Int) := z'
      have := Int.mul_neg_of_neg_of_pos hn (show (0 : Int) < (one64 : Int) by omega)
      omega
  · intro hn
    cases s with
    | false => rfl
    | true =>
      exfalso
      have z3 : -((zmag b64 (.fin true c q) : Nat) : Int) = n.toInt * (one64 : Int) := z'
      have := Int.mul_pos hn (show (0 : Int) < (one64 : Int) by omega)
      omega
theorem own_ac1 (a b c : Nat) : a * b * b * c = (a * c) * (b * b) := by ac_rfl
theorem own_ac2 (k o m : Nat) : k * o * (m * o) = (k * m) * (o * o) := by ac_rfl
theorem own_ac3 (o m : Nat) : o * (m * o) = m * o * o := by ac_rfl
theorem own_big : 2 ^ 31 ≤ one64 := by decide +kernel
def own_below : UInt64 := 0x3fefffffffffffff
theorem own_below_val : val64 own_below = .fin false (2 ^ 53 - 1) (-53) := by decide +kernel
theorem own_below_mag : zmag b64 (val64 own_below) * 2 ^ 53 = (2 ^ 53 - 1) * one64 := by decide +kernel
theorem own_one_mag : zmag b64 (val64 dconst1) = one64 := by decide +kernel
theorem own_tiny_mag : zmag b64 (val64 1) = 1 := by decide +kernel
theorem own_tiny_nn : val64 1 ≠ .nan := by decide +kernel
/-- what the quotient of two ints is worth -/
theorem own_ratio (n m : Int32) (hm : m.toInt ≠ 0) : val64 (ddiv (i2d n) (i2d m)) ≠ .nan ∧
    (0 < zval b64 (val64 (ddiv (i2d n) (i2d m))) ↔ (0 < n.toInt ∧ 0 < m.toInt) ∨ (n.toInt < 0 ∧ m.toInt < 0)) ∧
    ((0 < n.toInt ∧ 0 < m.toInt) ∨ (n.toInt < 0 ∧ m.toInt < 0) → (zval b64 (val64 (ddiv (i2d n) (i2d m))) < (one64 : Int) ↔ n.toInt.natAbs < m.toInt.natAbs)) := by
  obtain ⟨s, c, q, x1, x2, x3, x4, x5⟩ := own_i2d n
  obtain ⟨t, d, r, y1, y2, y3, y4, y5⟩ := own_i2d m
  have o := one64_pos
  have rm := rng32 m
  have mp : 0 < m.toInt.natAbs := by omega
  have hd : d ≠ 0 := by
    rintro rfl
    have z : zmag b64 (.fin t 0 r) = 0 := Nat.zero_mul _
    rw [z] at y3
    have := Nat.mul_pos mp o
    omega
  have hq := own_quo x1 y1 hd
  have nn : val64 (ddiv (i2d n) (i2d m)) ≠ .nan := by rw [hq]; exact roundRatio_ne_nan _ _ _ _ _
  have hz : zval b64 (val64 (ddiv (i2d n) (i2d m))) = signed (s != t) (zmag b64 (roundRatio b64 (s != t) c d (q - r))) := by
    rw [hq]; unfold zval; rw [sgn_roundRatio]
  have pos : n.toInt.natAbs ≠ 0 → 1 ≤ zmag b64 (roundRatio b64 (s != t) c d (q - r)) := by
    intro h
    have g := own_quo_ge (u := (s != t)) x2 y2 hd (val64_fits 1) (by
      rw [own_tiny_mag, x3, y3, Nat.one_mul]
      have h1 : m.toInt.natAbs ≤ one64 := Nat.le_trans (show m.toInt.natAbs ≤ 2 ^ 31 by omega) own_big
      calc m.toInt.natAbs * one64 ≤ one64 * one64 := Nat.mul_le_mul_right _ h1
        _ = 1 * one64 * one64 := by rw [Nat.one_mul]
        _ ≤ n.toInt.natAbs * one64 * one64 := Nat.mul_le_mul_right _ (Nat.mul_le_mul_right _ (by omega)))
    rw [own_tiny_mag] at g; exact g
  have zer : n.toInt.natAbs = 0 → zmag b64 (roundRatio b64 (s != t) c d (q - r)) = 0 := by
    intro h
    rw [h, Nat.zero_mul] at x3
    have c0 : c = 0 := by
      have x3' : c * 2 ^ (q - b64.qmin).toNat = 0 := x3
      rcases Nat.mul_eq_zero.mp x3' with h | h
      · exact h
      · exact absurd h (Nat.ne_of_gt (Nat.two_pow_pos _))
    subst c0
    unfold roundRatio
    rw [if_pos rfl]
    exact Nat.zero_mul _
  have lo : n.toInt.natAbs < m.toInt.natAbs → zmag b64 (roundRatio b64 (s != t) c d (q - r)) < one64 := by
    intro h
    have g := own_quo_le (u := (s != t)) x2 y2 hd (val64_fits own_below) (by rw [own_below_val]; exact Datum.noConfusion) (by
      rw [x3, y3]
      apply Nat.le_of_mul_le_mul_right (c := 2 ^ 53) _ (by decide)
      have e : zmag b64 (val64 own_below) * (m.toInt.natAbs * one64) * 2 ^ 53 = (zmag b64 (val64 own_below) * 2 ^ 53) * (m.toInt.natAbs * one64) := by
        rw [Nat.mul_assoc, Nat.mul_comm (m.toInt.natAbs * one64), ← Nat.mul_assoc]
      rw [e, own_below_mag]
      have e2 : n.toInt.natAbs * one64 * one64 * 2 ^ 53 = (n.toInt.natAbs * 2 ^ 53) * (one64 * one64) := own_ac1 _ _ _
      have e3 : (2 ^ 53 - 1) * one64 * (m.toInt.natAbs * one64) = ((2 ^ 53 - 1) * m.toInt.natAbs) * (one64 * one64) := own_ac2 _ _ _
      rw [e2, e3]
      exact Nat.mul_le_mul_right _ (by omega))
    have g2 : zmag b64 (val64 own_below) < one64 := by decide +kernel
    omega
  have hi : ¬ n.toInt.natAbs < m.toInt.natAbs → one64 ≤ zmag b64 (roundRatio b64 (s != t) c d (q - r)) := by
    intro h
    have g := own_quo_ge (u := (s != t)) x2 y2 hd (val64_fits dconst1) (by
      rw [own_one_mag, x3, y3]
      calc one64 * (m.toInt.natAbs * one64) = m.toInt.natAbs * one64 * one64 := own_ac3 _ _
        _ ≤ n.toInt.natAbs * one64 * one64 := Nat.mul_le_mul_right _ (Nat.mul_le_mul_right _ (by omega)))
    rw [own_one_mag] at g; exact g
  refine ⟨nn, ?_, ?_⟩
  · rw [hz]
    generalize zmag b64 (roundRatio b64 (s != t) c d (q - r)) = w at *
    rcases Int.lt_trichotomy n.toInt 0 with h | h | h <;> rcases Int.lt_trichotomy m.toInt 0 with k | k | k <;> first | exact absurd k hm | skip
    · rw [x4 h, y4 k]; have := pos (by omega); simp only [signed]; simp; omega
    · rw [x4 h, y5 k]; have := pos (by omega); simp only [signed]; simp; omega
    · have := zer (by omega); subst this; cases s <;> cases t <;> simp [signed] <;> omega
    · have := zer (by omega); subst this; cases s <;> cases t <;> simp [signed] <;> omega
    · rw [x5 h, y4 k]; have := pos (by omega); simp only [signed]; simp; omega
    · rw [x5 h, y5 k]; have := pos (by omega); simp only [signed]; simp; omega
  · intro h
    rw [hz]
    have hs : (s != t) = false := by
      rcases h with ⟨a, b⟩ | ⟨a, b⟩
      · rw [x5 a, y5 b]; rfl
      · rw [x4 a, y4 b]; rfl
    generalize zmag b64 (roundRatio b64 (s != t) c d (q - r)) = w at *
    rw [hs]
    show (w : Int) < (one64 : Int) ↔ _
    constructor
    · intro k
      rcases Nat.lt_or_ge n.toInt.natAbs m.toInt.natAbs with g | g
      · exact g
      · have := hi (by omega); omega
    · intro k
      have := lo k; omega
end OwnFP
theorem own_nonan {r : UInt64} (h : Jvm.FP.Core.val64 r ≠ .nan) : Jvm.Free.Fl.NoNaN64 r := Jvm.Free.Fl.val64_no.mpr h
theorem own_cmpl {a b : UInt64} (ha : Jvm.FP.Core.val64 a ≠ .nan) (hb : Jvm.FP.Core.val64 b ≠ .nan) : (0 : Int32) < cmpValue (FP.dcmp a b) .l ↔ Jvm.FP.Core.zval Jvm.FP.Core.b64 (Jvm.FP.Core.val64 b) < Jvm.FP.Core.zval Jvm.FP.Core.b64 (Jvm.FP.Core.val64 a) := by
  rw [show FP.dcmp a b = _ from own_ord ha hb, Jvm.FP.Core.compare_ite]
  split
  · constructor
    · intro h; exact absurd h (by decide)
    · intro h; omega
  · split
    · constructor
      · intro h; exact absurd h (by decide)
      · intro h; omega
    · constructor
      · intro h; omega
      · intro h; decide
theorem own_cmpg {a b : UInt64} (ha : Jvm.FP.Core.val64 a ≠ .nan) (hb : Jvm.FP.Core.val64 b ≠ .nan) : cmpValue (FP.dcmp a b) .g < (0 : Int32) ↔ Jvm.FP.Core.zval Jvm.FP.Core.b64 (Jvm.FP.Core.val64 a) < Jvm.FP.Core.zval Jvm.FP.Core.b64 (Jvm.FP.Core.val64 b) := by
  rw [show FP.dcmp a b = _ from own_ord ha hb, Jvm.FP.Core.compare_ite]
  split
  · constructor
    · intro h; assumption
    · intro h; decide
  · split
    · constructor
      · intro h; exact absurd h (by decide)
      · intro h; omega
    · constructor
      · intro h; exact absurd h (by decide)
      · intro h; omega
theorem own_dp (p : Int32) : ((p &&& (1073741823 : Int32)) + (1 : Int32)).toInt ≠ 0 := by
  have e := c_mask p (1073741823 : Int32) 30 (by decide) (by decide)
  have a := c_iadd (p &&& (1073741823 : Int32)) (1 : Int32)
  have r := rng32 ((p &&& (1073741823 : Int32)) + (1 : Int32))
  simp only [Int32.reduceToInt] at a
  omega
theorem own_dm (p : Int32) : (-((p &&& (1073741823 : Int32)) + (1 : Int32))).toInt ≠ 0 := by
  have e := c_mask p (1073741823 : Int32) 30 (by decide) (by decide)
  have a := c_iadd (p &&& (1073741823 : Int32)) (1 : Int32)
  have r := rng32 ((p &&& (1073741823 : Int32)) + (1 : Int32))
  have b := c_ineg ((p &&& (1073741823 : Int32)) + (1 : Int32))
  have r2 := rng32 (-((p &&& (1073741823 : Int32)) + (1 : Int32)))
  simp only [Int32.reduceToInt] at a
  omega
theorem own_rate (n d : Int32) (hd : d.toInt ≠ 0) : ((0 : Int32) < (cmpValue (FP.dcmp (FP.ddiv (FP.i2d n) (FP.i2d d)) FP.dconst0) .l) ∧ (cmpValue (FP.dcmp (FP.ddiv (FP.i2d n) (FP.i2d d)) FP.dconst1) .g) < (0 : Int32)) ↔ ((0 : Int32) < d ∧ (0 : Int32) < n ∧ n < d) ∨ (¬ (0 : Int32) < d ∧ d < n ∧ n < (0 : Int32)) := by
  obtain ⟨nn, h1, h2⟩ := own_ratio n d hd
  rw [show ((0 : Int32) < cmpValue (FP.dcmp (FP.ddiv (FP.i2d n) (FP.i2d d)) FP.dconst0) .l ↔ _) from own_cmpl nn own_nn0, show (cmpValue (FP.dcmp (FP.ddiv (FP.i2d n) (FP.i2d d)) FP.dconst1) .g < (0 : Int32) ↔ _) from own_cmpg nn own_nn1, show Jvm.FP.Core.zval Jvm.FP.Core.b64 (Jvm.FP.Core.val64 FP.dconst0) = 0 from own_zzero, show Jvm.FP.Core.zval Jvm.FP.Core.b64 (Jvm.FP.Core.val64 FP.dconst1) = _ from own_zone]
  simp only [Int32.lt_iff_toInt_lt, Int32.reduceToInt]
  constructor
  · rintro ⟨a, b⟩
    have c := h1.mp a
    have e := (h2 c).mp b
    omega
  · intro k
    have c : (0 < n.toInt ∧ 0 < d.toInt) ∨ (n.toInt < 0 ∧ d.toInt < 0) := by omega
    exact ⟨h1.mpr c, (h2 c).mpr (by omega)⟩
theorem pn_0 : plainName "com/example/eager_sieve/eagersieve/BloomSizing" = true := by first | (simp [plainName, overriddenIn]; done) | decide +kernel
theorem d1_0 : decode prog_6_method_5_code 0 = .ok (.dload_n 0, 1) := by decide +kernel
theorem d1_1 : decode prog_6_method_5_code 1 = .ok (.dconst 0, 1) := by decide +kernel
theorem d1_2 : decode prog_6_method_5_code 2 = .ok (.dcmp .l, 1) := by decide +kernel
theorem d1_3 : decode prog_6_method_5_code 3 = .ok (.ifCond .le 13, 3) := by decide +kernel
theorem d1_6 : decode prog_6_method_5_code 6 = .ok (.dload_n 0, 1) := by decide +kernel
theorem d1_7 : decode prog_6_method_5_code 7 = .ok (.dconst 1, 1) := by decide +kernel
theorem d1_8 : decode prog_6_method_5_code 8 = .ok (.dcmp .g, 1) := by decide +kernel
theorem d1_9 : decode prog_6_method_5_code 9 = .ok (.ifCond .ge 7, 3) := by decide +kernel
theorem d1_12 : decode prog_6_method_5_code 12 = .ok (.iconst 1, 1) := by decide +kernel
theorem d1_13 : decode prog_6_method_5_code 13 = .ok (.goto 4, 3) := by decide +kernel
theorem d1_17 : decode prog_6_method_5_code 17 = .ok (.ireturn, 1) := by decide +kernel
theorem d1_16 : decode prog_6_method_5_code 16 = .ok (.iconst 0, 1) := by decide +kernel
theorem ef_1 (m : MethodId) (x0 : UInt64) : entryFrame m #[(.double x0)] 2 = mkF m 0 #[.val (.double x0), .second] [] := by first | (simp [entryFrame, mkF, argsToLocals, Value.category]; done) | rfl
def Q1 (Z : State) (d0 : UInt64) (h0 : Heap) (n0 : Nat) (v : Option Value) (h : Heap) (L : List Loc) : Prop := v = some (.int (if ((0 : Int32) < (cmpValue (FP.dcmp d0 FP.dconst0) .l) ∧ (cmpValue (FP.dcmp d0 FP.dconst1) .g) < (0 : Int32)) then (1 : Int32) else 0)) ∧ Fr n0 L ∧ h = h0
set_option maxRecDepth 65536 in
set_option maxHeartbeats 40000000 in
theorem rm1 (l : Launch) (Z : State) (a0 : Array Value) (hw : ∀ d ∈ tables_1, d.before a0 Z = true) (ws : List Jvm.Cond) (d0 : UInt64) (h0 : Heap) (n0 : Nat) (Z0 : n0 ≤ h0.size) :
    MetFree l (⟨"com/example/eager_sieve/eagersieve/BloomSizing", "isRate", "(D)Z"⟩ : MethodName) (head1 (Jvm.Cond.code (⟨"com/example/eager_sieve/eagersieve/BloomSizing", "isRate", "(D)Z"⟩ : MethodName) prog_6_method_5_code 2 (some .boolean) :: ws) ({ frames := 0, cells := 0, slots := 0, locals := 0 } : Room)) (fun a U => a = #[(.double d0)] ∧ Z.Warmed39 U.vm ∧ U.heap = h0) (fun _ _ _ _ _ => True) (fun _ U o U' => ∃ v L, o = .returned v ∧ Q1 Z d0 h0 n0 v U'.heap L ∧ FrameEnd U o U' L ({ frames := 0, cells := 0, slots := 0, locals := 0 } : Room).cells ({ frames := 0, cells := 0, slots := 0, locals := 0 } : Room).slots) := by
  refine MetFree.of_bodySF (plainFor_of_name pn_0) hisR ?_
  intro p e s m args below meth c s₁ Bd hml0 hP hK
  obtain ⟨rfl, hZ, hh⟩ := hP
  have hx := Bd.exec
  have hby := Bd.bytes
  have hml : c.maxLocals = 2 := hml0
  have hown : s.vm.findClass "com/example/eager_sieve/eagersieve/BloomSizing" = some m.cls := findClass_of_methodNamed Bd.named
  have hnm := (name_of_methodNamed Bd.named Bd.method).1
  have X0 : Stand p l e ({ frames := 0, cells := 0, slots := 0, locals := 0 } : Room) s m #[(.double d0)] below meth c s₁ [] 0 0 := Stand.of_body Bd
  have e0 : s₁.heap = h0 := by rw [← hh, Bd.state]; rfl
  have N0 := Fr.nil n0
  have pre0 : ∀ t, Steps p.tables e below (s₁.setTop (mkF m 0 #[.val (.double d0), .second] [])) t → Steps p.tables e below (s₁.setTop (entryFrame m #[(.double d0)] 2)) t := fun t k => castTop (ef_1 m d0) k
  have pre1 : ∀ t, Steps p.tables e below (s₁.setTop (mkF m 3 #[.val (.double d0), .second] [(.int (cmpValue (FP.dcmp d0 FP.dconst0) .l))])) t → Steps p.tables e below (s₁.setTop (entryFrame m #[(.double d0)] 2)) t := fun t k => pre0 t (by
    show Steps p.tables e below (s₁.setTop (mkF m 0 #[.val (.double d0), .second] [])) _
    refine XS.dloadN X0.here hx rfl (hb hby d1_0) rfl ?_
    show Steps p.tables e below (s₁.setTop (mkF m 1 #[.val (.double d0), .second] [(.double d0)])) _
    refine XS.dconst0 X0.here hx rfl (hb hby d1_1) rfl ?_
    show Steps p.tables e below (s₁.setTop (mkF m 2 #[.val (.double d0), .second] [(.double FP.dconst0), (.double d0)])) _
    refine XS.dcmpS X0.here hx rfl (hb hby d1_2) rfl rfl ?_
    exact k)
  by_cases hc3_2 : (0 : Int32) < (cmpValue (FP.dcmp d0 FP.dconst0) .l)
  · have pre3 : ∀ t, Steps p.tables e below (s₁.setTop (mkF m 9 #[.val (.double d0), .second] [(.int (cmpValue (FP.dcmp d0 FP.dconst1) .g))])) t → Steps p.tables e below (s₁.setTop (entryFrame m #[(.double d0)] 2)) t := fun t k => pre1 t (by
      show Steps p.tables e below (s₁.setTop (mkF m 3 #[.val (.double d0), .second] [(.int (cmpValue (FP.dcmp d0 FP.dconst0) .l))])) _
      refine XS.ifNo X0.here hx rfl (hb hby d1_3) rfl ((if0 _ _).trans (tlt hc3_2).2.2.2) ?_
      show Steps p.tables e below (s₁.setTop (mkF m 6 #[.val (.double d0), .second] [])) _
      refine XS.dloadN X0.here hx rfl (hb hby d1_6) rfl ?_
      show Steps p.tables e below (s₁.setTop (mkF m 7 #[.val (.double d0), .second] [(.double d0)])) _
      refine XS.dconst1 X0.here hx rfl (hb hby d1_7) rfl ?_
      show Steps p.tables e below (s₁.setTop (mkF m 8 #[.val (.double d0), .second] [(.double FP.dconst1), (.double d0)])) _
      refine XS.dcmpS X0.here hx rfl (hb hby d1_8) rfl rfl ?_
      exact k)
    by_cases hc9_4 : (cmpValue (FP.dcmp d0 FP.dconst1) .g) < (0 : Int32)
    · have pre5 : ∀ t, Steps p.tables e below (s₁.setTop (mkF m 17 #[.val (.double d0), .second] [(.int (1 : Int32))])) t → Steps p.tables e below (s₁.setTop (entryFrame m #[(.double d0)] 2)) t := fun t k => pre3 t (by
        show Steps p.tables e below (s₁.setTop (mkF m 9 #[.val (.double d0), .second] [(.int (cmpValue (FP.dcmp d0 FP.dconst1) .g))])) _
        refine XS.ifNo X0.here hx rfl (hb hby d1_9) rfl ((if0 _ _).trans (tlt hc9_4).2.1) ?_
        show Steps p.tables e below (s₁.setTop (mkF m 12 #[.val (.double d0), .second] [])) _
        refine XS.iconst X0.here hx rfl (hb hby d1_12) ?_
        show Steps p.tables e below (s₁.setTop (mkF m 13 #[.val (.double d0), .second] [(.int (1 : Int32))])) _
        refine XS.goto X0.here hx rfl (pc0 := 13) (pc' := 17) rfl (hb hby d1_13) (by decide) (by decide) ?_
        exact k)
      obtain ⟨fs, hr, hrun, hended, hW, hsame⟩ := X0.leave (v := some (.int (1 : Int32))) (fun h => by rw [Bd.returns] at h; cases h)
      refine ⟨_, _, pre5 _ ?_, hrun, hended, _, _, rfl, ?_, ⟨_, rfl⟩, hW, hsame.mono (by decide) (by decide)⟩
      · exact retN X0 hx (t := .boolean) Bd.returns (by simp) (hb hby d1_17) hr
      · show Q1 Z d0 h0 n0 _ s₁.heap _
        rw [e0]
        exact ⟨own_t ⟨hc3_2, hc9_4⟩, N0, rfl⟩
    · have pre6 : ∀ t, Steps p.tables e below (s₁.setTop (mkF m 17 #[.val (.double d0), .second] [(.int (0 : Int32))])) t → Steps p.tables e below (s₁.setTop (entryFrame m #[(.double d0)] 2)) t := fun t k => pre3 t (by
        show Steps p.tables e below (s₁.setTop (mkF m 9 #[.val (.double d0), .second] [(.int (cmpValue (FP.dcmp d0 FP.dconst1) .g))])) _
        refine XS.ifYes X0.here hx rfl (pc0 := 9) (pc' := 16) rfl (hb hby d1_9) rfl ((if0 _ _).trans (flt hc9_4).2.1) (by decide) (by decide) ?_
        show Steps p.tables e below (s₁.setTop (mkF m 16 #[.val (.double d0), .second] [])) _
        refine XS.iconst X0.here hx rfl (hb hby d1_16) ?_
        exact k)
      obtain ⟨fs, hr, hrun, hended, hW, hsame⟩ := X0.leave (v := some (.int (0 : Int32))) (fun h => by rw [Bd.returns] at h; cases h)
      refine ⟨_, _, pre6 _ ?_, hrun, hended, _, _, rfl, ?_, ⟨_, rfl⟩, hW, hsame.mono (by decide) (by decide)⟩
      · exact retN X0 hx (t := .boolean) Bd.returns (by simp) (hb hby d1_17) hr
      · show Q1 Z d0 h0 n0 _ s₁.heap _
        rw [e0]
        exact ⟨own_f (fun q => hc9_4 q.2), N0, rfl⟩
  · have pre7 : ∀ t, Steps p.tables e below (s₁.setTop (mkF m 17 #[.val (.double d0), .second] [(.int (0 : Int32))])) t → Steps p.tables e below (s₁.setTop (entryFrame m #[(.double d0)] 2)) t := fun t k => pre1 t (by
      show Steps p.tables e below (s₁.setTop (mkF m 3 #[.val (.double d0), .second] [(.int (cmpValue (FP.dcmp d0 FP.dconst0) .l))])) _
      refine XS.ifYes X0.here hx rfl (pc0 := 3) (pc' := 16) rfl (hb hby d1_3) rfl ((if0 _ _).trans (flt hc3_2).2.2.2) (by decide) (by decide) ?_
      show Steps p.tables e below (s₁.setTop (mkF m 16 #[.val (.double d0), .second] [])) _
      refine XS.iconst X0.here hx rfl (hb hby d1_16) ?_
      exact k)
    obtain ⟨fs, hr, hrun, hended, hW, hsame⟩ := X0.leave (v := some (.int (0 : Int32))) (fun h => by rw [Bd.returns] at h; cases h)
    refine ⟨_, _, pre7 _ ?_, hrun, hended, _, _, rfl, ?_, ⟨_, rfl⟩, hW, hsame.mono (by decide) (by decide)⟩
    · exact retN X0 hx (t := .boolean) Bd.returns (by simp) (hb hby d1_17) hr
    · show Q1 Z d0 h0 n0 _ s₁.heap _
      rw [e0]
      exact ⟨own_f (fun q => hc3_2 q.1), N0, rfl⟩
theorem pn_1 : plainName "com/example/eager_sieve/eagersieve/BloomSizingIsRatePinLaw" = true := by first | (simp [plainName, overriddenIn]; done) | decide +kernel
theorem pd_0 : parseMethodDescriptor "(D)Z" = some ⟨[.double], some .boolean⟩ := by decide +kernel
theorem ef_0 (m : MethodId) (x0 : Int32) (x1 : Int32) (x2 : Int32) : entryFrame m #[(.int x0), (.int x1), (.int x2)] maxLocals = mkF m 0 #[.val (.int x0), .val (.int x1), .val (.int x2), .unset, .unset, .unset, .unset, .unset] [] := by first | (simp [entryFrame, mkF, argsToLocals, Value.category, maxLocals]; done) | rfl
def Q0 (Z : State) (p0 : Int32) (p1 : Int32) (p2 : Int32) (h0 : Heap) (n0 : Nat) (v : Option Value) (h : Heap) (L : List Loc) : Prop := v = some (.int 1) ∧ Fr n0 L
set_option maxRecDepth 65536 in
set_option maxHeartbeats 40000000 in
theorem rm0 (l : Launch) (Z : State) (a0 : Array Value) (hw : ∀ d ∈ tables_1, d.before a0 Z = true) (ws : List Jvm.Cond) (p0 : Int32) (p1 : Int32) (p2 : Int32) (h0 : Heap) (n0 : Nat) (Z0 : n0 ≤ h0.size) :
    MetFree l x (head1 (Jvm.Cond.code x code maxLocals ret :: ws) room_1) (fun a U => a = #[(.int p0), (.int p1), (.int p2)] ∧ Z.Warmed39 U.vm ∧ U.heap = h0) (fun _ _ _ _ _ => True) (fun _ U o U' => ∃ v L, o = .returned v ∧ Q0 Z p0 p1 p2 h0 n0 v U'.heap L ∧ FrameEnd U o U' L room_1.cells room_1.slots) := by
  refine MetFree.of_bodySF (plainFor_of_name pn_1) hisR ?_
  intro p e s m args below meth c s₁ Bd hml0 hP hK
  obtain ⟨rfl, hZ, hh⟩ := hP
  have hx := Bd.exec
  have hby := Bd.bytes
  have hml : c.maxLocals = 8 := hml0
  have hown : s.vm.findClass "com/example/eager_sieve/eagersieve/BloomSizingIsRatePinLaw" = some m.cls := findClass_of_methodNamed Bd.named
  have hnm := (name_of_methodNamed Bd.named Bd.method).1
  have X0 : Stand p l e room_1 s m #[(.int p0), (.int p1), (.int p2)] below meth c s₁ [] 0 0 := Stand.of_body Bd
  have e0 : s₁.heap = h0 := by rw [← hh, Bd.state]; rfl
  have N0 := Fr.nil n0
  have pre0 : ∀ t, Steps p.tables e below (s₁.setTop (mkF m 0 #[.val (.int p0), .val (.int p1), .val (.int p2), .unset, .unset, .unset, .unset, .unset] [])) t → Steps p.tables e below (s₁.setTop (entryFrame m #[(.int p0), (.int p1), (.int p2)] maxLocals)) t := fun t k => castTop (ef_0 m p0 p1 p2) k
  have pre1 : ∀ t, Steps p.tables e below (s₁.setTop (mkF m 7 #[.val (.int p0), .val (.int p1), .val (.int p2), .val (.int ((p1 &&& (1073741823 : Int32)) + (1 : Int32))), .unset, .unset, .unset, .unset] [])) t → Steps p.tables e below (s₁.setTop (entryFrame m #[(.int p0), (.int p1), (.int p2)] maxLocals)) t := fun t k => pre0 t (by
    show Steps p.tables e below (s₁.setTop (mkF m 0 #[.val (.int p0), .val (.int p1), .val (.int p2), .unset, .unset, .unset, .unset, .unset] [])) _
    refine XS.iloadN X0.here hx rfl (hb hby at_0) rfl ?_
    show Steps p.tables e below (s₁.setTop (mkF m 1 #[.val (.int p0), .val (.int p1), .val (.int p2), .unset, .unset, .unset, .unset, .unset] [(.int p1)])) _
    refine X0.ldcInt hx hown (mvT hZ (hw _ (List.mem_of_getElem? (i := 0) rfl))) (g := (mkF m 1 #[.val (.int p0), .val (.int p1), .val (.int p2), .unset, .unset, .unset, .unset, .unset] [(.int p1)])) rfl (hb hby at_1) _ ?_
    show Steps p.tables e below (s₁.setTop (mkF m 3 #[.val (.int p0), .val (.int p1), .val (.int p2), .unset, .unset, .unset, .unset, .unset] [(.int (1073741823 : Int32)), (.int p1)])) _
    refine XS.iand X0.here hx rfl (hb hby at_3) rfl ?_
    show Steps p.tables e below (s₁.setTop (mkF m 4 #[.val (.int p0), .val (.int p1), .val (.int p2), .unset, .unset, .unset, .unset, .unset] [(.int (p1 &&& (1073741823 : Int32)))])) _
    refine XS.iconst X0.here hx rfl (hb hby at_4) ?_
    show Steps p.tables e below (s₁.setTop (mkF m 5 #[.val (.int p0), .val (.int p1), .val (.int p2), .unset, .unset, .unset, .unset, .unset] [(.int (1 : Int32)), (.int (p1 &&& (1073741823 : Int32)))])) _
    refine XS.iadd X0.here hx rfl (hb hby at_5) rfl ?_
    show Steps p.tables e below (s₁.setTop (mkF m 6 #[.val (.int p0), .val (.int p1), .val (.int p2), .unset, .unset, .unset, .unset, .unset] [(.int ((p1 &&& (1073741823 : Int32)) + (1 : Int32)))])) _
    refine XS.istoreN X0.here hx rfl (hb hby at_6) rfl (l' := #[.val (.int p0), .val (.int p1), .val (.int p2), .val (.int ((p1 &&& (1073741823 : Int32)) + (1 : Int32))), .unset, .unset, .unset, .unset]) rfl ?_
    exact k)
  obtain ⟨v2_0, hv2, prem2⟩ : ∃ (v2_0 : Int32), v2_0.toInt ≠ 0 ∧ ∀ t, Steps p.tables e below (s₁.setTop (mkF m 19 #[.val (.int p0), .val (.int p1), .val (.int p2), .val (.int ((p1 &&& (1073741823 : Int32)) + (1 : Int32))), .unset, .unset, .unset, .unset] [(.int v2_0)])) t → Steps p.tables e below (s₁.setTop (entryFrame m #[(.int p0), (.int p1), (.int p2)] maxLocals)) t := by
    have pre3 : ∀ t, Steps p.tables e below (s₁.setTop (mkF m 10 #[.val (.int p0), .val (.int p1), .val (.int p2), .val (.int ((p1 &&& (1073741823 : Int32)) + (1 : Int32))), .unset, .unset, .unset, .unset] [(.int (p2 &&& (1 : Int32)))])) t → Steps p.tables e below (s₁.setTop (entryFrame m #[(.int p0), (.int p1), (.int p2)] maxLocals)) t := fun t k => pre1 t (by
      show Steps p.tables e below (s₁.setTop (mkF m 7 #[.val (.int p0), .val (.int p1), .val (.int p2), .val (.int ((p1 &&& (1073741823 : Int32)) + (1 : Int32))), .unset, .unset, .unset, .unset] [])) _
      refine XS.iloadN X0.here hx rfl (hb hby at_7) rfl ?_
      show Steps p.tables e below (s₁.setTop (mkF m 8 #[.val (.int p0), .val (.int p1), .val (.int p2), .val (.int ((p1 &&& (1073741823 : Int32)) + (1 : Int32))), .unset, .unset, .unset, .unset] [(.int p2)])) _
      refine XS.iconst X0.here hx rfl (hb hby at_8) ?_
      show Steps p.tables e below (s₁.setTop (mkF m 9 #[.val (.int p0), .val (.int p1), .val (.int p2), .val (.int ((p1 &&& (1073741823 : Int32)) + (1 : Int32))), .unset, .unset, .unset, .unset] [(.int (1 : Int32)), (.int p2)])) _
      refine XS.iand X0.here hx rfl (hb hby at_9) rfl ?_
      exact k)
    by_cases hc10_4 : (p2 &&& (1 : Int32)) = (0 : Int32)
    · have pre5 : ∀ t, Steps p.tables e below (s₁.setTop (mkF m 19 #[.val (.int p0), .val (.int p1), .val (.int p2), .val (.int ((p1 &&& (1073741823 : Int32)) + (1 : Int32))), .unset, .unset, .unset, .unset] [(.int ((p1 &&& (1073741823 : Int32)) + (1 : Int32)))])) t → Steps p.tables e below (s₁.setTop (entryFrame m #[(.int p0), (.int p1), (.int p2)] maxLocals)) t := fun t k => pre3 t (by
        show Steps p.tables e below (s₁.setTop (mkF m 10 #[.val (.int p0), .val (.int p1), .val (.int p2), .val (.int ((p1 &&& (1073741823 : Int32)) + (1 : Int32))), .unset, .unset, .unset, .unset] [(.int (p2 &&& (1 : Int32)))])) _
        refine XS.ifYes X0.here hx rfl (pc0 := 10) (pc' := 18) rfl (hb hby at_10) rfl ((if0 _ _).trans (teq hc10_4).1) (by decide) (by decide) ?_
        show Steps p.tables e below (s₁.setTop (mkF m 18 #[.val (.int p0), .val (.int p1), .val (.int p2), .val (.int ((p1 &&& (1073741823 : Int32)) + (1 : Int32))), .unset, .unset, .unset, .unset] [])) _
        refine XS.iloadN X0.here hx rfl (hb hby at_18) rfl ?_
        exact k)
      exact ⟨((p1 &&& (1073741823 : Int32)) + (1 : Int32)), (own_dp p1), pre5⟩
    · have pre6 : ∀ t, Steps p.tables e below (s₁.setTop (mkF m 19 #[.val (.int p0), .val (.int p1), .val (.int p2), .val (.int ((p1 &&& (1073741823 : Int32)) + (1 : Int32))), .unset, .unset, .unset, .unset] [(.int (-((p1 &&& (1073741823 : Int32)) + (1 : Int32))))])) t → Steps p.tables e below (s₁.setTop (entryFrame m #[(.int p0), (.int p1), (.int p2)] maxLocals)) t := fun t k => pre3 t (by
        show Steps p.tables e below (s₁.setTop (mkF m 10 #[.val (.int p0), .val (.int p1), .val (.int p2), .val (.int ((p1 &&& (1073741823 : Int32)) + (1 : Int32))), .unset, .unset, .unset, .unset] [(.int (p2 &&& (1 : Int32)))])) _
        refine XS.ifNo X0.here hx rfl (hb hby at_10) rfl ((if0 _ _).trans (feq hc10_4).1) ?_
        show Steps p.tables e below (s₁.setTop (mkF m 13 #[.val (.int p0), .val (.int p1), .val (.int p2), .val (.int ((p1 &&& (1073741823 : Int32)) + (1 : Int32))), .unset, .unset, .unset, .unset] [])) _
        refine XS.iloadN X0.here hx rfl (hb hby at_13) rfl ?_
        show Steps p.tables e below (s₁.setTop (mkF m 14 #[.val (.int p0), .val (.int p1), .val (.int p2), .val (.int ((p1 &&& (1073741823 : Int32)) + (1 : Int32))), .unset, .unset, .unset, .unset] [(.int ((p1 &&& (1073741823 : Int32)) + (1 : Int32)))])) _
        refine XS.ineg X0.here hx rfl (hb hby at_14) rfl ?_
        show Steps p.tables e below (s₁.setTop (mkF m 15 #[.val (.int p0), .val (.int p1), .val (.int p2), .val (.int ((p1 &&& (1073741823 : Int32)) + (1 : Int32))), .unset, .unset, .unset, .unset] [(.int (-((p1 &&& (1073741823 : Int32)) + (1 : Int32))))])) _
        refine XS.goto X0.here hx rfl (pc0 := 15) (pc' := 19) rfl (hb hby at_15) (by decide) (by decide) ?_
        exact k)
      exact ⟨(-((p1 &&& (1073741823 : Int32)) + (1 : Int32))), (own_dm p1), pre6⟩
  have pre7 : ∀ t, Steps p.tables e below (s₁.setTop (mkF m 31 #[.val (.int p0), .val (.int p1), .val (.int p2), .val (.int ((p1 &&& (1073741823 : Int32)) + (1 : Int32))), .val (.int v2_0), .val (.double (FP.ddiv (FP.i2d p0) (FP.i2d v2_0))), .second, .unset] [(.int v2_0)])) t → Steps p.tables e below (s₁.setTop (entryFrame m #[(.int p0), (.int p1), (.int p2)] maxLocals)) t := fun t k => prem2 t (by
    show Steps p.tables e below (s₁.setTop (mkF m 19 #[.val (.int p0), .val (.int p1), .val (.int p2), .val (.int ((p1 &&& (1073741823 : Int32)) + (1 : Int32))), .unset, .unset, .unset, .unset] [(.int v2_0)])) _
    refine XS.istore X0.here hx rfl (hb hby at_19) rfl (l' := #[.val (.int p0), .val (.int p1), .val (.int p2), .val (.int ((p1 &&& (1073741823 : Int32)) + (1 : Int32))), .val (.int v2_0), .unset, .unset, .unset]) rfl ?_
    show Steps p.tables e below (s₁.setTop (mkF m 21 #[.val (.int p0), .val (.int p1), .val (.int p2), .val (.int ((p1 &&& (1073741823 : Int32)) + (1 : Int32))), .val (.int v2_0), .unset, .unset, .unset] [])) _
    refine XS.iloadN X0.here hx rfl (hb hby at_21) rfl ?_
    show Steps p.tables e below (s₁.setTop (mkF m 22 #[.val (.int p0), .val (.int p1), .val (.int p2), .val (.int ((p1 &&& (1073741823 : Int32)) + (1 : Int32))), .val (.int v2_0), .unset, .unset, .unset] [(.int p0)])) _
    refine XS.i2dS X0.here hx rfl (hb hby at_22) rfl rfl ?_
    show Steps p.tables e below (s₁.setTop (mkF m 23 #[.val (.int p0), .val (.int p1), .val (.int p2), .val (.int ((p1 &&& (1073741823 : Int32)) + (1 : Int32))), .val (.int v2_0), .unset, .unset, .unset] [(.double (FP.i2d p0))])) _
    refine XS.iload X0.here hx rfl (hb hby at_23) rfl ?_
    show Steps p.tables e below (s₁.setTop (mkF m 25 #[.val (.int p0), .val (.int p1), .val (.int p2), .val (.int ((p1 &&& (1073741823 : Int32)) + (1 : Int32))), .val (.int v2_0), .unset, .unset, .unset] [(.int v2_0), (.double (FP.i2d p0))])) _
    refine XS.i2dS X0.here hx rfl (hb hby at_25) rfl rfl ?_
    show Steps p.tables e below (s₁.setTop (mkF m 26 #[.val (.int p0), .val (.int p1), .val (.int p2), .val (.int ((p1 &&& (1073741823 : Int32)) + (1 : Int32))), .val (.int v2_0), .unset, .unset, .unset] [(.double (FP.i2d v2_0)), (.double (FP.i2d p0))])) _
    refine XS.ddivS X0.here hx rfl (hb hby at_26) rfl (own_nonan (own_ratio p0 v2_0 hv2).1) rfl ?_
    show Steps p.tables e below (s₁.setTop (mkF m 27 #[.val (.int p0), .val (.int p1), .val (.int p2), .val (.int ((p1 &&& (1073741823 : Int32)) + (1 : Int32))), .val (.int v2_0), .unset, .unset, .unset] [(.double (FP.ddiv (FP.i2d p0) (FP.i2d v2_0)))])) _
    refine XS.dstore X0.here hx rfl (hb hby at_27) rfl (l' := #[.val (.int p0), .val (.int p1), .val (.int p2), .val (.int ((p1 &&& (1073741823 : Int32)) + (1 : Int32))), .val (.int v2_0), .val (.double (FP.ddiv (FP.i2d p0) (FP.i2d v2_0))), .second, .unset]) rfl ?_
    show Steps p.tables e below (s₁.setTop (mkF m 29 #[.val (.int p0), .val (.int p1), .val (.int p2), .val (.int ((p1 &&& (1073741823 : Int32)) + (1 : Int32))), .val (.int v2_0), .val (.double (FP.ddiv (FP.i2d p0) (FP.i2d v2_0))), .second, .unset] [])) _
    refine XS.iload X0.here hx rfl (hb hby at_29) rfl ?_
    exact k)
  by_cases hc31_8 : (0 : Int32) < v2_0
  · have pre9 : ∀ t, Steps p.tables e below (s₁.setTop (mkF m 36 #[.val (.int p0), .val (.int p1), .val (.int p2), .val (.int ((p1 &&& (1073741823 : Int32)) + (1 : Int32))), .val (.int v2_0), .val (.double (FP.ddiv (FP.i2d p0) (FP.i2d v2_0))), .second, .unset] [(.int p0), (.int (0 : Int32))])) t → Steps p.tables e below (s₁.setTop (entryFrame m #[(.int p0), (.int p1), (.int p2)] maxLocals)) t := fun t k => pre7 t (by
      show Steps p.tables e below (s₁.setTop (mkF m 31 #[.val (.int p0), .val (.int p1), .val (.int p2), .val (.int ((p1 &&& (1073741823 : Int32)) + (1 : Int32))), .val (.int v2_0), .val (.double (FP.ddiv (FP.i2d p0) (FP.i2d v2_0))), .second, .unset] [(.int v2_0)])) _
      refine XS.ifNo X0.here hx rfl (hb hby at_31) rfl ((if0 _ _).trans (tlt hc31_8).2.2.2) ?_
      show Steps p.tables e below (s₁.setTop (mkF m 34 #[.val (.int p0), .val (.int p1), .val (.int p2), .val (.int ((p1 &&& (1073741823 : Int32)) + (1 : Int32))), .val (.int v2_0), .val (.double (FP.ddiv (FP.i2d p0) (FP.i2d v2_0))), .second, .unset] [])) _
      refine XS.iconst X0.here hx rfl (hb hby at_34) ?_
      show Steps p.tables e below (s₁.setTop (mkF m 35 #[.val (.int p0), .val (.int p1), .val (.int p2), .val (.int ((p1 &&& (1073741823 : Int32)) + (1 : Int32))), .val (.int v2_0), .val (.double (FP.ddiv (FP.i2d p0) (FP.i2d v2_0))), .second, .unset] [(.int (0 : Int32))])) _
      refine XS.iloadN X0.here hx rfl (hb hby at_35) rfl ?_
      exact k)
    by_cases hc36_10 : (0 : Int32) < p0
    · have pre11 : ∀ t, Steps p.tables e below (s₁.setTop (mkF m 42 #[.val (.int p0), .val (.int p1), .val (.int p2), .val (.int ((p1 &&& (1073741823 : Int32)) + (1 : Int32))), .val (.int v2_0), .val (.double (FP.ddiv (FP.i2d p0) (FP.i2d v2_0))), .second, .unset] [(.int v2_0), (.int p0)])) t → Steps p.tables e below (s₁.setTop (entryFrame m #[(.int p0), (.int p1), (.int p2)] maxLocals)) t := fun t k => pre9 t (by
        show Steps p.tables e below (s₁.setTop (mkF m 36 #[.val (.int p0), .val (.int p1), .val (.int p2), .val (.int ((p1 &&& (1073741823 : Int32)) + (1 : Int32))), .val (.int v2_0), .val (.double (FP.ddiv (FP.i2d p0) (FP.i2d v2_0))), .second, .unset] [(.int p0), (.int (0 : Int32))])) _
        refine XS.icmpNo X0.here hx rfl (hb hby at_36) rfl (tlt hc36_10).2.1 ?_
        show Steps p.tables e below (s₁.setTop (mkF m 39 #[.val (.int p0), .val (.int p1), .val (.int p2), .val (.int ((p1 &&& (1073741823 : Int32)) + (1 : Int32))), .val (.int v2_0), .val (.double (FP.ddiv (FP.i2d p0) (FP.i2d v2_0))), .second, .unset] [])) _
        refine XS.iloadN X0.here hx rfl (hb hby at_39) rfl ?_
        show Steps p.tables e below (s₁.setTop (mkF m 40 #[.val (.int p0), .val (.int p1), .val (.int p2), .val (.int ((p1 &&& (1073741823 : Int32)) + (1 : Int32))), .val (.int v2_0), .val (.double (FP.ddiv (FP.i2d p0) (FP.i2d v2_0))), .second, .unset] [(.int p0)])) _
        refine XS.iload X0.here hx rfl (hb hby at_40) rfl ?_
        exact k)
      by_cases hc42_12 : p0 < v2_0
      · obtain ⟨_, _, ⟨T13, L13, k13, n13⟩, -, X13, ⟨Lc13, hQ13, l13, y13, z13⟩, st13⟩ := Jvm.LawKit.callS X0 hx (y := (⟨"com/example/eager_sieve/eagersieve/BloomSizing", "isRate", "(D)Z"⟩ : MethodName)) hown (mvT hZ (hw _ (List.mem_of_getElem? (i := 1) rfl))) (mvT hZ (hw _ (List.mem_of_getElem? (i := 2) rfl))) (mvT hZ (hw _ (List.mem_of_getElem? (i := 3) rfl))) (mvT hZ (hw _ (List.mem_of_getElem? (i := 4) rfl))) (by decide) (backOf (W := 0) (rm1 l Z a0 hw [] (FP.ddiv (FP.i2d p0) (FP.i2d v2_0)) h0 n0 Z0 ) hZ (hw _ (List.mem_of_getElem? (i := 4) rfl)) (hw _ (List.mem_of_getElem? (i := 3) rfl)) (by decide) (by decide)) (g := (mkF m 74 #[.val (.int p0), .val (.int p1), .val (.int p2), .val (.int ((p1 &&& (1073741823 : Int32)) + (1 : Int32))), .val (.int v2_0), .val (.double (FP.ddiv (FP.i2d p0) (FP.i2d v2_0))), .second, .val (.int (1 : Int32))] [(.double (FP.ddiv (FP.i2d p0) (FP.i2d v2_0)))])) rfl (by rw [hml]; rfl) (argsL := [(.double (FP.ddiv (FP.i2d p0) (FP.i2d v2_0)))]) (rest := []) (lenOf pd_0 rfl) rfl (by show 2 * 0 + _ ≤ _; exact Nat.le_of_eq rfl) (hb hby at_74) (fun _ _ => ⟨rfl, e0, (by decide : 0 + 0 ≤ _), (by decide : 0 + 0 ≤ _)⟩)
        dsimp only [Pt.U, Pt.locs, Pt.cells, Pt.slots] at X13 l13 y13 z13 st13 hQ13
        subst l13 y13 z13
        obtain ⟨rfl, N13q, hh13⟩ := hQ13
        have N13 := Fr.app N0 N13q
        have pre14 : ∀ t, Steps p.tables e below (T13.setTop (mkF m 79 #[.val (.int p0), .val (.int p1), .val (.int p2), .val (.int ((p1 &&& (1073741823 : Int32)) + (1 : Int32))), .val (.int v2_0), .val (.double (FP.ddiv (FP.i2d p0) (FP.i2d v2_0))), .second, .val (.int (1 : Int32))] [(.int (1 : Int32)), (.int (if ((0 : Int32) < (cmpValue (FP.dcmp (FP.ddiv (FP.i2d p0) (FP.i2d v2_0)) FP.dconst0) .l) ∧ (cmpValue (FP.dcmp (FP.ddiv (FP.i2d p0) (FP.i2d v2_0)) FP.dconst1) .g) < (0 : Int32)) then (1 : Int32) else 0))])) t → Steps p.tables e below (s₁.setTop (entryFrame m #[(.int p0), (.int p1), (.int p2)] maxLocals)) t := fun t k => pre11 t (by
          show Steps p.tables e below (s₁.setTop (mkF m 42 #[.val (.int p0), .val (.int p1), .val (.int p2), .val (.int ((p1 &&& (1073741823 : Int32)) + (1 : Int32))), .val (.int v2_0), .val (.double (FP.ddiv (FP.i2d p0) (FP.i2d v2_0))), .second, .unset] [(.int v2_0), (.int p0)])) _
          refine XS.icmpNo X0.here hx rfl (hb hby at_42) rfl (tlt hc42_12).2.1 ?_
          show Steps p.tables e below (s₁.setTop (mkF m 45 #[.val (.int p0), .val (.int p1), .val (.int p2), .val (.int ((p1 &&& (1073741823 : Int32)) + (1 : Int32))), .val (.int v2_0), .val (.double (FP.ddiv (FP.i2d p0) (FP.i2d v2_0))), .second, .unset] [])) _
          refine XS.iconst X0.here hx rfl (hb hby at_45) ?_
          show Steps p.tables e below (s₁.setTop (mkF m 46 #[.val (.int p0), .val (.int p1), .val (.int p2), .val (.int ((p1 &&& (1073741823 : Int32)) + (1 : Int32))), .val (.int v2_0), .val (.double (FP.ddiv (FP.i2d p0) (FP.i2d v2_0))), .second, .unset] [(.int (1 : Int32))])) _
          refine XS.goto X0.here hx rfl (pc0 := 46) (pc' := 50) rfl (hb hby at_46) (by decide) (by decide) ?_
          show Steps p.tables e below (s₁.setTop (mkF m 50 #[.val (.int p0), .val (.int p1), .val (.int p2), .val (.int ((p1 &&& (1073741823 : Int32)) + (1 : Int32))), .val (.int v2_0), .val (.double (FP.ddiv (FP.i2d p0) (FP.i2d v2_0))), .second, .unset] [(.int (1 : Int32))])) _
          refine XS.istore X0.here hx rfl (hb hby at_50) rfl (l' := #[.val (.int p0), .val (.int p1), .val (.int p2), .val (.int ((p1 &&& (1073741823 : Int32)) + (1 : Int32))), .val (.int v2_0), .val (.double (FP.ddiv (FP.i2d p0) (FP.i2d v2_0))), .second, .val (.int (1 : Int32))]) rfl ?_
          show Steps p.tables e below (s₁.setTop (mkF m 52 #[.val (.int p0), .val (.int p1), .val (.int p2), .val (.int ((p1 &&& (1073741823 : Int32)) + (1 : Int32))), .val (.int v2_0), .val (.double (FP.ddiv (FP.i2d p0) (FP.i2d v2_0))), .second, .val (.int (1 : Int32))] [])) _
          refine XS.goto X0.here hx rfl (pc0 := 52) (pc' := 72) rfl (hb hby at_52) (by decide) (by decide) ?_
          show Steps p.tables e below (s₁.setTop (mkF m 72 #[.val (.int p0), .val (.int p1), .val (.int p2), .val (.int ((p1 &&& (1073741823 : Int32)) + (1 : Int32))), .val (.int v2_0), .val (.double (FP.ddiv (FP.i2d p0) (FP.i2d v2_0))), .second, .val (.int (1 : Int32))] [])) _
          refine XS.dload X0.here hx rfl (hb hby at_72) rfl ?_
          show Steps p.tables e below (s₁.setTop (mkF m 74 #[.val (.int p0), .val (.int p1), .val (.int p2), .val (.int ((p1 &&& (1073741823 : Int32)) + (1 : Int32))), .val (.int v2_0), .val (.double (FP.ddiv (FP.i2d p0) (FP.i2d v2_0))), .second, .val (.int (1 : Int32))] [(.double (FP.ddiv (FP.i2d p0) (FP.i2d v2_0)))])) _
          refine st13 _ ?_
          show Steps p.tables e below (T13.setTop (mkF m 77 #[.val (.int p0), .val (.int p1), .val (.int p2), .val (.int ((p1 &&& (1073741823 : Int32)) + (1 : Int32))), .val (.int v2_0), .val (.double (FP.ddiv (FP.i2d p0) (FP.i2d v2_0))), .second, .val (.int (1 : Int32))] [(.int (if ((0 : Int32) < (cmpValue (FP.dcmp (FP.ddiv (FP.i2d p0) (FP.i2d v2_0)) FP.dconst0) .l) ∧ (cmpValue (FP.dcmp (FP.ddiv (FP.i2d p0) (FP.i2d v2_0)) FP.dconst1) .g) < (0 : Int32)) then (1 : Int32) else 0))])) _
          refine XS.iload X13.here hx rfl (hb hby at_77) rfl ?_
          exact k)
        by_cases hc79_15 : ((0 : Int32) < (cmpValue (FP.dcmp (FP.ddiv (FP.i2d p0) (FP.i2d v2_0)) FP.dconst0) .l) ∧ (cmpValue (FP.dcmp (FP.ddiv (FP.i2d p0) (FP.i2d v2_0)) FP.dconst1) .g) < (0 : Int32))
        · have pre16 : ∀ t, Steps p.tables e below (T13.setTop (mkF m 87 #[.val (.int p0), .val (.int p1), .val (.int p2), .val (.int ((p1 &&& (1073741823 : Int32)) + (1 : Int32))), .val (.int v2_0), .val (.double (FP.ddiv (FP.i2d p0) (FP.i2d v2_0))), .second, .val (.int (1 : Int32))] [(.int (1 : Int32))])) t → Steps p.tables e below (s₁.setTop (entryFrame m #[(.int p0), (.int p1), (.int p2)] maxLocals)) t := fun t k => pre14 t (by
            show Steps p.tables e below (T13.setTop (mkF m 79 #[.val (.int p0), .val (.int p1), .val (.int p2), .val (.int ((p1 &&& (1073741823 : Int32)) + (1 : Int32))), .val (.int v2_0), .val (.double (FP.ddiv (FP.i2d p0) (FP.i2d v2_0))), .second, .val (.int (1 : Int32))] [(.int (1 : Int32)), (.int (if ((0 : Int32) < (cmpValue (FP.dcmp (FP.ddiv (FP.i2d p0) (FP.i2d v2_0)) FP.dconst0) .l) ∧ (cmpValue (FP.dcmp (FP.ddiv (FP.i2d p0) (FP.i2d v2_0)) FP.dconst1) .g) < (0 : Int32)) then (1 : Int32) else 0))])) _
            refine XS.icmpNo X13.here hx rfl (hb hby at_79) rfl (teq (own_c1 hc79_15)).2 ?_
            show Steps p.tables e below (T13.setTop (mkF m 82 #[.val (.int p0), .val (.int p1), .val (.int p2), .val (.int ((p1 &&& (1073741823 : Int32)) + (1 : Int32))), .val (.int v2_0), .val (.double (FP.ddiv (FP.i2d p0) (FP.i2d v2_0))), .second, .val (.int (1 : Int32))] [])) _
            refine XS.iconst X13.here hx rfl (hb hby at_82) ?_
            show Steps p.tables e below (T13.setTop (mkF m 83 #[.val (.int p0), .val (.int p1), .val (.int p2), .val (.int ((p1 &&& (1073741823 : Int32)) + (1 : Int32))), .val (.int v2_0), .val (.double (FP.ddiv (FP.i2d p0) (FP.i2d v2_0))), .second, .val (.int (1 : Int32))] [(.int (1 : Int32))])) _
            refine XS.goto X13.here hx rfl (pc0 := 83) (pc' := 87) rfl (hb hby at_83) (by decide) (by decide) ?_
            exact k)
          obtain ⟨fs, hr, hrun, hended, hW, hsame⟩ := X13.leave (v := some (.int (1 : Int32))) (fun h => by rw [Bd.returns] at h; cases h)
          refine ⟨_, _, pre16 _ ?_, hrun, hended, _, _, rfl, ?_, ⟨_, rfl⟩, hW, hsame.mono (by decide) (by decide)⟩
          · exact retN X13 hx (t := .boolean) Bd.returns (by simp) (hb hby at_87) hr
          · show Q0 Z p0 p1 p2 h0 n0 _ T13.heap _
            rw [hh13]
            exact ⟨rfl, N13⟩
        · have pre17 : ∀ t, Steps p.tables e below (T13.setTop (mkF m 87 #[.val (.int p0), .val (.int p1), .val (.int p2), .val (.int ((p1 &&& (1073741823 : Int32)) + (1 : Int32))), .val (.int v2_0), .val (.double (FP.ddiv (FP.i2d p0) (FP.i2d v2_0))), .second, .val (.int (1 : Int32))] [(.int (0 : Int32))])) t → Steps p.tables e below (s₁.setTop (entryFrame m #[(.int p0), (.int p1), (.int p2)] maxLocals)) t := fun t k => pre14 t (by
            show Steps p.tables e below (T13.setTop (mkF m 79 #[.val (.int p0), .val (.int p1), .val (.int p2), .val (.int ((p1 &&& (1073741823 : Int32)) + (1 : Int32))), .val (.int v2_0), .val (.double (FP.ddiv (FP.i2d p0) (FP.i2d v2_0))), .second, .val (.int (1 : Int32))] [(.int (1 : Int32)), (.int (if ((0 : Int32) < (cmpValue (FP.dcmp (FP.ddiv (FP.i2d p0) (FP.i2d v2_0)) FP.dconst0) .l) ∧ (cmpValue (FP.dcmp (FP.ddiv (FP.i2d p0) (FP.i2d v2_0)) FP.dconst1) .g) < (0 : Int32)) then (1 : Int32) else 0))])) _
            refine XS.icmpYes X13.here hx rfl (pc0 := 79) (pc' := 86) rfl (hb hby at_79) rfl (feq (own_c0 hc79_15)).2 (by decide) (by decide) ?_
            show Steps p.tables e below (T13.setTop (mkF m 86 #[.val (.int p0), .val (.int p1), .val (.int p2), .val (.int ((p1 &&& (1073741823 : Int32)) + (1 : Int32))), .val (.int v2_0), .val (.double (FP.ddiv (FP.i2d p0) (FP.i2d v2_0))), .second, .val (.int (1 : Int32))] [])) _
            refine XS.iconst X13.here hx rfl (hb hby at_86) ?_
            exact k)
          obtain ⟨fs, hr, hrun, hended, hW, hsame⟩ := X13.leave (v := some (.int (0 : Int32))) (fun h => by rw [Bd.returns] at h; cases h)
          refine ⟨_, _, pre17 _ ?_, hrun, hended, _, _, rfl, ?_, ⟨_, rfl⟩, hW, hsame.mono (by decide) (by decide)⟩
          · exact retN X13 hx (t := .boolean) Bd.returns (by simp) (hb hby at_87) hr
          · show Q0 Z p0 p1 p2 h0 n0 _ T13.heap _
            rw [hh13]
            exfalso
            have q := own_rate p0 v2_0 hv2
            have hq := hc79_15
            replace q := mt q.mpr hq
            simp only [Int32.lt_iff_toInt_lt, Int32.reduceToInt] at q hc31_8 hc36_10 hc42_12
            omega
      · obtain ⟨_, _, ⟨T18, L18, k18, n18⟩, -, X18, ⟨Lc18, hQ18, l18, y18, z18⟩, st18⟩ := Jvm.LawKit.callS X0 hx (y := (⟨"com/example/eager_sieve/eagersieve/BloomSizing", "isRate", "(D)Z"⟩ : MethodName)) hown (mvT hZ (hw _ (List.mem_of_getElem? (i := 1) rfl))) (mvT hZ (hw _ (List.mem_of_getElem? (i := 2) rfl))) (mvT hZ (hw _ (List.mem_of_getElem? (i := 3) rfl))) (mvT hZ (hw _ (List.mem_of_getElem? (i := 4) rfl))) (by decide) (backOf (W := 0) (rm1 l Z a0 hw [] (FP.ddiv (FP.i2d p0) (FP.i2d v2_0)) h0 n0 Z0 ) hZ (hw _ (List.mem_of_getElem? (i := 4) rfl)) (hw _ (List.mem_of_getElem? (i := 3) rfl)) (by decide) (by decide)) (g := (mkF m 74 #[.val (.int p0), .val (.int p1), .val (.int p2), .val (.int ((p1 &&& (1073741823 : Int32)) + (1 : Int32))), .val (.int v2_0), .val (.double (FP.ddiv (FP.i2d p0) (FP.i2d v2_0))), .second, .val (.int (0 : Int32))] [(.double (FP.ddiv (FP.i2d p0) (FP.i2d v2_0)))])) rfl (by rw [hml]; rfl) (argsL := [(.double (FP.ddiv (FP.i2d p0) (FP.i2d v2_0)))]) (rest := []) (lenOf pd_0 rfl) rfl (by show 2 * 0 + _ ≤ _; exact Nat.le_of_eq rfl) (hb hby at_74) (fun _ _ => ⟨rfl, e0, (by decide : 0 + 0 ≤ _), (by decide : 0 + 0 ≤ _)⟩)
        dsimp only [Pt.U, Pt.locs, Pt.cells, Pt.slots] at X18 l18 y18 z18 st18 hQ18
        subst l18 y18 z18
        obtain ⟨rfl, N18q, hh18⟩ := hQ18
        have N18 := Fr.app N0 N18q
        have pre19 : ∀ t, Steps p.tables e below (T18.setTop (mkF m 79 #[.val (.int p0), .val (.int p1), .val (.int p2), .val (.int ((p1 &&& (1073741823 : Int32)) + (1 : Int32))), .val (.int v2_0), .val (.double (FP.ddiv (FP.i2d p0) (FP.i2d v2_0))), .second, .val (.int (0 : Int32))] [(.int (0 : Int32)), (.int (if ((0 : Int32) < (cmpValue (FP.dcmp (FP.ddiv (FP.i2d p0) (FP.i2d v2_0)) FP.dconst0) .l) ∧ (cmpValue (FP.dcmp (FP.ddiv (FP.i2d p0) (FP.i2d v2_0)) FP.dconst1) .g) < (0 : Int32)) then (1 : Int32) else 0))])) t → Steps p.tables e below (s₁.setTop (entryFrame m #[(.int p0), (.int p1), (.int p2)] maxLocals)) t := fun t k => pre11 t (by
          show Steps p.tables e below (s₁.setTop (mkF m 42 #[.val (.int p0), .val (.int p1), .val (.int p2), .val (.int ((p1 &&& (1073741823 : Int32)) + (1 : Int32))), .val (.int v2_0), .val (.double (FP.ddiv (FP.i2d p0) (FP.i2d v2_0))), .second, .unset] [(.int v2_0), (.int p0)])) _
          refine XS.icmpYes X0.here hx rfl (pc0 := 42) (pc' := 49) rfl (hb hby at_42) rfl (flt hc42_12).2.1 (by decide) (by decide) ?_
          show Steps p.tables e below (s₁.setTop (mkF m 49 #[.val (.int p0), .val (.int p1), .val (.int p2), .val (.int ((p1 &&& (1073741823 : Int32)) + (1 : Int32))), .val (.int v2_0), .val (.double (FP.ddiv (FP.i2d p0) (FP.i2d v2_0))), .second, .unset] [])) _
          refine XS.iconst X0.here hx rfl (hb hby at_49) ?_
          show Steps p.tables e below (s₁.setTop (mkF m 50 #[.val (.int p0), .val (.int p1), .val (.int p2), .val (.int ((p1 &&& (1073741823 : Int32)) + (1 : Int32))), .val (.int v2_0), .val (.double (FP.ddiv (FP.i2d p0) (FP.i2d v2_0))), .second, .unset] [(.int (0 : Int32))])) _
          refine XS.istore X0.here hx rfl (hb hby at_50) rfl (l' := #[.val (.int p0), .val (.int p1), .val (.int p2), .val (.int ((p1 &&& (1073741823 : Int32)) + (1 : Int32))), .val (.int v2_0), .val (.double (FP.ddiv (FP.i2d p0) (FP.i2d v2_0))), .second, .val (.int (0 : Int32))]) rfl ?_
          show Steps p.tables e below (s₁.setTop (mkF m 52 #[.val (.int p0), .val (.int p1), .val (.int p2), .val (.int ((p1 &&& (1073741823 : Int32)) + (1 : Int32))), .val (.int v2_0), .val (.double (FP.ddiv (FP.i2d p0) (FP.i2d v2_0))), .second, .val (.int (0 : Int32))] [])) _
          refine XS.goto X0.here hx rfl (pc0 := 52) (pc' := 72) rfl (hb hby at_52) (by decide) (by decide) ?_
          show Steps p.tables e below (s₁.setTop (mkF m 72 #[.val (.int p0), .val (.int p1), .val (.int p2), .val (.int ((p1 &&& (1073741823 : Int32)) + (1 : Int32))), .val (.int v2_0), .val (.double (FP.ddiv (FP.i2d p0) (FP.i2d v2_0))), .second, .val (.int (0 : Int32))] [])) _
          refine XS.dload X0.here hx rfl (hb hby at_72) rfl ?_
          show Steps p.tables e below (s₁.setTop (mkF m 74 #[.val (.int p0), .val (.int p1), .val (.int p2), .val (.int ((p1 &&& (1073741823 : Int32)) + (1 : Int32))), .val (.int v2_0), .val (.double (FP.ddiv (FP.i2d p0) (FP.i2d v2_0))), .second, .val (.int (0 : Int32))] [(.double (FP.ddiv (FP.i2d p0) (FP.i2d v2_0)))])) _
          refine st18 _ ?_
          show Steps p.tables e below (T18.setTop (mkF m 77 #[.val (.int p0), .val (.int p1), .val (.int p2), .val (.int ((p1 &&& (1073741823 : Int32)) + (1 : Int32))), .val (.int v2_0), .val (.double (FP.ddiv (FP.i2d p0) (FP.i2d v2_0))), .second, .val (.int (0 : Int32))] [(.int (if ((0 : Int32) < (cmpValue (FP.dcmp (FP.ddiv (FP.i2d p0) (FP.i2d v2_0)) FP.dconst0) .l) ∧ (cmpValue (FP.dcmp (FP.ddiv (FP.i2d p0) (FP.i2d v2_0)) FP.dconst1) .g) < (0 : Int32)) then (1 : Int32) else 0))])) _
          refine XS.iload X18.here hx rfl (hb hby at_77) rfl ?_
          exact k)
        by_cases hc79_20 : ((0 : Int32) < (cmpValue (FP.dcmp (FP.ddiv (FP.i2d p0) (FP.i2d v2_0)) FP.dconst0) .l) ∧ (cmpValue (FP.dcmp (FP.ddiv (FP.i2d p0) (FP.i2d v2_0)) FP.dconst1) .g) < (0 : Int32))
        · have pre21 : ∀ t, Steps p.tables e below (T18.setTop (mkF m 87 #[.val (.int p0), .val (.int p1), .val (.int p2), .val (.int ((p1 &&& (1073741823 : Int32)) + (1 : Int32))), .val (.int v2_0), .val (.double (FP.ddiv (FP.i2d p0) (FP.i2d v2_0))), .second, .val (.int (0 : Int32))] [(.int (0 : Int32))])) t → Steps p.tables e below (s₁.setTop (entryFrame m #[(.int p0), (.int p1), (.int p2)] maxLocals)) t := fun t k => pre19 t (by
            show Steps p.tables e below (T18.setTop (mkF m 79 #[.val (.int p0), .val (.int p1), .val (.int p2), .val (.int ((p1 &&& (1073741823 : Int32)) + (1 : Int32))), .val (.int v2_0), .val (.double (FP.ddiv (FP.i2d p0) (FP.i2d v2_0))), .second, .val (.int (0 : Int32))] [(.int (0 : Int32)), (.int (if ((0 : Int32) < (cmpValue (FP.dcmp (FP.ddiv (FP.i2d p0) (FP.i2d v2_0)) FP.dconst0) .l) ∧ (cmpValue (FP.dcmp (FP.ddiv (FP.i2d p0) (FP.i2d v2_0)) FP.dconst1) .g) < (0 : Int32)) then (1 : Int32) else 0))])) _
            refine XS.icmpYes X18.here hx rfl (pc0 := 79) (pc' := 86) rfl (hb hby at_79) rfl (feq (own_b1 hc79_20)).2 (by decide) (by decide) ?_
            show Steps p.tables e below (T18.setTop (mkF m 86 #[.val (.int p0), .val (.int p1), .val (.int p2), .val (.int ((p1 &&& (1073741823 : Int32)) + (1 : Int32))), .val (.int v2_0), .val (.double (FP.ddiv (FP.i2d p0) (FP.i2d v2_0))), .second, .val (.int (0 : Int32))] [])) _
            refine XS.iconst X18.here hx rfl (hb hby at_86) ?_
            exact k)
          obtain ⟨fs, hr, hrun, hended, hW, hsame⟩ := X18.leave (v := some (.int (0 : Int32))) (fun h => by rw [Bd.returns] at h; cases h)
          refine ⟨_, _, pre21 _ ?_, hrun, hended, _, _, rfl, ?_, ⟨_, rfl⟩, hW, hsame.mono (by decide) (by decide)⟩
          · exact retN X18 hx (t := .boolean) Bd.returns (by simp) (hb hby at_87) hr
          · show Q0 Z p0 p1 p2 h0 n0 _ T18.heap _
            rw [hh18]
            exfalso
            have q := own_rate p0 v2_0 hv2
            have hq := hc79_20
            replace q := q.mp hq
            simp only [Int32.lt_iff_toInt_lt, Int32.reduceToInt] at q hc31_8 hc36_10 hc42_12
            omega
        · have pre22 : ∀ t, Steps p.tables e below (T18.setTop (mkF m 87 #[.val (.int p0), .val (.int p1), .val (.int p2), .val (.int ((p1 &&& (1073741823 : Int32)) + (1 : Int32))), .val (.int v2_0), .val (.double (FP.ddiv (FP.i2d p0) (FP.i2d v2_0))), .second, .val (.int (0 : Int32))] [(.int (1 : Int32))])) t → Steps p.tables e below (s₁.setTop (entryFrame m #[(.int p0), (.int p1), (.int p2)] maxLocals)) t := fun t k => pre19 t (by
            show Steps p.tables e below (T18.setTop (mkF m 79 #[.val (.int p0), .val (.int p1), .val (.int p2), .val (.int ((p1 &&& (1073741823 : Int32)) + (1 : Int32))), .val (.int v2_0), .val (.double (FP.ddiv (FP.i2d p0) (FP.i2d v2_0))), .second, .val (.int (0 : Int32))] [(.int (0 : Int32)), (.int (if ((0 : Int32) < (cmpValue (FP.dcmp (FP.ddiv (FP.i2d p0) (FP.i2d v2_0)) FP.dconst0) .l) ∧ (cmpValue (FP.dcmp (FP.ddiv (FP.i2d p0) (FP.i2d v2_0)) FP.dconst1) .g) < (0 : Int32)) then (1 : Int32) else 0))])) _
            refine XS.icmpNo X18.here hx rfl (hb hby at_79) rfl (teq (own_b0 hc79_20)).2 ?_
            show Steps p.tables e below (T18.setTop (mkF m 82 #[.val (.int p0), .val (.int p1), .val (.int p2), .val (.int ((p1 &&& (1073741823 : Int32)) + (1 : Int32))), .val (.int v2_0), .val (.double (FP.ddiv (FP.i2d p0) (FP.i2d v2_0))), .second, .val (.int (0 : Int32))] [])) _
            refine XS.iconst X18.here hx rfl (hb hby at_82) ?_
            show Steps p.tables e below (T18.setTop (mkF m 83 #[.val (.int p0), .val (.int p1), .val (.int p2), .val (.int ((p1 &&& (1073741823 : Int32)) + (1 : Int32))), .val (.int v2_0), .val (.double (FP.ddiv (FP.i2d p0) (FP.i2d v2_0))), .second, .val (.int (0 : Int32))] [(.int (1 : Int32))])) _
            refine XS.goto X18.here hx rfl (pc0 := 83) (pc' := 87) rfl (hb hby at_83) (by decide) (by decide) ?_
            exact k)
          obtain ⟨fs, hr, hrun, hended, hW, hsame⟩ := X18.leave (v := some (.int (1 : Int32))) (fun h => by rw [Bd.returns] at h; cases h)
          refine ⟨_, _, pre22 _ ?_, hrun, hended, _, _, rfl, ?_, ⟨_, rfl⟩, hW, hsame.mono (by decide) (by decide)⟩
          · exact retN X18 hx (t := .boolean) Bd.returns (by simp) (hb hby at_87) hr
          · show Q0 Z p0 p1 p2 h0 n0 _ T18.heap _
            rw [hh18]
            exact ⟨rfl, N18⟩
    · obtain ⟨_, _, ⟨T23, L23, k23, n23⟩, -, X23, ⟨Lc23, hQ23, l23, y23, z23⟩, st23⟩ := Jvm.LawKit.callS X0 hx (y := (⟨"com/example/eager_sieve/eagersieve/BloomSizing", "isRate", "(D)Z"⟩ : MethodName)) hown (mvT hZ (hw _ (List.mem_of_getElem? (i := 1) rfl))) (mvT hZ (hw _ (List.mem_of_getElem? (i := 2) rfl))) (mvT hZ (hw _ (List.mem_of_getElem? (i := 3) rfl))) (mvT hZ (hw _ (List.mem_of_getElem? (i := 4) rfl))) (by decide) (backOf (W := 0) (rm1 l Z a0 hw [] (FP.ddiv (FP.i2d p0) (FP.i2d v2_0)) h0 n0 Z0 ) hZ (hw _ (List.mem_of_getElem? (i := 4) rfl)) (hw _ (List.mem_of_getElem? (i := 3) rfl)) (by decide) (by decide)) (g := (mkF m 74 #[.val (.int p0), .val (.int p1), .val (.int p2), .val (.int ((p1 &&& (1073741823 : Int32)) + (1 : Int32))), .val (.int v2_0), .val (.double (FP.ddiv (FP.i2d p0) (FP.i2d v2_0))), .second, .val (.int (0 : Int32))] [(.double (FP.ddiv (FP.i2d p0) (FP.i2d v2_0)))])) rfl (by rw [hml]; rfl) (argsL := [(.double (FP.ddiv (FP.i2d p0) (FP.i2d v2_0)))]) (rest := []) (lenOf pd_0 rfl) rfl (by show 2 * 0 + _ ≤ _; exact Nat.le_of_eq rfl) (hb hby at_74) (fun _ _ => ⟨rfl, e0, (by decide : 0 + 0 ≤ _), (by decide : 0 + 0 ≤ _)⟩)
      dsimp only [Pt.U, Pt.locs, Pt.cells, Pt.slots] at X23 l23 y23 z23 st23 hQ23
      subst l23 y23 z23
      obtain ⟨rfl, N23q, hh23⟩ := hQ23
      have N23 := Fr.app N0 N23q
      have pre24 : ∀ t, Steps p.tables e below (T23.setTop (mkF m 79 #[.val (.int p0), .val (.int p1), .val (.int p2), .val (.int ((p1 &&& (1073741823 : Int32)) + (1 : Int32))), .val (.int v2_0), .val (.double (FP.ddiv (FP.i2d p0) (FP.i2d v2_0))), .second, .val (.int (0 : Int32))] [(.int (0 : Int32)), (.int (if ((0 : Int32) < (cmpValue (FP.dcmp (FP.ddiv (FP.i2d p0) (FP.i2d v2_0)) FP.dconst0) .l) ∧ (cmpValue (FP.dcmp (FP.ddiv (FP.i2d p0) (FP.i2d v2_0)) FP.dconst1) .g) < (0 : Int32)) then (1 : Int32) else 0))])) t → Steps p.tables e below (s₁.setTop (entryFrame m #[(.int p0), (.int p1), (.int p2)] maxLocals)) t := fun t k => pre9 t (by
        show Steps p.tables e below (s₁.setTop (mkF m 36 #[.val (.int p0), .val (.int p1), .val (.int p2), .val (.int ((p1 &&& (1073741823 : Int32)) + (1 : Int32))), .val (.int v2_0), .val (.double (FP.ddiv (FP.i2d p0) (FP.i2d v2_0))), .second, .unset] [(.int p0), (.int (0 : Int32))])) _
        refine XS.icmpYes X0.here hx rfl (pc0 := 36) (pc' := 49) rfl (hb hby at_36) rfl (flt hc36_10).2.1 (by decide) (by decide) ?_
        show Steps p.tables e below (s₁.setTop (mkF m 49 #[.val (.int p0), .val (.int p1), .val (.int p2), .val (.int ((p1 &&& (1073741823 : Int32)) + (1 : Int32))), .val (.int v2_0), .val (.double (FP.ddiv (FP.i2d p0) (FP.i2d v2_0))), .second, .unset] [])) _
        refine XS.iconst X0.here hx rfl (hb hby at_49) ?_
        show Steps p.tables e below (s₁.setTop (mkF m 50 #[.val (.int p0), .val (.int p1), .val (.int p2), .val (.int ((p1 &&& (1073741823 : Int32)) + (1 : Int32))), .val (.int v2_0), .val (.double (FP.ddiv (FP.i2d p0) (FP.i2d v2_0))), .second, .unset] [(.int (0 : Int32))])) _
        refine XS.istore X0.here hx rfl (hb hby at_50) rfl (l' := #[.val (.int p0), .val (.int p1), .val (.int p2), .val (.int ((p1 &&& (1073741823 : Int32)) + (1 : Int32))), .val (.int v2_0), .val (.double (FP.ddiv (FP.i2d p0) (FP.i2d v2_0))), .second, .val (.int (0 : Int32))]) rfl ?_
        show Steps p.tables e below (s₁.setTop (mkF m 52 #[.val (.int p0), .val (.int p1), .val (.int p2), .val (.int ((p1 &&& (1073741823 : Int32)) + (1 : Int32))), .val (.int v2_0), .val (.double (FP.ddiv (FP.i2d p0) (FP.i2d v2_0))), .second, .val (.int (0 : Int32))] [])) _
        refine XS.goto X0.here hx rfl (pc0 := 52) (pc' := 72) rfl (hb hby at_52) (by decide) (by decide) ?_
        show Steps p.tables e below (s₁.setTop (mkF m 72 #[.val (.int p0), .val (.int p1), .val (.int p2), .val (.int ((p1 &&& (1073741823 : Int32)) + (1 : Int32))), .val (.int v2_0), .val (.double (FP.ddiv (FP.i2d p0) (FP.i2d v2_0))), .second, .val (.int (0 : Int32))] [])) _
        refine XS.dload X0.here hx rfl (hb hby at_72) rfl ?_
        show Steps p.tables e below (s₁.setTop (mkF m 74 #[.val (.int p0), .val (.int p1), .val (.int p2), .val (.int ((p1 &&& (1073741823 : Int32)) + (1 : Int32))), .val (.int v2_0), .val (.double (FP.ddiv (FP.i2d p0) (FP.i2d v2_0))), .second, .val (.int (0 : Int32))] [(.double (FP.ddiv (FP.i2d p0) (FP.i2d v2_0)))])) _
        refine st23 _ ?_
        show Steps p.tables e below (T23.setTop (mkF m 77 #[.val (.int p0), .val (.int p1), .val (.int p2), .val (.int ((p1 &&& (1073741823 : Int32)) + (1 : Int32))), .val (.int v2_0), .val (.double (FP.ddiv (FP.i2d p0) (FP.i2d v2_0))), .second, .val (.int (0 : Int32))] [(.int (if ((0 : Int32) < (cmpValue (FP.dcmp (FP.ddiv (FP.i2d p0) (FP.i2d v2_0)) FP.dconst0) .l) ∧ (cmpValue (FP.dcmp (FP.ddiv (FP.i2d p0) (FP.i2d v2_0)) FP.dconst1) .g) < (0 : Int32)) then (1 : Int32) else 0))])) _
        refine XS.iload X23.here hx rfl (hb hby at_77) rfl ?_
        exact k)
      by_cases hc79_25 : ((0 : Int32) < (cmpValue (FP.dcmp (FP.ddiv (FP.i2d p0) (FP.i2d v2_0)) FP.dconst0) .l) ∧ (cmpValue (FP.dcmp (FP.ddiv (FP.i2d p0) (FP.i2d v2_0)) FP.dconst1) .g) < (0 : Int32))
      · have pre26 : ∀ t, Steps p.tables e below (T23.setTop (mkF m 87 #[.val (.int p0), .val (.int p1), .val (.int p2), .val (.int ((p1 &&& (1073741823 : Int32)) + (1 : Int32))), .val (.int v2_0), .val (.double (FP.ddiv (FP.i2d p0) (FP.i2d v2_0))), .second, .val (.int (0 : Int32))] [(.int (0 : Int32))])) t → Steps p.tables e below (s₁.setTop (entryFrame m #[(.int p0), (.int p1), (.int p2)] maxLocals)) t := fun t k => pre24 t (by
          show Steps p.tables e below (T23.setTop (mkF m 79 #[.val (.int p0), .val (.int p1), .val (.int p2), .val (.int ((p1 &&& (1073741823 : Int32)) + (1 : Int32))), .val (.int v2_0), .val (.double (FP.ddiv (FP.i2d p0) (FP.i2d v2_0))), .second, .val (.int (0 : Int32))] [(.int (0 : Int32)), (.int (if ((0 : Int32) < (cmpValue (FP.dcmp (FP.ddiv (FP.i2d p0) (FP.i2d v2_0)) FP.dconst0) .l) ∧ (cmpValue (FP.dcmp (FP.ddiv (FP.i2d p0) (FP.i2d v2_0)) FP.dconst1) .g) < (0 : Int32)) then (1 : Int32) else 0))])) _
          refine XS.icmpYes X23.here hx rfl (pc0 := 79) (pc' := 86) rfl (hb hby at_79) rfl (feq (own_b1 hc79_25)).2 (by decide) (by decide) ?_
          show Steps p.tables e below (T23.setTop (mkF m 86 #[.val (.int p0), .val (.int p1), .val (.int p2), .val (.int ((p1 &&& (1073741823 : Int32)) + (1 : Int32))), .val (.int v2_0), .val (.double (FP.ddiv (FP.i2d p0) (FP.i2d v2_0))), .second, .val (.int (0 : Int32))] [])) _
          refine XS.iconst X23.here hx rfl (hb hby at_86) ?_
          exact k)
        obtain ⟨fs, hr, hrun, hended, hW, hsame⟩ := X23.leave (v := some (.int (0 : Int32))) (fun h => by rw [Bd.returns] at h; cases h)
        refine ⟨_, _, pre26 _ ?_, hrun, hended, _, _, rfl, ?_, ⟨_, rfl⟩, hW, hsame.mono (by decide) (by decide)⟩
        · exact retN X23 hx (t := .boolean) Bd.returns (by simp) (hb hby at_87) hr
        · show Q0 Z p0 p1 p2 h0 n0 _ T23.heap _
          rw [hh23]
          exfalso
          have q := own_rate p0 v2_0 hv2
          have hq := hc79_25
          replace q := q.mp hq
          simp only [Int32.lt_iff_toInt_lt, Int32.reduceToInt] at q hc31_8 hc36_10
          omega
      · have pre27 : ∀ t, Steps p.tables e below (T23.setTop (mkF m 87 #[.val (.int p0), .val (.int p1), .val (.int p2), .val (.int ((p1 &&& (1073741823 : Int32)) + (1 : Int32))), .val (.int v2_0), .val (.double (FP.ddiv (FP.i2d p0) (FP.i2d v2_0))), .second, .val (.int (0 : Int32))] [(.int (1 : Int32))])) t → Steps p.tables e below (s₁.setTop (entryFrame m #[(.int p0), (.int p1), (.int p2)] maxLocals)) t := fun t k => pre24 t (by
          show Steps p.tables e below (T23.setTop (mkF m 79 #[.val (.int p0), .val (.int p1), .val (.int p2), .val (.int ((p1 &&& (1073741823 : Int32)) + (1 : Int32))), .val (.int v2_0), .val (.double (FP.ddiv (FP.i2d p0) (FP.i2d v2_0))), .second, .val (.int (0 : Int32))] [(.int (0 : Int32)), (.int (if ((0 : Int32) < (cmpValue (FP.dcmp (FP.ddiv (FP.i2d p0) (FP.i2d v2_0)) FP.dconst0) .l) ∧ (cmpValue (FP.dcmp (FP.ddiv (FP.i2d p0) (FP.i2d v2_0)) FP.dconst1) .g) < (0 : Int32)) then (1 : Int32) else 0))])) _
          refine XS.icmpNo X23.here hx rfl (hb hby at_79) rfl (teq (own_b0 hc79_25)).2 ?_
          show Steps p.tables e below (T23.setTop (mkF m 82 #[.val (.int p0), .val (.int p1), .val (.int p2), .val (.int ((p1 &&& (1073741823 : Int32)) + (1 : Int32))), .val (.int v2_0), .val (.double (FP.ddiv (FP.i2d p0) (FP.i2d v2_0))), .second, .val (.int (0 : Int32))] [])) _
          refine XS.iconst X23.here hx rfl (hb hby at_82) ?_
          show Steps p.tables e below (T23.setTop (mkF m 83 #[.val (.int p0), .val (.int p1), .val (.int p2), .val (.int ((p1 &&& (1073741823 : Int32)) + (1 : Int32))), .val (.int v2_0), .val (.double (FP.ddiv (FP.i2d p0) (FP.i2d v2_0))), .second, .val (.int (0 : Int32))] [(.int (1 : Int32))])) _
          refine XS.goto X23.here hx rfl (pc0 := 83) (pc' := 87) rfl (hb hby at_83) (by decide) (by decide) ?_
          exact k)
        obtain ⟨fs, hr, hrun, hended, hW, hsame⟩ := X23.leave (v := some (.int (1 : Int32))) (fun h => by rw [Bd.returns] at h; cases h)
        refine ⟨_, _, pre27 _ ?_, hrun, hended, _, _, rfl, ?_, ⟨_, rfl⟩, hW, hsame.mono (by decide) (by decide)⟩
        · exact retN X23 hx (t := .boolean) Bd.returns (by simp) (hb hby at_87) hr
        · show Q0 Z p0 p1 p2 h0 n0 _ T23.heap _
          rw [hh23]
          exact ⟨rfl, N23⟩
  · have pre28 : ∀ t, Steps p.tables e below (s₁.setTop (mkF m 58 #[.val (.int p0), .val (.int p1), .val (.int p2), .val (.int ((p1 &&& (1073741823 : Int32)) + (1 : Int32))), .val (.int v2_0), .val (.double (FP.ddiv (FP.i2d p0) (FP.i2d v2_0))), .second, .unset] [(.int p0), (.int v2_0)])) t → Steps p.tables e below (s₁.setTop (entryFrame m #[(.int p0), (.int p1), (.int p2)] maxLocals)) t := fun t k => pre7 t (by
      show Steps p.tables e below (s₁.setTop (mkF m 31 #[.val (.int p0), .val (.int p1), .val (.int p2), .val (.int ((p1 &&& (1073741823 : Int32)) + (1 : Int32))), .val (.int v2_0), .val (.double (FP.ddiv (FP.i2d p0) (FP.i2d v2_0))), .second, .unset] [(.int v2_0)])) _
      refine XS.ifYes X0.here hx rfl (pc0 := 31) (pc' := 55) rfl (hb hby at_31) rfl ((if0 _ _).trans (flt hc31_8).2.2.2) (by decide) (by decide) ?_
      show Steps p.tables e below (s₁.setTop (mkF m 55 #[.val (.int p0), .val (.int p1), .val (.int p2), .val (.int ((p1 &&& (1073741823 : Int32)) + (1 : Int32))), .val (.int v2_0), .val (.double (FP.ddiv (FP.i2d p0) (FP.i2d v2_0))), .second, .unset] [])) _
      refine XS.iload X0.here hx rfl (hb hby at_55) rfl ?_
      show Steps p.tables e below (s₁.setTop (mkF m 57 #[.val (.int p0), .val (.int p1), .val (.int p2), .val (.int ((p1 &&& (1073741823 : Int32)) + (1 : Int32))), .val (.int v2_0), .val (.double (FP.ddiv (FP.i2d p0) (FP.i2d v2_0))), .second, .unset] [(.int v2_0)])) _
      refine XS.iloadN X0.here hx rfl (hb hby at_57) rfl ?_
      exact k)
    by_cases hc58_29 : v2_0 < p0
    · have pre30 : ∀ t, Steps p.tables e below (s₁.setTop (mkF m 62 #[.val (.int p0), .val (.int p1), .val (.int p2), .val (.int ((p1 &&& (1073741823 : Int32)) + (1 : Int32))), .val (.int v2_0), .val (.double (FP.ddiv (FP.i2d p0) (FP.i2d v2_0))), .second, .unset] [(.int p0)])) t → Steps p.tables e below (s₁.setTop (entryFrame m #[(.int p0), (.int p1), (.int p2)] maxLocals)) t := fun t k => pre28 t (by
        show Steps p.tables e below (s₁.setTop (mkF m 58 #[.val (.int p0), .val (.int p1), .val (.int p2), .val (.int ((p1 &&& (1073741823 : Int32)) + (1 : Int32))), .val (.int v2_0), .val (.double (FP.ddiv (FP.i2d p0) (FP.i2d v2_0))), .second, .unset] [(.int p0), (.int v2_0)])) _
        refine XS.icmpNo X0.here hx rfl (hb hby at_58) rfl (tlt hc58_29).2.1 ?_
        show Steps p.tables e below (s₁.setTop (mkF m 61 #[.val (.int p0), .val (.int p1), .val (.int p2), .val (.int ((p1 &&& (1073741823 : Int32)) + (1 : Int32))), .val (.int v2_0), .val (.double (FP.ddiv (FP.i2d p0) (FP.i2d v2_0))), .second, .unset] [])) _
        refine XS.iloadN X0.here hx rfl (hb hby at_61) rfl ?_
        exact k)
      by_cases hc62_31 : p0 < (0 : Int32)
      · obtain ⟨_, _, ⟨T32, L32, k32, n32⟩, -, X32, ⟨Lc32, hQ32, l32, y32, z32⟩, st32⟩ := Jvm.LawKit.callS X0 hx (y := (⟨"com/example/eager_sieve/eagersieve/BloomSizing", "isRate", "(D)Z"⟩ : MethodName)) hown (mvT hZ (hw _ (List.mem_of_getElem? (i := 1) rfl))) (mvT hZ (hw _ (List.mem_of_getElem? (i := 2) rfl))) (mvT hZ (hw _ (List.mem_of_getElem? (i := 3) rfl))) (mvT hZ (hw _ (List.mem_of_getElem? (i := 4) rfl))) (by decide) (backOf (W := 0) (rm1 l Z a0 hw [] (FP.ddiv (FP.i2d p0) (FP.i2d v2_0)) h0 n0 Z0 ) hZ (hw _ (List.mem_of_getElem? (i := 4) rfl)) (hw _ (List.mem_of_getElem? (i := 3) rfl)) (by decide) (by decide)) (g := (mkF m 74 #[.val (.int p0), .val (.int p1), .val (.int p2), .val (.int ((p1 &&& (1073741823 : Int32)) + (1 : Int32))), .val (.int v2_0), .val (.double (FP.ddiv (FP.i2d p0) (FP.i2d v2_0))), .second, .val (.int (1 : Int32))] [(.double (FP.ddiv (FP.i2d p0) (FP.i2d v2_0)))])) rfl (by rw [hml]; rfl) (argsL := [(.double (FP.ddiv (FP.i2d p0) (FP.i2d v2_0)))]) (rest := []) (lenOf pd_0 rfl) rfl (by show 2 * 0 + _ ≤ _; exact Nat.le_of_eq rfl) (hb hby at_74) (fun _ _ => ⟨rfl, e0, (by decide : 0 + 0 ≤ _), (by decide : 0 + 0 ≤ _)⟩)
        dsimp only [Pt.U, Pt.locs, Pt.cells, Pt.slots] at X32 l32 y32 z32 st32 hQ32
        subst l32 y32 z32
        obtain ⟨rfl, N32q, hh32⟩ := hQ32
        have N32 := Fr.app N0 N32q
        have pre33 : ∀ t, Steps p.tables e below (T32.setTop (mkF m 79 #[.val (.int p0), .val (.int p1), .val (.int p2), .val (.int ((p1 &&& (1073741823 : Int32)) + (1 : Int32))), .val (.int v2_0), .val (.double (FP.ddiv (FP.i2d p0) (FP.i2d v2_0))), .second, .val (.int (1 : Int32))] [(.int (1 : Int32)), (.int (if ((0 : Int32) < (cmpValue (FP.dcmp (FP.ddiv (FP.i2d p0) (FP.i2d v2_0)) FP.dconst0) .l) ∧ (cmpValue (FP.dcmp (FP.ddiv (FP.i2d p0) (FP.i2d v2_0)) FP.dconst1) .g) < (0 : Int32)) then (1 : Int32) else 0))])) t → Steps p.tables e below (s₁.setTop (entryFrame m #[(.int p0), (.int p1), (.int p2)] maxLocals)) t := fun t k => pre30 t (by
          show Steps p.tables e below (s₁.setTop (mkF m 62 #[.val (.int p0), .val (.int p1), .val (.int p2), .val (.int ((p1 &&& (1073741823 : Int32)) + (1 : Int32))), .val (.int v2_0), .val (.double (FP.ddiv (FP.i2d p0) (FP.i2d v2_0))), .second, .unset] [(.int p0)])) _
          refine XS.ifNo X0.here hx rfl (hb hby at_62) rfl ((if0 _ _).trans (tlt hc62_31).2.1) ?_
          show Steps p.tables e below (s₁.setTop (mkF m 65 #[.val (.int p0), .val (.int p1), .val (.int p2), .val (.int ((p1 &&& (1073741823 : Int32)) + (1 : Int32))), .val (.int v2_0), .val (.double (FP.ddiv (FP.i2d p0) (FP.i2d v2_0))), .second, .unset] [])) _
          refine XS.iconst X0.here hx rfl (hb hby at_65) ?_
          show Steps p.tables e below (s₁.setTop (mkF m 66 #[.val (.int p0), .val (.int p1), .val (.int p2), .val (.int ((p1 &&& (1073741823 : Int32)) + (1 : Int32))), .val (.int v2_0), .val (.double (FP.ddiv (FP.i2d p0) (FP.i2d v2_0))), .second, .unset] [(.int (1 : Int32))])) _
          refine XS.goto X0.here hx rfl (pc0 := 66) (pc' := 70) rfl (hb hby at_66) (by decide) (by decide) ?_
          show Steps p.tables e below (s₁.setTop (mkF m 70 #[.val (.int p0), .val (.int p1), .val (.int p2), .val (.int ((p1 &&& (1073741823 : Int32)) + (1 : Int32))), .val (.int v2_0), .val (.double (FP.ddiv (FP.i2d p0) (FP.i2d v2_0))), .second, .unset] [(.int (1 : Int32))])) _
          refine XS.istore X0.here hx rfl (hb hby at_70) rfl (l' := #[.val (.int p0), .val (.int p1), .val (.int p2), .val (.int ((p1 &&& (1073741823 : Int32)) + (1 : Int32))), .val (.int v2_0), .val (.double (FP.ddiv (FP.i2d p0) (FP.i2d v2_0))), .second, .val (.int (1 : Int32))]) rfl ?_
          show Steps p.tables e below (s₁.setTop (mkF m 72 #[.val (.int p0), .val (.int p1), .val (.int p2), .val (.int ((p1 &&& (1073741823 : Int32)) + (1 : Int32))), .val (.int v2_0), .val (.double (FP.ddiv (FP.i2d p0) (FP.i2d v2_0))), .second, .val (.int (1 : Int32))] [])) _
          refine XS.dload X0.here hx rfl (hb hby at_72) rfl ?_
          show Steps p.tables e below (s₁.setTop (mkF m 74 #[.val (.int p0), .val (.int p1), .val (.int p2), .val (.int ((p1 &&& (1073741823 : Int32)) + (1 : Int32))), .val (.int v2_0), .val (.double (FP.ddiv (FP.i2d p0) (FP.i2d v2_0))), .second, .val (.int (1 : Int32))] [(.double (FP.ddiv (FP.i2d p0) (FP.i2d v2_0)))])) _
          refine st32 _ ?_
          show Steps p.tables e below (T32.setTop (mkF m 77 #[.val (.int p0), .val (.int p1), .val (.int p2), .val (.int ((p1 &&& (1073741823 : Int32)) + (1 : Int32))), .val (.int v2_0), .val (.double (FP.ddiv (FP.i2d p0) (FP.i2d v2_0))), .second, .val (.int (1 : Int32))] [(.int (if ((0 : Int32) < (cmpValue (FP.dcmp (FP.ddiv (FP.i2d p0) (FP.i2d v2_0)) FP.dconst0) .l) ∧ (cmpValue (FP.dcmp (FP.ddiv (FP.i2d p0) (FP.i2d v2_0)) FP.dconst1) .g) < (0 : Int32)) then (1 : Int32) else 0))])) _
          refine XS.iload X32.here hx rfl (hb hby at_77) rfl ?_
          exact k)
        by_cases hc79_34 : ((0 : Int32) < (cmpValue (FP.dcmp (FP.ddiv (FP.i2d p0) (FP.i2d v2_0)) FP.dconst0) .l) ∧ (cmpValue (FP.dcmp (FP.ddiv (FP.i2d p0) (FP.i2d v2_0)) FP.dconst1) .g) < (0 : Int32))
        · have pre35 : ∀ t, Steps p.tables e below (T32.setTop (mkF m 87 #[.val (.int p0), .val (.int p1), .val (.int p2), .val (.int ((p1 &&& (1073741823 : Int32)) + (1 : Int32))), .val (.int v2_0), .val (.double (FP.ddiv (FP.i2d p0) (FP.i2d v2_0))), .second, .val (.int (1 : Int32))] [(.int (1 : Int32))])) t → Steps p.tables e below (s₁.setTop (entryFrame m #[(.int p0), (.int p1), (.int p2)] maxLocals)) t := fun t k => pre33 t (by
            show Steps p.tables e below (T32.setTop (mkF m 79 #[.val (.int p0), .val (.int p1), .val (.int p2), .val (.int ((p1 &&& (1073741823 : Int32)) + (1 : Int32))), .val (.int v2_0), .val (.double (FP.ddiv (FP.i2d p0) (FP.i2d v2_0))), .second, .val (.int (1 : Int32))] [(.int (1 : Int32)), (.int (if ((0 : Int32) < (cmpValue (FP.dcmp (FP.ddiv (FP.i2d p0) (FP.i2d v2_0)) FP.dconst0) .l) ∧ (cmpValue (FP.dcmp (FP.ddiv (FP.i2d p0) (FP.i2d v2_0)) FP.dconst1) .g) < (0 : Int32)) then (1 : Int32) else 0))])) _
            refine XS.icmpNo X32.here hx rfl (hb hby at_79) rfl (teq (own_c1 hc79_34)).2 ?_
            show Steps p.tables e below (T32.setTop (mkF m 82 #[.val (.int p0), .val (.int p1), .val (.int p2), .val (.int ((p1 &&& (1073741823 : Int32)) + (1 : Int32))), .val (.int v2_0), .val (.double (FP.ddiv (FP.i2d p0) (FP.i2d v2_0))), .second, .val (.int (1 : Int32))] [])) _
            refine XS.iconst X32.here hx rfl (hb hby at_82) ?_
            show Steps p.tables e below (T32.setTop (mkF m 83 #[.val (.int p0), .val (.int p1), .val (.int p2), .val (.int ((p1 &&& (1073741823 : Int32)) + (1 : Int32))), .val (.int v2_0), .val (.double (FP.ddiv (FP.i2d p0) (FP.i2d v2_0))), .second, .val (.int (1 : Int32))] [(.int (1 : Int32))])) _
            refine XS.goto X32.here hx rfl (pc0 := 83) (pc' := 87) rfl (hb hby at_83) (by decide) (by decide) ?_
            exact k)
          obtain ⟨fs, hr, hrun, hended, hW, hsame⟩ := X32.leave (v := some (.int (1 : Int32))) (fun h => by rw [Bd.returns] at h; cases h)
          refine ⟨_, _, pre35 _ ?_, hrun, hended, _, _, rfl, ?_, ⟨_, rfl⟩, hW, hsame.mono (by decide) (by decide)⟩
          · exact retN X32 hx (t := .boolean) Bd.returns (by simp) (hb hby at_87) hr
          · show Q0 Z p0 p1 p2 h0 n0 _ T32.heap _
            rw [hh32]
            exact ⟨rfl, N32⟩
        · have pre36 : ∀ t, Steps p.tables e below (T32.setTop (mkF m 87 #[.val (.int p0), .val (.int p1), .val (.int p2), .val (.int ((p1 &&& (1073741823 : Int32)) + (1 : Int32))), .val (.int v2_0), .val (.double (FP.ddiv (FP.i2d p0) (FP.i2d v2_0))), .second, .val (.int (1 : Int32))] [(.int (0 : Int32))])) t → Steps p.tables e below (s₁.setTop (entryFrame m #[(.int p0), (.int p1), (.int p2)] maxLocals)) t := fun t k => pre33 t (by
            show Steps p.tables e below (T32.setTop (mkF m 79 #[.val (.int p0), .val (.int p1), .val (.int p2), .val (.int ((p1 &&& (1073741823 : Int32)) + (1 : Int32))), .val (.int v2_0), .val (.double (FP.ddiv (FP.i2d p0) (FP.i2d v2_0))), .second, .val (.int (1 : Int32))] [(.int (1 : Int32)), (.int (if ((0 : Int32) < (cmpValue (FP.dcmp (FP.ddiv (FP.i2d p0) (FP.i2d v2_0)) FP.dconst0) .l) ∧ (cmpValue (FP.dcmp (FP.ddiv (FP.i2d p0) (FP.i2d v2_0)) FP.dconst1) .g) < (0 : Int32)) then (1 : Int32) else 0))])) _
            refine XS.icmpYes X32.here hx rfl (pc0 := 79) (pc' := 86) rfl (hb hby at_79) rfl (feq (own_c0 hc79_34)).2 (by decide) (by decide) ?_
            show Steps p.tables e below (T32.setTop (mkF m 86 #[.val (.int p0), .val (.int p1), .val (.int p2), .val (.int ((p1 &&& (1073741823 : Int32)) + (1 : Int32))), .val (.int v2_0), .val (.double (FP.ddiv (FP.i2d p0) (FP.i2d v2_0))), .second, .val (.int (1 : Int32))] [])) _
            refine XS.iconst X32.here hx rfl (hb hby at_86) ?_
            exact k)
          obtain ⟨fs, hr, hrun, hended, hW, hsame⟩ := X32.leave (v := some (.int (0 : Int32))) (fun h => by rw [Bd.returns] at h; cases h)
          refine ⟨_, _, pre36 _ ?_, hrun, hended, _, _, rfl, ?_, ⟨_, rfl⟩, hW, hsame.mono (by decide) (by decide)⟩
          · exact retN X32 hx (t := .boolean) Bd.returns (by simp) (hb hby at_87) hr
          · show Q0 Z p0 p1 p2 h0 n0 _ T32.heap _
            rw [hh32]
            exfalso
            have q := own_rate p0 v2_0 hv2
            have hq := hc79_34
            replace q := mt q.mpr hq
            simp only [Int32.lt_iff_toInt_lt, Int32.reduceToInt] at q hc31_8 hc58_29 hc62_31
            omega
      · obtain ⟨_, _, ⟨T37, L37, k37, n37⟩, -, X37, ⟨Lc37, hQ37, l37, y37, z37⟩, st37⟩ := Jvm.LawKit.callS X0 hx (y := (⟨"com/example/eager_sieve/eagersieve/BloomSizing", "isRate", "(D)Z"⟩ : MethodName)) hown (mvT hZ (hw _ (List.mem_of_getElem? (i := 1) rfl))) (mvT hZ (hw _ (List.mem_of_getElem? (i := 2) rfl))) (mvT hZ (hw _ (List.mem_of_getElem? (i := 3) rfl))) (mvT hZ (hw _ (List.mem_of_getElem? (i := 4) rfl))) (by decide) (backOf (W := 0) (rm1 l Z a0 hw [] (FP.ddiv (FP.i2d p0) (FP.i2d v2_0)) h0 n0 Z0 ) hZ (hw _ (List.mem_of_getElem? (i := 4) rfl)) (hw _ (List.mem_of_getElem? (i := 3) rfl)) (by decide) (by decide)) (g := (mkF m 74 #[.val (.int p0), .val (.int p1), .val (.int p2), .val (.int ((p1 &&& (1073741823 : Int32)) + (1 : Int32))), .val (.int v2_0), .val (.double (FP.ddiv (FP.i2d p0) (FP.i2d v2_0))), .second, .val (.int (0 : Int32))] [(.double (FP.ddiv (FP.i2d p0) (FP.i2d v2_0)))])) rfl (by rw [hml]; rfl) (argsL := [(.double (FP.ddiv (FP.i2d p0) (FP.i2d v2_0)))]) (rest := []) (lenOf pd_0 rfl) rfl (by show 2 * 0 + _ ≤ _; exact Nat.le_of_eq rfl) (hb hby at_74) (fun _ _ => ⟨rfl, e0, (by decide : 0 + 0 ≤ _), (by decide : 0 + 0 ≤ _)⟩)
        dsimp only [Pt.U, Pt.locs, Pt.cells, Pt.slots] at X37 l37 y37 z37 st37 hQ37
        subst l37 y37 z37
        obtain ⟨rfl, N37q, hh37⟩ := hQ37
        have N37 := Fr.app N0 N37q
        have pre38 : ∀ t, Steps p.tables e below (T37.setTop (mkF m 79 #[.val (.int p0), .val (.int p1), .val (.int p2), .val (.int ((p1 &&& (1073741823 : Int32)) + (1 : Int32))), .val (.int v2_0), .val (.double (FP.ddiv (FP.i2d p0) (FP.i2d v2_0))), .second, .val (.int (0 : Int32))] [(.int (0 : Int32)), (.int (if ((0 : Int32) < (cmpValue (FP.dcmp (FP.ddiv (FP.i2d p0) (FP.i2d v2_0)) FP.dconst0) .l) ∧ (cmpValue (FP.dcmp (FP.ddiv (FP.i2d p0) (FP.i2d v2_0)) FP.dconst1) .g) < (0 : Int32)) then (1 : Int32) else 0))])) t → Steps p.tables e below (s₁.setTop (entryFrame m #[(.int p0), (.int p1), (.int p2)] maxLocals)) t := fun t k => pre30 t (by
          show Steps p.tables e below (s₁.setTop (mkF m 62 #[.val (.int p0), .val (.int p1), .val (.int p2), .val (.int ((p1 &&& (1073741823 : Int32)) + (1 : Int32))), .val (.int v2_0), .val (.double (FP.ddiv (FP.i2d p0) (FP.i2d v2_0))), .second, .unset] [(.int p0)])) _
          refine XS.ifYes X0.here hx rfl (pc0 := 62) (pc' := 69) rfl (hb hby at_62) rfl ((if0 _ _).trans (flt hc62_31).2.1) (by decide) (by decide) ?_
          show Steps p.tables e below (s₁.setTop (mkF m 69 #[.val (.int p0), .val (.int p1), .val (.int p2), .val (.int ((p1 &&& (1073741823 : Int32)) + (1 : Int32))), .val (.int v2_0), .val (.double (FP.ddiv (FP.i2d p0) (FP.i2d v2_0))), .second, .unset] [])) _
          refine XS.iconst X0.here hx rfl (hb hby at_69) ?_
          show Steps p.tables e below (s₁.setTop (mkF m 70 #[.val (.int p0), .val (.int p1), .val (.int p2), .val (.int ((p1 &&& (1073741823 : Int32)) + (1 : Int32))), .val (.int v2_0), .val (.double (FP.ddiv (FP.i2d p0) (FP.i2d v2_0))), .second, .unset] [(.int (0 : Int32))])) _
          refine XS.istore X0.here hx rfl (hb hby at_70) rfl (l' := #[.val (.int p0), .val (.int p1), .val (.int p2), .val (.int ((p1 &&& (1073741823 : Int32)) + (1 : Int32))), .val (.int v2_0), .val (.double (FP.ddiv (FP.i2d p0) (FP.i2d v2_0))), .second, .val (.int (0 : Int32))]) rfl ?_
          show Steps p.tables e below (s₁.setTop (mkF m 72 #[.val (.int p0), .val (.int p1), .val (.int p2), .val (.int ((p1 &&& (1073741823 : Int32)) + (1 : Int32))), .val (.int v2_0), .val (.double (FP.ddiv (FP.i2d p0) (FP.i2d v2_0))), .second, .val (.int (0 : Int32))] [])) _
          refine XS.dload X0.here hx rfl (hb hby at_72) rfl ?_
          show Steps p.tables e below (s₁.setTop (mkF m 74 #[.val (.int p0), .val (.int p1), .val (.int p2), .val (.int ((p1 &&& (1073741823 : Int32)) + (1 : Int32))), .val (.int v2_0), .val (.double (FP.ddiv (FP.i2d p0) (FP.i2d v2_0))), .second, .val (.int (0 : Int32))] [(.double (FP.ddiv (FP.i2d p0) (FP.i2d v2_0)))])) _
          refine st37 _ ?_
          show Steps p.tables e below (T37.setTop (mkF m 77 #[.val (.int p0), .val (.int p1), .val (.int p2), .val (.int ((p1 &&& (1073741823 : Int32)) + (1 : Int32))), .val (.int v2_0), .val (.double (FP.ddiv (FP.i2d p0) (FP.i2d v2_0))), .second, .val (.int (0 : Int32))] [(.int (if ((0 : Int32) < (cmpValue (FP.dcmp (FP.ddiv (FP.i2d p0) (FP.i2d v2_0)) FP.dconst0) .l) ∧ (cmpValue (FP.dcmp (FP.ddiv (FP.i2d p0) (FP.i2d v2_0)) FP.dconst1) .g) < (0 : Int32)) then (1 : Int32) else 0))])) _
          refine XS.iload X37.here hx rfl (hb hby at_77) rfl ?_
          exact k)
        by_cases hc79_39 : ((0 : Int32) < (cmpValue (FP.dcmp (FP.ddiv (FP.i2d p0) (FP.i2d v2_0)) FP.dconst0) .l) ∧ (cmpValue (FP.dcmp (FP.ddiv (FP.i2d p0) (FP.i2d v2_0)) FP.dconst1) .g) < (0 : Int32))
        · have pre40 : ∀ t, Steps p.tables e below (T37.setTop (mkF m 87 #[.val (.int p0), .val (.int p1), .val (.int p2), .val (.int ((p1 &&& (1073741823 : Int32)) + (1 : Int32))), .val (.int v2_0), .val (.double (FP.ddiv (FP.i2d p0) (FP.i2d v2_0))), .second, .val (.int (0 : Int32))] [(.int (0 : Int32))])) t → Steps p.tables e below (s₁.setTop (entryFrame m #[(.int p0), (.int p1), (.int p2)] maxLocals)) t := fun t k => pre38 t (by
            show Steps p.tables e below (T37.setTop (mkF m 79 #[.val (.int p0), .val (.int p1), .val (.int p2), .val (.int ((p1 &&& (1073741823 : Int32)) + (1 : Int32))), .val (.int v2_0), .val (.double (FP.ddiv (FP.i2d p0) (FP.i2d v2_0))), .second, .val (.int (0 : Int32))] [(.int (0 : Int32)), (.int (if ((0 : Int32) < (cmpValue (FP.dcmp (FP.ddiv (FP.i2d p0) (FP.i2d v2_0)) FP.dconst0) .l) ∧ (cmpValue (FP.dcmp (FP.ddiv (FP.i2d p0) (FP.i2d v2_0)) FP.dconst1) .g) < (0 : Int32)) then (1 : Int32) else 0))])) _
            refine XS.icmpYes X37.here hx rfl (pc0 := 79) (pc' := 86) rfl (hb hby at_79) rfl (feq (own_b1 hc79_39)).2 (by decide) (by decide) ?_
            show Steps p.tables e below (T37.setTop (mkF m 86 #[.val (.int p0), .val (.int p1), .val (.int p2), .val (.int ((p1 &&& (1073741823 : Int32)) + (1 : Int32))), .val (.int v2_0), .val (.double (FP.ddiv (FP.i2d p0) (FP.i2d v2_0))), .second, .val (.int (0 : Int32))] [])) _
            refine XS.iconst X37.here hx rfl (hb hby at_86) ?_
            exact k)
          obtain ⟨fs, hr, hrun, hended, hW, hsame⟩ := X37.leave (v := some (.int (0 : Int32))) (fun h => by rw [Bd.returns] at h; cases h)
          refine ⟨_, _, pre40 _ ?_, hrun, hended, _, _, rfl, ?_, ⟨_, rfl⟩, hW, hsame.mono (by decide) (by decide)⟩
          · exact retN X37 hx (t := .boolean) Bd.returns (by simp) (hb hby at_87) hr
          · show Q0 Z p0 p1 p2 h0 n0 _ T37.heap _
            rw [hh37]
            exfalso
            have q := own_rate p0 v2_0 hv2
            have hq := hc79_39
            replace q := q.mp hq
            simp only [Int32.lt_iff_toInt_lt, Int32.reduceToInt] at q hc31_8 hc58_29 hc62_31
            omega
        · have pre41 : ∀ t, Steps p.tables e below (T37.setTop (mkF m 87 #[.val (.int p0), .val (.int p1), .val (.int p2), .val (.int ((p1 &&& (1073741823 : Int32)) + (1 : Int32))), .val (.int v2_0), .val (.double (FP.ddiv (FP.i2d p0) (FP.i2d v2_0))), .second, .val (.int (0 : Int32))] [(.int (1 : Int32))])) t → Steps p.tables e below (s₁.setTop (entryFrame m #[(.int p0), (.int p1), (.int p2)] maxLocals)) t := fun t k => pre38 t (by
            show Steps p.tables e below (T37.setTop (mkF m 79 #[.val (.int p0), .val (.int p1), .val (.int p2), .val (.int ((p1 &&& (1073741823 : Int32)) + (1 : Int32))), .val (.int v2_0), .val (.double (FP.ddiv (FP.i2d p0) (FP.i2d v2_0))), .second, .val (.int (0 : Int32))] [(.int (0 : Int32)), (.int (if ((0 : Int32) < (cmpValue (FP.dcmp (FP.ddiv (FP.i2d p0) (FP.i2d v2_0)) FP.dconst0) .l) ∧ (cmpValue (FP.dcmp (FP.ddiv (FP.i2d p0) (FP.i2d v2_0)) FP.dconst1) .g) < (0 : Int32)) then (1 : Int32) else 0))])) _
            refine XS.icmpNo X37.here hx rfl (hb hby at_79) rfl (teq (own_b0 hc79_39)).2 ?_
            show Steps p.tables e below (T37.setTop (mkF m 82 #[.val (.int p0), .val (.int p1), .val (.int p2), .val (.int ((p1 &&& (1073741823 : Int32)) + (1 : Int32))), .val (.int v2_0), .val (.double (FP.ddiv (FP.i2d p0) (FP.i2d v2_0))), .second, .val (.int (0 : Int32))] [])) _
            refine XS.iconst X37.here hx rfl (hb hby at_82) ?_
            show Steps p.tables e below (T37.setTop (mkF m 83 #[.val (.int p0), .val (.int p1), .val (.int p2), .val (.int ((p1 &&& (1073741823 : Int32)) + (1 : Int32))), .val (.int v2_0), .val (.double (FP.ddiv (FP.i2d p0) (FP.i2d v2_0))), .second, .val (.int (0 : Int32))] [(.int (1 : Int32))])) _
            refine XS.goto X37.here hx rfl (pc0 := 83) (pc' := 87) rfl (hb hby at_83) (by decide) (by decide) ?_
            exact k)
          obtain ⟨fs, hr, hrun, hended, hW, hsame⟩ := X37.leave (v := some (.int (1 : Int32))) (fun h => by rw [Bd.returns] at h; cases h)
          refine ⟨_, _, pre41 _ ?_, hrun, hended, _, _, rfl, ?_, ⟨_, rfl⟩, hW, hsame.mono (by decide) (by decide)⟩
          · exact retN X37 hx (t := .boolean) Bd.returns (by simp) (hb hby at_87) hr
          · show Q0 Z p0 p1 p2 h0 n0 _ T37.heap _
            rw [hh37]
            exact ⟨rfl, N37⟩
    · obtain ⟨_, _, ⟨T42, L42, k42, n42⟩, -, X42, ⟨Lc42, hQ42, l42, y42, z42⟩, st42⟩ := Jvm.LawKit.callS X0 hx (y := (⟨"com/example/eager_sieve/eagersieve/BloomSizing", "isRate", "(D)Z"⟩ : MethodName)) hown (mvT hZ (hw _ (List.mem_of_getElem? (i := 1) rfl))) (mvT hZ (hw _ (List.mem_of_getElem? (i := 2) rfl))) (mvT hZ (hw _ (List.mem_of_getElem? (i := 3) rfl))) (mvT hZ (hw _ (List.mem_of_getElem? (i := 4) rfl))) (by decide) (backOf (W := 0) (rm1 l Z a0 hw [] (FP.ddiv (FP.i2d p0) (FP.i2d v2_0)) h0 n0 Z0 ) hZ (hw _ (List.mem_of_getElem? (i := 4) rfl)) (hw _ (List.mem_of_getElem? (i := 3) rfl)) (by decide) (by decide)) (g := (mkF m 74 #[.val (.int p0), .val (.int p1), .val (.int p2), .val (.int ((p1 &&& (1073741823 : Int32)) + (1 : Int32))), .val (.int v2_0), .val (.double (FP.ddiv (FP.i2d p0) (FP.i2d v2_0))), .second, .val (.int (0 : Int32))] [(.double (FP.ddiv (FP.i2d p0) (FP.i2d v2_0)))])) rfl (by rw [hml]; rfl) (argsL := [(.double (FP.ddiv (FP.i2d p0) (FP.i2d v2_0)))]) (rest := []) (lenOf pd_0 rfl) rfl (by show 2 * 0 + _ ≤ _; exact Nat.le_of_eq rfl) (hb hby at_74) (fun _ _ => ⟨rfl, e0, (by decide : 0 + 0 ≤ _), (by decide : 0 + 0 ≤ _)⟩)
      dsimp only [Pt.U, Pt.locs, Pt.cells, Pt.slots] at X42 l42 y42 z42 st42 hQ42
      subst l42 y42 z42
      obtain ⟨rfl, N42q, hh42⟩ := hQ42
      have N42 := Fr.app N0 N42q
      have pre43 : ∀ t, Steps p.tables e below (T42.setTop (mkF m 79 #[.val (.int p0), .val (.int p1), .val (.int p2), .val (.int ((p1 &&& (1073741823 : Int32)) + (1 : Int32))), .val (.int v2_0), .val (.double (FP.ddiv (FP.i2d p0) (FP.i2d v2_0))), .second, .val (.int (0 : Int32))] [(.int (0 : Int32)), (.int (if ((0 : Int32) < (cmpValue (FP.dcmp (FP.ddiv (FP.i2d p0) (FP.i2d v2_0)) FP.dconst0) .l) ∧ (cmpValue (FP.dcmp (FP.ddiv (FP.i2d p0) (FP.i2d v2_0)) FP.dconst1) .g) < (0 : Int32)) then (1 : Int32) else 0))])) t → Steps p.tables e below (s₁.setTop (entryFrame m #[(.int p0), (.int p1), (.int p2)] maxLocals)) t := fun t k => pre28 t (by
        show Steps p.tables e below (s₁.setTop (mkF m 58 #[.val (.int p0), .val (.int p1), .val (.int p2), .val (.int ((p1 &&& (1073741823 : Int32)) + (1 : Int32))), .val (.int v2_0), .val (.double (FP.ddiv (FP.i2d p0) (FP.i2d v2_0))), .second, .unset] [(.int p0), (.int v2_0)])) _
        refine XS.icmpYes X0.here hx rfl (pc0 := 58) (pc' := 69) rfl (hb hby at_58) rfl (flt hc58_29).2.1 (by decide) (by decide) ?_
        show Steps p.tables e below (s₁.setTop (mkF m 69 #[.val (.int p0), .val (.int p1), .val (.int p2), .val (.int ((p1 &&& (1073741823 : Int32)) + (1 : Int32))), .val (.int v2_0), .val (.double (FP.ddiv (FP.i2d p0) (FP.i2d v2_0))), .second, .unset] [])) _
        refine XS.iconst X0.here hx rfl (hb hby at_69) ?_
        show Steps p.tables e below (s₁.setTop (mkF m 70 #[.val (.int p0), .val (.int p1), .val (.int p2), .val (.int ((p1 &&& (1073741823 : Int32)) + (1 : Int32))), .val (.int v2_0), .val (.double (FP.ddiv (FP.i2d p0) (FP.i2d v2_0))), .second, .unset] [(.int (0 : Int32))])) _
        refine XS.istore X0.here hx rfl (hb hby at_70) rfl (l' := #[.val (.int p0), .val (.int p1), .val (.int p2), .val (.int ((p1 &&& (1073741823 : Int32)) + (1 : Int32))), .val (.int v2_0), .val (.double (FP.ddiv (FP.i2d p0) (FP.i2d v2_0))), .second, .val (.int (0 : Int32))]) rfl ?_
        show Steps p.tables e below (s₁.setTop (mkF m 72 #[.val (.int p0), .val (.int p1), .val (.int p2), .val (.int ((p1 &&& (1073741823 : Int32)) + (1 : Int32))), .val (.int v2_0), .val (.double (FP.ddiv (FP.i2d p0) (FP.i2d v2_0))), .second, .val (.int (0 : Int32))] [])) _
        refine XS.dload X0.here hx rfl (hb hby at_72) rfl ?_
        show Steps p.tables e below (s₁.setTop (mkF m 74 #[.val (.int p0), .val (.int p1), .val (.int p2), .val (.int ((p1 &&& (1073741823 : Int32)) + (1 : Int32))), .val (.int v2_0), .val (.double (FP.ddiv (FP.i2d p0) (FP.i2d v2_0))), .second, .val (.int (0 : Int32))] [(.double (FP.ddiv (FP.i2d p0) (FP.i2d v2_0)))])) _
        refine st42 _ ?_
        show Steps p.tables e below (T42.setTop (mkF m 77 #[.val (.int p0), .val (.int p1), .val (.int p2), .val (.int ((p1 &&& (1073741823 : Int32)) + (1 : Int32))), .val (.int v2_0), .val (.double (FP.ddiv (FP.i2d p0) (FP.i2d v2_0))), .second, .val (.int (0 : Int32))] [(.int (if ((0 : Int32) < (cmpValue (FP.dcmp (FP.ddiv (FP.i2d p0) (FP.i2d v2_0)) FP.dconst0) .l) ∧ (cmpValue (FP.dcmp (FP.ddiv (FP.i2d p0) (FP.i2d v2_0)) FP.dconst1) .g) < (0 : Int32)) then (1 : Int32) else 0))])) _
        refine XS.iload X42.here hx rfl (hb hby at_77) rfl ?_
        exact k)
      by_cases hc79_44 : ((0 : Int32) < (cmpValue (FP.dcmp (FP.ddiv (FP.i2d p0) (FP.i2d v2_0)) FP.dconst0) .l) ∧ (cmpValue (FP.dcmp (FP.ddiv (FP.i2d p0) (FP.i2d v2_0)) FP.dconst1) .g) < (0 : Int32))
      · have pre45 : ∀ t, Steps p.tables e below (T42.setTop (mkF m 87 #[.val (.int p0), .val (.int p1), .val (.int p2), .val (.int ((p1 &&& (1073741823 : Int32)) + (1 : Int32))), .val (.int v2_0), .val (.double (FP.ddiv (FP.i2d p0) (FP.i2d v2_0))), .second, .val (.int (0 : Int32))] [(.int (0 : Int32))])) t → Steps p.tables e below (s₁.setTop (entryFrame m #[(.int p0), (.int p1), (.int p2)] maxLocals)) t := fun t k => pre43 t (by
          show Steps p.tables e below (T42.setTop (mkF m 79 #[.val (.int p0), .val (.int p1), .val (.int p2), .val (.int ((p1 &&& (1073741823 : Int32)) + (1 : Int32))), .val (.int v2_0), .val (.double (FP.ddiv (FP.i2d p0) (FP.i2d v2_0))), .second, .val (.int (0 : Int32))] [(.int (0 : Int32)), (.int (if ((0 : Int32) < (cmpValue (FP.dcmp (FP.ddiv (FP.i2d p0) (FP.i2d v2_0)) FP.dconst0) .l) ∧ (cmpValue (FP.dcmp (FP.ddiv (FP.i2d p0) (FP.i2d v2_0)) FP.dconst1) .g) < (0 : Int32)) then (1 : Int32) else 0))])) _
          refine XS.icmpYes X42.here hx rfl (pc0 := 79) (pc' := 86) rfl (hb hby at_79) rfl (feq (own_b1 hc79_44)).2 (by decide) (by decide) ?_
          show Steps p.tables e below (T42.setTop (mkF m 86 #[.val (.int p0), .val (.int p1), .val (.int p2), .val (.int ((p1 &&& (1073741823 : Int32)) + (1 : Int32))), .val (.int v2_0), .val (.double (FP.ddiv (FP.i2d p0) (FP.i2d v2_0))), .second, .val (.int (0 : Int32))] [])) _
          refine XS.iconst X42.here hx rfl (hb hby at_86) ?_
          exact k)
        obtain ⟨fs, hr, hrun, hended, hW, hsame⟩ := X42.leave (v := some (.int (0 : Int32))) (fun h => by rw [Bd.returns] at h; cases h)
        refine ⟨_, _, pre45 _ ?_, hrun, hended, _, _, rfl, ?_, ⟨_, rfl⟩, hW, hsame.mono (by decide) (by decide)⟩
        · exact retN X42 hx (t := .boolean) Bd.returns (by simp) (hb hby at_87) hr
        · show Q0 Z p0 p1 p2 h0 n0 _ T42.heap _
          rw [hh42]
          exfalso
          have q := own_rate p0 v2_0 hv2
          have hq := hc79_44
          replace q := q.mp hq
          simp only [Int32.lt_iff_toInt_lt, Int32.reduceToInt] at q hc31_8 hc58_29
          omega
      · have pre46 : ∀ t, Steps p.tables e below (T42.setTop (mkF m 87 #[.val (.int p0), .val (.int p1), .val (.int p2), .val (.int ((p1 &&& (1073741823 : Int32)) + (1 : Int32))), .val (.int v2_0), .val (.double (FP.ddiv (FP.i2d p0) (FP.i2d v2_0))), .second, .val (.int (0 : Int32))] [(.int (1 : Int32))])) t → Steps p.tables e below (s₁.setTop (entryFrame m #[(.int p0), (.int p1), (.int p2)] maxLocals)) t := fun t k => pre43 t (by
          show Steps p.tables e below (T42.setTop (mkF m 79 #[.val (.int p0), .val (.int p1), .val (.int p2), .val (.int ((p1 &&& (1073741823 : Int32)) + (1 : Int32))), .val (.int v2_0), .val (.double (FP.ddiv (FP.i2d p0) (FP.i2d v2_0))), .second, .val (.int (0 : Int32))] [(.int (0 : Int32)), (.int (if ((0 : Int32) < (cmpValue (FP.dcmp (FP.ddiv (FP.i2d p0) (FP.i2d v2_0)) FP.dconst0) .l) ∧ (cmpValue (FP.dcmp (FP.ddiv (FP.i2d p0) (FP.i2d v2_0)) FP.dconst1) .g) < (0 : Int32)) then (1 : Int32) else 0))])) _
          refine XS.icmpNo X42.here hx rfl (hb hby at_79) rfl (teq (own_b0 hc79_44)).2 ?_
          show Steps p.tables e below (T42.setTop (mkF m 82 #[.val (.int p0), .val (.int p1), .val (.int p2), .val (.int ((p1 &&& (1073741823 : Int32)) + (1 : Int32))), .val (.int v2_0), .val (.double (FP.ddiv (FP.i2d p0) (FP.i2d v2_0))), .second, .val (.int (0 : Int32))] [])) _
          refine XS.iconst X42.here hx rfl (hb hby at_82) ?_
          show Steps p.tables e below (T42.setTop (mkF m 83 #[.val (.int p0), .val (.int p1), .val (.int p2), .val (.int ((p1 &&& (1073741823 : Int32)) + (1 : Int32))), .val (.int v2_0), .val (.double (FP.ddiv (FP.i2d p0) (FP.i2d v2_0))), .second, .val (.int (0 : Int32))] [(.int (1 : Int32))])) _
          refine XS.goto X42.here hx rfl (pc0 := 83) (pc' := 87) rfl (hb hby at_83) (by decide) (by decide) ?_
          exact k)
        obtain ⟨fs, hr, hrun, hended, hW, hsame⟩ := X42.leave (v := some (.int (1 : Int32))) (fun h => by rw [Bd.returns] at h; cases h)
        refine ⟨_, _, pre46 _ ?_, hrun, hended, _, _, rfl, ?_, ⟨_, rfl⟩, hW, hsame.mono (by decide) (by decide)⟩
        · exact retN X42 hx (t := .boolean) Bd.returns (by simp) (hb hby at_87) hr
        · show Q0 Z p0 p1 p2 h0 n0 _ T42.heap _
          rw [hh42]
          exact ⟨rfl, N42⟩
set_option maxRecDepth 65536 in
set_option maxHeartbeats 40000000 in
theorem comes_1 {Post : Tables → Env → Array Value → State → Outcome → State → Prop} (hpost : ∀ tb e args s v u, (limb_1_1.after args s (.returned v) u = true ∧ limb_1_2.after args s (.returned v) u = true ∧ True) → FrameEnd s (.returned v) u (Jvm.fieldLocs frame_1_writes args s ++ Jvm.arrayLocs frame_1_arrays args s ++ Jvm.staticLocs frame_1_statics s) 0 0 → Post tb e args s (.returned v) u) :
    ArmFor flags0 classFile x code maxLocals ret World_1 tables_1 room_1 Calls_1 rest_1 Pre_1 Post := by
  intro l hfl _ _ p e ha hc hk s m args below hf hA hF happ hP
  obtain ⟨hcalls, hrest, hpre⟩ := hP
  obtain ⟨-, -, -, hnamed, -, -, -, hat⟩ := (Spec.applies_iff hf).mp happ
  obtain ⟨hg, hn⟩ := and_e (Cond.before_iff.mp (show (Jvm.Cond.and given_1 narrow_1).before args s = true from hpre))
  obtain ⟨g1, g2⟩ := and_e hg
  obtain ⟨g3, g4⟩ := and_e g2
  obtain ⟨g5, g6⟩ := and_e g4
  obtain ⟨w0, w1, w2, rfl⟩ : ∃ w0 w1 w2 : Value, args = #[w0, w1, w2] := by
    have hs : args.size = 3 := by simpa [Cond.value, given_1] using g1
    obtain ⟨L⟩ := args
    match L, hs with
    | [w0, w1, w2], _ => exact ⟨w0, w1, w2, rfl⟩
  have hw := fun d (hd : d ∈ tables_1) => atoms_spec (ws := Jvm.Cond.code x code maxLocals ret :: tables_1) hat d (List.mem_cons_of_mem _ hd)
  have hfit : Fit s := fun {y c} hc i hi => by
    obtain ⟨ha, rfl⟩ := Array.getElem?_eq_some_iff.mp hc
    have q := List.all_eq_true.mp ((Array.all_eq_true_iff_forall_mem.mp hF) _ (Array.getElem_mem ha)) i (List.mem_range.mpr hi)
    simpa [Array.getElem?_eq_getElem hi] using q
  obtain ⟨i0, ei0⟩ := is_v g3
  obtain rfl : w0 = (.int i0) := Option.some.inj ei0
  obtain ⟨i1, ei1⟩ := is_v g5
  obtain rfl : w1 = (.int i1) := Option.some.inj ei1
  obtain ⟨i2, ei2⟩ := is_v g6
  obtain rfl : w2 = (.int i2) := Option.some.inj ei2
  obtain ⟨n, o, h1, h2, h3, _, L, rfl, ⟨rfl, N⟩, hq⟩ := rm0 l s _ hw tables_1 i0 i1 i2 s.heap s.heap.size (Nat.le_refl _) p e ha hc hk s m _ below hf ((Spec.applies_iff_loose hf).mp happ).1 ⟨rfl, State.Warmed39.refl s, rfl⟩ trivial
  refine ⟨n, _, h1, h2, h3, hpost _ _ _ _ _ _ ⟨Cond.after_iff.mpr rfl, Cond.after_iff.mpr (eq_i res_at (Term.int_eval (1)) rfl), trivial⟩ ⟨hq.1, hq.2.1, (hq.2.2.sift fun y hy => Or.inr (N y hy)).mono (by decide) (by decide)⟩⟩
theorem main_1_1 : Claimed_1_1 := comes_1 fun _ _ _ _ _ _ h hF => ⟨h.1, hF⟩
theorem main_1_2 : Claimed_1_2 := comes_1 fun _ _ _ _ _ _ h hF => ⟨h.2.1, hF⟩
end Jvm.Pilot.@@N@@
namespace Jvm.Pilot.@@N@@
open Jvm Jvm.ClassFile Sem Op Lib Jvm.Free Jvm.Stand Jvm.Pilot.@@N@@.Jvm.D
/-! MADE BY PROGRAM (witnessworld.py) out of the Statement's table words and the real class files: 10 classes; the members and pool entries that the words name. The judged class is class 1, her method 1. -/
namespace start1
open Jvm.ClassFile
def u (s : String) : CpInfo := .utf8 (stringToUtf16 s)
/-- a pool by its gaps: so many unusable entries, then the entry; so many at the end -/
def gap : Nat → List CpInfo → List CpInfo
  | 0, r => r
  | n + 1, r => .unusable :: gap n r
def poolList (es : List (Nat × CpInfo)) (last : Nat) : List CpInfo := es.foldr (fun e r => gap e.1 (e.2 :: r)) (gap last [])
def pool (es : List (Nat × CpInfo)) (last : Nat) : Array CpInfo := ⟨poolList es last⟩
def fileOf (pool : Array CpInfo) (this : Nat) (attrs : Array Attribute := #[]) (ms : Array MethodInfo := #[]) (fl : Nat := 33) (sup : Nat := 0) (ifs : Array Nat := #[]) (fds : Array FieldInfo := #[]) : ClassFile where
  minorVersion := 0
  majorVersion := 65
  constantPool := pool
  accessFlags := fl
  thisClass := this
  superClass := sup
  interfaces := ifs
  fields := fds
  methods := ms
  attributes := attrs
def plain (name : String) (sup : Option ClassId) : Class where
  name := name
  kind := .ordinary
  loader := none
  accessFlags := 33
  super := sup
  interfaces := #[]
  cf := none
  fields := #[]
  methods := #[]
  instanceTypes := #[]
  staticTypes := #[]
  resolved := #[]
  callSites := []
  init := .initialized
  statics := none
  mirror := none

def pool0 : Array CpInfo := pool [(5, u "<init>"), (0, u "()V"), (1, .class_ 10), (1, u "java/lang/Object")] 113

def k0m0 : Method := { name := "<init>", desc := "()V", sig := { parameters := [], returnType := none }, accessFlags := 1, code := none }
/-- java/lang/Object -/
def k0 : Class := { plain "java/lang/Object" none with
  accessFlags := 33
  interfaces := #[]
  cf := some (fileOf pool0 8 #[] #[{ accessFlags := 1, nameIndex := 5, descriptorIndex := 6, attributes := #[] }] 33 0 #[] #[])
  fields := #[]
  methods := #[k0m0]
  instanceTypes := #[]
  staticTypes := #[]
  resolved := Array.replicate 124 none
  statics := none }

def pool1 : Array CpInfo := pool [(2, .class_ 4), (1, u "java/lang/Object"), (0, u "<init>"), (0, u "()V"), (0, .integer 1073741823), (0, .methodref 9 10), (0, .class_ 11), (0, .nameAndType 12 13), (0, u "com/example/eager_sieve/eagersieve/BloomSizing"), (0, u "isRate"), (0, u "(D)Z"), (0, .class_ 15), (0, u "com/example/eager_sieve/eagersieve/BloomSizingIsRatePinLaw"), (2, u "law"), (0, u "(III)Z")] 3

def k1m0 : Method := { name := "<init>", desc := "()V", sig := { parameters := [], returnType := none }, accessFlags := 2, code := none }
def k1c1 : Code := { maxStack := 4, maxLocals := 8, code := code, exceptionTable := #[], attributes := #[] }
def k1m1 : Method := { name := "law", desc := "(III)Z", sig := { parameters := [.int, .int, .int], returnType := some .boolean }, accessFlags := 9, code := some k1c1 }
/-- com/example/eager_sieve/eagersieve/BloomSizingIsRatePinLaw -/
def k1 : Class := { plain "com/example/eager_sieve/eagersieve/BloomSizingIsRatePinLaw" (some 0) with
  accessFlags := 49
  interfaces := #[]
  cf := some (fileOf pool1 14 #[] #[{ accessFlags := 2, nameIndex := 5, descriptorIndex := 6, attributes := #[] }, { accessFlags := 9, nameIndex := 18, descriptorIndex := 19, attributes := #[] }] 49 2 #[] #[])
  fields := #[]
  methods := #[k1m0, k1m1]
  instanceTypes := #[]
  staticTypes := #[]
  resolved := Array.replicate 23 none
  statics := none }

def pool2 : Array CpInfo := pool [(2, .class_ 4), (1, u "java/lang/Object"), (0, u "<init>"), (0, u "()V"), (0, .class_ 8), (0, u "java/lang/Record")] 13

def k2m0 : Method := { name := "<init>", desc := "()V", sig := { parameters := [], returnType := none }, accessFlags := 4, code := none }
/-- java/lang/Record -/
def k2 : Class := { plain "java/lang/Record" (some 0) with
  accessFlags := 1057
  interfaces := #[]
  cf := some (fileOf pool2 7 #[] #[{ accessFlags := 4, nameIndex := 5, descriptorIndex := 6, attributes := #[] }] 1057 2 #[] #[])
  fields := #[]
  methods := #[k2m0]
  instanceTypes := #[]
  staticTypes := #[]
  resolved := Array.replicate 22 none
  statics := none }

def pool3 : Array CpInfo := pool [(4, .class_ 6), (1, u "java/lang/Record"), (3, .class_ 12), (1, u "com/example/eager_sieve/eagersieve/BloomSizing"), (0, u "hashCount"), (0, u "I"), (2, u "wordCount"), (25, u "LN_2"), (0, u "D"), (52, u "isRate"), (0, u "(D)Z"), (17, u "MAX_WORDS"), (2, u "FOLDED_KEYS")] 45

def k3c0 : Code := { maxStack := 4, maxLocals := 2, code := prog_6_method_5_code, exceptionTable := #[], attributes := #[] }
def k3m0 : Method := { name := "isRate", desc := "(D)Z", sig := { parameters := [.double], returnType := some .boolean }, accessFlags := 8, code := some k3c0 }
/-- com/example/eager_sieve/eagersieve/BloomSizing -/
def k3 : Class := { plain "com/example/eager_sieve/eagersieve/BloomSizing" (some 2) with
  accessFlags := 48
  interfaces := #[]
  cf := some (fileOf pool3 10 #[] #[{ accessFlags := 8, nameIndex := 97, descriptorIndex := 98, attributes := #[] }] 48 4 #[] #[{ accessFlags := 18, nameIndex := 13, descriptorIndex := 14, attributes := #[] }, { accessFlags := 18, nameIndex := 17, descriptorIndex := 14, attributes := #[] }, { accessFlags := 24, nameIndex := 116, descriptorIndex := 14, attributes := #[] }, { accessFlags := 26, nameIndex := 119, descriptorIndex := 44, attributes := #[] }, { accessFlags := 26, nameIndex := 43, descriptorIndex := 44, attributes := #[] }])
  fields := #[{ name := "hashCount", type := .int, accessFlags := 18, slot := 0, constantValue := 0 }, { name := "wordCount", type := .int, accessFlags := 18, slot := 1, constantValue := 0 }, { name := "MAX_WORDS", type := .int, accessFlags := 24, slot := 0, constantValue := 0 }, { name := "FOLDED_KEYS", type := .double, accessFlags := 26, slot := 1, constantValue := 0 }, { name := "LN_2", type := .double, accessFlags := 26, slot := 2, constantValue := 0 }]
  methods := #[k3m0]
  instanceTypes := #[.int, .int]
  staticTypes := #[.int, .double, .double]
  resolved := Array.replicate 165 none
  statics := none }

def pool4 : Array CpInfo := pool [(1, u "java/lang/Cloneable"), (0, .class_ 1), (0, u "java/lang/Object"), (0, .class_ 3)] 3

/-- java/lang/Cloneable -/
def k4 : Class := { plain "java/lang/Cloneable" (some 0) with
  accessFlags := 1537
  interfaces := #[]
  cf := some (fileOf pool4 2 #[] #[] 1537 4 #[] #[])
  fields := #[]
  methods := #[]
  instanceTypes := #[]
  staticTypes := #[]
  resolved := Array.replicate 8 none
  statics := none }

def pool5 : Array CpInfo := pool [(1, u "java/io/Serializable"), (0, .class_ 1), (0, u "java/lang/Object"), (0, .class_ 3)] 3

/-- java/io/Serializable -/
def k5 : Class := { plain "java/io/Serializable" (some 0) with
  accessFlags := 1537
  interfaces := #[]
  cf := some (fileOf pool5 2 #[] #[] 1537 4 #[] #[])
  fields := #[]
  methods := #[]
  instanceTypes := #[]
  staticTypes := #[]
  resolved := Array.replicate 8 none
  statics := none }

/-- the primitive byte -/
def k6 : Class := { plain "byte" none with kind := .primitive 'B', accessFlags := 0x411 }
/-- [B -/
def k7 : Class := { plain "[B" (some 0) with kind := .array 6 .byte, interfaces := #[4, 5], accessFlags := 1041 }

/-- the primitive int -/
def k8 : Class := { plain "int" none with kind := .primitive 'I', accessFlags := 0x411 }
/-- [I -/
def k9 : Class := { plain "[I" (some 0) with kind := .array 8 .int, interfaces := #[4, 5], accessFlags := 1041 }

def heap : Heap := #[]
def classes : Array Class := #[k0, k1, k2, k3, k4, k5, k6, k7, k8, k9]
def interned : List (Array UInt16 × Addr) := []
def slotsUsed : Nat := 0
def theMethod : MethodId := ⟨1, 1⟩
def args0 : Array Value := #[.int 1, .int 5, .int 0]
def aboutOver (below : List Frame) : State where
  vm := { classes := classes, interned := interned.toArray }
  heap := heap
  slotsUsed := slotsUsed
  threads := #[{ frames := .invoking theMethod args0 :: below }]
def below0 : List Frame := [.native { method := ⟨0, 0⟩, args := #[] }]
def about1 : State := aboutOver below0
def p0 : Program := .bare "" "" ""
def e0 : Env := launch0.env 0 0 0
theorem w_frames : about1.frames = Frame.invoking theMethod args0 :: below0 := rfl
set_option maxRecDepth 65536 in
theorem w_args : argsFit about1.vm theMethod args0 = true := by decide +kernel
set_option maxRecDepth 65536 in
theorem w_heap : heapFits about1 = true := by decide +kernel
set_option maxRecDepth 65536 in
theorem w_runnable : about1.curStatus? = some .runnable := by decide +kernel
set_option maxRecDepth 65536 in
theorem w_alone : about1.alone = true := by decide +kernel
set_option maxRecDepth 65536 in
theorem w_named : about1.methodNamed? x = some theMethod := by decide +kernel
set_option maxRecDepth 65536 in
theorem w_hears : about1.hears theMethod below0 = true := by decide +kernel
set_option maxRecDepth 65536 in
theorem w_ripe : about1.ripe theMethod args0 below0 = true := by decide +kernel
theorem w_running : about1.status = .running := rfl
set_option maxRecDepth 65536 in
theorem w_room : about1.hasRoom e0.platform room_1 = true :=
  launch0.hasRoom_least _ room_1 (by decide +kernel) (by decide +kernel) (by decide +kernel) (by decide +kernel) (by decide +kernel) (by decide +kernel)
theorem allAtoms_all (ts : List Jvm.Cond) (a : Array Jvm.Value) (st : Jvm.State) : (allAtoms ts).before a st = ts.all (fun c => c.before a st) := by
  induction ts with
  | nil => rfl
  | cons c t ih =>
    show (Jvm.Cond.and c (allAtoms t)).before a st = _
    rw [Jvm.Cond.before_and, ih, List.all_cons]
def words1 : List Jvm.Cond := Jvm.Cond.code x code maxLocals ret :: tables_1
/-- a 'code' word, met by the world's own term for the bytes: nothing is compared byte by byte -/
theorem code_word {y : MethodName} {bytes : ByteArray} {mx : Nat} {rt : Option FieldType} {a : Array Value} {s : State} {m : MethodId} {meth : Method} {c : Code} (h1 : s.methodNamed? y = some m) (h2 : s.vm.method? m = some meth) (h3 : meth.code = some c) (h4 : c.code = bytes)
    (h5 : (c.maxLocals == mx && c.exceptionTable.isEmpty && decide (c.maxStack ≤ mostOperands) && decide (meth.sig.returnType = rt) && !meth.locks && decide (parseMethodDescriptor y.desc = some meth.sig)) = true) : (Jvm.Cond.code y bytes mx rt).before a s = true := by
  simp only [Bool.and_eq_true, beq_iff_eq, Bool.not_eq_true', decide_eq_true_eq] at h5
  obtain ⟨⟨⟨⟨⟨g1, g2⟩, g3⟩, g4⟩, g5⟩, g6⟩ := h5
  simp [Cond.before, Cond.holds, Cond.value, h1, h2, h3, h4, g1, g2, g3, g4, g5, g6]
def isCode : Jvm.Cond → Bool
  | .code _ _ _ _ => true
  | _ => false
theorem all_split {L : List Jvm.Cond} {P : Jvm.Cond → Bool} (h1 : L.all (fun c => isCode c || P c) = true) (h2 : ∀ c ∈ L.filter isCode, P c = true) : L.all P = true := by
  refine List.all_eq_true.mpr fun c hc => ?_
  have h := List.all_eq_true.mp h1 c hc
  rcases Bool.eq_false_or_eq_true (isCode c) with hi | hi
  · exact h2 c (List.mem_filter.mpr ⟨hc, hi⟩)
  · simpa [hi] using h
set_option maxRecDepth 65536 in
theorem w_c0 : (Jvm.Cond.code x code maxLocals ret).before args0 about1 = true := code_word (m := ⟨1, 1⟩) (meth := k1m1) (c := k1c1) (by decide +kernel) rfl rfl rfl (by decide +kernel)
set_option maxRecDepth 65536 in
theorem w_c1 : (Jvm.Cond.code ({ cls := "com/example/eager_sieve/eagersieve/BloomSizing", name := "isRate", desc := "(D)Z" } : Jvm.MethodName) prog_6_method_5_code (2 : Nat) (Option.some Jvm.ClassFile.FieldType.boolean)).before args0 about1 = true := code_word (m := ⟨3, 0⟩) (meth := k3m0) (c := k3c0) (by decide +kernel) rfl rfl rfl (by decide +kernel)
def codes1 : List Jvm.Cond := [Jvm.Cond.code x code maxLocals ret, Jvm.Cond.code ({ cls := "com/example/eager_sieve/eagersieve/BloomSizing", name := "isRate", desc := "(D)Z" } : Jvm.MethodName) prog_6_method_5_code (2 : Nat) (Option.some Jvm.ClassFile.FieldType.boolean)]
set_option maxRecDepth 65536 in
theorem codes_eq : words1.filter isCode = codes1 := rfl
theorem w_codes : ∀ c ∈ words1.filter isCode, c.before args0 about1 = true := by
  rw [codes_eq]
  intro c hc
  simp only [codes1, List.mem_cons, List.not_mem_nil, or_false] at hc
  rcases hc with rfl | rfl
  · exact w_c0
  · exact w_c1
set_option maxRecDepth 65536 in
theorem w_t1 : words1.all (fun c => isCode c || c.before args0 about1) = true := by decide +kernel
theorem w_tables : (allAtoms (Jvm.Cond.code x code maxLocals ret :: tables_1)).before args0 about1 = true := by
  rw [allAtoms_all]
  show words1.all (fun c => c.before args0 about1) = true
  refine all_split ?_ w_codes
  rw [w_t1]
set_option maxRecDepth 65536 in
theorem w_case : (Jvm.Cond.and given_1 narrow_1).before args0 about1 = true := by decide +kernel
theorem w_applies : (headSpec (Jvm.Cond.code x code maxLocals ret :: tables_1) room_1).applies x e0.platform about1 = true :=
  (Spec.applies_iff w_frames).mpr ⟨w_running, w_runnable, w_alone, w_named, w_hears, w_ripe, w_room, w_tables⟩
theorem atStart : AtStart classFile x code maxLocals ret World_1 tables_1 room_1 Calls_1 rest_1 Pre_1 launch0 p0 e0 about1 theMethod args0 below0 :=
  ⟨lists_1, trivial, launch0.admits_env _ _ _, launch0.least_env, fairChoices_fair.cas, fairChoices_fair.clock, w_frames, w_args, w_heap, w_applies, trivial, trivial, w_case⟩
end start1
theorem witness_1 : WitnessClaimed_1 := ⟨start1.p0, start1.e0, start1.about1, start1.theMethod, start1.args0, start1.below0, start1.atStart⟩
end Jvm.Pilot.@@N@@
