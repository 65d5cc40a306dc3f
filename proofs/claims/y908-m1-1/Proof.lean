import JvmDerived
import JvmDerived.Pilot.@@N@@Statement
import JvmDerived.Pilot.@@N@@Code
set_option linter.unusedVariables false
set_option linter.unusedSimpArgs false
namespace Jvm.RoadKit
open Sem ClassFile Op Lib Jvm.Stand Jvm.Free Jvm.LawKit
section New
variable {p : Program} {l : Launch} {e : Env} {R : Room} {s : State} {m : MethodId} {args : Array Value} {below : List Frame} {meth : Method} {c : Code} {T : State} {locs : List Loc} {cells slots : Nat}
theorem retI (X : Stand p l e R s m args below meth c T locs cells slots) (hx : p.tables.exec = Jvm.exec) {pc : Nat} {Ls : Array Slot} {z : Int32} {rest : List Value} (hret : meth.sig.returnType = some .int) (hd : decode c.code pc = .ok (.ireturn, 1)) {fs : List Frame}
    (hl : ∀ (f : JFrame) (acts : List Action), f.method = m → f.locked = none → f.entered = [] → (doReturn e (T.setTop f) acts (some (.int z))).1 = T.setFrames fs) : Steps p.tables e below (T.setTop (mkF m pc Ls (.int z :: rest))) (T.setFrames fs) := by
  have hm' : T.vm.method? m = some meth := X.method'
  have hn : narrow .int (.int z) = .int z := rfl
  show Steps p.tables e below (T.setTop { method := m, pc := pc, locals := Ls, stack := _ :: rest, locked := none }) _
  jvm_step X.here [X.here.top, hx, hd, hm', hret, hn]
  first | (intro acts; rw [hl _ acts rfl rfl rfl]) | rw [hl _ _ rfl rfl rfl]
  exact Steps.refl _
theorem own_lrem {g : JFrame} {target : State} (X : Stand p l e R s m args below meth c T locs cells slots) (hx : p.tables.exec = Jvm.exec) (hg : g.method = m) {x y : Int64} {rest : List Value} (hd : decode c.code g.pc = .ok (.lrem, 1)) (hs : g.stack = .long y :: .long x :: rest) (hy : y ≠ 0)
    (hr : Steps p.tables e below (T.setTop { g with pc := g.pc + 1, stack := .long (x % y) :: rest }) target) : Steps p.tables e below (T.setTop g) target := by
  have q : x - (x / y) * y = x % y := lrem_mod x y
  exact XS.lrem X.here hx hg hd hs hy (by rw [q]; exact hr)
theorem own_b1 {P : Prop} [Decidable P] (h : P) : ¬ ((if P then (1 : Int32) else 0) = 0) := by rw [if_pos h]; decide
theorem own_b0 {P : Prop} [Decidable P] (h : ¬ P) : (if P then (1 : Int32) else 0) = 0 := if_neg h
theorem own_c1 {P : Prop} [Decidable P] (h : P) : (if P then (1 : Int32) else 0) = 1 := if_pos h
theorem own_c0 {P : Prop} [Decidable P] (h : ¬ P) : ¬ ((if P then (1 : Int32) else 0) = 1) := by rw [if_neg h]; decide
theorem own_bb {P Q : Prop} [Decidable P] [Decidable Q] (h : P ↔ Q) : (if P then (1 : Int32) else 0) = (if Q then (1 : Int32) else 0) := by
  by_cases p : P
  · rw [if_pos p, if_pos (h.mp p)]
  · rw [if_neg p, if_neg (fun q => p (h.mpr q))]
theorem own_bn {P Q : Prop} [Decidable P] [Decidable Q] (h : ¬ (P ↔ Q)) : ¬ ((if P then (1 : Int32) else 0) = (if Q then (1 : Int32) else 0)) := fun e => h (by
  by_cases p : P <;> by_cases q : Q
  · exact ⟨fun _ => q, fun _ => p⟩
  · rw [if_pos p, if_neg q] at e; exact absurd e (by decide)
  · rw [if_neg p, if_pos q] at e; exact absurd e (by decide)
  · exact ⟨fun a => absurd a p, fun a => absurd a q⟩)
theorem own_t {P : Prop} [Decidable P] (h : P) : some (Value.int 1) = some (Value.int (if P then (1 : Int32) else 0)) := by rw [if_pos h]
theorem own_f {P : Prop} [Decidable P] (h : ¬ P) : some (Value.int 0) = some (Value.int (if P then (1 : Int32) else 0)) := by rw [if_neg h]
end New
end Jvm.RoadKit
namespace Jvm.Pilot.@@N@@
open Jvm Jvm.ClassFile Sem Op Lib Jvm.Free Jvm.Stand Jvm.LawKit Jvm.RoadKit Bundle Jvm.Pilot.@@N@@.Jvm.D
def own_ab (bits r : Int64) : Int64 := if r = 0 then 16 + bits / 8 else if 16 + bits / 8 < r / 2 then 16 + bits / 8 else (16 + bits / 8 + r - 1) / r * r
theorem own_nat64 (x : Int64) (h : 0 ≤ x.toInt) : x.toInt = (x.toBitVec.toNat : Int) := by
  have t : x.toInt = x.toBitVec.toInt := rfl
  have b := x.toBitVec.isLt
  rw [t, BitVec.toInt_eq_toNat_cond] at h ⊢
  split at h
  · rename_i q; rw [if_pos q]
  · omega
theorem own_ushr (x : Int64) (s : UInt64) (M : Nat) (hM : M < 9223372036854775808) (h0 : 0 ≤ x.toInt) (h : x.toInt ≤ (M : Int)) : 0 ≤ ((x.toUInt64 >>> s).toInt64).toInt ∧ ((x.toUInt64 >>> s).toInt64).toInt ≤ (M : Int) := by
  have e := own_nat64 x h0
  have t : ((x.toUInt64 >>> s).toInt64).toInt = (x.toUInt64 >>> s).toBitVec.toInt := rfl
  have n : (x.toUInt64 >>> s).toBitVec.toNat = x.toUInt64.toNat >>> (s.toNat % 64) := UInt64.toNat_shiftRight _ _
  have u : x.toUInt64.toNat = x.toBitVec.toNat := rfl
  have le := Nat.shiftRight_le x.toUInt64.toNat (s.toNat % 64)
  rw [t, BitVec.toInt_eq_toNat_cond, n]
  rw [u] at le ⊢
  generalize x.toBitVec.toNat >>> (s.toNat % 64) = z at *
  split <;> omega
theorem own_words (q : Int64) (p : Int32) : 0 ≤ (((q &&& (17592186044415 : Int64)).toUInt64 >>> (((p &&& (2147483647 : Int32)) % (45 : Int32)) &&& 0x3f).toInt64.toUInt64).toInt64).toInt ∧ (((q &&& (17592186044415 : Int64)).toUInt64 >>> (((p &&& (2147483647 : Int32)) % (45 : Int32)) &&& 0x3f).toInt64.toUInt64).toInt64).toInt < 17592186044416 := by
  have e := c_maskL q (17592186044415 : Int64) 44 (by decide) (by decide)
  have h := own_ushr (q &&& (17592186044415 : Int64)) (((p &&& (2147483647 : Int32)) % (45 : Int32)) &&& 0x3f).toInt64.toUInt64 17592186044415 (by decide) (by omega) (by omega)
  exact ⟨h.1, by have := h.2; omega⟩
theorem own_pow (p : Int32) : ∃ j : Nat, j < 48 ∧ ((1 : Int64) <<< (((p &&& (2147483647 : Int32)) % (48 : Int32)) &&& 0x3f).toInt64).toInt = 2 ^ j := by
  have e := c_mask p (2147483647 : Int32) 31 (by decide) (by decide)
  have q := (c_irem (p &&& (2147483647 : Int32)) (48 : Int32) 48 (by decide)).1 (by rw [e]; omega)
  generalize (p &&& (2147483647 : Int32)) % (48 : Int32) = x at *
  have t : x.toInt = x.toBitVec.toInt := rfl
  have b := x.toBitVec.isLt
  have xn : x.toBitVec.toNat < 48 := by
    rw [t, BitVec.toInt_eq_toNat_cond] at q
    split at q <;> omega
  have c := c_lshl (1 : Int64) x (x.toBitVec.toNat % 64) rfl
  have r := rng64 ((1 : Int64) <<< (x &&& 0x3f).toInt64)
  have m : x.toBitVec.toNat % 64 = x.toBitVec.toNat := Nat.mod_eq_of_lt (by omega)
  rw [m] at c
  refine ⟨x.toBitVec.toNat, xn, ?_⟩
  have pw : (2 : Nat) ^ x.toBitVec.toNat < 2 ^ 48 := Nat.pow_lt_pow_right (by decide) xn
  have pc : ((2 ^ x.toBitVec.toNat : Nat) : Int) = (2 : Int) ^ x.toBitVec.toNat := by push_cast; rfl
  rw [← pc]
  simp only [Int64.reduceToInt] at c
  generalize (2 : Nat) ^ x.toBitVec.toNat = R at *
  omega
theorem own_main (w r : Int64) (hw : 0 ≤ w.toInt ∧ w.toInt < 17592186044416) (hr : r = (0 : Int64) ∨ ∃ j : Nat, j < 48 ∧ r.toInt = 2 ^ j) :
    (r = (0 : Int64) ∨ ((2 : Int64) * ((16 : Int64) + (w * (8 : Int64)))) < r → own_ab (w * (64 : Int64)) r = (16 : Int64) + (w * (8 : Int64))) ∧ (¬ r = (0 : Int64) → ¬ ((2 : Int64) * ((16 : Int64) + (w * (8 : Int64)))) < r → ¬ own_ab (w * (64 : Int64)) r < ((16 : Int64) + (w * (8 : Int64))) ∧ (own_ab (w * (64 : Int64)) r - ((16 : Int64) + (w * (8 : Int64)))) < r ∧ (own_ab (w * (64 : Int64)) r % r) = (0 : Int64)) := by
  have m1 := c_lmul w (8 : Int64)
  have m2 := c_lmul w (64 : Int64)
  have a1 := c_ladd (16 : Int64) (w * (8 : Int64))
  have r1 := rng64 (w * (8 : Int64))
  have r2 := rng64 (w * (64 : Int64))
  have r3 := rng64 ((16 : Int64) + (w * (8 : Int64)))
  simp only [Int64.reduceToInt] at m1 m2 a1
  have v1 : (w * (8 : Int64)).toInt = w.toInt * 8 := by omega
  have v2 : (w * (64 : Int64)).toInt = w.toInt * 64 := by omega
  have vb : ((16 : Int64) + (w * (8 : Int64))).toInt = 16 + w.toInt * 8 := by omega
  have d1 := (c_ldiv (w * (64 : Int64)) (8 : Int64) 8 (by decide) (by decide)).1 (by omega)
  have a2 := c_ladd (16 : Int64) (w * (64 : Int64) / 8)
  have r4 := rng64 ((16 : Int64) + w * (64 : Int64) / 8)
  simp only [Int64.reduceToInt] at a2
  have eb : (16 : Int64) + w * (64 : Int64) / 8 = (16 : Int64) + (w * (8 : Int64)) := Int64.toInt_inj.mp (by omega)
  unfold own_ab
  rw [eb]
  generalize (16 : Int64) + (w * (8 : Int64)) = b at *
  rcases hr with rfl | ⟨j, hj, hR⟩
  · refine ⟨fun _ => by rw [if_pos rfl], fun h => absurd rfl h⟩
  · have pw : (2 : Nat) ^ j < 2 ^ 48 := Nat.pow_lt_pow_right (by decide) hj
    have pp : (0 : Nat) < 2 ^ j := Nat.pow_pos (by decide)
    have pc : ((2 ^ j : Nat) : Int) = (2 : Int) ^ j := by push_cast; rfl
    rw [← pc] at hR
    have par : (2 : Nat) ^ j = 1 ∨ (2 : Nat) ^ j % 2 = 0 := by
      cases j with
      | zero => exact Or.inl rfl
      | succ k => right; rw [Nat.pow_succ]; omega
    generalize (2 : Nat) ^ j = R at *
    have hne : ¬ r = (0 : Int64) := fun q => by rw [q] at hR; simp only [Int64.reduceToInt] at hR; omega
    have d2 := (c_ldiv r (2 : Int64) 2 (by decide) (by decide)).1 (by omega)
    have m3 := c_lmul (2 : Int64) b
    have r5 := rng64 ((2 : Int64) * b)
    simp only [Int64.reduceToInt] at m3
    rw [if_neg hne]
    refine ⟨fun h => ?_, fun _ h => ?_⟩
    · rcases h with h | h
      · exact absurd h hne
      · rw [if_pos]
        simp only [Int64.lt_iff_toInt_lt] at h ⊢
        omega
    · have nb : ¬ b < r / 2 := by
        simp only [Int64.lt_iff_toInt_lt] at h ⊢
        omega
      rw [if_neg nb]
      have a3 := c_ladd b r
      have a4 := c_lsub (b + r) (1 : Int64)
      have r6 := rng64 (b + r)
      have r7 := rng64 (b + r - 1)
      simp only [Int64.reduceToInt] at a4
      have vn : (b + r - 1).toInt = b.toInt + r.toInt - 1 := by omega
      have d3 := (c_ldiv (b + r - 1) r r.toInt rfl (fun q => by rw [q] at hR; simp only [Int64.reduceToInt] at hR; omega)).1 (by omega)
      have em := Int.emod_add_mul_ediv (b + r - 1).toInt r.toInt
      have e0 := Int.emod_nonneg (b + r - 1).toInt (b := r.toInt) (by omega)
      have e1 := Int.emod_lt_of_pos (b + r - 1).toInt (b := r.toInt) (by omega)
      have m4 := c_lmul ((b + r - 1) / r) r
      have r8 := rng64 ((b + r - 1) / r * r)
      rw [d3, Int.mul_comm ((b + r - 1).toInt / r.toInt)] at m4
      have vv : ((b + r - 1) / r * r).toInt = r.toInt * ((b + r - 1).toInt / r.toInt) := by omega
      have s1 := c_lsub ((b + r - 1) / r * r) b
      have r9 := rng64 ((b + r - 1) / r * r - b)
      refine ⟨?_, ?_, ?_⟩
      · simp only [Int64.lt_iff_toInt_lt]; omega
      · simp only [Int64.lt_iff_toInt_lt]; omega
      · apply Int64.toInt_inj.mp
        rw [Int64.toInt_mod, vv]
        simp
theorem pn_0 : plainName "com/example/eager_sieve/eagersieve/server/FilterMemory" = true := by first | (simp [plainName, overriddenIn]; done) | decide +kernel
theorem d1_0 : decode prog_32_method_1_code 0 = .ok (.aload_n 0, 1) := by decide +kernel
theorem d1_1 : decode prog_32_method_1_code 1 = .ok (.invokespecial 1, 3) := by decide +kernel
theorem d1_4 : decode prog_32_method_1_code 4 = .ok (.aload_n 0, 1) := by decide +kernel
theorem d1_5 : decode prog_32_method_1_code 5 = .ok (.lload_n 1, 1) := by decide +kernel
theorem d1_6 : decode prog_32_method_1_code 6 = .ok (.putfield 7, 3) := by decide +kernel
theorem d1_9 : decode prog_32_method_1_code 9 = .ok (.aload_n 0, 1) := by decide +kernel
theorem d1_10 : decode prog_32_method_1_code 10 = .ok (.lload_n 3, 1) := by decide +kernel
theorem d1_11 : decode prog_32_method_1_code 11 = .ok (.putfield 13, 3) := by decide +kernel
theorem d1_14 : decode prog_32_method_1_code 14 = .ok (.return_, 1) := by decide +kernel
theorem ef_1 (m : MethodId) (x0 : Addr) (x1 : Int64) (x2 : Int64) : entryFrame m #[(.ref x0), (.long x1), (.long x2)] 5 = mkF m 0 #[.val (.ref x0), .val (.long x1), .second, .val (.long x2), .second] [] := by first | (simp [entryFrame, mkF, argsToLocals, Value.category]; done) | rfl
def Q1 (Z : State) (o0 : Addr) (q1 : Int64) (q2 : Int64) (u1 : Value) (u2 : Value) (h0 : Heap) (n0 : Nat) (v : Option Value) (h : Heap) (L : List Loc) : Prop := v = none ∧ Fr n0 L ∧ Keep h0 h [o0] ∧ Exa Z h o0 "com/example/eager_sieve/eagersieve/server/FilterMemory" ∧ Fld Z h o0 "com/example/eager_sieve/eagersieve/server/FilterMemory" "limit" "J" (.long q1) ∧ Fld Z h o0 "com/example/eager_sieve/eagersieve/server/FilterMemory" "regionBytes" "J" (.long q2)
set_option maxRecDepth 65536 in
set_option maxHeartbeats 40000000 in
theorem rm1 (l : Launch) (Z : State) (a0 : Array Value) (hw : ∀ d ∈ tables_1, d.before a0 Z = true) (ws : List Jvm.Cond) (o0 : Addr) (q1 : Int64) (q2 : Int64) (u1 : Value) (u2 : Value) (h0 : Heap) (n0 : Nat) (Z0 : n0 ≤ h0.size) (F_limit_o0 : Fld Z h0 o0 "com/example/eager_sieve/eagersieve/server/FilterMemory" "limit" "J" u1) (F_regionBytes_o0 : Fld Z h0 o0 "com/example/eager_sieve/eagersieve/server/FilterMemory" "regionBytes" "J" u2) (E_o0 : Exa Z h0 o0 "com/example/eager_sieve/eagersieve/server/FilterMemory") (g_o0 : n0 ≤ o0) :
    MetFree l (⟨"com/example/eager_sieve/eagersieve/server/FilterMemory", "<init>", "(JJ)V"⟩ : MethodName) (head1 (Jvm.Cond.code (⟨"com/example/eager_sieve/eagersieve/server/FilterMemory", "<init>", "(JJ)V"⟩ : MethodName) prog_32_method_1_code 5 none :: ws) ({ frames := 1, cells := 0, slots := 0, locals := 12 } : Room)) (fun a U => a = #[(.ref o0), (.long q1), (.long q2)] ∧ Z.Warmed39 U.vm ∧ U.heap = h0) (fun _ _ _ _ _ => True) (fun _ U o U' => ∃ v L, o = .returned v ∧ Q1 Z o0 q1 q2 u1 u2 h0 n0 v U'.heap L ∧ FrameEnd U o U' L ({ frames := 1, cells := 0, slots := 0, locals := 12 } : Room).cells ({ frames := 1, cells := 0, slots := 0, locals := 12 } : Room).slots) := by
  refine MetFree.of_bodySF (plainFor_of_name pn_0) hisR ?_
  intro p e s m args below meth c s₁ Bd hml0 hP hK
  obtain ⟨rfl, hZ, hh⟩ := hP
  have hx := Bd.exec
  have hby := Bd.bytes
  have hml : c.maxLocals = 5 := hml0
  have hown : s.vm.findClass "com/example/eager_sieve/eagersieve/server/FilterMemory" = some m.cls := findClass_of_methodNamed Bd.named
  have hnm := (name_of_methodNamed Bd.named Bd.method).1
  have X0 : Stand p l e ({ frames := 1, cells := 0, slots := 0, locals := 12 } : Room) s m #[(.ref o0), (.long q1), (.long q2)] below meth c s₁ [] 0 0 := Stand.of_body Bd
  have e0 : s₁.heap = h0 := by rw [← hh, Bd.state]; rfl
  have N0 := Fr.nil n0
  have pre0 : ∀ t, Steps p.tables e below (s₁.setTop (mkF m 0 #[.val (.ref o0), .val (.long q1), .second, .val (.long q2), .second] [])) t → Steps p.tables e below (s₁.setTop (entryFrame m #[(.ref o0), (.long q1), (.long q2)] 5)) t := fun t k => castTop (ef_1 m o0 q1 q2) k
  obtain ⟨T1, X1, e1, st1⟩ := initO X0 hx hZ hown (hw _ (List.mem_of_getElem? (i := 11) rfl)) (hw _ (List.mem_of_getElem? (i := 12) rfl)) (hw _ (List.mem_of_getElem? (i := 13) rfl)) e0 (g := (mkF m 1 #[.val (.ref o0), .val (.long q1), .second, .val (.long q2), .second] [(.ref o0)])) rfl (by rw [hml]; rfl) rfl (hb hby d1_1) (by decide) (W := 0) (by show 2 * 0 + _ ≤ _; exact Nat.le_of_eq rfl) (by decide)
  obtain ⟨T2, h2, X2, e2, W2, st2⟩ := putF X1 hx hZ hown (host := "") (Or.inl (hw _ (List.mem_of_getElem? (i := 14) rfl))) Via.refl e1 F_limit_o0 E_o0 (Or.inr ⟨(hw _ (List.mem_of_getElem? (i := 15) rfl)), rfl, hnm⟩) (hw _ (List.mem_of_getElem? (i := 6) rfl)) (ty := .long) (by decide) rfl rfl (g := (mkF m 6 #[.val (.ref o0), .val (.long q1), .second, .val (.long q2), .second] [(.long q1), (.ref o0)])) rfl rfl (hb hby d1_6)
  have Fw2 := F_limit_o0.same W2
  have KK2 : Keep h0 h2 [o0] := (Keep.refl h0 [o0]).wr W2 (Or.inl (List.mem_of_getElem? (i := 0) rfl))
  have N2 := Fr.snoc X2 N0 g_o0
  obtain ⟨T3, h3, X3, e3, W3, st3⟩ := putF X2 hx hZ hown (host := "") (Or.inl (hw _ (List.mem_of_getElem? (i := 16) rfl))) Via.refl e2 (F_regionBytes_o0.other W2 (Or.inr (slot_ne (Or.inr (hw _ (List.mem_of_getElem? (i := 17) rfl))) (Or.inr (hw _ (List.mem_of_getElem? (i := 15) rfl))) (by decide) (t := .long) (t' := .long) (by decide) (by decide)))) (E_o0.wr W2) (Or.inr ⟨(hw _ (List.mem_of_getElem? (i := 17) rfl)), rfl, hnm⟩) (hw _ (List.mem_of_getElem? (i := 6) rfl)) (ty := .long) (by decide) rfl rfl (g := (mkF m 11 #[.val (.ref o0), .val (.long q1), .second, .val (.long q2), .second] [(.long q2), (.ref o0)])) rfl rfl (hb hby d1_11)
  have Fw3 := (F_regionBytes_o0.other W2 (Or.inr (slot_ne (Or.inr (hw _ (List.mem_of_getElem? (i := 17) rfl))) (Or.inr (hw _ (List.mem_of_getElem? (i := 15) rfl))) (by decide) (t := .long) (t' := .long) (by decide) (by decide)))).same W3
  have KK3 : Keep h0 h3 [o0] := KK2.wr W3 (Or.inl (List.mem_of_getElem? (i := 0) rfl))
  have N3 := Fr.snoc X3 N2 g_o0
  have pre4 : ∀ t, Steps p.tables e below (T3.setTop (mkF m 14 #[.val (.ref o0), .val (.long q1), .second, .val (.long q2), .second] [])) t → Steps p.tables e below (s₁.setTop (entryFrame m #[(.ref o0), (.long q1), (.long q2)] 5)) t := fun t k => pre0 t (by
    show Steps p.tables e below (s₁.setTop (mkF m 0 #[.val (.ref o0), .val (.long q1), .second, .val (.long q2), .second] [])) _
    refine XS.aloadN X0.here hx rfl (hb hby d1_0) rfl rfl ?_
    show Steps p.tables e below (s₁.setTop (mkF m 1 #[.val (.ref o0), .val (.long q1), .second, .val (.long q2), .second] [(.ref o0)])) _
    refine st1 _ ?_
    show Steps p.tables e below (T1.setTop (mkF m 4 #[.val (.ref o0), .val (.long q1), .second, .val (.long q2), .second] [])) _
    refine XS.aloadN X1.here hx rfl (hb hby d1_4) rfl rfl ?_
    show Steps p.tables e below (T1.setTop (mkF m 5 #[.val (.ref o0), .val (.long q1), .second, .val (.long q2), .second] [(.ref o0)])) _
    refine XS.lloadN X1.here hx rfl (hb hby d1_5) rfl ?_
    show Steps p.tables e below (T1.setTop (mkF m 6 #[.val (.ref o0), .val (.long q1), .second, .val (.long q2), .second] [(.long q1), (.ref o0)])) _
    refine st2 _ ?_
    show Steps p.tables e below (T2.setTop (mkF m 9 #[.val (.ref o0), .val (.long q1), .second, .val (.long q2), .second] [])) _
    refine XS.aloadN X2.here hx rfl (hb hby d1_9) rfl rfl ?_
    show Steps p.tables e below (T2.setTop (mkF m 10 #[.val (.ref o0), .val (.long q1), .second, .val (.long q2), .second] [(.ref o0)])) _
    refine XS.lloadN X2.here hx rfl (hb hby d1_10) rfl ?_
    show Steps p.tables e below (T2.setTop (mkF m 11 #[.val (.ref o0), .val (.long q1), .second, .val (.long q2), .second] [(.long q2), (.ref o0)])) _
    refine st3 _ ?_
    exact k)
  obtain ⟨fs, hr, hrun, hended, hW, hsame⟩ := X3.leave (v := none) (fun _ => rfl)
  refine ⟨_, _, pre4 _ ?_, hrun, hended, _, _, rfl, ?_, ⟨_, rfl⟩, hW, hsame.mono (by decide) (by decide)⟩
  · exact X3.returnOut hx Bd.returns (hb hby d1_14) hr
  · show Q1 Z o0 q1 q2 u1 u2 h0 n0 _ T3.heap _
    rw [e3]
    exact ⟨rfl, N3, KK3, ((E_o0.wr W2).wr W3), (Fw2.other W3 (Or.inr (slot_ne (Or.inr (hw _ (List.mem_of_getElem? (i := 15) rfl))) (Or.inr (hw _ (List.mem_of_getElem? (i := 17) rfl))) (by decide) (t := .long) (t' := .long) (by decide) (by decide)))), Fw3⟩
theorem d3_0 : decode prog_32_method_4_code 0 = .ok (.ldc2_w 36, 3) := by decide +kernel
theorem d3_3 : decode prog_32_method_4_code 3 = .ok (.lload_n 1, 1) := by decide +kernel
theorem d3_4 : decode prog_32_method_4_code 4 = .ok (.ldc2_w 40, 3) := by decide +kernel
theorem d3_7 : decode prog_32_method_4_code 7 = .ok (.ldiv, 1) := by decide +kernel
theorem d3_8 : decode prog_32_method_4_code 8 = .ok (.ladd, 1) := by decide +kernel
theorem d3_9 : decode prog_32_method_4_code 9 = .ok (.lstore_n 3, 1) := by decide +kernel
theorem d3_10 : decode prog_32_method_4_code 10 = .ok (.aload_n 0, 1) := by decide +kernel
theorem d3_11 : decode prog_32_method_4_code 11 = .ok (.getfield 13, 3) := by decide +kernel
theorem d3_14 : decode prog_32_method_4_code 14 = .ok (.lconst 0, 1) := by decide +kernel
theorem d3_15 : decode prog_32_method_4_code 15 = .ok (.lcmp, 1) := by decide +kernel
theorem d3_16 : decode prog_32_method_4_code 16 = .ok (.ifCond .eq 16, 3) := by decide +kernel
theorem d3_32 : decode prog_32_method_4_code 32 = .ok (.lload_n 3, 1) := by decide +kernel
theorem d3_33 : decode prog_32_method_4_code 33 = .ok (.lreturn, 1) := by decide +kernel
theorem d3_19 : decode prog_32_method_4_code 19 = .ok (.lload_n 3, 1) := by decide +kernel
theorem d3_20 : decode prog_32_method_4_code 20 = .ok (.aload_n 0, 1) := by decide +kernel
theorem d3_21 : decode prog_32_method_4_code 21 = .ok (.getfield 13, 3) := by decide +kernel
theorem d3_24 : decode prog_32_method_4_code 24 = .ok (.ldc2_w 42, 3) := by decide +kernel
theorem d3_27 : decode prog_32_method_4_code 27 = .ok (.ldiv, 1) := by decide +kernel
theorem d3_28 : decode prog_32_method_4_code 28 = .ok (.lcmp, 1) := by decide +kernel
theorem d3_29 : decode prog_32_method_4_code 29 = .ok (.ifCond .ge 5, 3) := by decide +kernel
theorem d3_34 : decode prog_32_method_4_code 34 = .ok (.lload_n 3, 1) := by decide +kernel
theorem d3_35 : decode prog_32_method_4_code 35 = .ok (.aload_n 0, 1) := by decide +kernel
theorem d3_36 : decode prog_32_method_4_code 36 = .ok (.getfield 13, 3) := by decide +kernel
theorem d3_39 : decode prog_32_method_4_code 39 = .ok (.ladd, 1) := by decide +kernel
theorem d3_40 : decode prog_32_method_4_code 40 = .ok (.lconst 1, 1) := by decide +kernel
theorem d3_41 : decode prog_32_method_4_code 41 = .ok (.lsub, 1) := by decide +kernel
theorem d3_42 : decode prog_32_method_4_code 42 = .ok (.aload_n 0, 1) := by decide +kernel
theorem d3_43 : decode prog_32_method_4_code 43 = .ok (.getfield 13, 3) := by decide +kernel
theorem d3_46 : decode prog_32_method_4_code 46 = .ok (.ldiv, 1) := by decide +kernel
theorem d3_47 : decode prog_32_method_4_code 47 = .ok (.aload_n 0, 1) := by decide +kernel
theorem d3_48 : decode prog_32_method_4_code 48 = .ok (.getfield 13, 3) := by decide +kernel
theorem d3_51 : decode prog_32_method_4_code 51 = .ok (.lmul, 1) := by decide +kernel
theorem d3_52 : decode prog_32_method_4_code 52 = .ok (.lreturn, 1) := by decide +kernel
theorem ef_3 (m : MethodId) (x0 : Addr) (x1 : Int64) : entryFrame m #[(.ref x0), (.long x1)] 5 = mkF m 0 #[.val (.ref x0), .val (.long x1), .second, .unset, .unset] [] := by first | (simp [entryFrame, mkF, argsToLocals, Value.category]; done) | rfl
def Q3 (Z : State) (o0 : Addr) (q1 : Int64) (r : Int64) (h0 : Heap) (n0 : Nat) (v : Option Value) (h : Heap) (L : List Loc) : Prop := v = some (.long (own_ab q1 r)) ∧ Fr n0 L ∧ h = h0
set_option maxRecDepth 65536 in
set_option maxHeartbeats 40000000 in
theorem rm3 (l : Launch) (Z : State) (a0 : Array Value) (hw : ∀ d ∈ tables_1, d.before a0 Z = true) (ws : List Jvm.Cond) (o0 : Addr) (q1 : Int64) (r : Int64) (h0 : Heap) (n0 : Nat) (Z0 : n0 ≤ h0.size) (F_regionBytes_o0 : Fld Z h0 o0 "com/example/eager_sieve/eagersieve/server/FilterMemory" "regionBytes" "J" (.long r)) :
    MetFree l (⟨"com/example/eager_sieve/eagersieve/server/FilterMemory", "arrayBytes", "(J)J"⟩ : MethodName) (head1 (Jvm.Cond.code (⟨"com/example/eager_sieve/eagersieve/server/FilterMemory", "arrayBytes", "(J)J"⟩ : MethodName) prog_32_method_4_code 5 (some .long) :: ws) ({ frames := 0, cells := 0, slots := 0, locals := 0 } : Room)) (fun a U => a = #[(.ref o0), (.long q1)] ∧ Z.Warmed39 U.vm ∧ U.heap = h0) (fun _ _ _ _ _ => True) (fun _ U o U' => ∃ v L, o = .returned v ∧ Q3 Z o0 q1 r h0 n0 v U'.heap L ∧ FrameEnd U o U' L ({ frames := 0, cells := 0, slots := 0, locals := 0 } : Room).cells ({ frames := 0, cells := 0, slots := 0, locals := 0 } : Room).slots) := by
  refine MetFree.of_bodySF (plainFor_of_name pn_0) hisR ?_
  intro p e s m args below meth c s₁ Bd hml0 hP hK
  obtain ⟨rfl, hZ, hh⟩ := hP
  have hx := Bd.exec
  have hby := Bd.bytes
  have hml : c.maxLocals = 5 := hml0
  have hown : s.vm.findClass "com/example/eager_sieve/eagersieve/server/FilterMemory" = some m.cls := findClass_of_methodNamed Bd.named
  have hnm := (name_of_methodNamed Bd.named Bd.method).1
  have X0 : Stand p l e ({ frames := 0, cells := 0, slots := 0, locals := 0 } : Room) s m #[(.ref o0), (.long q1)] below meth c s₁ [] 0 0 := Stand.of_body Bd
  have e0 : s₁.heap = h0 := by rw [← hh, Bd.state]; rfl
  have N0 := Fr.nil n0
  have pre0 : ∀ t, Steps p.tables e below (s₁.setTop (mkF m 0 #[.val (.ref o0), .val (.long q1), .second, .unset, .unset] [])) t → Steps p.tables e below (s₁.setTop (entryFrame m #[(.ref o0), (.long q1)] 5)) t := fun t k => castTop (ef_3 m o0 q1) k
  obtain ⟨T1, X1, e1, st1⟩ := getF X0 hx hZ hown (host := "") (Or.inl (hw _ (List.mem_of_getElem? (i := 16) rfl))) Via.refl e0 F_regionBytes_o0 (g := (mkF m 11 #[.val (.ref o0), .val (.long q1), .second, .val (.long ((16 : Int64) + (q1 / (8 : Int64)))), .second] [(.ref o0)])) rfl rfl (hb hby d3_11)
  have pre2 : ∀ t, Steps p.tables e below (T1.setTop (mkF m 16 #[.val (.ref o0), .val (.long q1), .second, .val (.long ((16 : Int64) + (q1 / (8 : Int64)))), .second] [(.int (lcmpW r (0 : Int64)))])) t → Steps p.tables e below (s₁.setTop (entryFrame m #[(.ref o0), (.long q1)] 5)) t := fun t k => pre0 t (by
    show Steps p.tables e below (s₁.setTop (mkF m 0 #[.val (.ref o0), .val (.long q1), .second, .unset, .unset] [])) _
    refine X0.ldc2Long hx hown (mvT hZ (hw _ (List.mem_of_getElem? (i := 23) rfl))) (g := (mkF m 0 #[.val (.ref o0), .val (.long q1), .second, .unset, .unset] [])) rfl (hb hby d3_0) _ ?_
    show Steps p.tables e below (s₁.setTop (mkF m 3 #[.val (.ref o0), .val (.long q1), .second, .unset, .unset] [(.long (16 : Int64))])) _
    refine XS.lloadN X0.here hx rfl (hb hby d3_3) rfl ?_
    show Steps p.tables e below (s₁.setTop (mkF m 4 #[.val (.ref o0), .val (.long q1), .second, .unset, .unset] [(.long q1), (.long (16 : Int64))])) _
    refine X0.ldc2Long hx hown (mvT hZ (hw _ (List.mem_of_getElem? (i := 24) rfl))) (g := (mkF m 4 #[.val (.ref o0), .val (.long q1), .second, .unset, .unset] [(.long q1), (.long (16 : Int64))])) rfl (hb hby d3_4) _ ?_
    show Steps p.tables e below (s₁.setTop (mkF m 7 #[.val (.ref o0), .val (.long q1), .second, .unset, .unset] [(.long (8 : Int64)), (.long q1), (.long (16 : Int64))])) _
    refine XS.ldiv X0.here hx rfl (hb hby d3_7) rfl (by decide) ?_
    show Steps p.tables e below (s₁.setTop (mkF m 8 #[.val (.ref o0), .val (.long q1), .second, .unset, .unset] [(.long (q1 / (8 : Int64))), (.long (16 : Int64))])) _
    refine XS.ladd X0.here hx rfl (hb hby d3_8) rfl ?_
    show Steps p.tables e below (s₁.setTop (mkF m 9 #[.val (.ref o0), .val (.long q1), .second, .unset, .unset] [(.long ((16 : Int64) + (q1 / (8 : Int64))))])) _
    refine XS.lstoreN X0.here hx rfl (hb hby d3_9) rfl (l' := #[.val (.ref o0), .val (.long q1), .second, .val (.long ((16 : Int64) + (q1 / (8 : Int64)))), .second]) rfl ?_
    show Steps p.tables e below (s₁.setTop (mkF m 10 #[.val (.ref o0), .val (.long q1), .second, .val (.long ((16 : Int64) + (q1 / (8 : Int64)))), .second] [])) _
    refine XS.aloadN X0.here hx rfl (hb hby d3_10) rfl rfl ?_
    show Steps p.tables e below (s₁.setTop (mkF m 11 #[.val (.ref o0), .val (.long q1), .second, .val (.long ((16 : Int64) + (q1 / (8 : Int64)))), .second] [(.ref o0)])) _
    refine st1 _ ?_
    show Steps p.tables e below (T1.setTop (mkF m 14 #[.val (.ref o0), .val (.long q1), .second, .val (.long ((16 : Int64) + (q1 / (8 : Int64)))), .second] [(.long r)])) _
    refine XS.lconst X1.here hx rfl (hb hby d3_14) ?_
    show Steps p.tables e below (T1.setTop (mkF m 15 #[.val (.ref o0), .val (.long q1), .second, .val (.long ((16 : Int64) + (q1 / (8 : Int64)))), .second] [(.long (0 : Int64)), (.long r)])) _
    refine XS.lcmp X1.here hx rfl (hb hby d3_15) rfl ?_
    exact k)
  by_cases hc16_3 : r = (0 : Int64)
  · have pre4 : ∀ t, Steps p.tables e below (T1.setTop (mkF m 33 #[.val (.ref o0), .val (.long q1), .second, .val (.long ((16 : Int64) + (q1 / (8 : Int64)))), .second] [(.long ((16 : Int64) + (q1 / (8 : Int64))))])) t → Steps p.tables e below (s₁.setTop (entryFrame m #[(.ref o0), (.long q1)] 5)) t := fun t k => pre2 t (by
      show Steps p.tables e below (T1.setTop (mkF m 16 #[.val (.ref o0), .val (.long q1), .second, .val (.long ((16 : Int64) + (q1 / (8 : Int64)))), .second] [(.int (lcmpW r (0 : Int64)))])) _
      refine XS.ifYes X1.here hx rfl (pc0 := 16) (pc' := 32) rfl (hb hby d3_16) rfl ((if0 _ _).trans (teq ((lw_eq _ _).mpr hc16_3)).1) (by decide) (by decide) ?_
      show Steps p.tables e below (T1.setTop (mkF m 32 #[.val (.ref o0), .val (.long q1), .second, .val (.long ((16 : Int64) + (q1 / (8 : Int64)))), .second] [])) _
      refine XS.lloadN X1.here hx rfl (hb hby d3_32) rfl ?_
      exact k)
    obtain ⟨fs, hr, hrun, hended, hW, hsame⟩ := X1.leave (v := some (.long ((16 : Int64) + (q1 / (8 : Int64))))) (fun h => by rw [Bd.returns] at h; cases h)
    refine ⟨_, _, pre4 _ ?_, hrun, hended, _, _, rfl, ?_, ⟨_, rfl⟩, hW, hsame.mono (by decide) (by decide)⟩
    · show Steps p.tables e below (T1.setTop (mkF m 33 #[.val (.ref o0), .val (.long q1), .second, .val (.long ((16 : Int64) + (q1 / (8 : Int64)))), .second] [(.long ((16 : Int64) + (q1 / (8 : Int64))))])) _
      jvm_step X1.here [X1.here.top, hx, (hb hby d3_33), X1.method', Bd.returns, narrow]
      first | (intro acts; rw [hr _ acts rfl rfl rfl]) | rw [hr _ _ rfl rfl rfl]
      exact Steps.refl _
    · show Q3 Z o0 q1 r h0 n0 _ T1.heap _
      rw [e1]
      exact ⟨by unfold own_ab; simp only [hc16_3, if_true, if_false, reduceIte], N0, rfl⟩
  · obtain ⟨T5, X5, e5, st5⟩ := getF X1 hx hZ hown (host := "") (Or.inl (hw _ (List.mem_of_getElem? (i := 16) rfl))) Via.refl e1 F_regionBytes_o0 (g := (mkF m 21 #[.val (.ref o0), .val (.long q1), .second, .val (.long ((16 : Int64) + (q1 / (8 : Int64)))), .second] [(.ref o0), (.long ((16 : Int64) + (q1 / (8 : Int64))))])) rfl rfl (hb hby d3_21)
    have pre6 : ∀ t, Steps p.tables e below (T5.setTop (mkF m 29 #[.val (.ref o0), .val (.long q1), .second, .val (.long ((16 : Int64) + (q1 / (8 : Int64)))), .second] [(.int (lcmpW ((16 : Int64) + (q1 / (8 : Int64))) (r / (2 : Int64))))])) t → Steps p.tables e below (s₁.setTop (entryFrame m #[(.ref o0), (.long q1)] 5)) t := fun t k => pre2 t (by
      show Steps p.tables e below (T1.setTop (mkF m 16 #[.val (.ref o0), .val (.long q1), .second, .val (.long ((16 : Int64) + (q1 / (8 : Int64)))), .second] [(.int (lcmpW r (0 : Int64)))])) _
      refine XS.ifNo X1.here hx rfl (hb hby d3_16) rfl ((if0 _ _).trans (feq (fun q => hc16_3 ((lw_eq _ _).mp q))).1) ?_
      show Steps p.tables e below (T1.setTop (mkF m 19 #[.val (.ref o0), .val (.long q1), .second, .val (.long ((16 : Int64) + (q1 / (8 : Int64)))), .second] [])) _
      refine XS.lloadN X1.here hx rfl (hb hby d3_19) rfl ?_
      show Steps p.tables e below (T1.setTop (mkF m 20 #[.val (.ref o0), .val (.long q1), .second, .val (.long ((16 : Int64) + (q1 / (8 : Int64)))), .second] [(.long ((16 : Int64) + (q1 / (8 : Int64))))])) _
      refine XS.aloadN X1.here hx rfl (hb hby d3_20) rfl rfl ?_
      show Steps p.tables e below (T1.setTop (mkF m 21 #[.val (.ref o0), .val (.long q1), .second, .val (.long ((16 : Int64) + (q1 / (8 : Int64)))), .second] [(.ref o0), (.long ((16 : Int64) + (q1 / (8 : Int64))))])) _
      refine st5 _ ?_
      show Steps p.tables e below (T5.setTop (mkF m 24 #[.val (.ref o0), .val (.long q1), .second, .val (.long ((16 : Int64) + (q1 / (8 : Int64)))), .second] [(.long r), (.long ((16 : Int64) + (q1 / (8 : Int64))))])) _
      refine X5.ldc2Long hx hown (mvT hZ (hw _ (List.mem_of_getElem? (i := 25) rfl))) (g := (mkF m 24 #[.val (.ref o0), .val (.long q1), .second, .val (.long ((16 : Int64) + (q1 / (8 : Int64)))), .second] [(.long r), (.long ((16 : Int64) + (q1 / (8 : Int64))))])) rfl (hb hby d3_24) _ ?_
      show Steps p.tables e below (T5.setTop (mkF m 27 #[.val (.ref o0), .val (.long q1), .second, .val (.long ((16 : Int64) + (q1 / (8 : Int64)))), .second] [(.long (2 : Int64)), (.long r), (.long ((16 : Int64) + (q1 / (8 : Int64))))])) _
      refine XS.ldiv X5.here hx rfl (hb hby d3_27) rfl (by decide) ?_
      show Steps p.tables e below (T5.setTop (mkF m 28 #[.val (.ref o0), .val (.long q1), .second, .val (.long ((16 : Int64) + (q1 / (8 : Int64)))), .second] [(.long (r / (2 : Int64))), (.long ((16 : Int64) + (q1 / (8 : Int64))))])) _
      refine XS.lcmp X5.here hx rfl (hb hby d3_28) rfl ?_
      exact k)
    by_cases hc29_7 : ((16 : Int64) + (q1 / (8 : Int64))) < (r / (2 : Int64))
    · have pre8 : ∀ t, Steps p.tables e below (T5.setTop (mkF m 33 #[.val (.ref o0), .val (.long q1), .second, .val (.long ((16 : Int64) + (q1 / (8 : Int64)))), .second] [(.long ((16 : Int64) + (q1 / (8 : Int64))))])) t → Steps p.tables e below (s₁.setTop (entryFrame m #[(.ref o0), (.long q1)] 5)) t := fun t k => pre6 t (by
        show Steps p.tables e below (T5.setTop (mkF m 29 #[.val (.ref o0), .val (.long q1), .second, .val (.long ((16 : Int64) + (q1 / (8 : Int64)))), .second] [(.int (lcmpW ((16 : Int64) + (q1 / (8 : Int64))) (r / (2 : Int64))))])) _
        refine XS.ifNo X5.here hx rfl (hb hby d3_29) rfl ((if0 _ _).trans (tlt ((lw_lt _ _).mpr hc29_7)).2.1) ?_
        show Steps p.tables e below (T5.setTop (mkF m 32 #[.val (.ref o0), .val (.long q1), .second, .val (.long ((16 : Int64) + (q1 / (8 : Int64)))), .second] [])) _
        refine XS.lloadN X5.here hx rfl (hb hby d3_32) rfl ?_
        exact k)
      obtain ⟨fs, hr, hrun, hended, hW, hsame⟩ := X5.leave (v := some (.long ((16 : Int64) + (q1 / (8 : Int64))))) (fun h => by rw [Bd.returns] at h; cases h)
      refine ⟨_, _, pre8 _ ?_, hrun, hended, _, _, rfl, ?_, ⟨_, rfl⟩, hW, hsame.mono (by decide) (by decide)⟩
      · show Steps p.tables e below (T5.setTop (mkF m 33 #[.val (.ref o0), .val (.long q1), .second, .val (.long ((16 : Int64) + (q1 / (8 : Int64)))), .second] [(.long ((16 : Int64) + (q1 / (8 : Int64))))])) _
        jvm_step X5.here [X5.here.top, hx, (hb hby d3_33), X5.method', Bd.returns, narrow]
        first | (intro acts; rw [hr _ acts rfl rfl rfl]) | rw [hr _ _ rfl rfl rfl]
        exact Steps.refl _
      · show Q3 Z o0 q1 r h0 n0 _ T5.heap _
        rw [e5]
        exact ⟨by unfold own_ab; simp only [hc16_3, hc29_7, if_true, if_false, reduceIte], N0, rfl⟩
    · obtain ⟨T9, X9, e9, st9⟩ := getF X5 hx hZ hown (host := "") (Or.inl (hw _ (List.mem_of_getElem? (i := 16) rfl))) Via.refl e5 F_regionBytes_o0 (g := (mkF m 36 #[.val (.ref o0), .val (.long q1), .second, .val (.long ((16 : Int64) + (q1 / (8 : Int64)))), .second] [(.ref o0), (.long ((16 : Int64) + (q1 / (8 : Int64))))])) rfl rfl (hb hby d3_36)
      obtain ⟨T10, X10, e10, st10⟩ := getF X9 hx hZ hown (host := "") (Or.inl (hw _ (List.mem_of_getElem? (i := 16) rfl))) Via.refl e9 F_regionBytes_o0 (g := (mkF m 43 #[.val (.ref o0), .val (.long q1), .second, .val (.long ((16 : Int64) + (q1 / (8 : Int64)))), .second] [(.ref o0), (.long ((((16 : Int64) + (q1 / (8 : Int64))) + r) - (1 : Int64)))])) rfl rfl (hb hby d3_43)
      obtain ⟨T11, X11, e11, st11⟩ := getF X10 hx hZ hown (host := "") (Or.inl (hw _ (List.mem_of_getElem? (i := 16) rfl))) Via.refl e10 F_regionBytes_o0 (g := (mkF m 48 #[.val (.ref o0), .val (.long q1), .second, .val (.long ((16 : Int64) + (q1 / (8 : Int64)))), .second] [(.ref o0), (.long (((((16 : Int64) + (q1 / (8 : Int64))) + r) - (1 : Int64)) / r))])) rfl rfl (hb hby d3_48)
      have pre12 : ∀ t, Steps p.tables e below (T11.setTop (mkF m 52 #[.val (.ref o0), .val (.long q1), .second, .val (.long ((16 : Int64) + (q1 / (8 : Int64)))), .second] [(.long ((((((16 : Int64) + (q1 / (8 : Int64))) + r) - (1 : Int64)) / r) * r))])) t → Steps p.tables e below (s₁.setTop (entryFrame m #[(.ref o0), (.long q1)] 5)) t := fun t k => pre6 t (by
        show Steps p.tables e below (T5.setTop (mkF m 29 #[.val (.ref o0), .val (.long q1), .second, .val (.long ((16 : Int64) + (q1 / (8 : Int64)))), .second] [(.int (lcmpW ((16 : Int64) + (q1 / (8 : Int64))) (r / (2 : Int64))))])) _
        refine XS.ifYes X5.here hx rfl (pc0 := 29) (pc' := 34) rfl (hb hby d3_29) rfl ((if0 _ _).trans (flt (fun q => hc29_7 ((lw_lt _ _).mp q))).2.1) (by decide) (by decide) ?_
        show Steps p.tables e below (T5.setTop (mkF m 34 #[.val (.ref o0), .val (.long q1), .second, .val (.long ((16 : Int64) + (q1 / (8 : Int64)))), .second] [])) _
        refine XS.lloadN X5.here hx rfl (hb hby d3_34) rfl ?_
        show Steps p.tables e below (T5.setTop (mkF m 35 #[.val (.ref o0), .val (.long q1), .second, .val (.long ((16 : Int64) + (q1 / (8 : Int64)))), .second] [(.long ((16 : Int64) + (q1 / (8 : Int64))))])) _
        refine XS.aloadN X5.here hx rfl (hb hby d3_35) rfl rfl ?_
        show Steps p.tables e below (T5.setTop (mkF m 36 #[.val (.ref o0), .val (.long q1), .second, .val (.long ((16 : Int64) + (q1 / (8 : Int64)))), .second] [(.ref o0), (.long ((16 : Int64) + (q1 / (8 : Int64))))])) _
        refine st9 _ ?_
        show Steps p.tables e below (T9.setTop (mkF m 39 #[.val (.ref o0), .val (.long q1), .second, .val (.long ((16 : Int64) + (q1 / (8 : Int64)))), .second] [(.long r), (.long ((16 : Int64) + (q1 / (8 : Int64))))])) _
        refine XS.ladd X9.here hx rfl (hb hby d3_39) rfl ?_
        show Steps p.tables e below (T9.setTop (mkF m 40 #[.val (.ref o0), .val (.long q1), .second, .val (.long ((16 : Int64) + (q1 / (8 : Int64)))), .second] [(.long (((16 : Int64) + (q1 / (8 : Int64))) + r))])) _
        refine XS.lconst X9.here hx rfl (hb hby d3_40) ?_
        show Steps p.tables e below (T9.setTop (mkF m 41 #[.val (.ref o0), .val (.long q1), .second, .val (.long ((16 : Int64) + (q1 / (8 : Int64)))), .second] [(.long (1 : Int64)), (.long (((16 : Int64) + (q1 / (8 : Int64))) + r))])) _
        refine XS.lsub X9.here hx rfl (hb hby d3_41) rfl ?_
        show Steps p.tables e below (T9.setTop (mkF m 42 #[.val (.ref o0), .val (.long q1), .second, .val (.long ((16 : Int64) + (q1 / (8 : Int64)))), .second] [(.long ((((16 : Int64) + (q1 / (8 : Int64))) + r) - (1 : Int64)))])) _
        refine XS.aloadN X9.here hx rfl (hb hby d3_42) rfl rfl ?_
        show Steps p.tables e below (T9.setTop (mkF m 43 #[.val (.ref o0), .val (.long q1), .second, .val (.long ((16 : Int64) + (q1 / (8 : Int64)))), .second] [(.ref o0), (.long ((((16 : Int64) + (q1 / (8 : Int64))) + r) - (1 : Int64)))])) _
        refine st10 _ ?_
        show Steps p.tables e below (T10.setTop (mkF m 46 #[.val (.ref o0), .val (.long q1), .second, .val (.long ((16 : Int64) + (q1 / (8 : Int64)))), .second] [(.long r), (.long ((((16 : Int64) + (q1 / (8 : Int64))) + r) - (1 : Int64)))])) _
        refine XS.ldiv X10.here hx rfl (hb hby d3_46) rfl hc16_3 ?_
        show Steps p.tables e below (T10.setTop (mkF m 47 #[.val (.ref o0), .val (.long q1), .second, .val (.long ((16 : Int64) + (q1 / (8 : Int64)))), .second] [(.long (((((16 : Int64) + (q1 / (8 : Int64))) + r) - (1 : Int64)) / r))])) _
        refine XS.aloadN X10.here hx rfl (hb hby d3_47) rfl rfl ?_
        show Steps p.tables e below (T10.setTop (mkF m 48 #[.val (.ref o0), .val (.long q1), .second, .val (.long ((16 : Int64) + (q1 / (8 : Int64)))), .second] [(.ref o0), (.long (((((16 : Int64) + (q1 / (8 : Int64))) + r) - (1 : Int64)) / r))])) _
        refine st11 _ ?_
        show Steps p.tables e below (T11.setTop (mkF m 51 #[.val (.ref o0), .val (.long q1), .second, .val (.long ((16 : Int64) + (q1 / (8 : Int64)))), .second] [(.long r), (.long (((((16 : Int64) + (q1 / (8 : Int64))) + r) - (1 : Int64)) / r))])) _
        refine XS.lmul X11.here hx rfl (hb hby d3_51) rfl ?_
        exact k)
      obtain ⟨fs, hr, hrun, hended, hW, hsame⟩ := X11.leave (v := some (.long ((((((16 : Int64) + (q1 / (8 : Int64))) + r) - (1 : Int64)) / r) * r))) (fun h => by rw [Bd.returns] at h; cases h)
      refine ⟨_, _, pre12 _ ?_, hrun, hended, _, _, rfl, ?_, ⟨_, rfl⟩, hW, hsame.mono (by decide) (by decide)⟩
      · show Steps p.tables e below (T11.setTop (mkF m 52 #[.val (.ref o0), .val (.long q1), .second, .val (.long ((16 : Int64) + (q1 / (8 : Int64)))), .second] [(.long ((((((16 : Int64) + (q1 / (8 : Int64))) + r) - (1 : Int64)) / r) * r))])) _
        jvm_step X11.here [X11.here.top, hx, (hb hby d3_52), X11.method', Bd.returns, narrow]
        first | (intro acts; rw [hr _ acts rfl rfl rfl]) | rw [hr _ _ rfl rfl rfl]
        exact Steps.refl _
      · show Q3 Z o0 q1 r h0 n0 _ T11.heap _
        rw [e11]
        exact ⟨by unfold own_ab; simp only [hc16_3, hc29_7, if_true, if_false, reduceIte], N0, rfl⟩
theorem pn_1 : plainName "com/example/eager_sieve/eagersieve/server/FilterMemoryArrayBytesPinLaw" = true := by first | (simp [plainName, overriddenIn]; done) | decide +kernel
theorem pd_0 : parseMethodDescriptor "(JJ)V" = some ⟨[.long, .long], none⟩ := by decide +kernel
theorem pd_1 : parseMethodDescriptor "(J)J" = some ⟨[.long], some .long⟩ := by decide +kernel
theorem ef_0 (m : MethodId) (x0 : Int64) (x1 : Int32) (x2 : Int32) (x3 : Int32) : entryFrame m #[(.long x0), (.int x1), (.int x2), (.int x3)] maxLocals = mkF m 0 #[.val (.long x0), .second, .val (.int x1), .val (.int x2), .val (.int x3), .unset, .unset, .unset, .unset, .unset, .unset, .unset, .unset, .unset, .unset, .unset] [] := by first | (simp [entryFrame, mkF, argsToLocals, Value.category, maxLocals]; done) | rfl
def Q0 (Z : State) (q0 : Int64) (p2 : Int32) (p3 : Int32) (p4 : Int32) (h0 : Heap) (n0 : Nat) (v : Option Value) (h : Heap) (L : List Loc) : Prop := v = some (.int 1) ∧ Fr n0 L
set_option maxRecDepth 65536 in
set_option maxHeartbeats 40000000 in
theorem rm0 (l : Launch) (Z : State) (a0 : Array Value) (hw : ∀ d ∈ tables_1, d.before a0 Z = true) (ws : List Jvm.Cond) (q0 : Int64) (p2 : Int32) (p3 : Int32) (p4 : Int32) (h0 : Heap) (n0 : Nat) (Z0 : n0 ≤ h0.size) :
    MetFree l x (head1 (Jvm.Cond.code x code maxLocals ret :: ws) room_1) (fun a U => a = #[(.long q0), (.int p2), (.int p3), (.int p4)] ∧ Z.Warmed39 U.vm ∧ U.heap = h0) (fun _ _ _ _ _ => True) (fun _ U o U' => ∃ v L, o = .returned v ∧ Q0 Z q0 p2 p3 p4 h0 n0 v U'.heap L ∧ FrameEnd U o U' L room_1.cells room_1.slots) := by
  refine MetFree.of_bodySF (plainFor_of_name pn_1) hisR ?_
  intro p e s m args below meth c s₁ Bd hml0 hP hK
  obtain ⟨rfl, hZ, hh⟩ := hP
  have hx := Bd.exec
  have hby := Bd.bytes
  have hml : c.maxLocals = 16 := hml0
  have hown : s.vm.findClass "com/example/eager_sieve/eagersieve/server/FilterMemoryArrayBytesPinLaw" = some m.cls := findClass_of_methodNamed Bd.named
  have hnm := (name_of_methodNamed Bd.named Bd.method).1
  have X0 : Stand p l e room_1 s m #[(.long q0), (.int p2), (.int p3), (.int p4)] below meth c s₁ [] 0 0 := Stand.of_body Bd
  have e0 : s₁.heap = h0 := by rw [← hh, Bd.state]; rfl
  have N0 := Fr.nil n0
  have pre0 : ∀ t, Steps p.tables e below (s₁.setTop (mkF m 0 #[.val (.long q0), .second, .val (.int p2), .val (.int p3), .val (.int p4), .unset, .unset, .unset, .unset, .unset, .unset, .unset, .unset, .unset, .unset, .unset] [])) t → Steps p.tables e below (s₁.setTop (entryFrame m #[(.long q0), (.int p2), (.int p3), (.int p4)] maxLocals)) t := fun t k => castTop (ef_0 m q0 p2 p3 p4) k
  obtain ⟨v1_0, hv1, prem1⟩ : ∃ (v1_0 : Int64), (0 ≤ v1_0.toInt ∧ v1_0.toInt < 17592186044416) ∧ ∀ t, Steps p.tables e below (s₁.setTop (mkF m 13 #[.val (.long q0), .second, .val (.int p2), .val (.int p3), .val (.int p4), .unset, .unset, .unset, .unset, .unset, .unset, .unset, .unset, .unset, .unset, .unset] [(.long v1_0)])) t → Steps p.tables e below (s₁.setTop (entryFrame m #[(.long q0), (.int p2), (.int p3), (.int p4)] maxLocals)) t := by
    have pre2 : ∀ t, Steps p.tables e below (s₁.setTop (mkF m 13 #[.val (.long q0), .second, .val (.int p2), .val (.int p3), .val (.int p4), .unset, .unset, .unset, .unset, .unset, .unset, .unset, .unset, .unset, .unset, .unset] [(.long (((q0 &&& (17592186044415 : Int64)).toUInt64 >>> (((p2 &&& (2147483647 : Int32)) % (45 : Int32)) &&& 0x3f).toInt64.toUInt64).toInt64))])) t → Steps p.tables e below (s₁.setTop (entryFrame m #[(.long q0), (.int p2), (.int p3), (.int p4)] maxLocals)) t := fun t k => pre0 t (by
      show Steps p.tables e below (s₁.setTop (mkF m 0 #[.val (.long q0), .second, .val (.int p2), .val (.int p3), .val (.int p4), .unset, .unset, .unset, .unset, .unset, .unset, .unset, .unset, .unset, .unset, .unset] [])) _
      refine XS.lloadN X0.here hx rfl (hb hby at_0) rfl ?_
      show Steps p.tables e below (s₁.setTop (mkF m 1 #[.val (.long q0), .second, .val (.int p2), .val (.int p3), .val (.int p4), .unset, .unset, .unset, .unset, .unset, .unset, .unset, .unset, .unset, .unset, .unset] [(.long q0)])) _
      refine X0.ldc2Long hx hown (mvT hZ (hw _ (List.mem_of_getElem? (i := 0) rfl))) (g := (mkF m 1 #[.val (.long q0), .second, .val (.int p2), .val (.int p3), .val (.int p4), .unset, .unset, .unset, .unset, .unset, .unset, .unset, .unset, .unset, .unset, .unset] [(.long q0)])) rfl (hb hby at_1) _ ?_
      show Steps p.tables e below (s₁.setTop (mkF m 4 #[.val (.long q0), .second, .val (.int p2), .val (.int p3), .val (.int p4), .unset, .unset, .unset, .unset, .unset, .unset, .unset, .unset, .unset, .unset, .unset] [(.long (17592186044415 : Int64)), (.long q0)])) _
      refine XS.land X0.here hx rfl (hb hby at_4) rfl ?_
      show Steps p.tables e below (s₁.setTop (mkF m 5 #[.val (.long q0), .second, .val (.int p2), .val (.int p3), .val (.int p4), .unset, .unset, .unset, .unset, .unset, .unset, .unset, .unset, .unset, .unset, .unset] [(.long (q0 &&& (17592186044415 : Int64)))])) _
      refine XS.iloadN X0.here hx rfl (hb hby at_5) rfl ?_
      show Steps p.tables e below (s₁.setTop (mkF m 6 #[.val (.long q0), .second, .val (.int p2), .val (.int p3), .val (.int p4), .unset, .unset, .unset, .unset, .unset, .unset, .unset, .unset, .unset, .unset, .unset] [(.int p2), (.long (q0 &&& (17592186044415 : Int64)))])) _
      refine X0.ldcInt hx hown (mvT hZ (hw _ (List.mem_of_getElem? (i := 1) rfl))) (g := (mkF m 6 #[.val (.long q0), .second, .val (.int p2), .val (.int p3), .val (.int p4), .unset, .unset, .unset, .unset, .unset, .unset, .unset, .unset, .unset, .unset, .unset] [(.int p2), (.long (q0 &&& (17592186044415 : Int64)))])) rfl (hb hby at_6) _ ?_
      show Steps p.tables e below (s₁.setTop (mkF m 8 #[.val (.long q0), .second, .val (.int p2), .val (.int p3), .val (.int p4), .unset, .unset, .unset, .unset, .unset, .unset, .unset, .unset, .unset, .unset, .unset] [(.int (2147483647 : Int32)), (.int p2), (.long (q0 &&& (17592186044415 : Int64)))])) _
      refine XS.iand X0.here hx rfl (hb hby at_8) rfl ?_
      show Steps p.tables e below (s₁.setTop (mkF m 9 #[.val (.long q0), .second, .val (.int p2), .val (.int p3), .val (.int p4), .unset, .unset, .unset, .unset, .unset, .unset, .unset, .unset, .unset, .unset, .unset] [(.int (p2 &&& (2147483647 : Int32))), (.long (q0 &&& (17592186044415 : Int64)))])) _
      refine XS.bipush X0.here hx rfl (hb hby at_9) ?_
      show Steps p.tables e below (s₁.setTop (mkF m 11 #[.val (.long q0), .second, .val (.int p2), .val (.int p3), .val (.int p4), .unset, .unset, .unset, .unset, .unset, .unset, .unset, .unset, .unset, .unset, .unset] [(.int (45 : Int32)), (.int (p2 &&& (2147483647 : Int32))), (.long (q0 &&& (17592186044415 : Int64)))])) _
      refine iremM X0 hx rfl (hb hby at_11) rfl (by decide) ?_
      show Steps p.tables e below (s₁.setTop (mkF m 12 #[.val (.long q0), .second, .val (.int p2), .val (.int p3), .val (.int p4), .unset, .unset, .unset, .unset, .unset, .unset, .unset, .unset, .unset, .unset, .unset] [(.int ((p2 &&& (2147483647 : Int32)) % (45 : Int32))), (.long (q0 &&& (17592186044415 : Int64)))])) _
      refine XS.lushr X0.here hx rfl (hb hby at_12) rfl ?_
      exact k)
    exact ⟨(((q0 &&& (17592186044415 : Int64)).toUInt64 >>> (((p2 &&& (2147483647 : Int32)) % (45 : Int32)) &&& 0x3f).toInt64.toUInt64).toInt64), own_words q0 p2, pre2⟩
  have pre3 : ∀ t, Steps p.tables e below (s₁.setTop (mkF m 35 #[.val (.long q0), .second, .val (.int p2), .val (.int p3), .val (.int p4), .val (.long v1_0), .second, .val (.long (v1_0 * (64 : Int64))), .second, .val (.long ((16 : Int64) + (v1_0 * (8 : Int64)))), .second, .unset, .unset, .unset, .unset, .unset] [])) t → Steps p.tables e below (s₁.setTop (entryFrame m #[(.long q0), (.int p2), (.int p3), (.int p4)] maxLocals)) t := fun t k => prem1 t (by
    show Steps p.tables e below (s₁.setTop (mkF m 13 #[.val (.long q0), .second, .val (.int p2), .val (.int p3), .val (.int p4), .unset, .unset, .unset, .unset, .unset, .unset, .unset, .unset, .unset, .unset, .unset] [(.long v1_0)])) _
    refine XS.lstore X0.here hx rfl (hb hby at_13) rfl (l' := #[.val (.long q0), .second, .val (.int p2), .val (.int p3), .val (.int p4), .val (.long v1_0), .second, .unset, .unset, .unset, .unset, .unset, .unset, .unset, .unset, .unset]) rfl ?_
    show Steps p.tables e below (s₁.setTop (mkF m 15 #[.val (.long q0), .second, .val (.int p2), .val (.int p3), .val (.int p4), .val (.long v1_0), .second, .unset, .unset, .unset, .unset, .unset, .unset, .unset, .unset, .unset] [])) _
    refine XS.lload X0.here hx rfl (hb hby at_15) rfl ?_
    show Steps p.tables e below (s₁.setTop (mkF m 17 #[.val (.long q0), .second, .val (.int p2), .val (.int p3), .val (.int p4), .val (.long v1_0), .second, .unset, .unset, .unset, .unset, .unset, .unset, .unset, .unset, .unset] [(.long v1_0)])) _
    refine X0.ldc2Long hx hown (mvT hZ (hw _ (List.mem_of_getElem? (i := 2) rfl))) (g := (mkF m 17 #[.val (.long q0), .second, .val (.int p2), .val (.int p3), .val (.int p4), .val (.long v1_0), .second, .unset, .unset, .unset, .unset, .unset, .unset, .unset, .unset, .unset] [(.long v1_0)])) rfl (hb hby at_17) _ ?_
    show Steps p.tables e below (s₁.setTop (mkF m 20 #[.val (.long q0), .second, .val (.int p2), .val (.int p3), .val (.int p4), .val (.long v1_0), .second, .unset, .unset, .unset, .unset, .unset, .unset, .unset, .unset, .unset] [(.long (64 : Int64)), (.long v1_0)])) _
    refine XS.lmul X0.here hx rfl (hb hby at_20) rfl ?_
    show Steps p.tables e below (s₁.setTop (mkF m 21 #[.val (.long q0), .second, .val (.int p2), .val (.int p3), .val (.int p4), .val (.long v1_0), .second, .unset, .unset, .unset, .unset, .unset, .unset, .unset, .unset, .unset] [(.long (v1_0 * (64 : Int64)))])) _
    refine XS.lstore X0.here hx rfl (hb hby at_21) rfl (l' := #[.val (.long q0), .second, .val (.int p2), .val (.int p3), .val (.int p4), .val (.long v1_0), .second, .val (.long (v1_0 * (64 : Int64))), .second, .unset, .unset, .unset, .unset, .unset, .unset, .unset]) rfl ?_
    show Steps p.tables e below (s₁.setTop (mkF m 23 #[.val (.long q0), .second, .val (.int p2), .val (.int p3), .val (.int p4), .val (.long v1_0), .second, .val (.long (v1_0 * (64 : Int64))), .second, .unset, .unset, .unset, .unset, .unset, .unset, .unset] [])) _
    refine X0.ldc2Long hx hown (mvT hZ (hw _ (List.mem_of_getElem? (i := 3) rfl))) (g := (mkF m 23 #[.val (.long q0), .second, .val (.int p2), .val (.int p3), .val (.int p4), .val (.long v1_0), .second, .val (.long (v1_0 * (64 : Int64))), .second, .unset, .unset, .unset, .unset, .unset, .unset, .unset] [])) rfl (hb hby at_23) _ ?_
    show Steps p.tables e below (s₁.setTop (mkF m 26 #[.val (.long q0), .second, .val (.int p2), .val (.int p3), .val (.int p4), .val (.long v1_0), .second, .val (.long (v1_0 * (64 : Int64))), .second, .unset, .unset, .unset, .unset, .unset, .unset, .unset] [(.long (16 : Int64))])) _
    refine XS.lload X0.here hx rfl (hb hby at_26) rfl ?_
    show Steps p.tables e below (s₁.setTop (mkF m 28 #[.val (.long q0), .second, .val (.int p2), .val (.int p3), .val (.int p4), .val (.long v1_0), .second, .val (.long (v1_0 * (64 : Int64))), .second, .unset, .unset, .unset, .unset, .unset, .unset, .unset] [(.long v1_0), (.long (16 : Int64))])) _
    refine X0.ldc2Long hx hown (mvT hZ (hw _ (List.mem_of_getElem? (i := 4) rfl))) (g := (mkF m 28 #[.val (.long q0), .second, .val (.int p2), .val (.int p3), .val (.int p4), .val (.long v1_0), .second, .val (.long (v1_0 * (64 : Int64))), .second, .unset, .unset, .unset, .unset, .unset, .unset, .unset] [(.long v1_0), (.long (16 : Int64))])) rfl (hb hby at_28) _ ?_
    show Steps p.tables e below (s₁.setTop (mkF m 31 #[.val (.long q0), .second, .val (.int p2), .val (.int p3), .val (.int p4), .val (.long v1_0), .second, .val (.long (v1_0 * (64 : Int64))), .second, .unset, .unset, .unset, .unset, .unset, .unset, .unset] [(.long (8 : Int64)), (.long v1_0), (.long (16 : Int64))])) _
    refine XS.lmul X0.here hx rfl (hb hby at_31) rfl ?_
    show Steps p.tables e below (s₁.setTop (mkF m 32 #[.val (.long q0), .second, .val (.int p2), .val (.int p3), .val (.int p4), .val (.long v1_0), .second, .val (.long (v1_0 * (64 : Int64))), .second, .unset, .unset, .unset, .unset, .unset, .unset, .unset] [(.long (v1_0 * (8 : Int64))), (.long (16 : Int64))])) _
    refine XS.ladd X0.here hx rfl (hb hby at_32) rfl ?_
    show Steps p.tables e below (s₁.setTop (mkF m 33 #[.val (.long q0), .second, .val (.int p2), .val (.int p3), .val (.int p4), .val (.long v1_0), .second, .val (.long (v1_0 * (64 : Int64))), .second, .unset, .unset, .unset, .unset, .unset, .unset, .unset] [(.long ((16 : Int64) + (v1_0 * (8 : Int64))))])) _
    refine XS.lstore X0.here hx rfl (hb hby at_33) rfl (l' := #[.val (.long q0), .second, .val (.int p2), .val (.int p3), .val (.int p4), .val (.long v1_0), .second, .val (.long (v1_0 * (64 : Int64))), .second, .val (.long ((16 : Int64) + (v1_0 * (8 : Int64)))), .second, .unset, .unset, .unset, .unset, .unset]) rfl ?_
    exact k)
  obtain ⟨v4_0, hv4, prem4⟩ : ∃ (v4_0 : Int64), (v4_0 = (0 : Int64) ∨ ∃ j : Nat, j < 48 ∧ v4_0.toInt = 2 ^ j) ∧ ∀ t, Steps p.tables e below (s₁.setTop (mkF m 55 #[.val (.long q0), .second, .val (.int p2), .val (.int p3), .val (.int p4), .val (.long v1_0), .second, .val (.long (v1_0 * (64 : Int64))), .second, .val (.long ((16 : Int64) + (v1_0 * (8 : Int64)))), .second, .unset, .unset, .unset, .unset, .unset] [(.long v4_0)])) t → Steps p.tables e below (s₁.setTop (entryFrame m #[(.long q0), (.int p2), (.int p3), (.int p4)] maxLocals)) t := by
    have pre5 : ∀ t, Steps p.tables e below (s₁.setTop (mkF m 39 #[.val (.long q0), .second, .val (.int p2), .val (.int p3), .val (.int p4), .val (.long v1_0), .second, .val (.long (v1_0 * (64 : Int64))), .second, .val (.long ((16 : Int64) + (v1_0 * (8 : Int64)))), .second, .unset, .unset, .unset, .unset, .unset] [(.int (p4 &&& (1 : Int32)))])) t → Steps p.tables e below (s₁.setTop (entryFrame m #[(.long q0), (.int p2), (.int p3), (.int p4)] maxLocals)) t := fun t k => pre3 t (by
      show Steps p.tables e below (s₁.setTop (mkF m 35 #[.val (.long q0), .second, .val (.int p2), .val (.int p3), .val (.int p4), .val (.long v1_0), .second, .val (.long (v1_0 * (64 : Int64))), .second, .val (.long ((16 : Int64) + (v1_0 * (8 : Int64)))), .second, .unset, .unset, .unset, .unset, .unset] [])) _
      refine XS.iload X0.here hx rfl (hb hby at_35) rfl ?_
      show Steps p.tables e below (s₁.setTop (mkF m 37 #[.val (.long q0), .second, .val (.int p2), .val (.int p3), .val (.int p4), .val (.long v1_0), .second, .val (.long (v1_0 * (64 : Int64))), .second, .val (.long ((16 : Int64) + (v1_0 * (8 : Int64)))), .second, .unset, .unset, .unset, .unset, .unset] [(.int p4)])) _
      refine XS.iconst X0.here hx rfl (hb hby at_37) ?_
      show Steps p.tables e below (s₁.setTop (mkF m 38 #[.val (.long q0), .second, .val (.int p2), .val (.int p3), .val (.int p4), .val (.long v1_0), .second, .val (.long (v1_0 * (64 : Int64))), .second, .val (.long ((16 : Int64) + (v1_0 * (8 : Int64)))), .second, .unset, .unset, .unset, .unset, .unset] [(.int (1 : Int32)), (.int p4)])) _
      refine XS.iand X0.here hx rfl (hb hby at_38) rfl ?_
      exact k)
    by_cases hc39_6 : (p4 &&& (1 : Int32)) = (0 : Int32)
    · have pre7 : ∀ t, Steps p.tables e below (s₁.setTop (mkF m 55 #[.val (.long q0), .second, .val (.int p2), .val (.int p3), .val (.int p4), .val (.long v1_0), .second, .val (.long (v1_0 * (64 : Int64))), .second, .val (.long ((16 : Int64) + (v1_0 * (8 : Int64)))), .second, .unset, .unset, .unset, .unset, .unset] [(.long ((1 : Int64) <<< (((p3 &&& (2147483647 : Int32)) % (48 : Int32)) &&& 0x3f).toInt64))])) t → Steps p.tables e below (s₁.setTop (entryFrame m #[(.long q0), (.int p2), (.int p3), (.int p4)] maxLocals)) t := fun t k => pre5 t (by
        show Steps p.tables e below (s₁.setTop (mkF m 39 #[.val (.long q0), .second, .val (.int p2), .val (.int p3), .val (.int p4), .val (.long v1_0), .second, .val (.long (v1_0 * (64 : Int64))), .second, .val (.long ((16 : Int64) + (v1_0 * (8 : Int64)))), .second, .unset, .unset, .unset, .unset, .unset] [(.int (p4 &&& (1 : Int32)))])) _
        refine XS.ifYes X0.here hx rfl (pc0 := 39) (pc' := 46) rfl (hb hby at_39) rfl ((if0 _ _).trans (teq hc39_6).1) (by decide) (by decide) ?_
        show Steps p.tables e below (s₁.setTop (mkF m 46 #[.val (.long q0), .second, .val (.int p2), .val (.int p3), .val (.int p4), .val (.long v1_0), .second, .val (.long (v1_0 * (64 : Int64))), .second, .val (.long ((16 : Int64) + (v1_0 * (8 : Int64)))), .second, .unset, .unset, .unset, .unset, .unset] [])) _
        refine XS.lconst X0.here hx rfl (hb hby at_46) ?_
        show Steps p.tables e below (s₁.setTop (mkF m 47 #[.val (.long q0), .second, .val (.int p2), .val (.int p3), .val (.int p4), .val (.long v1_0), .second, .val (.long (v1_0 * (64 : Int64))), .second, .val (.long ((16 : Int64) + (v1_0 * (8 : Int64)))), .second, .unset, .unset, .unset, .unset, .unset] [(.long (1 : Int64))])) _
        refine XS.iloadN X0.here hx rfl (hb hby at_47) rfl ?_
        show Steps p.tables e below (s₁.setTop (mkF m 48 #[.val (.long q0), .second, .val (.int p2), .val (.int p3), .val (.int p4), .val (.long v1_0), .second, .val (.long (v1_0 * (64 : Int64))), .second, .val (.long ((16 : Int64) + (v1_0 * (8 : Int64)))), .second, .unset, .unset, .unset, .unset, .unset] [(.int p3), (.long (1 : Int64))])) _
        refine X0.ldcInt hx hown (mvT hZ (hw _ (List.mem_of_getElem? (i := 1) rfl))) (g := (mkF m 48 #[.val (.long q0), .second, .val (.int p2), .val (.int p3), .val (.int p4), .val (.long v1_0), .second, .val (.long (v1_0 * (64 : Int64))), .second, .val (.long ((16 : Int64) + (v1_0 * (8 : Int64)))), .second, .unset, .unset, .unset, .unset, .unset] [(.int p3), (.long (1 : Int64))])) rfl (hb hby at_48) _ ?_
        show Steps p.tables e below (s₁.setTop (mkF m 50 #[.val (.long q0), .second, .val (.int p2), .val (.int p3), .val (.int p4), .val (.long v1_0), .second, .val (.long (v1_0 * (64 : Int64))), .second, .val (.long ((16 : Int64) + (v1_0 * (8 : Int64)))), .second, .unset, .unset, .unset, .unset, .unset] [(.int (2147483647 : Int32)), (.int p3), (.long (1 : Int64))])) _
        refine XS.iand X0.here hx rfl (hb hby at_50) rfl ?_
        show Steps p.tables e below (s₁.setTop (mkF m 51 #[.val (.long q0), .second, .val (.int p2), .val (.int p3), .val (.int p4), .val (.long v1_0), .second, .val (.long (v1_0 * (64 : Int64))), .second, .val (.long ((16 : Int64) + (v1_0 * (8 : Int64)))), .second, .unset, .unset, .unset, .unset, .unset] [(.int (p3 &&& (2147483647 : Int32))), (.long (1 : Int64))])) _
        refine XS.bipush X0.here hx rfl (hb hby at_51) ?_
        show Steps p.tables e below (s₁.setTop (mkF m 53 #[.val (.long q0), .second, .val (.int p2), .val (.int p3), .val (.int p4), .val (.long v1_0), .second, .val (.long (v1_0 * (64 : Int64))), .second, .val (.long ((16 : Int64) + (v1_0 * (8 : Int64)))), .second, .unset, .unset, .unset, .unset, .unset] [(.int (48 : Int32)), (.int (p3 &&& (2147483647 : Int32))), (.long (1 : Int64))])) _
        refine iremM X0 hx rfl (hb hby at_53) rfl (by decide) ?_
        show Steps p.tables e below (s₁.setTop (mkF m 54 #[.val (.long q0), .second, .val (.int p2), .val (.int p3), .val (.int p4), .val (.long v1_0), .second, .val (.long (v1_0 * (64 : Int64))), .second, .val (.long ((16 : Int64) + (v1_0 * (8 : Int64)))), .second, .unset, .unset, .unset, .unset, .unset] [(.int ((p3 &&& (2147483647 : Int32)) % (48 : Int32))), (.long (1 : Int64))])) _
        refine XS.lshl X0.here hx rfl (hb hby at_54) rfl ?_
        exact k)
      exact ⟨((1 : Int64) <<< (((p3 &&& (2147483647 : Int32)) % (48 : Int32)) &&& 0x3f).toInt64), Or.inr (own_pow p3), pre7⟩
    · have pre8 : ∀ t, Steps p.tables e below (s₁.setTop (mkF m 55 #[.val (.long q0), .second, .val (.int p2), .val (.int p3), .val (.int p4), .val (.long v1_0), .second, .val (.long (v1_0 * (64 : Int64))), .second, .val (.long ((16 : Int64) + (v1_0 * (8 : Int64)))), .second, .unset, .unset, .unset, .unset, .unset] [(.long (0 : Int64))])) t → Steps p.tables e below (s₁.setTop (entryFrame m #[(.long q0), (.int p2), (.int p3), (.int p4)] maxLocals)) t := fun t k => pre5 t (by
        show Steps p.tables e below (s₁.setTop (mkF m 39 #[.val (.long q0), .second, .val (.int p2), .val (.int p3), .val (.int p4), .val (.long v1_0), .second, .val (.long (v1_0 * (64 : Int64))), .second, .val (.long ((16 : Int64) + (v1_0 * (8 : Int64)))), .second, .unset, .unset, .unset, .unset, .unset] [(.int (p4 &&& (1 : Int32)))])) _
        refine XS.ifNo X0.here hx rfl (hb hby at_39) rfl ((if0 _ _).trans (feq hc39_6).1) ?_
        show Steps p.tables e below (s₁.setTop (mkF m 42 #[.val (.long q0), .second, .val (.int p2), .val (.int p3), .val (.int p4), .val (.long v1_0), .second, .val (.long (v1_0 * (64 : Int64))), .second, .val (.long ((16 : Int64) + (v1_0 * (8 : Int64)))), .second, .unset, .unset, .unset, .unset, .unset] [])) _
        refine XS.lconst X0.here hx rfl (hb hby at_42) ?_
        show Steps p.tables e below (s₁.setTop (mkF m 43 #[.val (.long q0), .second, .val (.int p2), .val (.int p3), .val (.int p4), .val (.long v1_0), .second, .val (.long (v1_0 * (64 : Int64))), .second, .val (.long ((16 : Int64) + (v1_0 * (8 : Int64)))), .second, .unset, .unset, .unset, .unset, .unset] [(.long (0 : Int64))])) _
        refine XS.goto X0.here hx rfl (pc0 := 43) (pc' := 55) rfl (hb hby at_43) (by decide) (by decide) ?_
        exact k)
      exact ⟨(0 : Int64), Or.inl rfl, pre8⟩
  obtain ⟨T9, h9, X9, e9, E9, A9, D9, -, st9⟩ := newO X0 hx hZ hown (hw _ (List.mem_of_getElem? (i := 5) rfl)) (hw _ (List.mem_of_getElem? (i := 6) rfl)) (hw _ (List.mem_of_getElem? (i := 7) rfl)) e0 (g := (mkF m 57 #[.val (.long q0), .second, .val (.int p2), .val (.int p3), .val (.int p4), .val (.long v1_0), .second, .val (.long (v1_0 * (64 : Int64))), .second, .val (.long ((16 : Int64) + (v1_0 * (8 : Int64)))), .second, .val (.long v4_0), .second, .unset, .unset, .unset] [])) rfl (hb hby at_57) (by decide) (by decide)
  obtain ⟨b9, g9⟩ : ∃ z, z = h0.size := ⟨_, rfl⟩
  rw [← g9] at A9 D9 st9
  have F_limit_b9 : Fld Z h9 b9 "com/example/eager_sieve/eagersieve/server/FilterMemory" "limit" "J" (.long (0 : Int64)) := D9 (Or.inr (hw _ (List.mem_of_getElem? (i := 15) rfl))) (ty := .long) (by decide)
  have F_regionBytes_b9 : Fld Z h9 b9 "com/example/eager_sieve/eagersieve/server/FilterMemory" "regionBytes" "J" (.long (0 : Int64)) := D9 (Or.inr (hw _ (List.mem_of_getElem? (i := 17) rfl))) (ty := .long) (by decide)
  have g_b9 : n0 ≤ b9 := Nat.le_trans Z0 (Nat.le_of_eq g9.symm)
  have sz_b9 : h0.size ≤ b9 := Nat.le_trans (Keep.refl h0 []).1 (Nat.le_of_eq g9.symm)
  have KK9 : Keep h0 h9 [] := (Keep.refl h0 []).ext E9
  obtain ⟨_, _, ⟨T10, L10, k10, n10⟩, -, X10, ⟨Lc10, hQ10, l10, y10, z10⟩, st10⟩ := X9.specialBack hx (y := (⟨"com/example/eager_sieve/eagersieve/server/FilterMemory", "<init>", "(JJ)V"⟩ : MethodName)) rfl hown (mvT hZ (hw _ (List.mem_of_getElem? (i := 8) rfl))) (mvT hZ (hw _ (List.mem_of_getElem? (i := 9) rfl))) (mvT hZ (hw _ (List.mem_of_getElem? (i := 10) rfl))) (by decide) (backOf (W := 1) (rm1 l Z a0 hw [] b9 (0 : Int64) v4_0 (.long (0 : Int64)) (.long (0 : Int64)) h9 n0 (Nat.le_trans Z0 E9.1) F_limit_b9 F_regionBytes_b9 A9 g_b9) hZ (hw _ (List.mem_of_getElem? (i := 10) rfl)) (hw _ (List.mem_of_getElem? (i := 7) rfl)) (by decide) (by decide)) (g := (mkF m 64 #[.val (.long q0), .second, .val (.int p2), .val (.int p3), .val (.int p4), .val (.long v1_0), .second, .val (.long (v1_0 * (64 : Int64))), .second, .val (.long ((16 : Int64) + (v1_0 * (8 : Int64)))), .second, .val (.long v4_0), .second, .unset, .unset, .unset] [(.long v4_0), (.long (0 : Int64)), (.ref b9), (.ref b9)])) rfl (by rw [hml]; rfl) (Steps.refl _) (a := b9) (argsL := [(.long (0 : Int64)), (.long v4_0)]) (rest := [(.ref b9)]) (lenOf pd_0 rfl) rfl (by show 2 * 0 + _ ≤ _; exact Nat.le_of_eq rfl) (hb hby at_64) (fun _ _ => ⟨rfl, e9, (by decide : 1 + 0 ≤ _), (by decide : 3 + 0 ≤ _)⟩)
  dsimp only [Pt.U, Pt.locs, Pt.cells, Pt.slots] at X10 l10 y10 z10 st10 hQ10
  subst l10 y10 z10
  obtain ⟨rfl, N10q, K10, P10_0, P10_1, P10_2⟩ := hQ10
  have N10 := Fr.app N0 N10q
  have KK10 : Keep h0 T10.heap [] := KK9.trans K10 (allS (Or.inr sz_b9) all0)
  obtain ⟨cq11, kq11, q11a, q11b, q11c⟩ := isOf hZ rfl P10_0
  obtain ⟨_, _, ⟨T11, L11, k11, n11⟩, -, X11, ⟨Lc11, hQ11, l11, y11, z11⟩, st11⟩ := X10.virtualBack hx (y := (⟨"com/example/eager_sieve/eagersieve/server/FilterMemory", "arrayBytes", "(J)J"⟩ : MethodName)) (z := (⟨"com/example/eager_sieve/eagersieve/server/FilterMemory", "arrayBytes", "(J)J"⟩ : MethodName)) hown (mvT hZ (hw _ (List.mem_of_getElem? (i := 18) rfl))) (mvT hZ (hw _ (List.mem_of_getElem? (i := 19) rfl))) (notFace_of_selects (args := #[]) (mvT hZ (hw _ (List.mem_of_getElem? (i := 21) rfl)))) (mvT hZ (hw _ (List.mem_of_getElem? (i := 21) rfl))) (mvT hZ (hw _ (List.mem_of_getElem? (i := 20) rfl))) (by decide) (backOf (W := 0) (rm3 l Z a0 hw [] b9 (v1_0 * (64 : Int64)) v4_0 T10.heap n0 (Nat.le_trans (Nat.le_trans Z0 E9.1) K10.1) P10_2) hZ (hw _ (List.mem_of_getElem? (i := 22) rfl)) (hw _ (List.mem_of_getElem? (i := 7) rfl)) (by decide) (by decide)) q11a q11c (g := (mkF m 73 #[.val (.long q0), .second, .val (.int p2), .val (.int p3), .val (.int p4), .val (.long v1_0), .second, .val (.long (v1_0 * (64 : Int64))), .second, .val (.long ((16 : Int64) + (v1_0 * (8 : Int64)))), .second, .val (.long v4_0), .second, .val (.ref b9), .unset, .unset] [(.long (v1_0 * (64 : Int64))), (.ref b9)])) rfl (by rw [hml]; rfl) (Steps.refl _) (argsL := [(.long (v1_0 * (64 : Int64)))]) (rest := []) (lenOf pd_1 rfl) rfl (by show 2 * 0 + _ ≤ _; exact Nat.le_of_eq rfl) (hb hby at_73) (fun _ _ => ⟨rfl, rfl, (by decide : 1 + 0 ≤ _), (by decide : 3 + 0 ≤ _)⟩)
  dsimp only [Pt.U, Pt.locs, Pt.cells, Pt.slots] at X11 l11 y11 z11 st11 hQ11
  subst l11 y11 z11
  obtain ⟨rfl, N11q, hh11⟩ := hQ11
  have N11 := Fr.app N10 N11q
  have pre12 : ∀ t, Steps p.tables e below (T11.setTop (mkF m 82 #[.val (.long q0), .second, .val (.int p2), .val (.int p3), .val (.int p4), .val (.long v1_0), .second, .val (.long (v1_0 * (64 : Int64))), .second, .val (.long ((16 : Int64) + (v1_0 * (8 : Int64)))), .second, .val (.long v4_0), .second, .val (.ref b9), .val (.long (own_ab (v1_0 * (64 : Int64)) v4_0)), .second] [(.int (lcmpW v4_0 (0 : Int64)))])) t → Steps p.tables e below (s₁.setTop (entryFrame m #[(.long q0), (.int p2), (.int p3), (.int p4)] maxLocals)) t := fun t k => prem4 t (by
    show Steps p.tables e below (s₁.setTop (mkF m 55 #[.val (.long q0), .second, .val (.int p2), .val (.int p3), .val (.int p4), .val (.long v1_0), .second, .val (.long (v1_0 * (64 : Int64))), .second, .val (.long ((16 : Int64) + (v1_0 * (8 : Int64)))), .second, .unset, .unset, .unset, .unset, .unset] [(.long v4_0)])) _
    refine XS.lstore X0.here hx rfl (hb hby at_55) rfl (l' := #[.val (.long q0), .second, .val (.int p2), .val (.int p3), .val (.int p4), .val (.long v1_0), .second, .val (.long (v1_0 * (64 : Int64))), .second, .val (.long ((16 : Int64) + (v1_0 * (8 : Int64)))), .second, .val (.long v4_0), .second, .unset, .unset, .unset]) rfl ?_
    show Steps p.tables e below (s₁.setTop (mkF m 57 #[.val (.long q0), .second, .val (.int p2), .val (.int p3), .val (.int p4), .val (.long v1_0), .second, .val (.long (v1_0 * (64 : Int64))), .second, .val (.long ((16 : Int64) + (v1_0 * (8 : Int64)))), .second, .val (.long v4_0), .second, .unset, .unset, .unset] [])) _
    refine st9 _ ?_
    show Steps p.tables e below (T9.setTop (mkF m 60 #[.val (.long q0), .second, .val (.int p2), .val (.int p3), .val (.int p4), .val (.long v1_0), .second, .val (.long (v1_0 * (64 : Int64))), .second, .val (.long ((16 : Int64) + (v1_0 * (8 : Int64)))), .second, .val (.long v4_0), .second, .unset, .unset, .unset] [(.ref b9)])) _
    refine XS.dup X9.here hx rfl (hb hby at_60) rfl rfl ?_
    show Steps p.tables e below (T9.setTop (mkF m 61 #[.val (.long q0), .second, .val (.int p2), .val (.int p3), .val (.int p4), .val (.long v1_0), .second, .val (.long (v1_0 * (64 : Int64))), .second, .val (.long ((16 : Int64) + (v1_0 * (8 : Int64)))), .second, .val (.long v4_0), .second, .unset, .unset, .unset] [(.ref b9), (.ref b9)])) _
    refine XS.lconst X9.here hx rfl (hb hby at_61) ?_
    show Steps p.tables e below (T9.setTop (mkF m 62 #[.val (.long q0), .second, .val (.int p2), .val (.int p3), .val (.int p4), .val (.long v1_0), .second, .val (.long (v1_0 * (64 : Int64))), .second, .val (.long ((16 : Int64) + (v1_0 * (8 : Int64)))), .second, .val (.long v4_0), .second, .unset, .unset, .unset] [(.long (0 : Int64)), (.ref b9), (.ref b9)])) _
    refine XS.lload X9.here hx rfl (hb hby at_62) rfl ?_
    show Steps p.tables e below (T9.setTop (mkF m 64 #[.val (.long q0), .second, .val (.int p2), .val (.int p3), .val (.int p4), .val (.long v1_0), .second, .val (.long (v1_0 * (64 : Int64))), .second, .val (.long ((16 : Int64) + (v1_0 * (8 : Int64)))), .second, .val (.long v4_0), .second, .unset, .unset, .unset] [(.long v4_0), (.long (0 : Int64)), (.ref b9), (.ref b9)])) _
    refine st10.trans ?_
    show Steps p.tables e below (T10.setTop (mkF m 67 #[.val (.long q0), .second, .val (.int p2), .val (.int p3), .val (.int p4), .val (.long v1_0), .second, .val (.long (v1_0 * (64 : Int64))), .second, .val (.long ((16 : Int64) + (v1_0 * (8 : Int64)))), .second, .val (.long v4_0), .second, .unset, .unset, .unset] [(.ref b9)])) _
    refine XS.astore X10.here hx rfl (hb hby at_67) rfl rfl (l' := #[.val (.long q0), .second, .val (.int p2), .val (.int p3), .val (.int p4), .val (.long v1_0), .second, .val (.long (v1_0 * (64 : Int64))), .second, .val (.long ((16 : Int64) + (v1_0 * (8 : Int64)))), .second, .val (.long v4_0), .second, .val (.ref b9), .unset, .unset]) rfl ?_
    show Steps p.tables e below (T10.setTop (mkF m 69 #[.val (.long q0), .second, .val (.int p2), .val (.int p3), .val (.int p4), .val (.long v1_0), .second, .val (.long (v1_0 * (64 : Int64))), .second, .val (.long ((16 : Int64) + (v1_0 * (8 : Int64)))), .second, .val (.long v4_0), .second, .val (.ref b9), .unset, .unset] [])) _
    refine XS.aload X10.here hx rfl (hb hby at_69) rfl rfl ?_
    show Steps p.tables e below (T10.setTop (mkF m 71 #[.val (.long q0), .second, .val (.int p2), .val (.int p3), .val (.int p4), .val (.long v1_0), .second, .val (.long (v1_0 * (64 : Int64))), .second, .val (.long ((16 : Int64) + (v1_0 * (8 : Int64)))), .second, .val (.long v4_0), .second, .val (.ref b9), .unset, .unset] [(.ref b9)])) _
    refine XS.lload X10.here hx rfl (hb hby at_71) rfl ?_
    show Steps p.tables e below (T10.setTop (mkF m 73 #[.val (.long q0), .second, .val (.int p2), .val (.int p3), .val (.int p4), .val (.long v1_0), .second, .val (.long (v1_0 * (64 : Int64))), .second, .val (.long ((16 : Int64) + (v1_0 * (8 : Int64)))), .second, .val (.long v4_0), .second, .val (.ref b9), .unset, .unset] [(.long (v1_0 * (64 : Int64))), (.ref b9)])) _
    refine st11.trans ?_
    show Steps p.tables e below (T11.setTop (mkF m 76 #[.val (.long q0), .second, .val (.int p2), .val (.int p3), .val (.int p4), .val (.long v1_0), .second, .val (.long (v1_0 * (64 : Int64))), .second, .val (.long ((16 : Int64) + (v1_0 * (8 : Int64)))), .second, .val (.long v4_0), .second, .val (.ref b9), .unset, .unset] [(.long (own_ab (v1_0 * (64 : Int64)) v4_0))])) _
    refine XS.lstore X11.here hx rfl (hb hby at_76) rfl (l' := #[.val (.long q0), .second, .val (.int p2), .val (.int p3), .val (.int p4), .val (.long v1_0), .second, .val (.long (v1_0 * (64 : Int64))), .second, .val (.long ((16 : Int64) + (v1_0 * (8 : Int64)))), .second, .val (.long v4_0), .second, .val (.ref b9), .val (.long (own_ab (v1_0 * (64 : Int64)) v4_0)), .second]) rfl ?_
    show Steps p.tables e below (T11.setTop (mkF m 78 #[.val (.long q0), .second, .val (.int p2), .val (.int p3), .val (.int p4), .val (.long v1_0), .second, .val (.long (v1_0 * (64 : Int64))), .second, .val (.long ((16 : Int64) + (v1_0 * (8 : Int64)))), .second, .val (.long v4_0), .second, .val (.ref b9), .val (.long (own_ab (v1_0 * (64 : Int64)) v4_0)), .second] [])) _
    refine XS.lload X11.here hx rfl (hb hby at_78) rfl ?_
    show Steps p.tables e below (T11.setTop (mkF m 80 #[.val (.long q0), .second, .val (.int p2), .val (.int p3), .val (.int p4), .val (.long v1_0), .second, .val (.long (v1_0 * (64 : Int64))), .second, .val (.long ((16 : Int64) + (v1_0 * (8 : Int64)))), .second, .val (.long v4_0), .second, .val (.ref b9), .val (.long (own_ab (v1_0 * (64 : Int64)) v4_0)), .second] [(.long v4_0)])) _
    refine XS.lconst X11.here hx rfl (hb hby at_80) ?_
    show Steps p.tables e below (T11.setTop (mkF m 81 #[.val (.long q0), .second, .val (.int p2), .val (.int p3), .val (.int p4), .val (.long v1_0), .second, .val (.long (v1_0 * (64 : Int64))), .second, .val (.long ((16 : Int64) + (v1_0 * (8 : Int64)))), .second, .val (.long v4_0), .second, .val (.ref b9), .val (.long (own_ab (v1_0 * (64 : Int64)) v4_0)), .second] [(.long (0 : Int64)), (.long v4_0)])) _
    refine XS.lcmp X11.here hx rfl (hb hby at_81) rfl ?_
    exact k)
  by_cases hc82_13 : v4_0 = (0 : Int64)
  · have pre14 : ∀ t, Steps p.tables e below (T11.setTop (mkF m 102 #[.val (.long q0), .second, .val (.int p2), .val (.int p3), .val (.int p4), .val (.long v1_0), .second, .val (.long (v1_0 * (64 : Int64))), .second, .val (.long ((16 : Int64) + (v1_0 * (8 : Int64)))), .second, .val (.long v4_0), .second, .val (.ref b9), .val (.long (own_ab (v1_0 * (64 : Int64)) v4_0)), .second] [(.int (lcmpW (own_ab (v1_0 * (64 : Int64)) v4_0) ((16 : Int64) + (v1_0 * (8 : Int64)))))])) t → Steps p.tables e below (s₁.setTop (entryFrame m #[(.long q0), (.int p2), (.int p3), (.int p4)] maxLocals)) t := fun t k => pre12 t (by
      show Steps p.tables e below (T11.setTop (mkF m 82 #[.val (.long q0), .second, .val (.int p2), .val (.int p3), .val (.int p4), .val (.long v1_0), .second, .val (.long (v1_0 * (64 : Int64))), .second, .val (.long ((16 : Int64) + (v1_0 * (8 : Int64)))), .second, .val (.long v4_0), .second, .val (.ref b9), .val (.long (own_ab (v1_0 * (64 : Int64)) v4_0)), .second] [(.int (lcmpW v4_0 (0 : Int64)))])) _
      refine XS.ifYes X11.here hx rfl (pc0 := 82) (pc' := 97) rfl (hb hby at_82) rfl ((if0 _ _).trans (teq ((lw_eq _ _).mpr hc82_13)).1) (by decide) (by decide) ?_
      show Steps p.tables e below (T11.setTop (mkF m 97 #[.val (.long q0), .second, .val (.int p2), .val (.int p3), .val (.int p4), .val (.long v1_0), .second, .val (.long (v1_0 * (64 : Int64))), .second, .val (.long ((16 : Int64) + (v1_0 * (8 : Int64)))), .second, .val (.long v4_0), .second, .val (.ref b9), .val (.long (own_ab (v1_0 * (64 : Int64)) v4_0)), .second] [])) _
      refine XS.lload X11.here hx rfl (hb hby at_97) rfl ?_
      show Steps p.tables e below (T11.setTop (mkF m 99 #[.val (.long q0), .second, .val (.int p2), .val (.int p3), .val (.int p4), .val (.long v1_0), .second, .val (.long (v1_0 * (64 : Int64))), .second, .val (.long ((16 : Int64) + (v1_0 * (8 : Int64)))), .second, .val (.long v4_0), .second, .val (.ref b9), .val (.long (own_ab (v1_0 * (64 : Int64)) v4_0)), .second] [(.long (own_ab (v1_0 * (64 : Int64)) v4_0))])) _
      refine XS.lload X11.here hx rfl (hb hby at_99) rfl ?_
      show Steps p.tables e below (T11.setTop (mkF m 101 #[.val (.long q0), .second, .val (.int p2), .val (.int p3), .val (.int p4), .val (.long v1_0), .second, .val (.long (v1_0 * (64 : Int64))), .second, .val (.long ((16 : Int64) + (v1_0 * (8 : Int64)))), .second, .val (.long v4_0), .second, .val (.ref b9), .val (.long (own_ab (v1_0 * (64 : Int64)) v4_0)), .second] [(.long ((16 : Int64) + (v1_0 * (8 : Int64)))), (.long (own_ab (v1_0 * (64 : Int64)) v4_0))])) _
      refine XS.lcmp X11.here hx rfl (hb hby at_101) rfl ?_
      exact k)
    by_cases hc102_15 : (own_ab (v1_0 * (64 : Int64)) v4_0) = ((16 : Int64) + (v1_0 * (8 : Int64)))
    · have pre16 : ∀ t, Steps p.tables e below (T11.setTop (mkF m 110 #[.val (.long q0), .second, .val (.int p2), .val (.int p3), .val (.int p4), .val (.long v1_0), .second, .val (.long (v1_0 * (64 : Int64))), .second, .val (.long ((16 : Int64) + (v1_0 * (8 : Int64)))), .second, .val (.long v4_0), .second, .val (.ref b9), .val (.long (own_ab (v1_0 * (64 : Int64)) v4_0)), .second] [(.int (1 : Int32))])) t → Steps p.tables e below (s₁.setTop (entryFrame m #[(.long q0), (.int p2), (.int p3), (.int p4)] maxLocals)) t := fun t k => pre14 t (by
        show Steps p.tables e below (T11.setTop (mkF m 102 #[.val (.long q0), .second, .val (.int p2), .val (.int p3), .val (.int p4), .val (.long v1_0), .second, .val (.long (v1_0 * (64 : Int64))), .second, .val (.long ((16 : Int64) + (v1_0 * (8 : Int64)))), .second, .val (.long v4_0), .second, .val (.ref b9), .val (.long (own_ab (v1_0 * (64 : Int64)) v4_0)), .second] [(.int (lcmpW (own_ab (v1_0 * (64 : Int64)) v4_0) ((16 : Int64) + (v1_0 * (8 : Int64)))))])) _
        refine XS.ifNo X11.here hx rfl (hb hby at_102) rfl ((if0 _ _).trans (teq ((lw_eq _ _).mpr hc102_15)).2) ?_
        show Steps p.tables e below (T11.setTop (mkF m 105 #[.val (.long q0), .second, .val (.int p2), .val (.int p3), .val (.int p4), .val (.long v1_0), .second, .val (.long (v1_0 * (64 : Int64))), .second, .val (.long ((16 : Int64) + (v1_0 * (8 : Int64)))), .second, .val (.long v4_0), .second, .val (.ref b9), .val (.long (own_ab (v1_0 * (64 : Int64)) v4_0)), .second] [])) _
        refine XS.iconst X11.here hx rfl (hb hby at_105) ?_
        show Steps p.tables e below (T11.setTop (mkF m 106 #[.val (.long q0), .second, .val (.int p2), .val (.int p3), .val (.int p4), .val (.long v1_0), .second, .val (.long (v1_0 * (64 : Int64))), .second, .val (.long ((16 : Int64) + (v1_0 * (8 : Int64)))), .second, .val (.long v4_0), .second, .val (.ref b9), .val (.long (own_ab (v1_0 * (64 : Int64)) v4_0)), .second] [(.int (1 : Int32))])) _
        refine XS.goto X11.here hx rfl (pc0 := 106) (pc' := 110) rfl (hb hby at_106) (by decide) (by decide) ?_
        exact k)
      obtain ⟨fs, hr, hrun, hended, hW, hsame⟩ := X11.leave (v := some (.int (1 : Int32))) (fun h => by rw [Bd.returns] at h; cases h)
      refine ⟨_, _, pre16 _ ?_, hrun, hended, _, _, rfl, ?_, ⟨_, rfl⟩, hW, hsame.mono (by decide) (by decide)⟩
      · exact retN X11 hx (t := .boolean) Bd.returns (by simp) (hb hby at_110) hr
      · show Q0 Z q0 p2 p3 p4 h0 n0 _ T11.heap _
        rw [hh11]
        exact ⟨rfl, N11⟩
    · have pre17 : ∀ t, Steps p.tables e below (T11.setTop (mkF m 110 #[.val (.long q0), .second, .val (.int p2), .val (.int p3), .val (.int p4), .val (.long v1_0), .second, .val (.long (v1_0 * (64 : Int64))), .second, .val (.long ((16 : Int64) + (v1_0 * (8 : Int64)))), .second, .val (.long v4_0), .second, .val (.ref b9), .val (.long (own_ab (v1_0 * (64 : Int64)) v4_0)), .second] [(.int (0 : Int32))])) t → Steps p.tables e below (s₁.setTop (entryFrame m #[(.long q0), (.int p2), (.int p3), (.int p4)] maxLocals)) t := fun t k => pre14 t (by
        show Steps p.tables e below (T11.setTop (mkF m 102 #[.val (.long q0), .second, .val (.int p2), .val (.int p3), .val (.int p4), .val (.long v1_0), .second, .val (.long (v1_0 * (64 : Int64))), .second, .val (.long ((16 : Int64) + (v1_0 * (8 : Int64)))), .second, .val (.long v4_0), .second, .val (.ref b9), .val (.long (own_ab (v1_0 * (64 : Int64)) v4_0)), .second] [(.int (lcmpW (own_ab (v1_0 * (64 : Int64)) v4_0) ((16 : Int64) + (v1_0 * (8 : Int64)))))])) _
        refine XS.ifYes X11.here hx rfl (pc0 := 102) (pc' := 109) rfl (hb hby at_102) rfl ((if0 _ _).trans (feq (fun q => hc102_15 ((lw_eq _ _).mp q))).2) (by decide) (by decide) ?_
        show Steps p.tables e below (T11.setTop (mkF m 109 #[.val (.long q0), .second, .val (.int p2), .val (.int p3), .val (.int p4), .val (.long v1_0), .second, .val (.long (v1_0 * (64 : Int64))), .second, .val (.long ((16 : Int64) + (v1_0 * (8 : Int64)))), .second, .val (.long v4_0), .second, .val (.ref b9), .val (.long (own_ab (v1_0 * (64 : Int64)) v4_0)), .second] [])) _
        refine XS.iconst X11.here hx rfl (hb hby at_109) ?_
        exact k)
      obtain ⟨fs, hr, hrun, hended, hW, hsame⟩ := X11.leave (v := some (.int (0 : Int32))) (fun h => by rw [Bd.returns] at h; cases h)
      refine ⟨_, _, pre17 _ ?_, hrun, hended, _, _, rfl, ?_, ⟨_, rfl⟩, hW, hsame.mono (by decide) (by decide)⟩
      · exact retN X11 hx (t := .boolean) Bd.returns (by simp) (hb hby at_110) hr
      · show Q0 Z q0 p2 p3 p4 h0 n0 _ T11.heap _
        rw [hh11]
        exact absurd ((own_main v1_0 v4_0 hv1 hv4).1 (Or.inl hc82_13)) hc102_15
  · have pre18 : ∀ t, Steps p.tables e below (T11.setTop (mkF m 94 #[.val (.long q0), .second, .val (.int p2), .val (.int p3), .val (.int p4), .val (.long v1_0), .second, .val (.long (v1_0 * (64 : Int64))), .second, .val (.long ((16 : Int64) + (v1_0 * (8 : Int64)))), .second, .val (.long v4_0), .second, .val (.ref b9), .val (.long (own_ab (v1_0 * (64 : Int64)) v4_0)), .second] [(.int (lcmpW ((2 : Int64) * ((16 : Int64) + (v1_0 * (8 : Int64)))) v4_0))])) t → Steps p.tables e below (s₁.setTop (entryFrame m #[(.long q0), (.int p2), (.int p3), (.int p4)] maxLocals)) t := fun t k => pre12 t (by
      show Steps p.tables e below (T11.setTop (mkF m 82 #[.val (.long q0), .second, .val (.int p2), .val (.int p3), .val (.int p4), .val (.long v1_0), .second, .val (.long (v1_0 * (64 : Int64))), .second, .val (.long ((16 : Int64) + (v1_0 * (8 : Int64)))), .second, .val (.long v4_0), .second, .val (.ref b9), .val (.long (own_ab (v1_0 * (64 : Int64)) v4_0)), .second] [(.int (lcmpW v4_0 (0 : Int64)))])) _
      refine XS.ifNo X11.here hx rfl (hb hby at_82) rfl ((if0 _ _).trans (feq (fun q => hc82_13 ((lw_eq _ _).mp q))).1) ?_
      show Steps p.tables e below (T11.setTop (mkF m 85 #[.val (.long q0), .second, .val (.int p2), .val (.int p3), .val (.int p4), .val (.long v1_0), .second, .val (.long (v1_0 * (64 : Int64))), .second, .val (.long ((16 : Int64) + (v1_0 * (8 : Int64)))), .second, .val (.long v4_0), .second, .val (.ref b9), .val (.long (own_ab (v1_0 * (64 : Int64)) v4_0)), .second] [])) _
      refine X11.ldc2Long hx hown (mvT hZ (hw _ (List.mem_of_getElem? (i := 26) rfl))) (g := (mkF m 85 #[.val (.long q0), .second, .val (.int p2), .val (.int p3), .val (.int p4), .val (.long v1_0), .second, .val (.long (v1_0 * (64 : Int64))), .second, .val (.long ((16 : Int64) + (v1_0 * (8 : Int64)))), .second, .val (.long v4_0), .second, .val (.ref b9), .val (.long (own_ab (v1_0 * (64 : Int64)) v4_0)), .second] [])) rfl (hb hby at_85) _ ?_
      show Steps p.tables e below (T11.setTop (mkF m 88 #[.val (.long q0), .second, .val (.int p2), .val (.int p3), .val (.int p4), .val (.long v1_0), .second, .val (.long (v1_0 * (64 : Int64))), .second, .val (.long ((16 : Int64) + (v1_0 * (8 : Int64)))), .second, .val (.long v4_0), .second, .val (.ref b9), .val (.long (own_ab (v1_0 * (64 : Int64)) v4_0)), .second] [(.long (2 : Int64))])) _
      refine XS.lload X11.here hx rfl (hb hby at_88) rfl ?_
      show Steps p.tables e below (T11.setTop (mkF m 90 #[.val (.long q0), .second, .val (.int p2), .val (.int p3), .val (.int p4), .val (.long v1_0), .second, .val (.long (v1_0 * (64 : Int64))), .second, .val (.long ((16 : Int64) + (v1_0 * (8 : Int64)))), .second, .val (.long v4_0), .second, .val (.ref b9), .val (.long (own_ab (v1_0 * (64 : Int64)) v4_0)), .second] [(.long ((16 : Int64) + (v1_0 * (8 : Int64)))), (.long (2 : Int64))])) _
      refine XS.lmul X11.here hx rfl (hb hby at_90) rfl ?_
      show Steps p.tables e below (T11.setTop (mkF m 91 #[.val (.long q0), .second, .val (.int p2), .val (.int p3), .val (.int p4), .val (.long v1_0), .second, .val (.long (v1_0 * (64 : Int64))), .second, .val (.long ((16 : Int64) + (v1_0 * (8 : Int64)))), .second, .val (.long v4_0), .second, .val (.ref b9), .val (.long (own_ab (v1_0 * (64 : Int64)) v4_0)), .second] [(.long ((2 : Int64) * ((16 : Int64) + (v1_0 * (8 : Int64)))))])) _
      refine XS.lload X11.here hx rfl (hb hby at_91) rfl ?_
      show Steps p.tables e below (T11.setTop (mkF m 93 #[.val (.long q0), .second, .val (.int p2), .val (.int p3), .val (.int p4), .val (.long v1_0), .second, .val (.long (v1_0 * (64 : Int64))), .second, .val (.long ((16 : Int64) + (v1_0 * (8 : Int64)))), .second, .val (.long v4_0), .second, .val (.ref b9), .val (.long (own_ab (v1_0 * (64 : Int64)) v4_0)), .second] [(.long v4_0), (.long ((2 : Int64) * ((16 : Int64) + (v1_0 * (8 : Int64)))))])) _
      refine XS.lcmp X11.here hx rfl (hb hby at_93) rfl ?_
      exact k)
    by_cases hc94_19 : ((2 : Int64) * ((16 : Int64) + (v1_0 * (8 : Int64)))) < v4_0
    · have pre20 : ∀ t, Steps p.tables e below (T11.setTop (mkF m 102 #[.val (.long q0), .second, .val (.int p2), .val (.int p3), .val (.int p4), .val (.long v1_0), .second, .val (.long (v1_0 * (64 : Int64))), .second, .val (.long ((16 : Int64) + (v1_0 * (8 : Int64)))), .second, .val (.long v4_0), .second, .val (.ref b9), .val (.long (own_ab (v1_0 * (64 : Int64)) v4_0)), .second] [(.int (lcmpW (own_ab (v1_0 * (64 : Int64)) v4_0) ((16 : Int64) + (v1_0 * (8 : Int64)))))])) t → Steps p.tables e below (s₁.setTop (entryFrame m #[(.long q0), (.int p2), (.int p3), (.int p4)] maxLocals)) t := fun t k => pre18 t (by
        show Steps p.tables e below (T11.setTop (mkF m 94 #[.val (.long q0), .second, .val (.int p2), .val (.int p3), .val (.int p4), .val (.long v1_0), .second, .val (.long (v1_0 * (64 : Int64))), .second, .val (.long ((16 : Int64) + (v1_0 * (8 : Int64)))), .second, .val (.long v4_0), .second, .val (.ref b9), .val (.long (own_ab (v1_0 * (64 : Int64)) v4_0)), .second] [(.int (lcmpW ((2 : Int64) * ((16 : Int64) + (v1_0 * (8 : Int64)))) v4_0))])) _
        refine XS.ifNo X11.here hx rfl (hb hby at_94) rfl ((if0 _ _).trans (tlt ((lw_lt _ _).mpr hc94_19)).2.1) ?_
        show Steps p.tables e below (T11.setTop (mkF m 97 #[.val (.long q0), .second, .val (.int p2), .val (.int p3), .val (.int p4), .val (.long v1_0), .second, .val (.long (v1_0 * (64 : Int64))), .second, .val (.long ((16 : Int64) + (v1_0 * (8 : Int64)))), .second, .val (.long v4_0), .second, .val (.ref b9), .val (.long (own_ab (v1_0 * (64 : Int64)) v4_0)), .second] [])) _
        refine XS.lload X11.here hx rfl (hb hby at_97) rfl ?_
        show Steps p.tables e below (T11.setTop (mkF m 99 #[.val (.long q0), .second, .val (.int p2), .val (.int p3), .val (.int p4), .val (.long v1_0), .second, .val (.long (v1_0 * (64 : Int64))), .second, .val (.long ((16 : Int64) + (v1_0 * (8 : Int64)))), .second, .val (.long v4_0), .second, .val (.ref b9), .val (.long (own_ab (v1_0 * (64 : Int64)) v4_0)), .second] [(.long (own_ab (v1_0 * (64 : Int64)) v4_0))])) _
        refine XS.lload X11.here hx rfl (hb hby at_99) rfl ?_
        show Steps p.tables e below (T11.setTop (mkF m 101 #[.val (.long q0), .second, .val (.int p2), .val (.int p3), .val (.int p4), .val (.long v1_0), .second, .val (.long (v1_0 * (64 : Int64))), .second, .val (.long ((16 : Int64) + (v1_0 * (8 : Int64)))), .second, .val (.long v4_0), .second, .val (.ref b9), .val (.long (own_ab (v1_0 * (64 : Int64)) v4_0)), .second] [(.long ((16 : Int64) + (v1_0 * (8 : Int64)))), (.long (own_ab (v1_0 * (64 : Int64)) v4_0))])) _
        refine XS.lcmp X11.here hx rfl (hb hby at_101) rfl ?_
        exact k)
      by_cases hc102_21 : (own_ab (v1_0 * (64 : Int64)) v4_0) = ((16 : Int64) + (v1_0 * (8 : Int64)))
      · have pre22 : ∀ t, Steps p.tables e below (T11.setTop (mkF m 110 #[.val (.long q0), .second, .val (.int p2), .val (.int p3), .val (.int p4), .val (.long v1_0), .second, .val (.long (v1_0 * (64 : Int64))), .second, .val (.long ((16 : Int64) + (v1_0 * (8 : Int64)))), .second, .val (.long v4_0), .second, .val (.ref b9), .val (.long (own_ab (v1_0 * (64 : Int64)) v4_0)), .second] [(.int (1 : Int32))])) t → Steps p.tables e below (s₁.setTop (entryFrame m #[(.long q0), (.int p2), (.int p3), (.int p4)] maxLocals)) t := fun t k => pre20 t (by
          show Steps p.tables e below (T11.setTop (mkF m 102 #[.val (.long q0), .second, .val (.int p2), .val (.int p3), .val (.int p4), .val (.long v1_0), .second, .val (.long (v1_0 * (64 : Int64))), .second, .val (.long ((16 : Int64) + (v1_0 * (8 : Int64)))), .second, .val (.long v4_0), .second, .val (.ref b9), .val (.long (own_ab (v1_0 * (64 : Int64)) v4_0)), .second] [(.int (lcmpW (own_ab (v1_0 * (64 : Int64)) v4_0) ((16 : Int64) + (v1_0 * (8 : Int64)))))])) _
          refine XS.ifNo X11.here hx rfl (hb hby at_102) rfl ((if0 _ _).trans (teq ((lw_eq _ _).mpr hc102_21)).2) ?_
          show Steps p.tables e below (T11.setTop (mkF m 105 #[.val (.long q0), .second, .val (.int p2), .val (.int p3), .val (.int p4), .val (.long v1_0), .second, .val (.long (v1_0 * (64 : Int64))), .second, .val (.long ((16 : Int64) + (v1_0 * (8 : Int64)))), .second, .val (.long v4_0), .second, .val (.ref b9), .val (.long (own_ab (v1_0 * (64 : Int64)) v4_0)), .second] [])) _
          refine XS.iconst X11.here hx rfl (hb hby at_105) ?_
          show Steps p.tables e below (T11.setTop (mkF m 106 #[.val (.long q0), .second, .val (.int p2), .val (.int p3), .val (.int p4), .val (.long v1_0), .second, .val (.long (v1_0 * (64 : Int64))), .second, .val (.long ((16 : Int64) + (v1_0 * (8 : Int64)))), .second, .val (.long v4_0), .second, .val (.ref b9), .val (.long (own_ab (v1_0 * (64 : Int64)) v4_0)), .second] [(.int (1 : Int32))])) _
          refine XS.goto X11.here hx rfl (pc0 := 106) (pc' := 110) rfl (hb hby at_106) (by decide) (by decide) ?_
          exact k)
        obtain ⟨fs, hr, hrun, hended, hW, hsame⟩ := X11.leave (v := some (.int (1 : Int32))) (fun h => by rw [Bd.returns] at h; cases h)
        refine ⟨_, _, pre22 _ ?_, hrun, hended, _, _, rfl, ?_, ⟨_, rfl⟩, hW, hsame.mono (by decide) (by decide)⟩
        · exact retN X11 hx (t := .boolean) Bd.returns (by simp) (hb hby at_110) hr
        · show Q0 Z q0 p2 p3 p4 h0 n0 _ T11.heap _
          rw [hh11]
          exact ⟨rfl, N11⟩
      · have pre23 : ∀ t, Steps p.tables e below (T11.setTop (mkF m 110 #[.val (.long q0), .second, .val (.int p2), .val (.int p3), .val (.int p4), .val (.long v1_0), .second, .val (.long (v1_0 * (64 : Int64))), .second, .val (.long ((16 : Int64) + (v1_0 * (8 : Int64)))), .second, .val (.long v4_0), .second, .val (.ref b9), .val (.long (own_ab (v1_0 * (64 : Int64)) v4_0)), .second] [(.int (0 : Int32))])) t → Steps p.tables e below (s₁.setTop (entryFrame m #[(.long q0), (.int p2), (.int p3), (.int p4)] maxLocals)) t := fun t k => pre20 t (by
          show Steps p.tables e below (T11.setTop (mkF m 102 #[.val (.long q0), .second, .val (.int p2), .val (.int p3), .val (.int p4), .val (.long v1_0), .second, .val (.long (v1_0 * (64 : Int64))), .second, .val (.long ((16 : Int64) + (v1_0 * (8 : Int64)))), .second, .val (.long v4_0), .second, .val (.ref b9), .val (.long (own_ab (v1_0 * (64 : Int64)) v4_0)), .second] [(.int (lcmpW (own_ab (v1_0 * (64 : Int64)) v4_0) ((16 : Int64) + (v1_0 * (8 : Int64)))))])) _
          refine XS.ifYes X11.here hx rfl (pc0 := 102) (pc' := 109) rfl (hb hby at_102) rfl ((if0 _ _).trans (feq (fun q => hc102_21 ((lw_eq _ _).mp q))).2) (by decide) (by decide) ?_
          show Steps p.tables e below (T11.setTop (mkF m 109 #[.val (.long q0), .second, .val (.int p2), .val (.int p3), .val (.int p4), .val (.long v1_0), .second, .val (.long (v1_0 * (64 : Int64))), .second, .val (.long ((16 : Int64) + (v1_0 * (8 : Int64)))), .second, .val (.long v4_0), .second, .val (.ref b9), .val (.long (own_ab (v1_0 * (64 : Int64)) v4_0)), .second] [])) _
          refine XS.iconst X11.here hx rfl (hb hby at_109) ?_
          exact k)
        obtain ⟨fs, hr, hrun, hended, hW, hsame⟩ := X11.leave (v := some (.int (0 : Int32))) (fun h => by rw [Bd.returns] at h; cases h)
        refine ⟨_, _, pre23 _ ?_, hrun, hended, _, _, rfl, ?_, ⟨_, rfl⟩, hW, hsame.mono (by decide) (by decide)⟩
        · exact retN X11 hx (t := .boolean) Bd.returns (by simp) (hb hby at_110) hr
        · show Q0 Z q0 p2 p3 p4 h0 n0 _ T11.heap _
          rw [hh11]
          exact absurd ((own_main v1_0 v4_0 hv1 hv4).1 (Or.inr hc94_19)) hc102_21
    · have pre24 : ∀ t, Steps p.tables e below (T11.setTop (mkF m 116 #[.val (.long q0), .second, .val (.int p2), .val (.int p3), .val (.int p4), .val (.long v1_0), .second, .val (.long (v1_0 * (64 : Int64))), .second, .val (.long ((16 : Int64) + (v1_0 * (8 : Int64)))), .second, .val (.long v4_0), .second, .val (.ref b9), .val (.long (own_ab (v1_0 * (64 : Int64)) v4_0)), .second] [(.int (lcmpW (own_ab (v1_0 * (64 : Int64)) v4_0) ((16 : Int64) + (v1_0 * (8 : Int64)))))])) t → Steps p.tables e below (s₁.setTop (entryFrame m #[(.long q0), (.int p2), (.int p3), (.int p4)] maxLocals)) t := fun t k => pre18 t (by
        show Steps p.tables e below (T11.setTop (mkF m 94 #[.val (.long q0), .second, .val (.int p2), .val (.int p3), .val (.int p4), .val (.long v1_0), .second, .val (.long (v1_0 * (64 : Int64))), .second, .val (.long ((16 : Int64) + (v1_0 * (8 : Int64)))), .second, .val (.long v4_0), .second, .val (.ref b9), .val (.long (own_ab (v1_0 * (64 : Int64)) v4_0)), .second] [(.int (lcmpW ((2 : Int64) * ((16 : Int64) + (v1_0 * (8 : Int64)))) v4_0))])) _
        refine XS.ifYes X11.here hx rfl (pc0 := 94) (pc' := 111) rfl (hb hby at_94) rfl ((if0 _ _).trans (flt (fun q => hc94_19 ((lw_lt _ _).mp q))).2.1) (by decide) (by decide) ?_
        show Steps p.tables e below (T11.setTop (mkF m 111 #[.val (.long q0), .second, .val (.int p2), .val (.int p3), .val (.int p4), .val (.long v1_0), .second, .val (.long (v1_0 * (64 : Int64))), .second, .val (.long ((16 : Int64) + (v1_0 * (8 : Int64)))), .second, .val (.long v4_0), .second, .val (.ref b9), .val (.long (own_ab (v1_0 * (64 : Int64)) v4_0)), .second] [])) _
        refine XS.lload X11.here hx rfl (hb hby at_111) rfl ?_
        show Steps p.tables e below (T11.setTop (mkF m 113 #[.val (.long q0), .second, .val (.int p2), .val (.int p3), .val (.int p4), .val (.long v1_0), .second, .val (.long (v1_0 * (64 : Int64))), .second, .val (.long ((16 : Int64) + (v1_0 * (8 : Int64)))), .second, .val (.long v4_0), .second, .val (.ref b9), .val (.long (own_ab (v1_0 * (64 : Int64)) v4_0)), .second] [(.long (own_ab (v1_0 * (64 : Int64)) v4_0))])) _
        refine XS.lload X11.here hx rfl (hb hby at_113) rfl ?_
        show Steps p.tables e below (T11.setTop (mkF m 115 #[.val (.long q0), .second, .val (.int p2), .val (.int p3), .val (.int p4), .val (.long v1_0), .second, .val (.long (v1_0 * (64 : Int64))), .second, .val (.long ((16 : Int64) + (v1_0 * (8 : Int64)))), .second, .val (.long v4_0), .second, .val (.ref b9), .val (.long (own_ab (v1_0 * (64 : Int64)) v4_0)), .second] [(.long ((16 : Int64) + (v1_0 * (8 : Int64)))), (.long (own_ab (v1_0 * (64 : Int64)) v4_0))])) _
        refine XS.lcmp X11.here hx rfl (hb hby at_115) rfl ?_
        exact k)
      by_cases hc116_25 : (own_ab (v1_0 * (64 : Int64)) v4_0) < ((16 : Int64) + (v1_0 * (8 : Int64)))
      · have pre26 : ∀ t, Steps p.tables e below (T11.setTop (mkF m 145 #[.val (.long q0), .second, .val (.int p2), .val (.int p3), .val (.int p4), .val (.long v1_0), .second, .val (.long (v1_0 * (64 : Int64))), .second, .val (.long ((16 : Int64) + (v1_0 * (8 : Int64)))), .second, .val (.long v4_0), .second, .val (.ref b9), .val (.long (own_ab (v1_0 * (64 : Int64)) v4_0)), .second] [(.int (0 : Int32))])) t → Steps p.tables e below (s₁.setTop (entryFrame m #[(.long q0), (.int p2), (.int p3), (.int p4)] maxLocals)) t := fun t k => pre24 t (by
          show Steps p.tables e below (T11.setTop (mkF m 116 #[.val (.long q0), .second, .val (.int p2), .val (.int p3), .val (.int p4), .val (.long v1_0), .second, .val (.long (v1_0 * (64 : Int64))), .second, .val (.long ((16 : Int64) + (v1_0 * (8 : Int64)))), .second, .val (.long v4_0), .second, .val (.ref b9), .val (.long (own_ab (v1_0 * (64 : Int64)) v4_0)), .second] [(.int (lcmpW (own_ab (v1_0 * (64 : Int64)) v4_0) ((16 : Int64) + (v1_0 * (8 : Int64)))))])) _
          refine XS.ifYes X11.here hx rfl (pc0 := 116) (pc' := 144) rfl (hb hby at_116) rfl ((if0 _ _).trans (tlt ((lw_lt _ _).mpr hc116_25)).1) (by decide) (by decide) ?_
          show Steps p.tables e below (T11.setTop (mkF m 144 #[.val (.long q0), .second, .val (.int p2), .val (.int p3), .val (.int p4), .val (.long v1_0), .second, .val (.long (v1_0 * (64 : Int64))), .second, .val (.long ((16 : Int64) + (v1_0 * (8 : Int64)))), .second, .val (.long v4_0), .second, .val (.ref b9), .val (.long (own_ab (v1_0 * (64 : Int64)) v4_0)), .second] [])) _
          refine XS.iconst X11.here hx rfl (hb hby at_144) ?_
          exact k)
        obtain ⟨fs, hr, hrun, hended, hW, hsame⟩ := X11.leave (v := some (.int (0 : Int32))) (fun h => by rw [Bd.returns] at h; cases h)
        refine ⟨_, _, pre26 _ ?_, hrun, hended, _, _, rfl, ?_, ⟨_, rfl⟩, hW, hsame.mono (by decide) (by decide)⟩
        · exact retN X11 hx (t := .boolean) Bd.returns (by simp) (hb hby at_145) hr
        · show Q0 Z q0 p2 p3 p4 h0 n0 _ T11.heap _
          rw [hh11]
          exact absurd hc116_25 ((own_main v1_0 v4_0 hv1 hv4).2 hc82_13 hc94_19).1
      · have pre27 : ∀ t, Steps p.tables e below (T11.setTop (mkF m 127 #[.val (.long q0), .second, .val (.int p2), .val (.int p3), .val (.int p4), .val (.long v1_0), .second, .val (.long (v1_0 * (64 : Int64))), .second, .val (.long ((16 : Int64) + (v1_0 * (8 : Int64)))), .second, .val (.long v4_0), .second, .val (.ref b9), .val (.long (own_ab (v1_0 * (64 : Int64)) v4_0)), .second] [(.int (lcmpW ((own_ab (v1_0 * (64 : Int64)) v4_0) - ((16 : Int64) + (v1_0 * (8 : Int64)))) v4_0))])) t → Steps p.tables e below (s₁.setTop (entryFrame m #[(.long q0), (.int p2), (.int p3), (.int p4)] maxLocals)) t := fun t k => pre24 t (by
          show Steps p.tables e below (T11.setTop (mkF m 116 #[.val (.long q0), .second, .val (.int p2), .val (.int p3), .val (.int p4), .val (.long v1_0), .second, .val (.long (v1_0 * (64 : Int64))), .second, .val (.long ((16 : Int64) + (v1_0 * (8 : Int64)))), .second, .val (.long v4_0), .second, .val (.ref b9), .val (.long (own_ab (v1_0 * (64 : Int64)) v4_0)), .second] [(.int (lcmpW (own_ab (v1_0 * (64 : Int64)) v4_0) ((16 : Int64) + (v1_0 * (8 : Int64)))))])) _
          refine XS.ifNo X11.here hx rfl (hb hby at_116) rfl ((if0 _ _).trans (flt (fun q => hc116_25 ((lw_lt _ _).mp q))).1) ?_
          show Steps p.tables e below (T11.setTop (mkF m 119 #[.val (.long q0), .second, .val (.int p2), .val (.int p3), .val (.int p4), .val (.long v1_0), .second, .val (.long (v1_0 * (64 : Int64))), .second, .val (.long ((16 : Int64) + (v1_0 * (8 : Int64)))), .second, .val (.long v4_0), .second, .val (.ref b9), .val (.long (own_ab (v1_0 * (64 : Int64)) v4_0)), .second] [])) _
          refine XS.lload X11.here hx rfl (hb hby at_119) rfl ?_
          show Steps p.tables e below (T11.setTop (mkF m 121 #[.val (.long q0), .second, .val (.int p2), .val (.int p3), .val (.int p4), .val (.long v1_0), .second, .val (.long (v1_0 * (64 : Int64))), .second, .val (.long ((16 : Int64) + (v1_0 * (8 : Int64)))), .second, .val (.long v4_0), .second, .val (.ref b9), .val (.long (own_ab (v1_0 * (64 : Int64)) v4_0)), .second] [(.long (own_ab (v1_0 * (64 : Int64)) v4_0))])) _
          refine XS.lload X11.here hx rfl (hb hby at_121) rfl ?_
          show Steps p.tables e below (T11.setTop (mkF m 123 #[.val (.long q0), .second, .val (.int p2), .val (.int p3), .val (.int p4), .val (.long v1_0), .second, .val (.long (v1_0 * (64 : Int64))), .second, .val (.long ((16 : Int64) + (v1_0 * (8 : Int64)))), .second, .val (.long v4_0), .second, .val (.ref b9), .val (.long (own_ab (v1_0 * (64 : Int64)) v4_0)), .second] [(.long ((16 : Int64) + (v1_0 * (8 : Int64)))), (.long (own_ab (v1_0 * (64 : Int64)) v4_0))])) _
          refine XS.lsub X11.here hx rfl (hb hby at_123) rfl ?_
          show Steps p.tables e below (T11.setTop (mkF m 124 #[.val (.long q0), .second, .val (.int p2), .val (.int p3), .val (.int p4), .val (.long v1_0), .second, .val (.long (v1_0 * (64 : Int64))), .second, .val (.long ((16 : Int64) + (v1_0 * (8 : Int64)))), .second, .val (.long v4_0), .second, .val (.ref b9), .val (.long (own_ab (v1_0 * (64 : Int64)) v4_0)), .second] [(.long ((own_ab (v1_0 * (64 : Int64)) v4_0) - ((16 : Int64) + (v1_0 * (8 : Int64)))))])) _
          refine XS.lload X11.here hx rfl (hb hby at_124) rfl ?_
          show Steps p.tables e below (T11.setTop (mkF m 126 #[.val (.long q0), .second, .val (.int p2), .val (.int p3), .val (.int p4), .val (.long v1_0), .second, .val (.long (v1_0 * (64 : Int64))), .second, .val (.long ((16 : Int64) + (v1_0 * (8 : Int64)))), .second, .val (.long v4_0), .second, .val (.ref b9), .val (.long (own_ab (v1_0 * (64 : Int64)) v4_0)), .second] [(.long v4_0), (.long ((own_ab (v1_0 * (64 : Int64)) v4_0) - ((16 : Int64) + (v1_0 * (8 : Int64)))))])) _
          refine XS.lcmp X11.here hx rfl (hb hby at_126) rfl ?_
          exact k)
        by_cases hc127_28 : ((own_ab (v1_0 * (64 : Int64)) v4_0) - ((16 : Int64) + (v1_0 * (8 : Int64)))) < v4_0
        · have pre29 : ∀ t, Steps p.tables e below (T11.setTop (mkF m 137 #[.val (.long q0), .second, .val (.int p2), .val (.int p3), .val (.int p4), .val (.long v1_0), .second, .val (.long (v1_0 * (64 : Int64))), .second, .val (.long ((16 : Int64) + (v1_0 * (8 : Int64)))), .second, .val (.long v4_0), .second, .val (.ref b9), .val (.long (own_ab (v1_0 * (64 : Int64)) v4_0)), .second] [(.int (lcmpW ((own_ab (v1_0 * (64 : Int64)) v4_0) % v4_0) (0 : Int64)))])) t → Steps p.tables e below (s₁.setTop (entryFrame m #[(.long q0), (.int p2), (.int p3), (.int p4)] maxLocals)) t := fun t k => pre27 t (by
            show Steps p.tables e below (T11.setTop (mkF m 127 #[.val (.long q0), .second, .val (.int p2), .val (.int p3), .val (.int p4), .val (.long v1_0), .second, .val (.long (v1_0 * (64 : Int64))), .second, .val (.long ((16 : Int64) + (v1_0 * (8 : Int64)))), .second, .val (.long v4_0), .second, .val (.ref b9), .val (.long (own_ab (v1_0 * (64 : Int64)) v4_0)), .second] [(.int (lcmpW ((own_ab (v1_0 * (64 : Int64)) v4_0) - ((16 : Int64) + (v1_0 * (8 : Int64)))) v4_0))])) _
            refine XS.ifNo X11.here hx rfl (hb hby at_127) rfl ((if0 _ _).trans (tlt ((lw_lt _ _).mpr hc127_28)).2.1) ?_
            show Steps p.tables e below (T11.setTop (mkF m 130 #[.val (.long q0), .second, .val (.int p2), .val (.int p3), .val (.int p4), .val (.long v1_0), .second, .val (.long (v1_0 * (64 : Int64))), .second, .val (.long ((16 : Int64) + (v1_0 * (8 : Int64)))), .second, .val (.long v4_0), .second, .val (.ref b9), .val (.long (own_ab (v1_0 * (64 : Int64)) v4_0)), .second] [])) _
            refine XS.lload X11.here hx rfl (hb hby at_130) rfl ?_
            show Steps p.tables e below (T11.setTop (mkF m 132 #[.val (.long q0), .second, .val (.int p2), .val (.int p3), .val (.int p4), .val (.long v1_0), .second, .val (.long (v1_0 * (64 : Int64))), .second, .val (.long ((16 : Int64) + (v1_0 * (8 : Int64)))), .second, .val (.long v4_0), .second, .val (.ref b9), .val (.long (own_ab (v1_0 * (64 : Int64)) v4_0)), .second] [(.long (own_ab (v1_0 * (64 : Int64)) v4_0))])) _
            refine XS.lload X11.here hx rfl (hb hby at_132) rfl ?_
            show Steps p.tables e below (T11.setTop (mkF m 134 #[.val (.long q0), .second, .val (.int p2), .val (.int p3), .val (.int p4), .val (.long v1_0), .second, .val (.long (v1_0 * (64 : Int64))), .second, .val (.long ((16 : Int64) + (v1_0 * (8 : Int64)))), .second, .val (.long v4_0), .second, .val (.ref b9), .val (.long (own_ab (v1_0 * (64 : Int64)) v4_0)), .second] [(.long v4_0), (.long (own_ab (v1_0 * (64 : Int64)) v4_0))])) _
            refine own_lrem X11 hx rfl (hb hby at_134) rfl hc82_13 ?_
            show Steps p.tables e below (T11.setTop (mkF m 135 #[.val (.long q0), .second, .val (.int p2), .val (.int p3), .val (.int p4), .val (.long v1_0), .second, .val (.long (v1_0 * (64 : Int64))), .second, .val (.long ((16 : Int64) + (v1_0 * (8 : Int64)))), .second, .val (.long v4_0), .second, .val (.ref b9), .val (.long (own_ab (v1_0 * (64 : Int64)) v4_0)), .second] [(.long ((own_ab (v1_0 * (64 : Int64)) v4_0) % v4_0))])) _
            refine XS.lconst X11.here hx rfl (hb hby at_135) ?_
            show Steps p.tables e below (T11.setTop (mkF m 136 #[.val (.long q0), .second, .val (.int p2), .val (.int p3), .val (.int p4), .val (.long v1_0), .second, .val (.long (v1_0 * (64 : Int64))), .second, .val (.long ((16 : Int64) + (v1_0 * (8 : Int64)))), .second, .val (.long v4_0), .second, .val (.ref b9), .val (.long (own_ab (v1_0 * (64 : Int64)) v4_0)), .second] [(.long (0 : Int64)), (.long ((own_ab (v1_0 * (64 : Int64)) v4_0) % v4_0))])) _
            refine XS.lcmp X11.here hx rfl (hb hby at_136) rfl ?_
            exact k)
          by_cases hc137_30 : ((own_ab (v1_0 * (64 : Int64)) v4_0) % v4_0) = (0 : Int64)
          · have pre31 : ∀ t, Steps p.tables e below (T11.setTop (mkF m 145 #[.val (.long q0), .second, .val (.int p2), .val (.int p3), .val (.int p4), .val (.long v1_0), .second, .val (.long (v1_0 * (64 : Int64))), .second, .val (.long ((16 : Int64) + (v1_0 * (8 : Int64)))), .second, .val (.long v4_0), .second, .val (.ref b9), .val (.long (own_ab (v1_0 * (64 : Int64)) v4_0)), .second] [(.int (1 : Int32))])) t → Steps p.tables e below (s₁.setTop (entryFrame m #[(.long q0), (.int p2), (.int p3), (.int p4)] maxLocals)) t := fun t k => pre29 t (by
              show Steps p.tables e below (T11.setTop (mkF m 137 #[.val (.long q0), .second, .val (.int p2), .val (.int p3), .val (.int p4), .val (.long v1_0), .second, .val (.long (v1_0 * (64 : Int64))), .second, .val (.long ((16 : Int64) + (v1_0 * (8 : Int64)))), .second, .val (.long v4_0), .second, .val (.ref b9), .val (.long (own_ab (v1_0 * (64 : Int64)) v4_0)), .second] [(.int (lcmpW ((own_ab (v1_0 * (64 : Int64)) v4_0) % v4_0) (0 : Int64)))])) _
              refine XS.ifNo X11.here hx rfl (hb hby at_137) rfl ((if0 _ _).trans (teq ((lw_eq _ _).mpr hc137_30)).2) ?_
              show Steps p.tables e below (T11.setTop (mkF m 140 #[.val (.long q0), .second, .val (.int p2), .val (.int p3), .val (.int p4), .val (.long v1_0), .second, .val (.long (v1_0 * (64 : Int64))), .second, .val (.long ((16 : Int64) + (v1_0 * (8 : Int64)))), .second, .val (.long v4_0), .second, .val (.ref b9), .val (.long (own_ab (v1_0 * (64 : Int64)) v4_0)), .second] [])) _
              refine XS.iconst X11.here hx rfl (hb hby at_140) ?_
              show Steps p.tables e below (T11.setTop (mkF m 141 #[.val (.long q0), .second, .val (.int p2), .val (.int p3), .val (.int p4), .val (.long v1_0), .second, .val (.long (v1_0 * (64 : Int64))), .second, .val (.long ((16 : Int64) + (v1_0 * (8 : Int64)))), .second, .val (.long v4_0), .second, .val (.ref b9), .val (.long (own_ab (v1_0 * (64 : Int64)) v4_0)), .second] [(.int (1 : Int32))])) _
              refine XS.goto X11.here hx rfl (pc0 := 141) (pc' := 145) rfl (hb hby at_141) (by decide) (by decide) ?_
              exact k)
            obtain ⟨fs, hr, hrun, hended, hW, hsame⟩ := X11.leave (v := some (.int (1 : Int32))) (fun h => by rw [Bd.returns] at h; cases h)
            refine ⟨_, _, pre31 _ ?_, hrun, hended, _, _, rfl, ?_, ⟨_, rfl⟩, hW, hsame.mono (by decide) (by decide)⟩
            · exact retN X11 hx (t := .boolean) Bd.returns (by simp) (hb hby at_145) hr
            · show Q0 Z q0 p2 p3 p4 h0 n0 _ T11.heap _
              rw [hh11]
              exact ⟨rfl, N11⟩
          · have pre32 : ∀ t, Steps p.tables e below (T11.setTop (mkF m 145 #[.val (.long q0), .second, .val (.int p2), .val (.int p3), .val (.int p4), .val (.long v1_0), .second, .val (.long (v1_0 * (64 : Int64))), .second, .val (.long ((16 : Int64) + (v1_0 * (8 : Int64)))), .second, .val (.long v4_0), .second, .val (.ref b9), .val (.long (own_ab (v1_0 * (64 : Int64)) v4_0)), .second] [(.int (0 : Int32))])) t → Steps p.tables e below (s₁.setTop (entryFrame m #[(.long q0), (.int p2), (.int p3), (.int p4)] maxLocals)) t := fun t k => pre29 t (by
              show Steps p.tables e below (T11.setTop (mkF m 137 #[.val (.long q0), .second, .val (.int p2), .val (.int p3), .val (.int p4), .val (.long v1_0), .second, .val (.long (v1_0 * (64 : Int64))), .second, .val (.long ((16 : Int64) + (v1_0 * (8 : Int64)))), .second, .val (.long v4_0), .second, .val (.ref b9), .val (.long (own_ab (v1_0 * (64 : Int64)) v4_0)), .second] [(.int (lcmpW ((own_ab (v1_0 * (64 : Int64)) v4_0) % v4_0) (0 : Int64)))])) _
              refine XS.ifYes X11.here hx rfl (pc0 := 137) (pc' := 144) rfl (hb hby at_137) rfl ((if0 _ _).trans (feq (fun q => hc137_30 ((lw_eq _ _).mp q))).2) (by decide) (by decide) ?_
              show Steps p.tables e below (T11.setTop (mkF m 144 #[.val (.long q0), .second, .val (.int p2), .val (.int p3), .val (.int p4), .val (.long v1_0), .second, .val (.long (v1_0 * (64 : Int64))), .second, .val (.long ((16 : Int64) + (v1_0 * (8 : Int64)))), .second, .val (.long v4_0), .second, .val (.ref b9), .val (.long (own_ab (v1_0 * (64 : Int64)) v4_0)), .second] [])) _
              refine XS.iconst X11.here hx rfl (hb hby at_144) ?_
              exact k)
            obtain ⟨fs, hr, hrun, hended, hW, hsame⟩ := X11.leave (v := some (.int (0 : Int32))) (fun h => by rw [Bd.returns] at h; cases h)
            refine ⟨_, _, pre32 _ ?_, hrun, hended, _, _, rfl, ?_, ⟨_, rfl⟩, hW, hsame.mono (by decide) (by decide)⟩
            · exact retN X11 hx (t := .boolean) Bd.returns (by simp) (hb hby at_145) hr
            · show Q0 Z q0 p2 p3 p4 h0 n0 _ T11.heap _
              rw [hh11]
              exact absurd ((own_main v1_0 v4_0 hv1 hv4).2 hc82_13 hc94_19).2.2 hc137_30
        · have pre33 : ∀ t, Steps p.tables e below (T11.setTop (mkF m 145 #[.val (.long q0), .second, .val (.int p2), .val (.int p3), .val (.int p4), .val (.long v1_0), .second, .val (.long (v1_0 * (64 : Int64))), .second, .val (.long ((16 : Int64) + (v1_0 * (8 : Int64)))), .second, .val (.long v4_0), .second, .val (.ref b9), .val (.long (own_ab (v1_0 * (64 : Int64)) v4_0)), .second] [(.int (0 : Int32))])) t → Steps p.tables e below (s₁.setTop (entryFrame m #[(.long q0), (.int p2), (.int p3), (.int p4)] maxLocals)) t := fun t k => pre27 t (by
            show Steps p.tables e below (T11.setTop (mkF m 127 #[.val (.long q0), .second, .val (.int p2), .val (.int p3), .val (.int p4), .val (.long v1_0), .second, .val (.long (v1_0 * (64 : Int64))), .second, .val (.long ((16 : Int64) + (v1_0 * (8 : Int64)))), .second, .val (.long v4_0), .second, .val (.ref b9), .val (.long (own_ab (v1_0 * (64 : Int64)) v4_0)), .second] [(.int (lcmpW ((own_ab (v1_0 * (64 : Int64)) v4_0) - ((16 : Int64) + (v1_0 * (8 : Int64)))) v4_0))])) _
            refine XS.ifYes X11.here hx rfl (pc0 := 127) (pc' := 144) rfl (hb hby at_127) rfl ((if0 _ _).trans (flt (fun q => hc127_28 ((lw_lt _ _).mp q))).2.1) (by decide) (by decide) ?_
            show Steps p.tables e below (T11.setTop (mkF m 144 #[.val (.long q0), .second, .val (.int p2), .val (.int p3), .val (.int p4), .val (.long v1_0), .second, .val (.long (v1_0 * (64 : Int64))), .second, .val (.long ((16 : Int64) + (v1_0 * (8 : Int64)))), .second, .val (.long v4_0), .second, .val (.ref b9), .val (.long (own_ab (v1_0 * (64 : Int64)) v4_0)), .second] [])) _
            refine XS.iconst X11.here hx rfl (hb hby at_144) ?_
            exact k)
          obtain ⟨fs, hr, hrun, hended, hW, hsame⟩ := X11.leave (v := some (.int (0 : Int32))) (fun h => by rw [Bd.returns] at h; cases h)
          refine ⟨_, _, pre33 _ ?_, hrun, hended, _, _, rfl, ?_, ⟨_, rfl⟩, hW, hsame.mono (by decide) (by decide)⟩
          · exact retN X11 hx (t := .boolean) Bd.returns (by simp) (hb hby at_145) hr
          · show Q0 Z q0 p2 p3 p4 h0 n0 _ T11.heap _
            rw [hh11]
            exact absurd ((own_main v1_0 v4_0 hv1 hv4).2 hc82_13 hc94_19).2.1 hc127_28
set_option maxRecDepth 65536 in
set_option maxHeartbeats 40000000 in
theorem comes_1 {Post : Tables → Env → Array Value → State → Outcome → State → Prop} (hpost : ∀ tb e args s v u, (limb_1_1.after args s (.returned v) u = true ∧ limb_1_2.after args s (.returned v) u = true ∧ True) → FrameEnd s (.returned v) u (Jvm.fieldLocs frame_1_writes args s ++ Jvm.arrayLocs frame_1_arrays args s ++ Jvm.staticLocs frame_1_statics s) 16 128 → Post tb e args s (.returned v) u) :
    ArmFor flags0 classFile x code maxLocals ret World_1 tables_1 room_1 Calls_1 rest_1 Pre_1 Post := by
  intro l hfl _ _ p e ha hc hk s m args below hf hA hF happ hP
  obtain ⟨hcalls, hrest, hpre⟩ := hP
  obtain ⟨-, -, -, hnamed, -, -, -, hat⟩ := (Spec.applies_iff hf).mp happ
  obtain ⟨hg, hn⟩ := and_e (Cond.before_iff.mp (show (Jvm.Cond.and given_1 narrow_1).before args s = true from hpre))
  obtain ⟨g1, g2⟩ := and_e hg
  obtain ⟨g3, g4⟩ := and_e g2
  obtain ⟨g5, g6⟩ := and_e g4
  obtain ⟨g7, g8⟩ := and_e g6
  obtain ⟨w0, w1, w2, w3, rfl⟩ : ∃ w0 w1 w2 w3 : Value, args = #[w0, w1, w2, w3] := by
    have hs : args.size = 4 := by simpa [Cond.value, given_1] using g1
    obtain ⟨L⟩ := args
    match L, hs with
    | [w0, w1, w2, w3], _ => exact ⟨w0, w1, w2, w3, rfl⟩
  have hw := fun d (hd : d ∈ tables_1) => atoms_spec (ws := Jvm.Cond.code x code maxLocals ret :: tables_1) hat d (List.mem_cons_of_mem _ hd)
  have hfit : Fit s := fun {y c} hc i hi => by
    obtain ⟨ha, rfl⟩ := Array.getElem?_eq_some_iff.mp hc
    have q := List.all_eq_true.mp ((Array.all_eq_true_iff_forall_mem.mp hF) _ (Array.getElem_mem ha)) i (List.mem_range.mpr hi)
    simpa [Array.getElem?_eq_getElem hi] using q
  obtain ⟨i0, ei0⟩ := isL_v g3
  obtain rfl : w0 = (.long i0) := Option.some.inj ei0
  obtain ⟨i1, ei1⟩ := is_v g5
  obtain rfl : w1 = (.int i1) := Option.some.inj ei1
  obtain ⟨i2, ei2⟩ := is_v g7
  obtain rfl : w2 = (.int i2) := Option.some.inj ei2
  obtain ⟨i3, ei3⟩ := is_v g8
  obtain rfl : w3 = (.int i3) := Option.some.inj ei3
  obtain ⟨n, o, h1, h2, h3, _, L, rfl, ⟨rfl, N⟩, hq⟩ := rm0 l s _ hw tables_1 i0 i1 i2 i3 s.heap s.heap.size (Nat.le_refl _) p e ha hc hk s m _ below hf ((Spec.applies_iff_loose hf).mp happ).1 ⟨rfl, State.Warmed39.refl s, rfl⟩ trivial
  refine ⟨n, _, h1, h2, h3, hpost _ _ _ _ _ _ ⟨Cond.after_iff.mpr rfl, Cond.after_iff.mpr (eq_i res_at (Term.int_eval (1)) rfl), trivial⟩ ⟨hq.1, hq.2.1, (hq.2.2.sift fun y hy => Or.inr (N y hy)).mono (by decide) (by decide)⟩⟩
theorem main_1_1 : Claimed_1_1 := comes_1 fun _ _ _ _ _ _ h hF => ⟨h.1, hF⟩
theorem main_1_2 : Claimed_1_2 := comes_1 fun _ _ _ _ _ _ h hF => ⟨h.2.1, hF⟩
end Jvm.Pilot.@@N@@
namespace Jvm.Pilot.@@N@@
open Jvm Jvm.ClassFile Sem Op Lib Jvm.Free Jvm.Stand Jvm.Pilot.@@N@@.Jvm.D
/-! MADE BY PROGRAM (witnessworld.py) out of the Statement's table words and the real class files: 9 classes; the members and pool entries that the words name. The judged class is class 1, her method 1. -/
namespace start1
open Jvm.ClassFile
def u (s : String) : CpInfo := .utf8 (stringToUtf16 s)
/-- a pool by its gaps: so many unusable entries, then the entry; so many at the end -/
def gap : Nat → List CpInfo → List CpInfo
  | 0, r => r
  | n + 1, r => .unusable :: gap n r
def poolList (es : List (Nat × CpInfo)) (last : Nat) : List CpInfo := es.foldr (fun e r => gap e.1 (e.2 :: r)) (gap last [])
def pool (es : List (Nat × CpInfo)) (last : Nat) : Array CpInfo := ⟨poolList es last⟩
def fileOf (pool : Array CpInfo) (this : Nat) (attrs : Array Attribute := #[]) (ms : Array MethodInfo := #[]) (fl : Nat := 33) (sup : Nat := 0) (ifs : Array Nat := #[]) (fds : Array FieldInfo := #[]) : ClassFile where
  minorVersion := 0
  majorVersion := 65
  constantPool := pool
  accessFlags := fl
  thisClass := this
  superClass := sup
  interfaces := ifs
  fields := fds
  methods := ms
  attributes := attrs
def plain (name : String) (sup : Option ClassId) : Class where
  name := name
  kind := .ordinary
  loader := none
  accessFlags := 33
  super := sup
  interfaces := #[]
  cf := none
  fields := #[]
  methods := #[]
  instanceTypes := #[]
  staticTypes := #[]
  resolved := #[]
  callSites := []
  init := .initialized
  statics := none
  mirror := none

def pool0 : Array CpInfo := pool [(5, u "<init>"), (0, u "()V"), (1, .class_ 10), (1, u "java/lang/Object")] 113

def k0c0 : Code := { maxStack := 0, maxLocals := 1, code := object_method_1_code, exceptionTable := #[], attributes := #[] }
def k0m0 : Method := { name := "<init>", desc := "()V", sig := { parameters := [], returnType := none }, accessFlags := 1, code := some k0c0 }
/-- java/lang/Object -/
def k0 : Class := { plain "java/lang/Object" none with
  accessFlags := 33
  interfaces := #[]
  cf := some (fileOf pool0 8 #[] #[{ accessFlags := 1, nameIndex := 5, descriptorIndex := 6, attributes := #[] }] 33 0 #[] #[])
  fields := #[]
  methods := #[k0m0]
  instanceTypes := #[]
  staticTypes := #[]
  resolved := Array.replicate 124 none
  statics := none }

def pool1 : Array CpInfo := pool [(2, .class_ 4), (1, u "java/lang/Object"), (0, u "<init>"), (0, u "()V"), (0, .long 17592186044415), (1, .integer 2147483647), (0, .long 64), (1, .long 16), (1, .long 8), (1, .class_ 17), (0, u "com/example/eager_sieve/eagersieve/server/FilterMemory"), (0, .methodref 16 19), (0, .nameAndType 5 20), (0, u "(JJ)V"), (0, .methodref 16 22), (0, .nameAndType 23 24), (0, u "arrayBytes"), (0, u "(J)J"), (0, .long 2), (1, .class_ 28), (0, u "com/example/eager_sieve/eagersieve/server/FilterMemoryArrayBytesPinLaw"), (2, u "law"), (0, u "(JIII)Z")] 3

def k1m0 : Method := { name := "<init>", desc := "()V", sig := { parameters := [], returnType := none }, accessFlags := 1, code := none }
def k1c1 : Code := { maxStack := 6, maxLocals := 16, code := code, exceptionTable := #[], attributes := #[] }
def k1m1 : Method := { name := "law", desc := "(JIII)Z", sig := { parameters := [.long, .int, .int, .int], returnType := some .boolean }, accessFlags := 9, code := some k1c1 }
/-- com/example/eager_sieve/eagersieve/server/FilterMemoryArrayBytesPinLaw -/
def k1 : Class := { plain "com/example/eager_sieve/eagersieve/server/FilterMemoryArrayBytesPinLaw" (some 0) with
  accessFlags := 49
  interfaces := #[]
  cf := some (fileOf pool1 27 #[] #[{ accessFlags := 1, nameIndex := 5, descriptorIndex := 6, attributes := #[] }, { accessFlags := 9, nameIndex := 31, descriptorIndex := 32, attributes := #[] }] 49 2 #[] #[])
  fields := #[]
  methods := #[k1m0, k1m1]
  instanceTypes := #[]
  staticTypes := #[]
  resolved := Array.replicate 36 none
  statics := none }

def pool2 : Array CpInfo := pool [(1, .methodref 2 3), (0, .class_ 4), (0, .nameAndType 5 6), (0, u "java/lang/Object"), (0, u "<init>"), (0, u "()V"), (0, .fieldref 8 9), (0, .class_ 10), (0, .nameAndType 11 12), (0, u "com/example/eager_sieve/eagersieve/server/FilterMemory"), (0, u "limit"), (0, u "J"), (0, .fieldref 8 14), (0, .nameAndType 15 12), (0, u "regionBytes"), (19, u "(JJ)V"), (0, .long 16), (3, .long 8), (1, .long 2), (6, .class_ 51), (1, u "com/example/eager_sieve/eagersieve/server/FilterMemory$Step"), (16, u "held"), (84, u "SHARE_KEPT_BACK"), (0, u "I"), (2, u "MIN_BYTES_KEPT_BACK"), (0, u "ARRAY_HEADER_BYTES"), (4, u "arrayBytes"), (0, u "(J)J")] 27

def k2c0 : Code := { maxStack := 3, maxLocals := 5, code := prog_32_method_1_code, exceptionTable := #[], attributes := #[] }
def k2m0 : Method := { name := "<init>", desc := "(JJ)V", sig := { parameters := [.long, .long], returnType := none }, accessFlags := 0, code := some k2c0 }
def k2c1 : Code := { maxStack := 6, maxLocals := 5, code := prog_32_method_4_code, exceptionTable := #[], attributes := #[] }
def k2m1 : Method := { name := "arrayBytes", desc := "(J)J", sig := { parameters := [.long], returnType := some .long }, accessFlags := 0, code := some k2c1 }
/-- com/example/eager_sieve/eagersieve/server/FilterMemory -/
def k2 : Class := { plain "com/example/eager_sieve/eagersieve/server/FilterMemory" (some 0) with
  accessFlags := 32
  interfaces := #[]
  cf := some (fileOf pool2 8 #[.nestMembers #[49]] #[{ accessFlags := 0, nameIndex := 5, descriptorIndex := 35, attributes := #[] }, { accessFlags := 0, nameIndex := 163, descriptorIndex := 164, attributes := #[] }] 32 2 #[] #[{ accessFlags := 26, nameIndex := 153, descriptorIndex := 154, attributes := #[] }, { accessFlags := 26, nameIndex := 157, descriptorIndex := 12, attributes := #[] }, { accessFlags := 26, nameIndex := 158, descriptorIndex := 12, attributes := #[] }, { accessFlags := 18, nameIndex := 11, descriptorIndex := 12, attributes := #[] }, { accessFlags := 18, nameIndex := 15, descriptorIndex := 12, attributes := #[] }, { accessFlags := 2, nameIndex := 68, descriptorIndex := 12, attributes := #[] }])
  fields := #[{ name := "SHARE_KEPT_BACK", type := .int, accessFlags := 26, slot := 0, constantValue := 0 }, { name := "MIN_BYTES_KEPT_BACK", type := .long, accessFlags := 26, slot := 1, constantValue := 0 }, { name := "ARRAY_HEADER_BYTES", type := .long, accessFlags := 26, slot := 2, constantValue := 0 }, { name := "limit", type := .long, accessFlags := 18, slot := 0, constantValue := 0 }, { name := "regionBytes", type := .long, accessFlags := 18, slot := 1, constantValue := 0 }, { name := "held", type := .long, accessFlags := 2, slot := 2, constantValue := 0 }]
  methods := #[k2m0, k2m1]
  instanceTypes := #[.long, .long, .long]
  staticTypes := #[.int, .long, .long]
  resolved := Array.replicate 192 none
  statics := none }

def pool3 : Array CpInfo := pool [(1, u "java/lang/Cloneable"), (0, .class_ 1), (0, u "java/lang/Object"), (0, .class_ 3)] 3

/-- java/lang/Cloneable -/
def k3 : Class := { plain "java/lang/Cloneable" (some 0) with
  accessFlags := 1537
  interfaces := #[]
  cf := some (fileOf pool3 2 #[] #[] 1537 4 #[] #[])
  fields := #[]
  methods := #[]
  instanceTypes := #[]
  staticTypes := #[]
  resolved := Array.replicate 8 none
  statics := none }

def pool4 : Array CpInfo := pool [(1, u "java/io/Serializable"), (0, .class_ 1), (0, u "java/lang/Object"), (0, .class_ 3)] 3

/-- java/io/Serializable -/
def k4 : Class := { plain "java/io/Serializable" (some 0) with
  accessFlags := 1537
  interfaces := #[]
  cf := some (fileOf pool4 2 #[] #[] 1537 4 #[] #[])
  fields := #[]
  methods := #[]
  instanceTypes := #[]
  staticTypes := #[]
  resolved := Array.replicate 8 none
  statics := none }

/-- the primitive byte -/
def k5 : Class := { plain "byte" none with kind := .primitive 'B', accessFlags := 0x411 }
/-- [B -/
def k6 : Class := { plain "[B" (some 0) with kind := .array 5 .byte, interfaces := #[3, 4], accessFlags := 1041 }

/-- the primitive int -/
def k7 : Class := { plain "int" none with kind := .primitive 'I', accessFlags := 0x411 }
/-- [I -/
def k8 : Class := { plain "[I" (some 0) with kind := .array 7 .int, interfaces := #[3, 4], accessFlags := 1041 }

def heap : Heap := #[]
def classes : Array Class := #[k0, k1, k2, k3, k4, k5, k6, k7, k8]
def interned : List (Array UInt16 × Addr) := []
def slotsUsed : Nat := 0
def theMethod : MethodId := ⟨1, 1⟩
def args0 : Array Value := #[.long 5, .int 3, .int 6, .int 0]
def aboutOver (below : List Frame) : State where
  vm := { classes := classes, interned := interned.toArray }
  heap := heap
  slotsUsed := slotsUsed
  threads := #[{ frames := .invoking theMethod args0 :: below }]
def below0 : List Frame := [.native { method := ⟨0, 0⟩, args := #[] }]
def about1 : State := aboutOver below0
def p0 : Program := .bare "" "" ""
def e0 : Env := launch0.env 0 0 0
theorem w_frames : about1.frames = Frame.invoking theMethod args0 :: below0 := rfl
set_option maxRecDepth 65536 in
theorem w_args : argsFit about1.vm theMethod args0 = true := by decide +kernel
set_option maxRecDepth 65536 in
theorem w_heap : heapFits about1 = true := by decide +kernel
set_option maxRecDepth 65536 in
theorem w_runnable : about1.curStatus? = some .runnable := by decide +kernel
set_option maxRecDepth 65536 in
theorem w_alone : about1.alone = true := by decide +kernel
set_option maxRecDepth 65536 in
theorem w_named : about1.methodNamed? x = some theMethod := by decide +kernel
set_option maxRecDepth 65536 in
theorem w_hears : about1.hears theMethod below0 = true := by decide +kernel
set_option maxRecDepth 65536 in
theorem w_ripe : about1.ripe theMethod args0 below0 = true := by decide +kernel
theorem w_running : about1.status = .running := rfl
set_option maxRecDepth 65536 in
theorem w_room : about1.hasRoom e0.platform room_1 = true :=
  launch0.hasRoom_least _ room_1 (by decide +kernel) (by decide +kernel) (by decide +kernel) (by decide +kernel) (by decide +kernel) (by decide +kernel)
theorem allAtoms_all (ts : List Jvm.Cond) (a : Array Jvm.Value) (st : Jvm.State) : (allAtoms ts).before a st = ts.all (fun c => c.before a st) := by
  induction ts with
  | nil => rfl
  | cons c t ih =>
    show (Jvm.Cond.and c (allAtoms t)).before a st = _
    rw [Jvm.Cond.before_and, ih, List.all_cons]
def words1 : List Jvm.Cond := Jvm.Cond.code x code maxLocals ret :: tables_1
/-- a 'code' word, met by the world's own term for the bytes: nothing is compared byte by byte -/
theorem code_word {y : MethodName} {bytes : ByteArray} {mx : Nat} {rt : Option FieldType} {a : Array Value} {s : State} {m : MethodId} {meth : Method} {c : Code} (h1 : s.methodNamed? y = some m) (h2 : s.vm.method? m = some meth) (h3 : meth.code = some c) (h4 : c.code = bytes)
    (h5 : (c.maxLocals == mx && c.exceptionTable.isEmpty && decide (c.maxStack ≤ mostOperands) && decide (meth.sig.returnType = rt) && !meth.locks && decide (parseMethodDescriptor y.desc = some meth.sig)) = true) : (Jvm.Cond.code y bytes mx rt).before a s = true := by
  simp only [Bool.and_eq_true, beq_iff_eq, Bool.not_eq_true', decide_eq_true_eq] at h5
  obtain ⟨⟨⟨⟨⟨g1, g2⟩, g3⟩, g4⟩, g5⟩, g6⟩ := h5
  simp [Cond.before, Cond.holds, Cond.value, h1, h2, h3, h4, g1, g2, g3, g4, g5, g6]
def isCode : Jvm.Cond → Bool
  | .code _ _ _ _ => true
  | _ => false
theorem all_split {L : List Jvm.Cond} {P : Jvm.Cond → Bool} (h1 : L.all (fun c => isCode c || P c) = true) (h2 : ∀ c ∈ L.filter isCode, P c = true) : L.all P = true := by
  refine List.all_eq_true.mpr fun c hc => ?_
  have h := List.all_eq_true.mp h1 c hc
  rcases Bool.eq_false_or_eq_true (isCode c) with hi | hi
  · exact h2 c (List.mem_filter.mpr ⟨hc, hi⟩)
  · simpa [hi] using h
set_option maxRecDepth 65536 in
theorem w_c0 : (Jvm.Cond.code x code maxLocals ret).before args0 about1 = true := code_word (m := ⟨1, 1⟩) (meth := k1m1) (c := k1c1) (by decide +kernel) rfl rfl rfl (by decide +kernel)
set_option maxRecDepth 65536 in
theorem w_c1 : (Jvm.Cond.code ({ cls := "com/example/eager_sieve/eagersieve/server/FilterMemory", name := "<init>", desc := "(JJ)V" } : Jvm.MethodName) prog_32_method_1_code (5 : Nat) (Option.none : Option Jvm.ClassFile.FieldType)).before args0 about1 = true := code_word (m := ⟨2, 0⟩) (meth := k2m0) (c := k2c0) (by decide +kernel) rfl rfl rfl (by decide +kernel)
set_option maxRecDepth 65536 in
theorem w_c2 : (Jvm.Cond.code ({ cls := "java/lang/Object", name := "<init>", desc := "()V" } : Jvm.MethodName) object_method_1_code (1 : Nat) (Option.none : Option Jvm.ClassFile.FieldType)).before args0 about1 = true := code_word (m := ⟨0, 0⟩) (meth := k0m0) (c := k0c0) (by decide +kernel) rfl rfl rfl (by decide +kernel)
set_option maxRecDepth 65536 in
theorem w_c3 : (Jvm.Cond.code ({ cls := "com/example/eager_sieve/eagersieve/server/FilterMemory", name := "arrayBytes", desc := "(J)J" } : Jvm.MethodName) prog_32_method_4_code (5 : Nat) (Option.some Jvm.ClassFile.FieldType.long)).before args0 about1 = true := code_word (m := ⟨2, 1⟩) (meth := k2m1) (c := k2c1) (by decide +kernel) rfl rfl rfl (by decide +kernel)
def codes1 : List Jvm.Cond := [Jvm.Cond.code x code maxLocals ret, Jvm.Cond.code ({ cls := "com/example/eager_sieve/eagersieve/server/FilterMemory", name := "<init>", desc := "(JJ)V" } : Jvm.MethodName) prog_32_method_1_code (5 : Nat) (Option.none : Option Jvm.ClassFile.FieldType), Jvm.Cond.code ({ cls := "java/lang/Object", name := "<init>", desc := "()V" } : Jvm.MethodName) object_method_1_code (1 : Nat) (Option.none : Option Jvm.ClassFile.FieldType), Jvm.Cond.code ({ cls := "com/example/eager_sieve/eagersieve/server/FilterMemory", name := "arrayBytes", desc := "(J)J" } : Jvm.MethodName) prog_32_method_4_code (5 : Nat) (Option.some Jvm.ClassFile.FieldType.long)]
set_option maxRecDepth 65536 in
theorem codes_eq : words1.filter isCode = codes1 := rfl
theorem w_codes : ∀ c ∈ words1.filter isCode, c.before args0 about1 = true := by
  rw [codes_eq]
  intro c hc
  simp only [codes1, List.mem_cons, List.not_mem_nil, or_false] at hc
  rcases hc with rfl | rfl | rfl | rfl
  · exact w_c0
  · exact w_c1
  · exact w_c2
  · exact w_c3
set_option maxRecDepth 65536 in
theorem w_t1 : (words1.take 24).all (fun c => isCode c || c.before args0 about1) = true := by decide +kernel
set_option maxRecDepth 65536 in
theorem w_t2 : (words1.drop 24).all (fun c => isCode c || c.before args0 about1) = true := by decide +kernel
theorem w_tables : (allAtoms (Jvm.Cond.code x code maxLocals ret :: tables_1)).before args0 about1 = true := by
  rw [allAtoms_all]
  show words1.all (fun c => c.before args0 about1) = true
  refine all_split ?_ w_codes
  rw [← List.take_append_drop 24 words1, List.all_append, w_t1, w_t2]
  rfl
set_option maxRecDepth 65536 in
theorem w_case : (Jvm.Cond.and given_1 narrow_1).before args0 about1 = true := by decide +kernel
theorem w_applies : (headSpec (Jvm.Cond.code x code maxLocals ret :: tables_1) room_1).applies x e0.platform about1 = true :=
  (Spec.applies_iff w_frames).mpr ⟨w_running, w_runnable, w_alone, w_named, w_hears, w_ripe, w_room, w_tables⟩
theorem atStart : AtStart classFile x code maxLocals ret World_1 tables_1 room_1 Calls_1 rest_1 Pre_1 launch0 p0 e0 about1 theMethod args0 below0 :=
  ⟨lists_1, trivial, launch0.admits_env _ _ _, launch0.least_env, fairChoices_fair.cas, fairChoices_fair.clock, w_frames, w_args, w_heap, w_applies, trivial, trivial, w_case⟩
end start1
theorem witness_1 : WitnessClaimed_1 := ⟨start1.p0, start1.e0, start1.about1, start1.theMethod, start1.args0, start1.below0, start1.atStart⟩
end Jvm.Pilot.@@N@@
