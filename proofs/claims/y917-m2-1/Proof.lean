import JvmDerived
import JvmDerived.Pilot.@@N@@Statement
import JvmDerived.Pilot.@@N@@Code
set_option linter.unusedVariables false
set_option linter.unusedSimpArgs false
namespace Jvm.RoadKit
open Sem ClassFile Op Lib Jvm.Stand Jvm.Free Jvm.LawKit
section New
variable {p : Program} {l : Launch} {e : Env} {R : Room} {s : State} {m : MethodId} {args : Array Value} {below : List Frame} {meth : Method} {c : Code} {T : State} {locs : List Loc} {cells slots : Nat}
theorem retI (X : Stand p l e R s m args below meth c T locs cells slots) (hx : p.tables.exec = Jvm.exec) {pc : Nat} {Ls : Array Slot} {z : Int32} {rest : List Value} (hret : meth.sig.returnType = some .int) (hd : decode c.code pc = .ok (.ireturn, 1)) {fs : List Frame}
    (hl : ∀ (f : JFrame) (acts : List Action), f.method = m → f.locked = none → f.entered = [] → (doReturn e (T.setTop f) acts (some (.int z))).1 = T.setFrames fs) : Steps p.tables e below (T.setTop (mkF m pc Ls (.int z :: rest))) (T.setFrames fs) := by
  have hm' : T.vm.method? m = some meth := X.method'
  have hn : narrow .int (.int z) = .int z := rfl
  show Steps p.tables e below (T.setTop { method := m, pc := pc, locals := Ls, stack := _ :: rest, locked := none }) _
  jvm_step X.here [X.here.top, hx, hd, hm', hret, hn]
  first | (intro acts; rw [hl _ acts rfl rfl rfl]) | rw [hl _ _ rfl rfl rfl]
  exact Steps.refl _
theorem own_lrem {g : JFrame} {target : State} (X : Stand p l e R s m args below meth c T locs cells slots) (hx : p.tables.exec = Jvm.exec) (hg : g.method = m) {x y : Int64} {rest : List Value} (hd : decode c.code g.pc = .ok (.lrem, 1)) (hs : g.stack = .long y :: .long x :: rest) (hy : y ≠ 0)
    (hr : Steps p.tables e below (T.setTop { g with pc := g.pc + 1, stack := .long (x % y) :: rest }) target) : Steps p.tables e below (T.setTop g) target := by
  have q : x - (x / y) * y = x % y := lrem_mod x y
  exact XS.lrem X.here hx hg hd hs hy (by rw [q]; exact hr)
theorem own_b1 {P : Prop} [Decidable P] (h : P) : ¬ ((if P then (1 : Int32) else 0) = 0) := by rw [if_pos h]; decide
theorem own_b0 {P : Prop} [Decidable P] (h : ¬ P) : (if P then (1 : Int32) else 0) = 0 := if_neg h
theorem own_c1 {P : Prop} [Decidable P] (h : P) : (if P then (1 : Int32) else 0) = 1 := if_pos h
theorem own_c0 {P : Prop} [Decidable P] (h : ¬ P) : ¬ ((if P then (1 : Int32) else 0) = 1) := by rw [if_neg h]; decide
theorem own_bb {P Q : Prop} [Decidable P] [Decidable Q] (h : P ↔ Q) : (if P then (1 : Int32) else 0) = (if Q then (1 : Int32) else 0) := by
  by_cases p : P
  · rw [if_pos p, if_pos (h.mp p)]
  · rw [if_neg p, if_neg (fun q => p (h.mpr q))]
theorem own_bn {P Q : Prop} [Decidable P] [Decidable Q] (h : ¬ (P ↔ Q)) : ¬ ((if P then (1 : Int32) else 0) = (if Q then (1 : Int32) else 0)) := fun e => h (by
  by_cases p : P <;> by_cases q : Q
  · exact ⟨fun _ => q, fun _ => p⟩
  · rw [if_pos p, if_neg q] at e; exact absurd e (by decide)
  · rw [if_neg p, if_pos q] at e; exact absurd e (by decide)
  · exact ⟨fun a => absurd a p, fun a => absurd a q⟩)
theorem own_t {P : Prop} [Decidable P] (h : P) : some (Value.int 1) = some (Value.int (if P then (1 : Int32) else 0)) := by rw [if_pos h]
theorem own_f {P : Prop} [Decidable P] (h : ¬ P) : some (Value.int 0) = some (Value.int (if P then (1 : Int32) else 0)) := by rw [if_neg h]
end New
end Jvm.RoadKit
namespace Jvm.Pilot.@@N@@
open Jvm Jvm.ClassFile Sem Op Lib Jvm.Free Jvm.Stand Jvm.LawKit Jvm.RoadKit Bundle Jvm.Pilot.@@N@@.Jvm.D
theorem own_win (s z x : Int32) : (¬ s < (0 : Int32) ∧ ¬ x.toInt64 < s.toInt64 ∧ x.toInt64 < s.toInt64 + z.toInt64) ↔ ((0 : Int32) ≤ s ∧ s ≤ x ∧ (x - s) < z) := by
  have e1 := c_i2l s
  have e2 := c_i2l x
  have e3 := c_i2l z
  have e4 := c_ladd s.toInt64 z.toInt64
  have e5 := c_isub x s
  have r1 := rng32 s
  have r2 := rng32 x
  have r3 := rng32 z
  have r4 := rng64 (s.toInt64 + z.toInt64)
  have r5 := rng32 (x - s)
  simp only [Int32.lt_iff_toInt_lt, Int32.le_iff_toInt_le, Int64.lt_iff_toInt_lt, Int32.reduceToInt]
  omega
theorem pn_0 : plainName "com/example/octatom/octatom/model/WindowLookahead" = true := by first | (simp [plainName, overriddenIn]; done) | decide +kernel
theorem d1_0 : decode prog_51_method_2_code 0 = .ok (.iload_n 0, 1) := by decide +kernel
theorem d1_1 : decode prog_51_method_2_code 1 = .ok (.ifCond .lt 19, 3) := by decide +kernel
theorem d1_20 : decode prog_51_method_2_code 20 = .ok (.iconst 0, 1) := by decide +kernel
theorem d1_21 : decode prog_51_method_2_code 21 = .ok (.ireturn, 1) := by decide +kernel
theorem d1_4 : decode prog_51_method_2_code 4 = .ok (.iload_n 2, 1) := by decide +kernel
theorem d1_5 : decode prog_51_method_2_code 5 = .ok (.iload_n 0, 1) := by decide +kernel
theorem d1_6 : decode prog_51_method_2_code 6 = .ok (.if_icmp .lt 14, 3) := by decide +kernel
theorem d1_9 : decode prog_51_method_2_code 9 = .ok (.iload_n 2, 1) := by decide +kernel
theorem d1_10 : decode prog_51_method_2_code 10 = .ok (.iload_n 0, 1) := by decide +kernel
theorem d1_11 : decode prog_51_method_2_code 11 = .ok (.isub, 1) := by decide +kernel
theorem d1_12 : decode prog_51_method_2_code 12 = .ok (.iload_n 1, 1) := by decide +kernel
theorem d1_13 : decode prog_51_method_2_code 13 = .ok (.if_icmp .ge 7, 3) := by decide +kernel
theorem d1_16 : decode prog_51_method_2_code 16 = .ok (.iconst 1, 1) := by decide +kernel
theorem d1_17 : decode prog_51_method_2_code 17 = .ok (.goto 4, 3) := by decide +kernel
theorem ef_1 (m : MethodId) (x0 : Int32) (x1 : Int32) (x2 : Int32) : entryFrame m #[(.int x0), (.int x1), (.int x2)] 3 = mkF m 0 #[.val (.int x0), .val (.int x1), .val (.int x2)] [] := by first | (simp [entryFrame, mkF, argsToLocals, Value.category]; done) | rfl
def Q1 (Z : State) (p0 : Int32) (p1 : Int32) (p2 : Int32) (h0 : Heap) (n0 : Nat) (v : Option Value) (h : Heap) (L : List Loc) : Prop := v = some (.int (if ((0 : Int32) ≤ p0 ∧ p0 ≤ p2 ∧ (p2 - p0) < p1) then (1 : Int32) else 0)) ∧ Fr n0 L ∧ h = h0
set_option maxRecDepth 65536 in
set_option maxHeartbeats 40000000 in
theorem rm1 (l : Launch) (Z : State) (a0 : Array Value) (hw : ∀ d ∈ tables_1, d.before a0 Z = true) (ws : List Jvm.Cond) (p0 : Int32) (p1 : Int32) (p2 : Int32) (h0 : Heap) (n0 : Nat) (Z0 : n0 ≤ h0.size) :
    MetFree l (⟨"com/example/octatom/octatom/model/WindowLookahead", "holds", "(III)Z"⟩ : MethodName) (head1 (Jvm.Cond.code (⟨"com/example/octatom/octatom/model/WindowLookahead", "holds", "(III)Z"⟩ : MethodName) prog_51_method_2_code 3 (some .boolean) :: ws) ({ frames := 0, cells := 0, slots := 0, locals := 0 } : Room)) (fun a U => a = #[(.int p0), (.int p1), (.int p2)] ∧ Z.Warmed39 U.vm ∧ U.heap = h0) (fun _ _ _ _ _ => True) (fun _ U o U' => ∃ v L, o = .returned v ∧ Q1 Z p0 p1 p2 h0 n0 v U'.heap L ∧ FrameEnd U o U' L ({ frames := 0, cells := 0, slots := 0, locals := 0 } : Room).cells ({ frames := 0, cells := 0, slots := 0, locals := 0 } : Room).slots) := by
  refine MetFree.of_bodySF (plainFor_of_name pn_0) hisR ?_
  intro p e s m args below meth c s₁ Bd hml0 hP hK
  obtain ⟨rfl, hZ, hh⟩ := hP
  have hx := Bd.exec
  have hby := Bd.bytes
  have hml : c.maxLocals = 3 := hml0
  have hown : s.vm.findClass "com/example/octatom/octatom/model/WindowLookahead" = some m.cls := findClass_of_methodNamed Bd.named
  have hnm := (name_of_methodNamed Bd.named Bd.method).1
  have X0 : Stand p l e ({ frames := 0, cells := 0, slots := 0, locals := 0 } : Room) s m #[(.int p0), (.int p1), (.int p2)] below meth c s₁ [] 0 0 := Stand.of_body Bd
  have e0 : s₁.heap = h0 := by rw [← hh, Bd.state]; rfl
  have N0 := Fr.nil n0
  have pre0 : ∀ t, Steps p.tables e below (s₁.setTop (mkF m 0 #[.val (.int p0), .val (.int p1), .val (.int p2)] [])) t → Steps p.tables e below (s₁.setTop (entryFrame m #[(.int p0), (.int p1), (.int p2)] 3)) t := fun t k => castTop (ef_1 m p0 p1 p2) k
  have pre1 : ∀ t, Steps p.tables e below (s₁.setTop (mkF m 1 #[.val (.int p0), .val (.int p1), .val (.int p2)] [(.int p0)])) t → Steps p.tables e below (s₁.setTop (entryFrame m #[(.int p0), (.int p1), (.int p2)] 3)) t := fun t k => pre0 t (by
    show Steps p.tables e below (s₁.setTop (mkF m 0 #[.val (.int p0), .val (.int p1), .val (.int p2)] [])) _
    refine XS.iloadN X0.here hx rfl (hb hby d1_0) rfl ?_
    exact k)
  by_cases hc1_2 : p0 < (0 : Int32)
  · have pre3 : ∀ t, Steps p.tables e below (s₁.setTop (mkF m 21 #[.val (.int p0), .val (.int p1), .val (.int p2)] [(.int (0 : Int32))])) t → Steps p.tables e below (s₁.setTop (entryFrame m #[(.int p0), (.int p1), (.int p2)] 3)) t := fun t k => pre1 t (by
      show Steps p.tables e below (s₁.setTop (mkF m 1 #[.val (.int p0), .val (.int p1), .val (.int p2)] [(.int p0)])) _
      refine XS.ifYes X0.here hx rfl (pc0 := 1) (pc' := 20) rfl (hb hby d1_1) rfl ((if0 _ _).trans (tlt hc1_2).1) (by decide) (by decide) ?_
      show Steps p.tables e below (s₁.setTop (mkF m 20 #[.val (.int p0), .val (.int p1), .val (.int p2)] [])) _
      refine XS.iconst X0.here hx rfl (hb hby d1_20) ?_
      exact k)
    obtain ⟨fs, hr, hrun, hended, hW, hsame⟩ := X0.leave (v := some (.int (0 : Int32))) (fun h => by rw [Bd.returns] at h; cases h)
    refine ⟨_, _, pre3 _ ?_, hrun, hended, _, _, rfl, ?_, ⟨_, rfl⟩, hW, hsame.mono (by decide) (by decide)⟩
    · exact retN X0 hx (t := .boolean) Bd.returns (by simp) (hb hby d1_21) hr
    · show Q1 Z p0 p1 p2 h0 n0 _ s₁.heap _
      rw [e0]
      exact ⟨own_f (by simp only [Int32.lt_iff_toInt_lt, Int32.le_iff_toInt_le, Int32.reduceToInt] at hc1_2 ⊢; omega), N0, rfl⟩
  · have pre4 : ∀ t, Steps p.tables e below (s₁.setTop (mkF m 6 #[.val (.int p0), .val (.int p1), .val (.int p2)] [(.int p0), (.int p2)])) t → Steps p.tables e below (s₁.setTop (entryFrame m #[(.int p0), (.int p1), (.int p2)] 3)) t := fun t k => pre1 t (by
      show Steps p.tables e below (s₁.setTop (mkF m 1 #[.val (.int p0), .val (.int p1), .val (.int p2)] [(.int p0)])) _
      refine XS.ifNo X0.here hx rfl (hb hby d1_1) rfl ((if0 _ _).trans (flt hc1_2).1) ?_
      show Steps p.tables e below (s₁.setTop (mkF m 4 #[.val (.int p0), .val (.int p1), .val (.int p2)] [])) _
      refine XS.iloadN X0.here hx rfl (hb hby d1_4) rfl ?_
      show Steps p.tables e below (s₁.setTop (mkF m 5 #[.val (.int p0), .val (.int p1), .val (.int p2)] [(.int p2)])) _
      refine XS.iloadN X0.here hx rfl (hb hby d1_5) rfl ?_
      exact k)
    by_cases hc6_5 : p2 < p0
    · have pre6 : ∀ t, Steps p.tables e below (s₁.setTop (mkF m 21 #[.val (.int p0), .val (.int p1), .val (.int p2)] [(.int (0 : Int32))])) t → Steps p.tables e below (s₁.setTop (entryFrame m #[(.int p0), (.int p1), (.int p2)] 3)) t := fun t k => pre4 t (by
        show Steps p.tables e below (s₁.setTop (mkF m 6 #[.val (.int p0), .val (.int p1), .val (.int p2)] [(.int p0), (.int p2)])) _
        refine XS.icmpYes X0.here hx rfl (pc0 := 6) (pc' := 20) rfl (hb hby d1_6) rfl (tlt hc6_5).1 (by decide) (by decide) ?_
        show Steps p.tables e below (s₁.setTop (mkF m 20 #[.val (.int p0), .val (.int p1), .val (.int p2)] [])) _
        refine XS.iconst X0.here hx rfl (hb hby d1_20) ?_
        exact k)
      obtain ⟨fs, hr, hrun, hended, hW, hsame⟩ := X0.leave (v := some (.int (0 : Int32))) (fun h => by rw [Bd.returns] at h; cases h)
      refine ⟨_, _, pre6 _ ?_, hrun, hended, _, _, rfl, ?_, ⟨_, rfl⟩, hW, hsame.mono (by decide) (by decide)⟩
      · exact retN X0 hx (t := .boolean) Bd.returns (by simp) (hb hby d1_21) hr
      · show Q1 Z p0 p1 p2 h0 n0 _ s₁.heap _
        rw [e0]
        exact ⟨own_f (by simp only [Int32.lt_iff_toInt_lt, Int32.le_iff_toInt_le, Int32.reduceToInt] at hc1_2 hc6_5 ⊢; omega), N0, rfl⟩
    · have pre7 : ∀ t, Steps p.tables e below (s₁.setTop (mkF m 13 #[.val (.int p0), .val (.int p1), .val (.int p2)] [(.int p1), (.int (p2 - p0))])) t → Steps p.tables e below (s₁.setTop (entryFrame m #[(.int p0), (.int p1), (.int p2)] 3)) t := fun t k => pre4 t (by
        show Steps p.tables e below (s₁.setTop (mkF m 6 #[.val (.int p0), .val (.int p1), .val (.int p2)] [(.int p0), (.int p2)])) _
        refine XS.icmpNo X0.here hx rfl (hb hby d1_6) rfl (flt hc6_5).1 ?_
        show Steps p.tables e below (s₁.setTop (mkF m 9 #[.val (.int p0), .val (.int p1), .val (.int p2)] [])) _
        refine XS.iloadN X0.here hx rfl (hb hby d1_9) rfl ?_
        show Steps p.tables e below (s₁.setTop (mkF m 10 #[.val (.int p0), .val (.int p1), .val (.int p2)] [(.int p2)])) _
        refine XS.iloadN X0.here hx rfl (hb hby d1_10) rfl ?_
        show Steps p.tables e below (s₁.setTop (mkF m 11 #[.val (.int p0), .val (.int p1), .val (.int p2)] [(.int p0), (.int p2)])) _
        refine XS.isub X0.here hx rfl (hb hby d1_11) rfl ?_
        show Steps p.tables e below (s₁.setTop (mkF m 12 #[.val (.int p0), .val (.int p1), .val (.int p2)] [(.int (p2 - p0))])) _
        refine XS.iloadN X0.here hx rfl (hb hby d1_12) rfl ?_
        exact k)
      by_cases hc13_8 : (p2 - p0) < p1
      · have pre9 : ∀ t, Steps p.tables e below (s₁.setTop (mkF m 21 #[.val (.int p0), .val (.int p1), .val (.int p2)] [(.int (1 : Int32))])) t → Steps p.tables e below (s₁.setTop (entryFrame m #[(.int p0), (.int p1), (.int p2)] 3)) t := fun t k => pre7 t (by
          show Steps p.tables e below (s₁.setTop (mkF m 13 #[.val (.int p0), .val (.int p1), .val (.int p2)] [(.int p1), (.int (p2 - p0))])) _
          refine XS.icmpNo X0.here hx rfl (hb hby d1_13) rfl (tlt hc13_8).2.1 ?_
          show Steps p.tables e below (s₁.setTop (mkF m 16 #[.val (.int p0), .val (.int p1), .val (.int p2)] [])) _
          refine XS.iconst X0.here hx rfl (hb hby d1_16) ?_
          show Steps p.tables e below (s₁.setTop (mkF m 17 #[.val (.int p0), .val (.int p1), .val (.int p2)] [(.int (1 : Int32))])) _
          refine XS.goto X0.here hx rfl (pc0 := 17) (pc' := 21) rfl (hb hby d1_17) (by decide) (by decide) ?_
          exact k)
        obtain ⟨fs, hr, hrun, hended, hW, hsame⟩ := X0.leave (v := some (.int (1 : Int32))) (fun h => by rw [Bd.returns] at h; cases h)
        refine ⟨_, _, pre9 _ ?_, hrun, hended, _, _, rfl, ?_, ⟨_, rfl⟩, hW, hsame.mono (by decide) (by decide)⟩
        · exact retN X0 hx (t := .boolean) Bd.returns (by simp) (hb hby d1_21) hr
        · show Q1 Z p0 p1 p2 h0 n0 _ s₁.heap _
          rw [e0]
          exact ⟨own_t (by simp only [Int32.lt_iff_toInt_lt, Int32.le_iff_toInt_le, Int32.reduceToInt] at hc1_2 hc6_5 hc13_8 ⊢; omega), N0, rfl⟩
      · have pre10 : ∀ t, Steps p.tables e below (s₁.setTop (mkF m 21 #[.val (.int p0), .val (.int p1), .val (.int p2)] [(.int (0 : Int32))])) t → Steps p.tables e below (s₁.setTop (entryFrame m #[(.int p0), (.int p1), (.int p2)] 3)) t := fun t k => pre7 t (by
          show Steps p.tables e below (s₁.setTop (mkF m 13 #[.val (.int p0), .val (.int p1), .val (.int p2)] [(.int p1), (.int (p2 - p0))])) _
          refine XS.icmpYes X0.here hx rfl (pc0 := 13) (pc' := 20) rfl (hb hby d1_13) rfl (flt hc13_8).2.1 (by decide) (by decide) ?_
          show Steps p.tables e below (s₁.setTop (mkF m 20 #[.val (.int p0), .val (.int p1), .val (.int p2)] [])) _
          refine XS.iconst X0.here hx rfl (hb hby d1_20) ?_
          exact k)
        obtain ⟨fs, hr, hrun, hended, hW, hsame⟩ := X0.leave (v := some (.int (0 : Int32))) (fun h => by rw [Bd.returns] at h; cases h)
        refine ⟨_, _, pre10 _ ?_, hrun, hended, _, _, rfl, ?_, ⟨_, rfl⟩, hW, hsame.mono (by decide) (by decide)⟩
        · exact retN X0 hx (t := .boolean) Bd.returns (by simp) (hb hby d1_21) hr
        · show Q1 Z p0 p1 p2 h0 n0 _ s₁.heap _
          rw [e0]
          exact ⟨own_f (by simp only [Int32.lt_iff_toInt_lt, Int32.le_iff_toInt_le, Int32.reduceToInt] at hc1_2 hc6_5 hc13_8 ⊢; omega), N0, rfl⟩
theorem pn_1 : plainName "com/example/octatom/octatom/model/WindowLookaheadHoldsPinLaw" = true := by first | (simp [plainName, overriddenIn]; done) | decide +kernel
theorem pd_0 : parseMethodDescriptor "(III)Z" = some ⟨[.int, .int, .int], some .boolean⟩ := by decide +kernel
theorem ef_0 (m : MethodId) (x0 : Int32) (x1 : Int32) (x2 : Int32) (x3 : Int32) (x4 : Int32) : entryFrame m #[(.int x0), (.int x1), (.int x2), (.int x3), (.int x4)] maxLocals = mkF m 0 #[.val (.int x0), .val (.int x1), .val (.int x2), .val (.int x3), .val (.int x4), .unset, .unset, .unset, .unset, .unset, .unset, .unset, .unset, .unset, .unset] [] := by first | (simp [entryFrame, mkF, argsToLocals, Value.category, maxLocals]; done) | rfl
def Q0 (Z : State) (p0 : Int32) (p1 : Int32) (p2 : Int32) (p3 : Int32) (p4 : Int32) (h0 : Heap) (n0 : Nat) (v : Option Value) (h : Heap) (L : List Loc) : Prop := v = some (.int 1) ∧ Fr n0 L
set_option maxRecDepth 65536 in
set_option maxHeartbeats 40000000 in
theorem rm0 (l : Launch) (Z : State) (a0 : Array Value) (hw : ∀ d ∈ tables_1, d.before a0 Z = true) (ws : List Jvm.Cond) (p0 : Int32) (p1 : Int32) (p2 : Int32) (p3 : Int32) (p4 : Int32) (h0 : Heap) (n0 : Nat) (Z0 : n0 ≤ h0.size) :
    MetFree l x (head1 (Jvm.Cond.code x code maxLocals ret :: ws) room_1) (fun a U => a = #[(.int p0), (.int p1), (.int p2), (.int p3), (.int p4)] ∧ Z.Warmed39 U.vm ∧ U.heap = h0) (fun _ _ _ _ _ => True) (fun _ U o U' => ∃ v L, o = .returned v ∧ Q0 Z p0 p1 p2 p3 p4 h0 n0 v U'.heap L ∧ FrameEnd U o U' L room_1.cells room_1.slots) := by
  refine MetFree.of_bodySF (plainFor_of_name pn_1) hisR ?_
  intro p e s m args below meth c s₁ Bd hml0 hP hK
  obtain ⟨rfl, hZ, hh⟩ := hP
  have hx := Bd.exec
  have hby := Bd.bytes
  have hml : c.maxLocals = 15 := hml0
  have hown : s.vm.findClass "com/example/octatom/octatom/model/WindowLookaheadHoldsPinLaw" = some m.cls := findClass_of_methodNamed Bd.named
  have hnm := (name_of_methodNamed Bd.named Bd.method).1
  have X0 : Stand p l e room_1 s m #[(.int p0), (.int p1), (.int p2), (.int p3), (.int p4)] below meth c s₁ [] 0 0 := Stand.of_body Bd
  have e0 : s₁.heap = h0 := by rw [← hh, Bd.state]; rfl
  have N0 := Fr.nil n0
  have pre0 : ∀ t, Steps p.tables e below (s₁.setTop (mkF m 0 #[.val (.int p0), .val (.int p1), .val (.int p2), .val (.int p3), .val (.int p4), .unset, .unset, .unset, .unset, .unset, .unset, .unset, .unset, .unset, .unset] [])) t → Steps p.tables e below (s₁.setTop (entryFrame m #[(.int p0), (.int p1), (.int p2), (.int p3), (.int p4)] maxLocals)) t := fun t k => castTop (ef_0 m p0 p1 p2 p3 p4) k
  obtain ⟨v1_0, prem1⟩ : ∃ (v1_0 : Int32), ∀ t, Steps p.tables e below (s₁.setTop (mkF m 16 #[.val (.int p0), .val (.int p1), .val (.int p2), .val (.int p3), .val (.int p4), .unset, .unset, .unset, .unset, .unset, .unset, .unset, .unset, .unset, .unset] [(.int v1_0)])) t → Steps p.tables e below (s₁.setTop (entryFrame m #[(.int p0), (.int p1), (.int p2), (.int p3), (.int p4)] maxLocals)) t := by
    have pre2 : ∀ t, Steps p.tables e below (s₁.setTop (mkF m 4 #[.val (.int p0), .val (.int p1), .val (.int p2), .val (.int p3), .val (.int p4), .unset, .unset, .unset, .unset, .unset, .unset, .unset, .unset, .unset, .unset] [(.int (p4 &&& (1 : Int32)))])) t → Steps p.tables e below (s₁.setTop (entryFrame m #[(.int p0), (.int p1), (.int p2), (.int p3), (.int p4)] maxLocals)) t := fun t k => pre0 t (by
      show Steps p.tables e below (s₁.setTop (mkF m 0 #[.val (.int p0), .val (.int p1), .val (.int p2), .val (.int p3), .val (.int p4), .unset, .unset, .unset, .unset, .unset, .unset, .unset, .unset, .unset, .unset] [])) _
      refine XS.iload X0.here hx rfl (hb hby at_0) rfl ?_
      show Steps p.tables e below (s₁.setTop (mkF m 2 #[.val (.int p0), .val (.int p1), .val (.int p2), .val (.int p3), .val (.int p4), .unset, .unset, .unset, .unset, .unset, .unset, .unset, .unset, .unset, .unset] [(.int p4)])) _
      refine XS.iconst X0.here hx rfl (hb hby at_2) ?_
      show Steps p.tables e below (s₁.setTop (mkF m 3 #[.val (.int p0), .val (.int p1), .val (.int p2), .val (.int p3), .val (.int p4), .unset, .unset, .unset, .unset, .unset, .unset, .unset, .unset, .unset, .unset] [(.int (1 : Int32)), (.int p4)])) _
      refine XS.iand X0.here hx rfl (hb hby at_3) rfl ?_
      exact k)
    by_cases hc4_3 : (p4 &&& (1 : Int32)) = (0 : Int32)
    · have pre4 : ∀ t, Steps p.tables e below (s₁.setTop (mkF m 16 #[.val (.int p0), .val (.int p1), .val (.int p2), .val (.int p3), .val (.int p4), .unset, .unset, .unset, .unset, .unset, .unset, .unset, .unset, .unset, .unset] [(.int p0)])) t → Steps p.tables e below (s₁.setTop (entryFrame m #[(.int p0), (.int p1), (.int p2), (.int p3), (.int p4)] maxLocals)) t := fun t k => pre2 t (by
        show Steps p.tables e below (s₁.setTop (mkF m 4 #[.val (.int p0), .val (.int p1), .val (.int p2), .val (.int p3), .val (.int p4), .unset, .unset, .unset, .unset, .unset, .unset, .unset, .unset, .unset, .unset] [(.int (p4 &&& (1 : Int32)))])) _
        refine XS.ifYes X0.here hx rfl (pc0 := 4) (pc' := 15) rfl (hb hby at_4) rfl ((if0 _ _).trans (teq hc4_3).1) (by decide) (by decide) ?_
        show Steps p.tables e below (s₁.setTop (mkF m 15 #[.val (.int p0), .val (.int p1), .val (.int p2), .val (.int p3), .val (.int p4), .unset, .unset, .unset, .unset, .unset, .unset, .unset, .unset, .unset, .unset] [])) _
        refine XS.iloadN X0.here hx rfl (hb hby at_15) rfl ?_
        exact k)
      exact ⟨p0, pre4⟩
    · have pre5 : ∀ t, Steps p.tables e below (s₁.setTop (mkF m 16 #[.val (.int p0), .val (.int p1), .val (.int p2), .val (.int p3), .val (.int p4), .unset, .unset, .unset, .unset, .unset, .unset, .unset, .unset, .unset, .unset] [(.int ((p0 &&& (3 : Int32)) - (2 : Int32)))])) t → Steps p.tables e below (s₁.setTop (entryFrame m #[(.int p0), (.int p1), (.int p2), (.int p3), (.int p4)] maxLocals)) t := fun t k => pre2 t (by
        show Steps p.tables e below (s₁.setTop (mkF m 4 #[.val (.int p0), .val (.int p1), .val (.int p2), .val (.int p3), .val (.int p4), .unset, .unset, .unset, .unset, .unset, .unset, .unset, .unset, .unset, .unset] [(.int (p4 &&& (1 : Int32)))])) _
        refine XS.ifNo X0.here hx rfl (hb hby at_4) rfl ((if0 _ _).trans (feq hc4_3).1) ?_
        show Steps p.tables e below (s₁.setTop (mkF m 7 #[.val (.int p0), .val (.int p1), .val (.int p2), .val (.int p3), .val (.int p4), .unset, .unset, .unset, .unset, .unset, .unset, .unset, .unset, .unset, .unset] [])) _
        refine XS.iloadN X0.here hx rfl (hb hby at_7) rfl ?_
        show Steps p.tables e below (s₁.setTop (mkF m 8 #[.val (.int p0), .val (.int p1), .val (.int p2), .val (.int p3), .val (.int p4), .unset, .unset, .unset, .unset, .unset, .unset, .unset, .unset, .unset, .unset] [(.int p0)])) _
        refine XS.iconst X0.here hx rfl (hb hby at_8) ?_
        show Steps p.tables e below (s₁.setTop (mkF m 9 #[.val (.int p0), .val (.int p1), .val (.int p2), .val (.int p3), .val (.int p4), .unset, .unset, .unset, .unset, .unset, .unset, .unset, .unset, .unset, .unset] [(.int (3 : Int32)), (.int p0)])) _
        refine XS.iand X0.here hx rfl (hb hby at_9) rfl ?_
        show Steps p.tables e below (s₁.setTop (mkF m 10 #[.val (.int p0), .val (.int p1), .val (.int p2), .val (.int p3), .val (.int p4), .unset, .unset, .unset, .unset, .unset, .unset, .unset, .unset, .unset, .unset] [(.int (p0 &&& (3 : Int32)))])) _
        refine XS.iconst X0.here hx rfl (hb hby at_10) ?_
        show Steps p.tables e below (s₁.setTop (mkF m 11 #[.val (.int p0), .val (.int p1), .val (.int p2), .val (.int p3), .val (.int p4), .unset, .unset, .unset, .unset, .unset, .unset, .unset, .unset, .unset, .unset] [(.int (2 : Int32)), (.int (p0 &&& (3 : Int32)))])) _
        refine XS.isub X0.here hx rfl (hb hby at_11) rfl ?_
        show Steps p.tables e below (s₁.setTop (mkF m 12 #[.val (.int p0), .val (.int p1), .val (.int p2), .val (.int p3), .val (.int p4), .unset, .unset, .unset, .unset, .unset, .unset, .unset, .unset, .unset, .unset] [(.int ((p0 &&& (3 : Int32)) - (2 : Int32)))])) _
        refine XS.goto X0.here hx rfl (pc0 := 12) (pc' := 16) rfl (hb hby at_12) (by decide) (by decide) ?_
        exact k)
      exact ⟨((p0 &&& (3 : Int32)) - (2 : Int32)), pre5⟩
  have pre6 : ∀ t, Steps p.tables e below (s₁.setTop (mkF m 26 #[.val (.int p0), .val (.int p1), .val (.int p2), .val (.int p3), .val (.int p4), .val (.int v1_0), .val (.int ((p4 >>> ((1 : Int32) &&& 31)) &&& (3 : Int32))), .unset, .unset, .unset, .unset, .unset, .unset, .unset, .unset] [])) t → Steps p.tables e below (s₁.setTop (entryFrame m #[(.int p0), (.int p1), (.int p2), (.int p3), (.int p4)] maxLocals)) t := fun t k => prem1 t (by
    show Steps p.tables e below (s₁.setTop (mkF m 16 #[.val (.int p0), .val (.int p1), .val (.int p2), .val (.int p3), .val (.int p4), .unset, .unset, .unset, .unset, .unset, .unset, .unset, .unset, .unset, .unset] [(.int v1_0)])) _
    refine XS.istore X0.here hx rfl (hb hby at_16) rfl (l' := #[.val (.int p0), .val (.int p1), .val (.int p2), .val (.int p3), .val (.int p4), .val (.int v1_0), .unset, .unset, .unset, .unset, .unset, .unset, .unset, .unset, .unset]) rfl ?_
    show Steps p.tables e below (s₁.setTop (mkF m 18 #[.val (.int p0), .val (.int p1), .val (.int p2), .val (.int p3), .val (.int p4), .val (.int v1_0), .unset, .unset, .unset, .unset, .unset, .unset, .unset, .unset, .unset] [])) _
    refine XS.iload X0.here hx rfl (hb hby at_18) rfl ?_
    show Steps p.tables e below (s₁.setTop (mkF m 20 #[.val (.int p0), .val (.int p1), .val (.int p2), .val (.int p3), .val (.int p4), .val (.int v1_0), .unset, .unset, .unset, .unset, .unset, .unset, .unset, .unset, .unset] [(.int p4)])) _
    refine XS.iconst X0.here hx rfl (hb hby at_20) ?_
    show Steps p.tables e below (s₁.setTop (mkF m 21 #[.val (.int p0), .val (.int p1), .val (.int p2), .val (.int p3), .val (.int p4), .val (.int v1_0), .unset, .unset, .unset, .unset, .unset, .unset, .unset, .unset, .unset] [(.int (1 : Int32)), (.int p4)])) _
    refine XS.ishr X0.here hx rfl (hb hby at_21) rfl ?_
    show Steps p.tables e below (s₁.setTop (mkF m 22 #[.val (.int p0), .val (.int p1), .val (.int p2), .val (.int p3), .val (.int p4), .val (.int v1_0), .unset, .unset, .unset, .unset, .unset, .unset, .unset, .unset, .unset] [(.int (p4 >>> ((1 : Int32) &&& 31)))])) _
    refine XS.iconst X0.here hx rfl (hb hby at_22) ?_
    show Steps p.tables e below (s₁.setTop (mkF m 23 #[.val (.int p0), .val (.int p1), .val (.int p2), .val (.int p3), .val (.int p4), .val (.int v1_0), .unset, .unset, .unset, .unset, .unset, .unset, .unset, .unset, .unset] [(.int (3 : Int32)), (.int (p4 >>> ((1 : Int32) &&& 31)))])) _
    refine XS.iand X0.here hx rfl (hb hby at_23) rfl ?_
    show Steps p.tables e below (s₁.setTop (mkF m 24 #[.val (.int p0), .val (.int p1), .val (.int p2), .val (.int p3), .val (.int p4), .val (.int v1_0), .unset, .unset, .unset, .unset, .unset, .unset, .unset, .unset, .unset] [(.int ((p4 >>> ((1 : Int32) &&& 31)) &&& (3 : Int32)))])) _
    refine XS.istore X0.here hx rfl (hb hby at_24) rfl (l' := #[.val (.int p0), .val (.int p1), .val (.int p2), .val (.int p3), .val (.int p4), .val (.int v1_0), .val (.int ((p4 >>> ((1 : Int32) &&& 31)) &&& (3 : Int32))), .unset, .unset, .unset, .unset, .unset, .unset, .unset, .unset]) rfl ?_
    exact k)
  obtain ⟨v7_0, prem7⟩ : ∃ (v7_0 : Int32), ∀ t, Steps p.tables e below (s₁.setTop (mkF m 68 #[.val (.int p0), .val (.int p1), .val (.int p2), .val (.int p3), .val (.int p4), .val (.int v1_0), .val (.int ((p4 >>> ((1 : Int32) &&& 31)) &&& (3 : Int32))), .val (.int v7_0), .unset, .unset, .unset, .unset, .unset, .unset, .unset] [])) t → Steps p.tables e below (s₁.setTop (entryFrame m #[(.int p0), (.int p1), (.int p2), (.int p3), (.int p4)] maxLocals)) t := by
    have pre8 : ∀ t, Steps p.tables e below (s₁.setTop (mkF m 28 #[.val (.int p0), .val (.int p1), .val (.int p2), .val (.int p3), .val (.int p4), .val (.int v1_0), .val (.int ((p4 >>> ((1 : Int32) &&& 31)) &&& (3 : Int32))), .unset, .unset, .unset, .unset, .unset, .unset, .unset, .unset] [(.int ((p4 >>> ((1 : Int32) &&& 31)) &&& (3 : Int32)))])) t → Steps p.tables e below (s₁.setTop (entryFrame m #[(.int p0), (.int p1), (.int p2), (.int p3), (.int p4)] maxLocals)) t := fun t k => pre6 t (by
      show Steps p.tables e below (s₁.setTop (mkF m 26 #[.val (.int p0), .val (.int p1), .val (.int p2), .val (.int p3), .val (.int p4), .val (.int v1_0), .val (.int ((p4 >>> ((1 : Int32) &&& 31)) &&& (3 : Int32))), .unset, .unset, .unset, .unset, .unset, .unset, .unset, .unset] [])) _
      refine XS.iload X0.here hx rfl (hb hby at_26) rfl ?_
      exact k)
    by_cases hc28_9 : ((p4 >>> ((1 : Int32) &&& 31)) &&& (3 : Int32)) = (0 : Int32)
    · have pre10 : ∀ t, Steps p.tables e below (s₁.setTop (mkF m 68 #[.val (.int p0), .val (.int p1), .val (.int p2), .val (.int p3), .val (.int p4), .val (.int v1_0), .val (.int ((p4 >>> ((1 : Int32) &&& 31)) &&& (3 : Int32))), .val (.int p2), .unset, .unset, .unset, .unset, .unset, .unset, .unset] [])) t → Steps p.tables e below (s₁.setTop (entryFrame m #[(.int p0), (.int p1), (.int p2), (.int p3), (.int p4)] maxLocals)) t := fun t k => pre8 t (by
        show Steps p.tables e below (s₁.setTop (mkF m 28 #[.val (.int p0), .val (.int p1), .val (.int p2), .val (.int p3), .val (.int p4), .val (.int v1_0), .val (.int ((p4 >>> ((1 : Int32) &&& 31)) &&& (3 : Int32))), .unset, .unset, .unset, .unset, .unset, .unset, .unset, .unset] [(.int ((p4 >>> ((1 : Int32) &&& 31)) &&& (3 : Int32)))])) _
        refine XS.ifNo X0.here hx rfl (hb hby at_28) rfl ((if0 _ _).trans (teq hc28_9).2) ?_
        show Steps p.tables e below (s₁.setTop (mkF m 31 #[.val (.int p0), .val (.int p1), .val (.int p2), .val (.int p3), .val (.int p4), .val (.int v1_0), .val (.int ((p4 >>> ((1 : Int32) &&& 31)) &&& (3 : Int32))), .unset, .unset, .unset, .unset, .unset, .unset, .unset, .unset] [])) _
        refine XS.iloadN X0.here hx rfl (hb hby at_31) rfl ?_
        show Steps p.tables e below (s₁.setTop (mkF m 32 #[.val (.int p0), .val (.int p1), .val (.int p2), .val (.int p3), .val (.int p4), .val (.int v1_0), .val (.int ((p4 >>> ((1 : Int32) &&& 31)) &&& (3 : Int32))), .unset, .unset, .unset, .unset, .unset, .unset, .unset, .unset] [(.int p2)])) _
        refine XS.istore X0.here hx rfl (hb hby at_32) rfl (l' := #[.val (.int p0), .val (.int p1), .val (.int p2), .val (.int p3), .val (.int p4), .val (.int v1_0), .val (.int ((p4 >>> ((1 : Int32) &&& 31)) &&& (3 : Int32))), .val (.int p2), .unset, .unset, .unset, .unset, .unset, .unset, .unset]) rfl ?_
        show Steps p.tables e below (s₁.setTop (mkF m 34 #[.val (.int p0), .val (.int p1), .val (.int p2), .val (.int p3), .val (.int p4), .val (.int v1_0), .val (.int ((p4 >>> ((1 : Int32) &&& 31)) &&& (3 : Int32))), .val (.int p2), .unset, .unset, .unset, .unset, .unset, .unset, .unset] [])) _
        refine XS.goto X0.here hx rfl (pc0 := 34) (pc' := 68) rfl (hb hby at_34) (by decide) (by decide) ?_
        exact k)
      exact ⟨p2, pre10⟩
    · have pre11 : ∀ t, Steps p.tables e below (s₁.setTop (mkF m 40 #[.val (.int p0), .val (.int p1), .val (.int p2), .val (.int p3), .val (.int p4), .val (.int v1_0), .val (.int ((p4 >>> ((1 : Int32) &&& 31)) &&& (3 : Int32))), .unset, .unset, .unset, .unset, .unset, .unset, .unset, .unset] [(.int (1 : Int32)), (.int ((p4 >>> ((1 : Int32) &&& 31)) &&& (3 : Int32)))])) t → Steps p.tables e below (s₁.setTop (entryFrame m #[(.int p0), (.int p1), (.int p2), (.int p3), (.int p4)] maxLocals)) t := fun t k => pre8 t (by
        show Steps p.tables e below (s₁.setTop (mkF m 28 #[.val (.int p0), .val (.int p1), .val (.int p2), .val (.int p3), .val (.int p4), .val (.int v1_0), .val (.int ((p4 >>> ((1 : Int32) &&& 31)) &&& (3 : Int32))), .unset, .unset, .unset, .unset, .unset, .unset, .unset, .unset] [(.int ((p4 >>> ((1 : Int32) &&& 31)) &&& (3 : Int32)))])) _
        refine XS.ifYes X0.here hx rfl (pc0 := 28) (pc' := 37) rfl (hb hby at_28) rfl ((if0 _ _).trans (feq hc28_9).2) (by decide) (by decide) ?_
        show Steps p.tables e below (s₁.setTop (mkF m 37 #[.val (.int p0), .val (.int p1), .val (.int p2), .val (.int p3), .val (.int p4), .val (.int v1_0), .val (.int ((p4 >>> ((1 : Int32) &&& 31)) &&& (3 : Int32))), .unset, .unset, .unset, .unset, .unset, .unset, .unset, .unset] [])) _
        refine XS.iload X0.here hx rfl (hb hby at_37) rfl ?_
        show Steps p.tables e below (s₁.setTop (mkF m 39 #[.val (.int p0), .val (.int p1), .val (.int p2), .val (.int p3), .val (.int p4), .val (.int v1_0), .val (.int ((p4 >>> ((1 : Int32) &&& 31)) &&& (3 : Int32))), .unset, .unset, .unset, .unset, .unset, .unset, .unset, .unset] [(.int ((p4 >>> ((1 : Int32) &&& 31)) &&& (3 : Int32)))])) _
        refine XS.iconst X0.here hx rfl (hb hby at_39) ?_
        exact k)
      by_cases hc40_12 : ((p4 >>> ((1 : Int32) &&& 31)) &&& (3 : Int32)) = (1 : Int32)
      · have pre13 : ∀ t, Steps p.tables e below (s₁.setTop (mkF m 68 #[.val (.int p0), .val (.int p1), .val (.int p2), .val (.int p3), .val (.int p4), .val (.int v1_0), .val (.int ((p4 >>> ((1 : Int32) &&& 31)) &&& (3 : Int32))), .val (.int ((v1_0 + (p3 &&& (3 : Int32))) - (1 : Int32))), .unset, .unset, .unset, .unset, .unset, .unset, .unset] [])) t → Steps p.tables e below (s₁.setTop (entryFrame m #[(.int p0), (.int p1), (.int p2), (.int p3), (.int p4)] maxLocals)) t := fun t k => pre11 t (by
          show Steps p.tables e below (s₁.setTop (mkF m 40 #[.val (.int p0), .val (.int p1), .val (.int p2), .val (.int p3), .val (.int p4), .val (.int v1_0), .val (.int ((p4 >>> ((1 : Int32) &&& 31)) &&& (3 : Int32))), .unset, .unset, .unset, .unset, .unset, .unset, .unset, .unset] [(.int (1 : Int32)), (.int ((p4 >>> ((1 : Int32) &&& 31)) &&& (3 : Int32)))])) _
          refine XS.icmpNo X0.here hx rfl (hb hby at_40) rfl (teq hc40_12).2 ?_
          show Steps p.tables e below (s₁.setTop (mkF m 43 #[.val (.int p0), .val (.int p1), .val (.int p2), .val (.int p3), .val (.int p4), .val (.int v1_0), .val (.int ((p4 >>> ((1 : Int32) &&& 31)) &&& (3 : Int32))), .unset, .unset, .unset, .unset, .unset, .unset, .unset, .unset] [])) _
          refine XS.iload X0.here hx rfl (hb hby at_43) rfl ?_
          show Steps p.tables e below (s₁.setTop (mkF m 45 #[.val (.int p0), .val (.int p1), .val (.int p2), .val (.int p3), .val (.int p4), .val (.int v1_0), .val (.int ((p4 >>> ((1 : Int32) &&& 31)) &&& (3 : Int32))), .unset, .unset, .unset, .unset, .unset, .unset, .unset, .unset] [(.int v1_0)])) _
          refine XS.iloadN X0.here hx rfl (hb hby at_45) rfl ?_
          show Steps p.tables e below (s₁.setTop (mkF m 46 #[.val (.int p0), .val (.int p1), .val (.int p2), .val (.int p3), .val (.int p4), .val (.int v1_0), .val (.int ((p4 >>> ((1 : Int32) &&& 31)) &&& (3 : Int32))), .unset, .unset, .unset, .unset, .unset, .unset, .unset, .unset] [(.int p3), (.int v1_0)])) _
          refine XS.iconst X0.here hx rfl (hb hby at_46) ?_
          show Steps p.tables e below (s₁.setTop (mkF m 47 #[.val (.int p0), .val (.int p1), .val (.int p2), .val (.int p3), .val (.int p4), .val (.int v1_0), .val (.int ((p4 >>> ((1 : Int32) &&& 31)) &&& (3 : Int32))), .unset, .unset, .unset, .unset, .unset, .unset, .unset, .unset] [(.int (3 : Int32)), (.int p3), (.int v1_0)])) _
          refine XS.iand X0.here hx rfl (hb hby at_47) rfl ?_
          show Steps p.tables e below (s₁.setTop (mkF m 48 #[.val (.int p0), .val (.int p1), .val (.int p2), .val (.int p3), .val (.int p4), .val (.int v1_0), .val (.int ((p4 >>> ((1 : Int32) &&& 31)) &&& (3 : Int32))), .unset, .unset, .unset, .unset, .unset, .unset, .unset, .unset] [(.int (p3 &&& (3 : Int32))), (.int v1_0)])) _
          refine XS.iadd X0.here hx rfl (hb hby at_48) rfl ?_
          show Steps p.tables e below (s₁.setTop (mkF m 49 #[.val (.int p0), .val (.int p1), .val (.int p2), .val (.int p3), .val (.int p4), .val (.int v1_0), .val (.int ((p4 >>> ((1 : Int32) &&& 31)) &&& (3 : Int32))), .unset, .unset, .unset, .unset, .unset, .unset, .unset, .unset] [(.int (v1_0 + (p3 &&& (3 : Int32))))])) _
          refine XS.iconst X0.here hx rfl (hb hby at_49) ?_
          show Steps p.tables e below (s₁.setTop (mkF m 50 #[.val (.int p0), .val (.int p1), .val (.int p2), .val (.int p3), .val (.int p4), .val (.int v1_0), .val (.int ((p4 >>> ((1 : Int32) &&& 31)) &&& (3 : Int32))), .unset, .unset, .unset, .unset, .unset, .unset, .unset, .unset] [(.int (1 : Int32)), (.int (v1_0 + (p3 &&& (3 : Int32))))])) _
          refine XS.isub X0.here hx rfl (hb hby at_50) rfl ?_
          show Steps p.tables e below (s₁.setTop (mkF m 51 #[.val (.int p0), .val (.int p1), .val (.int p2), .val (.int p3), .val (.int p4), .val (.int v1_0), .val (.int ((p4 >>> ((1 : Int32) &&& 31)) &&& (3 : Int32))), .unset, .unset, .unset, .unset, .unset, .unset, .unset, .unset] [(.int ((v1_0 + (p3 &&& (3 : Int32))) - (1 : Int32)))])) _
          refine XS.istore X0.here hx rfl (hb hby at_51) rfl (l' := #[.val (.int p0), .val (.int p1), .val (.int p2), .val (.int p3), .val (.int p4), .val (.int v1_0), .val (.int ((p4 >>> ((1 : Int32) &&& 31)) &&& (3 : Int32))), .val (.int ((v1_0 + (p3 &&& (3 : Int32))) - (1 : Int32))), .unset, .unset, .unset, .unset, .unset, .unset, .unset]) rfl ?_
          show Steps p.tables e below (s₁.setTop (mkF m 53 #[.val (.int p0), .val (.int p1), .val (.int p2), .val (.int p3), .val (.int p4), .val (.int v1_0), .val (.int ((p4 >>> ((1 : Int32) &&& 31)) &&& (3 : Int32))), .val (.int ((v1_0 + (p3 &&& (3 : Int32))) - (1 : Int32))), .unset, .unset, .unset, .unset, .unset, .unset, .unset] [])) _
          refine XS.goto X0.here hx rfl (pc0 := 53) (pc' := 68) rfl (hb hby at_53) (by decide) (by decide) ?_
          exact k)
        exact ⟨((v1_0 + (p3 &&& (3 : Int32))) - (1 : Int32)), pre13⟩
      · have pre14 : ∀ t, Steps p.tables e below (s₁.setTop (mkF m 68 #[.val (.int p0), .val (.int p1), .val (.int p2), .val (.int p3), .val (.int p4), .val (.int v1_0), .val (.int ((p4 >>> ((1 : Int32) &&& 31)) &&& (3 : Int32))), .val (.int (((v1_0 + p1) + (p3 &&& (3 : Int32))) - (2 : Int32))), .unset, .unset, .unset, .unset, .unset, .unset, .unset] [])) t → Steps p.tables e below (s₁.setTop (entryFrame m #[(.int p0), (.int p1), (.int p2), (.int p3), (.int p4)] maxLocals)) t := fun t k => pre11 t (by
          show Steps p.tables e below (s₁.setTop (mkF m 40 #[.val (.int p0), .val (.int p1), .val (.int p2), .val (.int p3), .val (.int p4), .val (.int v1_0), .val (.int ((p4 >>> ((1 : Int32) &&& 31)) &&& (3 : Int32))), .unset, .unset, .unset, .unset, .unset, .unset, .unset, .unset] [(.int (1 : Int32)), (.int ((p4 >>> ((1 : Int32) &&& 31)) &&& (3 : Int32)))])) _
          refine XS.icmpYes X0.here hx rfl (pc0 := 40) (pc' := 56) rfl (hb hby at_40) rfl (feq hc40_12).2 (by decide) (by decide) ?_
          show Steps p.tables e below (s₁.setTop (mkF m 56 #[.val (.int p0), .val (.int p1), .val (.int p2), .val (.int p3), .val (.int p4), .val (.int v1_0), .val (.int ((p4 >>> ((1 : Int32) &&& 31)) &&& (3 : Int32))), .unset, .unset, .unset, .unset, .unset, .unset, .unset, .unset] [])) _
          refine XS.iload X0.here hx rfl (hb hby at_56) rfl ?_
          show Steps p.tables e below (s₁.setTop (mkF m 58 #[.val (.int p0), .val (.int p1), .val (.int p2), .val (.int p3), .val (.int p4), .val (.int v1_0), .val (.int ((p4 >>> ((1 : Int32) &&& 31)) &&& (3 : Int32))), .unset, .unset, .unset, .unset, .unset, .unset, .unset, .unset] [(.int v1_0)])) _
          refine XS.iloadN X0.here hx rfl (hb hby at_58) rfl ?_
          show Steps p.tables e below (s₁.setTop (mkF m 59 #[.val (.int p0), .val (.int p1), .val (.int p2), .val (.int p3), .val (.int p4), .val (.int v1_0), .val (.int ((p4 >>> ((1 : Int32) &&& 31)) &&& (3 : Int32))), .unset, .unset, .unset, .unset, .unset, .unset, .unset, .unset] [(.int p1), (.int v1_0)])) _
          refine XS.iadd X0.here hx rfl (hb hby at_59) rfl ?_
          show Steps p.tables e below (s₁.setTop (mkF m 60 #[.val (.int p0), .val (.int p1), .val (.int p2), .val (.int p3), .val (.int p4), .val (.int v1_0), .val (.int ((p4 >>> ((1 : Int32) &&& 31)) &&& (3 : Int32))), .unset, .unset, .unset, .unset, .unset, .unset, .unset, .unset] [(.int (v1_0 + p1))])) _
          refine XS.iloadN X0.here hx rfl (hb hby at_60) rfl ?_
          show Steps p.tables e below (s₁.setTop (mkF m 61 #[.val (.int p0), .val (.int p1), .val (.int p2), .val (.int p3), .val (.int p4), .val (.int v1_0), .val (.int ((p4 >>> ((1 : Int32) &&& 31)) &&& (3 : Int32))), .unset, .unset, .unset, .unset, .unset, .unset, .unset, .unset] [(.int p3), (.int (v1_0 + p1))])) _
          refine XS.iconst X0.here hx rfl (hb hby at_61) ?_
          show Steps p.tables e below (s₁.setTop (mkF m 62 #[.val (.int p0), .val (.int p1), .val (.int p2), .val (.int p3), .val (.int p4), .val (.int v1_0), .val (.int ((p4 >>> ((1 : Int32) &&& 31)) &&& (3 : Int32))), .unset, .unset, .unset, .unset, .unset, .unset, .unset, .unset] [(.int (3 : Int32)), (.int p3), (.int (v1_0 + p1))])) _
          refine XS.iand X0.here hx rfl (hb hby at_62) rfl ?_
          show Steps p.tables e below (s₁.setTop (mkF m 63 #[.val (.int p0), .val (.int p1), .val (.int p2), .val (.int p3), .val (.int p4), .val (.int v1_0), .val (.int ((p4 >>> ((1 : Int32) &&& 31)) &&& (3 : Int32))), .unset, .unset, .unset, .unset, .unset, .unset, .unset, .unset] [(.int (p3 &&& (3 : Int32))), (.int (v1_0 + p1))])) _
          refine XS.iadd X0.here hx rfl (hb hby at_63) rfl ?_
          show Steps p.tables e below (s₁.setTop (mkF m 64 #[.val (.int p0), .val (.int p1), .val (.int p2), .val (.int p3), .val (.int p4), .val (.int v1_0), .val (.int ((p4 >>> ((1 : Int32) &&& 31)) &&& (3 : Int32))), .unset, .unset, .unset, .unset, .unset, .unset, .unset, .unset] [(.int ((v1_0 + p1) + (p3 &&& (3 : Int32))))])) _
          refine XS.iconst X0.here hx rfl (hb hby at_64) ?_
          show Steps p.tables e below (s₁.setTop (mkF m 65 #[.val (.int p0), .val (.int p1), .val (.int p2), .val (.int p3), .val (.int p4), .val (.int v1_0), .val (.int ((p4 >>> ((1 : Int32) &&& 31)) &&& (3 : Int32))), .unset, .unset, .unset, .unset, .unset, .unset, .unset, .unset] [(.int (2 : Int32)), (.int ((v1_0 + p1) + (p3 &&& (3 : Int32))))])) _
          refine XS.isub X0.here hx rfl (hb hby at_65) rfl ?_
          show Steps p.tables e below (s₁.setTop (mkF m 66 #[.val (.int p0), .val (.int p1), .val (.int p2), .val (.int p3), .val (.int p4), .val (.int v1_0), .val (.int ((p4 >>> ((1 : Int32) &&& 31)) &&& (3 : Int32))), .unset, .unset, .unset, .unset, .unset, .unset, .unset, .unset] [(.int (((v1_0 + p1) + (p3 &&& (3 : Int32))) - (2 : Int32)))])) _
          refine XS.istore X0.here hx rfl (hb hby at_66) rfl (l' := #[.val (.int p0), .val (.int p1), .val (.int p2), .val (.int p3), .val (.int p4), .val (.int v1_0), .val (.int ((p4 >>> ((1 : Int32) &&& 31)) &&& (3 : Int32))), .val (.int (((v1_0 + p1) + (p3 &&& (3 : Int32))) - (2 : Int32))), .unset, .unset, .unset, .unset, .unset, .unset, .unset]) rfl ?_
          exact k)
        exact ⟨(((v1_0 + p1) + (p3 &&& (3 : Int32))) - (2 : Int32)), pre14⟩
  have pre15 : ∀ t, Steps p.tables e below (s₁.setTop (mkF m 88 #[.val (.int p0), .val (.int p1), .val (.int p2), .val (.int p3), .val (.int p4), .val (.int v1_0), .val (.int ((p4 >>> ((1 : Int32) &&& 31)) &&& (3 : Int32))), .val (.int v7_0), .val (.long (v1_0.toInt64)), .second, .val (.long ((v1_0.toInt64) + (p1.toInt64))), .second, .val (.long (v7_0.toInt64)), .second, .unset] [(.int v1_0)])) t → Steps p.tables e below (s₁.setTop (entryFrame m #[(.int p0), (.int p1), (.int p2), (.int p3), (.int p4)] maxLocals)) t := fun t k => prem7 t (by
    show Steps p.tables e below (s₁.setTop (mkF m 68 #[.val (.int p0), .val (.int p1), .val (.int p2), .val (.int p3), .val (.int p4), .val (.int v1_0), .val (.int ((p4 >>> ((1 : Int32) &&& 31)) &&& (3 : Int32))), .val (.int v7_0), .unset, .unset, .unset, .unset, .unset, .unset, .unset] [])) _
    refine XS.iload X0.here hx rfl (hb hby at_68) rfl ?_
    show Steps p.tables e below (s₁.setTop (mkF m 70 #[.val (.int p0), .val (.int p1), .val (.int p2), .val (.int p3), .val (.int p4), .val (.int v1_0), .val (.int ((p4 >>> ((1 : Int32) &&& 31)) &&& (3 : Int32))), .val (.int v7_0), .unset, .unset, .unset, .unset, .unset, .unset, .unset] [(.int v1_0)])) _
    refine XS.i2l X0.here hx rfl (hb hby at_70) rfl ?_
    show Steps p.tables e below (s₁.setTop (mkF m 71 #[.val (.int p0), .val (.int p1), .val (.int p2), .val (.int p3), .val (.int p4), .val (.int v1_0), .val (.int ((p4 >>> ((1 : Int32) &&& 31)) &&& (3 : Int32))), .val (.int v7_0), .unset, .unset, .unset, .unset, .unset, .unset, .unset] [(.long (v1_0.toInt64))])) _
    refine XS.lstore X0.here hx rfl (hb hby at_71) rfl (l' := #[.val (.int p0), .val (.int p1), .val (.int p2), .val (.int p3), .val (.int p4), .val (.int v1_0), .val (.int ((p4 >>> ((1 : Int32) &&& 31)) &&& (3 : Int32))), .val (.int v7_0), .val (.long (v1_0.toInt64)), .second, .unset, .unset, .unset, .unset, .unset]) rfl ?_
    show Steps p.tables e below (s₁.setTop (mkF m 73 #[.val (.int p0), .val (.int p1), .val (.int p2), .val (.int p3), .val (.int p4), .val (.int v1_0), .val (.int ((p4 >>> ((1 : Int32) &&& 31)) &&& (3 : Int32))), .val (.int v7_0), .val (.long (v1_0.toInt64)), .second, .unset, .unset, .unset, .unset, .unset] [])) _
    refine XS.iload X0.here hx rfl (hb hby at_73) rfl ?_
    show Steps p.tables e below (s₁.setTop (mkF m 75 #[.val (.int p0), .val (.int p1), .val (.int p2), .val (.int p3), .val (.int p4), .val (.int v1_0), .val (.int ((p4 >>> ((1 : Int32) &&& 31)) &&& (3 : Int32))), .val (.int v7_0), .val (.long (v1_0.toInt64)), .second, .unset, .unset, .unset, .unset, .unset] [(.int v1_0)])) _
    refine XS.i2l X0.here hx rfl (hb hby at_75) rfl ?_
    show Steps p.tables e below (s₁.setTop (mkF m 76 #[.val (.int p0), .val (.int p1), .val (.int p2), .val (.int p3), .val (.int p4), .val (.int v1_0), .val (.int ((p4 >>> ((1 : Int32) &&& 31)) &&& (3 : Int32))), .val (.int v7_0), .val (.long (v1_0.toInt64)), .second, .unset, .unset, .unset, .unset, .unset] [(.long (v1_0.toInt64))])) _
    refine XS.iloadN X0.here hx rfl (hb hby at_76) rfl ?_
    show Steps p.tables e below (s₁.setTop (mkF m 77 #[.val (.int p0), .val (.int p1), .val (.int p2), .val (.int p3), .val (.int p4), .val (.int v1_0), .val (.int ((p4 >>> ((1 : Int32) &&& 31)) &&& (3 : Int32))), .val (.int v7_0), .val (.long (v1_0.toInt64)), .second, .unset, .unset, .unset, .unset, .unset] [(.int p1), (.long (v1_0.toInt64))])) _
    refine XS.i2l X0.here hx rfl (hb hby at_77) rfl ?_
    show Steps p.tables e below (s₁.setTop (mkF m 78 #[.val (.int p0), .val (.int p1), .val (.int p2), .val (.int p3), .val (.int p4), .val (.int v1_0), .val (.int ((p4 >>> ((1 : Int32) &&& 31)) &&& (3 : Int32))), .val (.int v7_0), .val (.long (v1_0.toInt64)), .second, .unset, .unset, .unset, .unset, .unset] [(.long (p1.toInt64)), (.long (v1_0.toInt64))])) _
    refine XS.ladd X0.here hx rfl (hb hby at_78) rfl ?_
    show Steps p.tables e below (s₁.setTop (mkF m 79 #[.val (.int p0), .val (.int p1), .val (.int p2), .val (.int p3), .val (.int p4), .val (.int v1_0), .val (.int ((p4 >>> ((1 : Int32) &&& 31)) &&& (3 : Int32))), .val (.int v7_0), .val (.long (v1_0.toInt64)), .second, .unset, .unset, .unset, .unset, .unset] [(.long ((v1_0.toInt64) + (p1.toInt64)))])) _
    refine XS.lstore X0.here hx rfl (hb hby at_79) rfl (l' := #[.val (.int p0), .val (.int p1), .val (.int p2), .val (.int p3), .val (.int p4), .val (.int v1_0), .val (.int ((p4 >>> ((1 : Int32) &&& 31)) &&& (3 : Int32))), .val (.int v7_0), .val (.long (v1_0.toInt64)), .second, .val (.long ((v1_0.toInt64) + (p1.toInt64))), .second, .unset, .unset, .unset]) rfl ?_
    show Steps p.tables e below (s₁.setTop (mkF m 81 #[.val (.int p0), .val (.int p1), .val (.int p2), .val (.int p3), .val (.int p4), .val (.int v1_0), .val (.int ((p4 >>> ((1 : Int32) &&& 31)) &&& (3 : Int32))), .val (.int v7_0), .val (.long (v1_0.toInt64)), .second, .val (.long ((v1_0.toInt64) + (p1.toInt64))), .second, .unset, .unset, .unset] [])) _
    refine XS.iload X0.here hx rfl (hb hby at_81) rfl ?_
    show Steps p.tables e below (s₁.setTop (mkF m 83 #[.val (.int p0), .val (.int p1), .val (.int p2), .val (.int p3), .val (.int p4), .val (.int v1_0), .val (.int ((p4 >>> ((1 : Int32) &&& 31)) &&& (3 : Int32))), .val (.int v7_0), .val (.long (v1_0.toInt64)), .second, .val (.long ((v1_0.toInt64) + (p1.toInt64))), .second, .unset, .unset, .unset] [(.int v7_0)])) _
    refine XS.i2l X0.here hx rfl (hb hby at_83) rfl ?_
    show Steps p.tables e below (s₁.setTop (mkF m 84 #[.val (.int p0), .val (.int p1), .val (.int p2), .val (.int p3), .val (.int p4), .val (.int v1_0), .val (.int ((p4 >>> ((1 : Int32) &&& 31)) &&& (3 : Int32))), .val (.int v7_0), .val (.long (v1_0.toInt64)), .second, .val (.long ((v1_0.toInt64) + (p1.toInt64))), .second, .unset, .unset, .unset] [(.long (v7_0.toInt64))])) _
    refine XS.lstore X0.here hx rfl (hb hby at_84) rfl (l' := #[.val (.int p0), .val (.int p1), .val (.int p2), .val (.int p3), .val (.int p4), .val (.int v1_0), .val (.int ((p4 >>> ((1 : Int32) &&& 31)) &&& (3 : Int32))), .val (.int v7_0), .val (.long (v1_0.toInt64)), .second, .val (.long ((v1_0.toInt64) + (p1.toInt64))), .second, .val (.long (v7_0.toInt64)), .second, .unset]) rfl ?_
    show Steps p.tables e below (s₁.setTop (mkF m 86 #[.val (.int p0), .val (.int p1), .val (.int p2), .val (.int p3), .val (.int p4), .val (.int v1_0), .val (.int ((p4 >>> ((1 : Int32) &&& 31)) &&& (3 : Int32))), .val (.int v7_0), .val (.long (v1_0.toInt64)), .second, .val (.long ((v1_0.toInt64) + (p1.toInt64))), .second, .val (.long (v7_0.toInt64)), .second, .unset] [])) _
    refine XS.iload X0.here hx rfl (hb hby at_86) rfl ?_
    exact k)
  by_cases hc88_16 : v1_0 < (0 : Int32)
  · obtain ⟨_, _, ⟨T17, L17, k17, n17⟩, -, X17, ⟨Lc17, hQ17, l17, y17, z17⟩, st17⟩ := Jvm.LawKit.callS X0 hx (y := (⟨"com/example/octatom/octatom/model/WindowLookahead", "holds", "(III)Z"⟩ : MethodName)) hown (mvT hZ (hw _ (List.mem_of_getElem? (i := 0) rfl))) (mvT hZ (hw _ (List.mem_of_getElem? (i := 1) rfl))) (mvT hZ (hw _ (List.mem_of_getElem? (i := 2) rfl))) (mvT hZ (hw _ (List.mem_of_getElem? (i := 3) rfl))) (by decide) (backOf (W := 0) (rm1 l Z a0 hw [] v1_0 p1 v7_0 h0 n0 Z0 ) hZ (hw _ (List.mem_of_getElem? (i := 3) rfl)) (hw _ (List.mem_of_getElem? (i := 2) rfl)) (by decide) (by decide)) (g := (mkF m 119 #[.val (.int p0), .val (.int p1), .val (.int p2), .val (.int p3), .val (.int p4), .val (.int v1_0), .val (.int ((p4 >>> ((1 : Int32) &&& 31)) &&& (3 : Int32))), .val (.int v7_0), .val (.long (v1_0.toInt64)), .second, .val (.long ((v1_0.toInt64) + (p1.toInt64))), .second, .val (.long (v7_0.toInt64)), .second, .val (.int (0 : Int32))] [(.int v7_0), (.int p1), (.int v1_0)])) rfl (by rw [hml]; rfl) (argsL := [(.int v1_0), (.int p1), (.int v7_0)]) (rest := []) (lenOf pd_0 rfl) rfl (by show 2 * 0 + _ ≤ _; exact Nat.le_of_eq rfl) (hb hby at_119) (fun _ _ => ⟨rfl, e0, (by decide : 0 + 0 ≤ _), (by decide : 0 + 0 ≤ _)⟩)
    dsimp only [Pt.U, Pt.locs, Pt.cells, Pt.slots] at X17 l17 y17 z17 st17 hQ17
    subst l17 y17 z17
    obtain ⟨rfl, N17q, hh17⟩ := hQ17
    have N17 := Fr.app N0 N17q
    have pre18 : ∀ t, Steps p.tables e below (T17.setTop (mkF m 124 #[.val (.int p0), .val (.int p1), .val (.int p2), .val (.int p3), .val (.int p4), .val (.int v1_0), .val (.int ((p4 >>> ((1 : Int32) &&& 31)) &&& (3 : Int32))), .val (.int v7_0), .val (.long (v1_0.toInt64)), .second, .val (.long ((v1_0.toInt64) + (p1.toInt64))), .second, .val (.long (v7_0.toInt64)), .second, .val (.int (0 : Int32))] [(.int (0 : Int32)), (.int (if ((0 : Int32) ≤ v1_0 ∧ v1_0 ≤ v7_0 ∧ (v7_0 - v1_0) < p1) then (1 : Int32) else 0))])) t → Steps p.tables e below (s₁.setTop (entryFrame m #[(.int p0), (.int p1), (.int p2), (.int p3), (.int p4)] maxLocals)) t := fun t k => pre15 t (by
      show Steps p.tables e below (s₁.setTop (mkF m 88 #[.val (.int p0), .val (.int p1), .val (.int p2), .val (.int p3), .val (.int p4), .val (.int v1_0), .val (.int ((p4 >>> ((1 : Int32) &&& 31)) &&& (3 : Int32))), .val (.int v7_0), .val (.long (v1_0.toInt64)), .second, .val (.long ((v1_0.toInt64) + (p1.toInt64))), .second, .val (.long (v7_0.toInt64)), .second, .unset] [(.int v1_0)])) _
      refine XS.ifYes X0.here hx rfl (pc0 := 88) (pc' := 111) rfl (hb hby at_88) rfl ((if0 _ _).trans (tlt hc88_16).1) (by decide) (by decide) ?_
      show Steps p.tables e below (s₁.setTop (mkF m 111 #[.val (.int p0), .val (.int p1), .val (.int p2), .val (.int p3), .val (.int p4), .val (.int v1_0), .val (.int ((p4 >>> ((1 : Int32) &&& 31)) &&& (3 : Int32))), .val (.int v7_0), .val (.long (v1_0.toInt64)), .second, .val (.long ((v1_0.toInt64) + (p1.toInt64))), .second, .val (.long (v7_0.toInt64)), .second, .unset] [])) _
      refine XS.iconst X0.here hx rfl (hb hby at_111) ?_
      show Steps p.tables e below (s₁.setTop (mkF m 112 #[.val (.int p0), .val (.int p1), .val (.int p2), .val (.int p3), .val (.int p4), .val (.int v1_0), .val (.int ((p4 >>> ((1 : Int32) &&& 31)) &&& (3 : Int32))), .val (.int v7_0), .val (.long (v1_0.toInt64)), .second, .val (.long ((v1_0.toInt64) + (p1.toInt64))), .second, .val (.long (v7_0.toInt64)), .second, .unset] [(.int (0 : Int32))])) _
      refine XS.istore X0.here hx rfl (hb hby at_112) rfl (l' := #[.val (.int p0), .val (.int p1), .val (.int p2), .val (.int p3), .val (.int p4), .val (.int v1_0), .val (.int ((p4 >>> ((1 : Int32) &&& 31)) &&& (3 : Int32))), .val (.int v7_0), .val (.long (v1_0.toInt64)), .second, .val (.long ((v1_0.toInt64) + (p1.toInt64))), .second, .val (.long (v7_0.toInt64)), .second, .val (.int (0 : Int32))]) rfl ?_
      show Steps p.tables e below (s₁.setTop (mkF m 114 #[.val (.int p0), .val (.int p1), .val (.int p2), .val (.int p3), .val (.int p4), .val (.int v1_0), .val (.int ((p4 >>> ((1 : Int32) &&& 31)) &&& (3 : Int32))), .val (.int v7_0), .val (.long (v1_0.toInt64)), .second, .val (.long ((v1_0.toInt64) + (p1.toInt64))), .second, .val (.long (v7_0.toInt64)), .second, .val (.int (0 : Int32))] [])) _
      refine XS.iload X0.here hx rfl (hb hby at_114) rfl ?_
      show Steps p.tables e below (s₁.setTop (mkF m 116 #[.val (.int p0), .val (.int p1), .val (.int p2), .val (.int p3), .val (.int p4), .val (.int v1_0), .val (.int ((p4 >>> ((1 : Int32) &&& 31)) &&& (3 : Int32))), .val (.int v7_0), .val (.long (v1_0.toInt64)), .second, .val (.long ((v1_0.toInt64) + (p1.toInt64))), .second, .val (.long (v7_0.toInt64)), .second, .val (.int (0 : Int32))] [(.int v1_0)])) _
      refine XS.iloadN X0.here hx rfl (hb hby at_116) rfl ?_
      show Steps p.tables e below (s₁.setTop (mkF m 117 #[.val (.int p0), .val (.int p1), .val (.int p2), .val (.int p3), .val (.int p4), .val (.int v1_0), .val (.int ((p4 >>> ((1 : Int32) &&& 31)) &&& (3 : Int32))), .val (.int v7_0), .val (.long (v1_0.toInt64)), .second, .val (.long ((v1_0.toInt64) + (p1.toInt64))), .second, .val (.long (v7_0.toInt64)), .second, .val (.int (0 : Int32))] [(.int p1), (.int v1_0)])) _
      refine XS.iload X0.here hx rfl (hb hby at_117) rfl ?_
      show Steps p.tables e below (s₁.setTop (mkF m 119 #[.val (.int p0), .val (.int p1), .val (.int p2), .val (.int p3), .val (.int p4), .val (.int v1_0), .val (.int ((p4 >>> ((1 : Int32) &&& 31)) &&& (3 : Int32))), .val (.int v7_0), .val (.long (v1_0.toInt64)), .second, .val (.long ((v1_0.toInt64) + (p1.toInt64))), .second, .val (.long (v7_0.toInt64)), .second, .val (.int (0 : Int32))] [(.int v7_0), (.int p1), (.int v1_0)])) _
      refine st17 _ ?_
      show Steps p.tables e below (T17.setTop (mkF m 122 #[.val (.int p0), .val (.int p1), .val (.int p2), .val (.int p3), .val (.int p4), .val (.int v1_0), .val (.int ((p4 >>> ((1 : Int32) &&& 31)) &&& (3 : Int32))), .val (.int v7_0), .val (.long (v1_0.toInt64)), .second, .val (.long ((v1_0.toInt64) + (p1.toInt64))), .second, .val (.long (v7_0.toInt64)), .second, .val (.int (0 : Int32))] [(.int (if ((0 : Int32) ≤ v1_0 ∧ v1_0 ≤ v7_0 ∧ (v7_0 - v1_0) < p1) then (1 : Int32) else 0))])) _
      refine XS.iload X17.here hx rfl (hb hby at_122) rfl ?_
      exact k)
    by_cases hc124_19 : ((0 : Int32) ≤ v1_0 ∧ v1_0 ≤ v7_0 ∧ (v7_0 - v1_0) < p1)
    · have pre20 : ∀ t, Steps p.tables e below (T17.setTop (mkF m 132 #[.val (.int p0), .val (.int p1), .val (.int p2), .val (.int p3), .val (.int p4), .val (.int v1_0), .val (.int ((p4 >>> ((1 : Int32) &&& 31)) &&& (3 : Int32))), .val (.int v7_0), .val (.long (v1_0.toInt64)), .second, .val (.long ((v1_0.toInt64) + (p1.toInt64))), .second, .val (.long (v7_0.toInt64)), .second, .val (.int (0 : Int32))] [(.int (0 : Int32))])) t → Steps p.tables e below (s₁.setTop (entryFrame m #[(.int p0), (.int p1), (.int p2), (.int p3), (.int p4)] maxLocals)) t := fun t k => pre18 t (by
        show Steps p.tables e below (T17.setTop (mkF m 124 #[.val (.int p0), .val (.int p1), .val (.int p2), .val (.int p3), .val (.int p4), .val (.int v1_0), .val (.int ((p4 >>> ((1 : Int32) &&& 31)) &&& (3 : Int32))), .val (.int v7_0), .val (.long (v1_0.toInt64)), .second, .val (.long ((v1_0.toInt64) + (p1.toInt64))), .second, .val (.long (v7_0.toInt64)), .second, .val (.int (0 : Int32))] [(.int (0 : Int32)), (.int (if ((0 : Int32) ≤ v1_0 ∧ v1_0 ≤ v7_0 ∧ (v7_0 - v1_0) < p1) then (1 : Int32) else 0))])) _
        refine XS.icmpYes X17.here hx rfl (pc0 := 124) (pc' := 131) rfl (hb hby at_124) rfl (feq (own_b1 hc124_19)).2 (by decide) (by decide) ?_
        show Steps p.tables e below (T17.setTop (mkF m 131 #[.val (.int p0), .val (.int p1), .val (.int p2), .val (.int p3), .val (.int p4), .val (.int v1_0), .val (.int ((p4 >>> ((1 : Int32) &&& 31)) &&& (3 : Int32))), .val (.int v7_0), .val (.long (v1_0.toInt64)), .second, .val (.long ((v1_0.toInt64) + (p1.toInt64))), .second, .val (.long (v7_0.toInt64)), .second, .val (.int (0 : Int32))] [])) _
        refine XS.iconst X17.here hx rfl (hb hby at_131) ?_
        exact k)
      obtain ⟨fs, hr, hrun, hended, hW, hsame⟩ := X17.leave (v := some (.int (0 : Int32))) (fun h => by rw [Bd.returns] at h; cases h)
      refine ⟨_, _, pre20 _ ?_, hrun, hended, _, _, rfl, ?_, ⟨_, rfl⟩, hW, hsame.mono (by decide) (by decide)⟩
      · exact retN X17 hx (t := .boolean) Bd.returns (by simp) (hb hby at_132) hr
      · show Q0 Z p0 p1 p2 p3 p4 h0 n0 _ T17.heap _
        rw [hh17]
        exfalso
        obtain ⟨qa, qb, qc⟩ := (own_win v1_0 p1 v7_0).mpr hc124_19
        exact qa hc88_16
    · have pre21 : ∀ t, Steps p.tables e below (T17.setTop (mkF m 132 #[.val (.int p0), .val (.int p1), .val (.int p2), .val (.int p3), .val (.int p4), .val (.int v1_0), .val (.int ((p4 >>> ((1 : Int32) &&& 31)) &&& (3 : Int32))), .val (.int v7_0), .val (.long (v1_0.toInt64)), .second, .val (.long ((v1_0.toInt64) + (p1.toInt64))), .second, .val (.long (v7_0.toInt64)), .second, .val (.int (0 : Int32))] [(.int (1 : Int32))])) t → Steps p.tables e below (s₁.setTop (entryFrame m #[(.int p0), (.int p1), (.int p2), (.int p3), (.int p4)] maxLocals)) t := fun t k => pre18 t (by
        show Steps p.tables e below (T17.setTop (mkF m 124 #[.val (.int p0), .val (.int p1), .val (.int p2), .val (.int p3), .val (.int p4), .val (.int v1_0), .val (.int ((p4 >>> ((1 : Int32) &&& 31)) &&& (3 : Int32))), .val (.int v7_0), .val (.long (v1_0.toInt64)), .second, .val (.long ((v1_0.toInt64) + (p1.toInt64))), .second, .val (.long (v7_0.toInt64)), .second, .val (.int (0 : Int32))] [(.int (0 : Int32)), (.int (if ((0 : Int32) ≤ v1_0 ∧ v1_0 ≤ v7_0 ∧ (v7_0 - v1_0) < p1) then (1 : Int32) else 0))])) _
        refine XS.icmpNo X17.here hx rfl (hb hby at_124) rfl (teq (own_b0 hc124_19)).2 ?_
        show Steps p.tables e below (T17.setTop (mkF m 127 #[.val (.int p0), .val (.int p1), .val (.int p2), .val (.int p3), .val (.int p4), .val (.int v1_0), .val (.int ((p4 >>> ((1 : Int32) &&& 31)) &&& (3 : Int32))), .val (.int v7_0), .val (.long (v1_0.toInt64)), .second, .val (.long ((v1_0.toInt64) + (p1.toInt64))), .second, .val (.long (v7_0.toInt64)), .second, .val (.int (0 : Int32))] [])) _
        refine XS.iconst X17.here hx rfl (hb hby at_127) ?_
        show Steps p.tables e below (T17.setTop (mkF m 128 #[.val (.int p0), .val (.int p1), .val (.int p2), .val (.int p3), .val (.int p4), .val (.int v1_0), .val (.int ((p4 >>> ((1 : Int32) &&& 31)) &&& (3 : Int32))), .val (.int v7_0), .val (.long (v1_0.toInt64)), .second, .val (.long ((v1_0.toInt64) + (p1.toInt64))), .second, .val (.long (v7_0.toInt64)), .second, .val (.int (0 : Int32))] [(.int (1 : Int32))])) _
        refine XS.goto X17.here hx rfl (pc0 := 128) (pc' := 132) rfl (hb hby at_128) (by decide) (by decide) ?_
        exact k)
      obtain ⟨fs, hr, hrun, hended, hW, hsame⟩ := X17.leave (v := some (.int (1 : Int32))) (fun h => by rw [Bd.returns] at h; cases h)
      refine ⟨_, _, pre21 _ ?_, hrun, hended, _, _, rfl, ?_, ⟨_, rfl⟩, hW, hsame.mono (by decide) (by decide)⟩
      · exact retN X17 hx (t := .boolean) Bd.returns (by simp) (hb hby at_132) hr
      · show Q0 Z p0 p1 p2 p3 p4 h0 n0 _ T17.heap _
        rw [hh17]
        exact ⟨rfl, N17⟩
  · have pre22 : ∀ t, Steps p.tables e below (s₁.setTop (mkF m 96 #[.val (.int p0), .val (.int p1), .val (.int p2), .val (.int p3), .val (.int p4), .val (.int v1_0), .val (.int ((p4 >>> ((1 : Int32) &&& 31)) &&& (3 : Int32))), .val (.int v7_0), .val (.long (v1_0.toInt64)), .second, .val (.long ((v1_0.toInt64) + (p1.toInt64))), .second, .val (.long (v7_0.toInt64)), .second, .unset] [(.int (lcmpW (v1_0.toInt64) (v7_0.toInt64)))])) t → Steps p.tables e below (s₁.setTop (entryFrame m #[(.int p0), (.int p1), (.int p2), (.int p3), (.int p4)] maxLocals)) t := fun t k => pre15 t (by
      show Steps p.tables e below (s₁.setTop (mkF m 88 #[.val (.int p0), .val (.int p1), .val (.int p2), .val (.int p3), .val (.int p4), .val (.int v1_0), .val (.int ((p4 >>> ((1 : Int32) &&& 31)) &&& (3 : Int32))), .val (.int v7_0), .val (.long (v1_0.toInt64)), .second, .val (.long ((v1_0.toInt64) + (p1.toInt64))), .second, .val (.long (v7_0.toInt64)), .second, .unset] [(.int v1_0)])) _
      refine XS.ifNo X0.here hx rfl (hb hby at_88) rfl ((if0 _ _).trans (flt hc88_16).1) ?_
      show Steps p.tables e below (s₁.setTop (mkF m 91 #[.val (.int p0), .val (.int p1), .val (.int p2), .val (.int p3), .val (.int p4), .val (.int v1_0), .val (.int ((p4 >>> ((1 : Int32) &&& 31)) &&& (3 : Int32))), .val (.int v7_0), .val (.long (v1_0.toInt64)), .second, .val (.long ((v1_0.toInt64) + (p1.toInt64))), .second, .val (.long (v7_0.toInt64)), .second, .unset] [])) _
      refine XS.lload X0.here hx rfl (hb hby at_91) rfl ?_
      show Steps p.tables e below (s₁.setTop (mkF m 93 #[.val (.int p0), .val (.int p1), .val (.int p2), .val (.int p3), .val (.int p4), .val (.int v1_0), .val (.int ((p4 >>> ((1 : Int32) &&& 31)) &&& (3 : Int32))), .val (.int v7_0), .val (.long (v1_0.toInt64)), .second, .val (.long ((v1_0.toInt64) + (p1.toInt64))), .second, .val (.long (v7_0.toInt64)), .second, .unset] [(.long (v1_0.toInt64))])) _
      refine XS.lload X0.here hx rfl (hb hby at_93) rfl ?_
      show Steps p.tables e below (s₁.setTop (mkF m 95 #[.val (.int p0), .val (.int p1), .val (.int p2), .val (.int p3), .val (.int p4), .val (.int v1_0), .val (.int ((p4 >>> ((1 : Int32) &&& 31)) &&& (3 : Int32))), .val (.int v7_0), .val (.long (v1_0.toInt64)), .second, .val (.long ((v1_0.toInt64) + (p1.toInt64))), .second, .val (.long (v7_0.toInt64)), .second, .unset] [(.long (v7_0.toInt64)), (.long (v1_0.toInt64))])) _
      refine XS.lcmp X0.here hx rfl (hb hby at_95) rfl ?_
      exact k)
    by_cases hc96_23 : (v7_0.toInt64) < (v1_0.toInt64)
    · obtain ⟨_, _, ⟨T24, L24, k24, n24⟩, -, X24, ⟨Lc24, hQ24, l24, y24, z24⟩, st24⟩ := Jvm.LawKit.callS X0 hx (y := (⟨"com/example/octatom/octatom/model/WindowLookahead", "holds", "(III)Z"⟩ : MethodName)) hown (mvT hZ (hw _ (List.mem_of_getElem? (i := 0) rfl))) (mvT hZ (hw _ (List.mem_of_getElem? (i := 1) rfl))) (mvT hZ (hw _ (List.mem_of_getElem? (i := 2) rfl))) (mvT hZ (hw _ (List.mem_of_getElem? (i := 3) rfl))) (by decide) (backOf (W := 0) (rm1 l Z a0 hw [] v1_0 p1 v7_0 h0 n0 Z0 ) hZ (hw _ (List.mem_of_getElem? (i := 3) rfl)) (hw _ (List.mem_of_getElem? (i := 2) rfl)) (by decide) (by decide)) (g := (mkF m 119 #[.val (.int p0), .val (.int p1), .val (.int p2), .val (.int p3), .val (.int p4), .val (.int v1_0), .val (.int ((p4 >>> ((1 : Int32) &&& 31)) &&& (3 : Int32))), .val (.int v7_0), .val (.long (v1_0.toInt64)), .second, .val (.long ((v1_0.toInt64) + (p1.toInt64))), .second, .val (.long (v7_0.toInt64)), .second, .val (.int (0 : Int32))] [(.int v7_0), (.int p1), (.int v1_0)])) rfl (by rw [hml]; rfl) (argsL := [(.int v1_0), (.int p1), (.int v7_0)]) (rest := []) (lenOf pd_0 rfl) rfl (by show 2 * 0 + _ ≤ _; exact Nat.le_of_eq rfl) (hb hby at_119) (fun _ _ => ⟨rfl, e0, (by decide : 0 + 0 ≤ _), (by decide : 0 + 0 ≤ _)⟩)
      dsimp only [Pt.U, Pt.locs, Pt.cells, Pt.slots] at X24 l24 y24 z24 st24 hQ24
      subst l24 y24 z24
      obtain ⟨rfl, N24q, hh24⟩ := hQ24
      have N24 := Fr.app N0 N24q
      have pre25 : ∀ t, Steps p.tables e below (T24.setTop (mkF m 124 #[.val (.int p0), .val (.int p1), .val (.int p2), .val (.int p3), .val (.int p4), .val (.int v1_0), .val (.int ((p4 >>> ((1 : Int32) &&& 31)) &&& (3 : Int32))), .val (.int v7_0), .val (.long (v1_0.toInt64)), .second, .val (.long ((v1_0.toInt64) + (p1.toInt64))), .second, .val (.long (v7_0.toInt64)), .second, .val (.int (0 : Int32))] [(.int (0 : Int32)), (.int (if ((0 : Int32) ≤ v1_0 ∧ v1_0 ≤ v7_0 ∧ (v7_0 - v1_0) < p1) then (1 : Int32) else 0))])) t → Steps p.tables e below (s₁.setTop (entryFrame m #[(.int p0), (.int p1), (.int p2), (.int p3), (.int p4)] maxLocals)) t := fun t k => pre22 t (by
        show Steps p.tables e below (s₁.setTop (mkF m 96 #[.val (.int p0), .val (.int p1), .val (.int p2), .val (.int p3), .val (.int p4), .val (.int v1_0), .val (.int ((p4 >>> ((1 : Int32) &&& 31)) &&& (3 : Int32))), .val (.int v7_0), .val (.long (v1_0.toInt64)), .second, .val (.long ((v1_0.toInt64) + (p1.toInt64))), .second, .val (.long (v7_0.toInt64)), .second, .unset] [(.int (lcmpW (v1_0.toInt64) (v7_0.toInt64)))])) _
        refine XS.ifYes X0.here hx rfl (pc0 := 96) (pc' := 111) rfl (hb hby at_96) rfl ((if0 _ _).trans (tlt ((lw_gt _ _).mpr hc96_23)).2.2.1) (by decide) (by decide) ?_
        show Steps p.tables e below (s₁.setTop (mkF m 111 #[.val (.int p0), .val (.int p1), .val (.int p2), .val (.int p3), .val (.int p4), .val (.int v1_0), .val (.int ((p4 >>> ((1 : Int32) &&& 31)) &&& (3 : Int32))), .val (.int v7_0), .val (.long (v1_0.toInt64)), .second, .val (.long ((v1_0.toInt64) + (p1.toInt64))), .second, .val (.long (v7_0.toInt64)), .second, .unset] [])) _
        refine XS.iconst X0.here hx rfl (hb hby at_111) ?_
        show Steps p.tables e below (s₁.setTop (mkF m 112 #[.val (.int p0), .val (.int p1), .val (.int p2), .val (.int p3), .val (.int p4), .val (.int v1_0), .val (.int ((p4 >>> ((1 : Int32) &&& 31)) &&& (3 : Int32))), .val (.int v7_0), .val (.long (v1_0.toInt64)), .second, .val (.long ((v1_0.toInt64) + (p1.toInt64))), .second, .val (.long (v7_0.toInt64)), .second, .unset] [(.int (0 : Int32))])) _
        refine XS.istore X0.here hx rfl (hb hby at_112) rfl (l' := #[.val (.int p0), .val (.int p1), .val (.int p2), .val (.int p3), .val (.int p4), .val (.int v1_0), .val (.int ((p4 >>> ((1 : Int32) &&& 31)) &&& (3 : Int32))), .val (.int v7_0), .val (.long (v1_0.toInt64)), .second, .val (.long ((v1_0.toInt64) + (p1.toInt64))), .second, .val (.long (v7_0.toInt64)), .second, .val (.int (0 : Int32))]) rfl ?_
        show Steps p.tables e below (s₁.setTop (mkF m 114 #[.val (.int p0), .val (.int p1), .val (.int p2), .val (.int p3), .val (.int p4), .val (.int v1_0), .val (.int ((p4 >>> ((1 : Int32) &&& 31)) &&& (3 : Int32))), .val (.int v7_0), .val (.long (v1_0.toInt64)), .second, .val (.long ((v1_0.toInt64) + (p1.toInt64))), .second, .val (.long (v7_0.toInt64)), .second, .val (.int (0 : Int32))] [])) _
        refine XS.iload X0.here hx rfl (hb hby at_114) rfl ?_
        show Steps p.tables e below (s₁.setTop (mkF m 116 #[.val (.int p0), .val (.int p1), .val (.int p2), .val (.int p3), .val (.int p4), .val (.int v1_0), .val (.int ((p4 >>> ((1 : Int32) &&& 31)) &&& (3 : Int32))), .val (.int v7_0), .val (.long (v1_0.toInt64)), .second, .val (.long ((v1_0.toInt64) + (p1.toInt64))), .second, .val (.long (v7_0.toInt64)), .second, .val (.int (0 : Int32))] [(.int v1_0)])) _
        refine XS.iloadN X0.here hx rfl (hb hby at_116) rfl ?_
        show Steps p.tables e below (s₁.setTop (mkF m 117 #[.val (.int p0), .val (.int p1), .val (.int p2), .val (.int p3), .val (.int p4), .val (.int v1_0), .val (.int ((p4 >>> ((1 : Int32) &&& 31)) &&& (3 : Int32))), .val (.int v7_0), .val (.long (v1_0.toInt64)), .second, .val (.long ((v1_0.toInt64) + (p1.toInt64))), .second, .val (.long (v7_0.toInt64)), .second, .val (.int (0 : Int32))] [(.int p1), (.int v1_0)])) _
        refine XS.iload X0.here hx rfl (hb hby at_117) rfl ?_
        show Steps p.tables e below (s₁.setTop (mkF m 119 #[.val (.int p0), .val (.int p1), .val (.int p2), .val (.int p3), .val (.int p4), .val (.int v1_0), .val (.int ((p4 >>> ((1 : Int32) &&& 31)) &&& (3 : Int32))), .val (.int v7_0), .val (.long (v1_0.toInt64)), .second, .val (.long ((v1_0.toInt64) + (p1.toInt64))), .second, .val (.long (v7_0.toInt64)), .second, .val (.int (0 : Int32))] [(.int v7_0), (.int p1), (.int v1_0)])) _
        refine st24 _ ?_
        show Steps p.tables e below (T24.setTop (mkF m 122 #[.val (.int p0), .val (.int p1), .val (.int p2), .val (.int p3), .val (.int p4), .val (.int v1_0), .val (.int ((p4 >>> ((1 : Int32) &&& 31)) &&& (3 : Int32))), .val (.int v7_0), .val (.long (v1_0.toInt64)), .second, .val (.long ((v1_0.toInt64) + (p1.toInt64))), .second, .val (.long (v7_0.toInt64)), .second, .val (.int (0 : Int32))] [(.int (if ((0 : Int32) ≤ v1_0 ∧ v1_0 ≤ v7_0 ∧ (v7_0 - v1_0) < p1) then (1 : Int32) else 0))])) _
        refine XS.iload X24.here hx rfl (hb hby at_122) rfl ?_
        exact k)
      by_cases hc124_26 : ((0 : Int32) ≤ v1_0 ∧ v1_0 ≤ v7_0 ∧ (v7_0 - v1_0) < p1)
      · have pre27 : ∀ t, Steps p.tables e below (T24.setTop (mkF m 132 #[.val (.int p0), .val (.int p1), .val (.int p2), .val (.int p3), .val (.int p4), .val (.int v1_0), .val (.int ((p4 >>> ((1 : Int32) &&& 31)) &&& (3 : Int32))), .val (.int v7_0), .val (.long (v1_0.toInt64)), .second, .val (.long ((v1_0.toInt64) + (p1.toInt64))), .second, .val (.long (v7_0.toInt64)), .second, .val (.int (0 : Int32))] [(.int (0 : Int32))])) t → Steps p.tables e below (s₁.setTop (entryFrame m #[(.int p0), (.int p1), (.int p2), (.int p3), (.int p4)] maxLocals)) t := fun t k => pre25 t (by
          show Steps p.tables e below (T24.setTop (mkF m 124 #[.val (.int p0), .val (.int p1), .val (.int p2), .val (.int p3), .val (.int p4), .val (.int v1_0), .val (.int ((p4 >>> ((1 : Int32) &&& 31)) &&& (3 : Int32))), .val (.int v7_0), .val (.long (v1_0.toInt64)), .second, .val (.long ((v1_0.toInt64) + (p1.toInt64))), .second, .val (.long (v7_0.toInt64)), .second, .val (.int (0 : Int32))] [(.int (0 : Int32)), (.int (if ((0 : Int32) ≤ v1_0 ∧ v1_0 ≤ v7_0 ∧ (v7_0 - v1_0) < p1) then (1 : Int32) else 0))])) _
          refine XS.icmpYes X24.here hx rfl (pc0 := 124) (pc' := 131) rfl (hb hby at_124) rfl (feq (own_b1 hc124_26)).2 (by decide) (by decide) ?_
          show Steps p.tables e below (T24.setTop (mkF m 131 #[.val (.int p0), .val (.int p1), .val (.int p2), .val (.int p3), .val (.int p4), .val (.int v1_0), .val (.int ((p4 >>> ((1 : Int32) &&& 31)) &&& (3 : Int32))), .val (.int v7_0), .val (.long (v1_0.toInt64)), .second, .val (.long ((v1_0.toInt64) + (p1.toInt64))), .second, .val (.long (v7_0.toInt64)), .second, .val (.int (0 : Int32))] [])) _
          refine XS.iconst X24.here hx rfl (hb hby at_131) ?_
          exact k)
        obtain ⟨fs, hr, hrun, hended, hW, hsame⟩ := X24.leave (v := some (.int (0 : Int32))) (fun h => by rw [Bd.returns] at h; cases h)
        refine ⟨_, _, pre27 _ ?_, hrun, hended, _, _, rfl, ?_, ⟨_, rfl⟩, hW, hsame.mono (by decide) (by decide)⟩
        · exact retN X24 hx (t := .boolean) Bd.returns (by simp) (hb hby at_132) hr
        · show Q0 Z p0 p1 p2 p3 p4 h0 n0 _ T24.heap _
          rw [hh24]
          exfalso
          obtain ⟨qa, qb, qc⟩ := (own_win v1_0 p1 v7_0).mpr hc124_26
          exact qb hc96_23
      · have pre28 : ∀ t, Steps p.tables e below (T24.setTop (mkF m 132 #[.val (.int p0), .val (.int p1), .val (.int p2), .val (.int p3), .val (.int p4), .val (.int v1_0), .val (.int ((p4 >>> ((1 : Int32) &&& 31)) &&& (3 : Int32))), .val (.int v7_0), .val (.long (v1_0.toInt64)), .second, .val (.long ((v1_0.toInt64) + (p1.toInt64))), .second, .val (.long (v7_0.toInt64)), .second, .val (.int (0 : Int32))] [(.int (1 : Int32))])) t → Steps p.tables e below (s₁.setTop (entryFrame m #[(.int p0), (.int p1), (.int p2), (.int p3), (.int p4)] maxLocals)) t := fun t k => pre25 t (by
          show Steps p.tables e below (T24.setTop (mkF m 124 #[.val (.int p0), .val (.int p1), .val (.int p2), .val (.int p3), .val (.int p4), .val (.int v1_0), .val (.int ((p4 >>> ((1 : Int32) &&& 31)) &&& (3 : Int32))), .val (.int v7_0), .val (.long (v1_0.toInt64)), .second, .val (.long ((v1_0.toInt64) + (p1.toInt64))), .second, .val (.long (v7_0.toInt64)), .second, .val (.int (0 : Int32))] [(.int (0 : Int32)), (.int (if ((0 : Int32) ≤ v1_0 ∧ v1_0 ≤ v7_0 ∧ (v7_0 - v1_0) < p1) then (1 : Int32) else 0))])) _
          refine XS.icmpNo X24.here hx rfl (hb hby at_124) rfl (teq (own_b0 hc124_26)).2 ?_
          show Steps p.tables e below (T24.setTop (mkF m 127 #[.val (.int p0), .val (.int p1), .val (.int p2), .val (.int p3), .val (.int p4), .val (.int v1_0), .val (.int ((p4 >>> ((1 : Int32) &&& 31)) &&& (3 : Int32))), .val (.int v7_0), .val (.long (v1_0.toInt64)), .second, .val (.long ((v1_0.toInt64) + (p1.toInt64))), .second, .val (.long (v7_0.toInt64)), .second, .val (.int (0 : Int32))] [])) _
          refine XS.iconst X24.here hx rfl (hb hby at_127) ?_
          show Steps p.tables e below (T24.setTop (mkF m 128 #[.val (.int p0), .val (.int p1), .val (.int p2), .val (.int p3), .val (.int p4), .val (.int v1_0), .val (.int ((p4 >>> ((1 : Int32) &&& 31)) &&& (3 : Int32))), .val (.int v7_0), .val (.long (v1_0.toInt64)), .second, .val (.long ((v1_0.toInt64) + (p1.toInt64))), .second, .val (.long (v7_0.toInt64)), .second, .val (.int (0 : Int32))] [(.int (1 : Int32))])) _
          refine XS.goto X24.here hx rfl (pc0 := 128) (pc' := 132) rfl (hb hby at_128) (by decide) (by decide) ?_
          exact k)
        obtain ⟨fs, hr, hrun, hended, hW, hsame⟩ := X24.leave (v := some (.int (1 : Int32))) (fun h => by rw [Bd.returns] at h; cases h)
        refine ⟨_, _, pre28 _ ?_, hrun, hended, _, _, rfl, ?_, ⟨_, rfl⟩, hW, hsame.mono (by decide) (by decide)⟩
        · exact retN X24 hx (t := .boolean) Bd.returns (by simp) (hb hby at_132) hr
        · show Q0 Z p0 p1 p2 p3 p4 h0 n0 _ T24.heap _
          rw [hh24]
          exact ⟨rfl, N24⟩
    · have pre29 : ∀ t, Steps p.tables e below (s₁.setTop (mkF m 104 #[.val (.int p0), .val (.int p1), .val (.int p2), .val (.int p3), .val (.int p4), .val (.int v1_0), .val (.int ((p4 >>> ((1 : Int32) &&& 31)) &&& (3 : Int32))), .val (.int v7_0), .val (.long (v1_0.toInt64)), .second, .val (.long ((v1_0.toInt64) + (p1.toInt64))), .second, .val (.long (v7_0.toInt64)), .second, .unset] [(.int (lcmpW (v7_0.toInt64) ((v1_0.toInt64) + (p1.toInt64))))])) t → Steps p.tables e below (s₁.setTop (entryFrame m #[(.int p0), (.int p1), (.int p2), (.int p3), (.int p4)] maxLocals)) t := fun t k => pre22 t (by
        show Steps p.tables e below (s₁.setTop (mkF m 96 #[.val (.int p0), .val (.int p1), .val (.int p2), .val (.int p3), .val (.int p4), .val (.int v1_0), .val (.int ((p4 >>> ((1 : Int32) &&& 31)) &&& (3 : Int32))), .val (.int v7_0), .val (.long (v1_0.toInt64)), .second, .val (.long ((v1_0.toInt64) + (p1.toInt64))), .second, .val (.long (v7_0.toInt64)), .second, .unset] [(.int (lcmpW (v1_0.toInt64) (v7_0.toInt64)))])) _
        refine XS.ifNo X0.here hx rfl (hb hby at_96) rfl ((if0 _ _).trans (flt (fun q => hc96_23 ((lw_gt _ _).mp q))).2.2.1) ?_
        show Steps p.tables e below (s₁.setTop (mkF m 99 #[.val (.int p0), .val (.int p1), .val (.int p2), .val (.int p3), .val (.int p4), .val (.int v1_0), .val (.int ((p4 >>> ((1 : Int32) &&& 31)) &&& (3 : Int32))), .val (.int v7_0), .val (.long (v1_0.toInt64)), .second, .val (.long ((v1_0.toInt64) + (p1.toInt64))), .second, .val (.long (v7_0.toInt64)), .second, .unset] [])) _
        refine XS.lload X0.here hx rfl (hb hby at_99) rfl ?_
        show Steps p.tables e below (s₁.setTop (mkF m 101 #[.val (.int p0), .val (.int p1), .val (.int p2), .val (.int p3), .val (.int p4), .val (.int v1_0), .val (.int ((p4 >>> ((1 : Int32) &&& 31)) &&& (3 : Int32))), .val (.int v7_0), .val (.long (v1_0.toInt64)), .second, .val (.long ((v1_0.toInt64) + (p1.toInt64))), .second, .val (.long (v7_0.toInt64)), .second, .unset] [(.long (v7_0.toInt64))])) _
        refine XS.lload X0.here hx rfl (hb hby at_101) rfl ?_
        show Steps p.tables e below (s₁.setTop (mkF m 103 #[.val (.int p0), .val (.int p1), .val (.int p2), .val (.int p3), .val (.int p4), .val (.int v1_0), .val (.int ((p4 >>> ((1 : Int32) &&& 31)) &&& (3 : Int32))), .val (.int v7_0), .val (.long (v1_0.toInt64)), .second, .val (.long ((v1_0.toInt64) + (p1.toInt64))), .second, .val (.long (v7_0.toInt64)), .second, .unset] [(.long ((v1_0.toInt64) + (p1.toInt64))), (.long (v7_0.toInt64))])) _
        refine XS.lcmp X0.here hx rfl (hb hby at_103) rfl ?_
        exact k)
      by_cases hc104_30 : (v7_0.toInt64) < ((v1_0.toInt64) + (p1.toInt64))
      · obtain ⟨_, _, ⟨T31, L31, k31, n31⟩, -, X31, ⟨Lc31, hQ31, l31, y31, z31⟩, st31⟩ := Jvm.LawKit.callS X0 hx (y := (⟨"com/example/octatom/octatom/model/WindowLookahead", "holds", "(III)Z"⟩ : MethodName)) hown (mvT hZ (hw _ (List.mem_of_getElem? (i := 0) rfl))) (mvT hZ (hw _ (List.mem_of_getElem? (i := 1) rfl))) (mvT hZ (hw _ (List.mem_of_getElem? (i := 2) rfl))) (mvT hZ (hw _ (List.mem_of_getElem? (i := 3) rfl))) (by decide) (backOf (W := 0) (rm1 l Z a0 hw [] v1_0 p1 v7_0 h0 n0 Z0 ) hZ (hw _ (List.mem_of_getElem? (i := 3) rfl)) (hw _ (List.mem_of_getElem? (i := 2) rfl)) (by decide) (by decide)) (g := (mkF m 119 #[.val (.int p0), .val (.int p1), .val (.int p2), .val (.int p3), .val (.int p4), .val (.int v1_0), .val (.int ((p4 >>> ((1 : Int32) &&& 31)) &&& (3 : Int32))), .val (.int v7_0), .val (.long (v1_0.toInt64)), .second, .val (.long ((v1_0.toInt64) + (p1.toInt64))), .second, .val (.long (v7_0.toInt64)), .second, .val (.int (1 : Int32))] [(.int v7_0), (.int p1), (.int v1_0)])) rfl (by rw [hml]; rfl) (argsL := [(.int v1_0), (.int p1), (.int v7_0)]) (rest := []) (lenOf pd_0 rfl) rfl (by show 2 * 0 + _ ≤ _; exact Nat.le_of_eq rfl) (hb hby at_119) (fun _ _ => ⟨rfl, e0, (by decide : 0 + 0 ≤ _), (by decide : 0 + 0 ≤ _)⟩)
        dsimp only [Pt.U, Pt.locs, Pt.cells, Pt.slots] at X31 l31 y31 z31 st31 hQ31
        subst l31 y31 z31
        obtain ⟨rfl, N31q, hh31⟩ := hQ31
        have N31 := Fr.app N0 N31q
        have pre32 : ∀ t, Steps p.tables e below (T31.setTop (mkF m 124 #[.val (.int p0), .val (.int p1), .val (.int p2), .val (.int p3), .val (.int p4), .val (.int v1_0), .val (.int ((p4 >>> ((1 : Int32) &&& 31)) &&& (3 : Int32))), .val (.int v7_0), .val (.long (v1_0.toInt64)), .second, .val (.long ((v1_0.toInt64) + (p1.toInt64))), .second, .val (.long (v7_0.toInt64)), .second, .val (.int (1 : Int32))] [(.int (1 : Int32)), (.int (if ((0 : Int32) ≤ v1_0 ∧ v1_0 ≤ v7_0 ∧ (v7_0 - v1_0) < p1) then (1 : Int32) else 0))])) t → Steps p.tables e below (s₁.setTop (entryFrame m #[(.int p0), (.int p1), (.int p2), (.int p3), (.int p4)] maxLocals)) t := fun t k => pre29 t (by
          show Steps p.tables e below (s₁.setTop (mkF m 104 #[.val (.int p0), .val (.int p1), .val (.int p2), .val (.int p3), .val (.int p4), .val (.int v1_0), .val (.int ((p4 >>> ((1 : Int32) &&& 31)) &&& (3 : Int32))), .val (.int v7_0), .val (.long (v1_0.toInt64)), .second, .val (.long ((v1_0.toInt64) + (p1.toInt64))), .second, .val (.long (v7_0.toInt64)), .second, .unset] [(.int (lcmpW (v7_0.toInt64) ((v1_0.toInt64) + (p1.toInt64))))])) _
          refine XS.ifNo X0.here hx rfl (hb hby at_104) rfl ((if0 _ _).trans (tlt ((lw_lt _ _).mpr hc104_30)).2.1) ?_
          show Steps p.tables e below (s₁.setTop (mkF m 107 #[.val (.int p0), .val (.int p1), .val (.int p2), .val (.int p3), .val (.int p4), .val (.int v1_0), .val (.int ((p4 >>> ((1 : Int32) &&& 31)) &&& (3 : Int32))), .val (.int v7_0), .val (.long (v1_0.toInt64)), .second, .val (.long ((v1_0.toInt64) + (p1.toInt64))), .second, .val (.long (v7_0.toInt64)), .second, .unset] [])) _
          refine XS.iconst X0.here hx rfl (hb hby at_107) ?_
          show Steps p.tables e below (s₁.setTop (mkF m 108 #[.val (.int p0), .val (.int p1), .val (.int p2), .val (.int p3), .val (.int p4), .val (.int v1_0), .val (.int ((p4 >>> ((1 : Int32) &&& 31)) &&& (3 : Int32))), .val (.int v7_0), .val (.long (v1_0.toInt64)), .second, .val (.long ((v1_0.toInt64) + (p1.toInt64))), .second, .val (.long (v7_0.toInt64)), .second, .unset] [(.int (1 : Int32))])) _
          refine XS.goto X0.here hx rfl (pc0 := 108) (pc' := 112) rfl (hb hby at_108) (by decide) (by decide) ?_
          show Steps p.tables e below (s₁.setTop (mkF m 112 #[.val (.int p0), .val (.int p1), .val (.int p2), .val (.int p3), .val (.int p4), .val (.int v1_0), .val (.int ((p4 >>> ((1 : Int32) &&& 31)) &&& (3 : Int32))), .val (.int v7_0), .val (.long (v1_0.toInt64)), .second, .val (.long ((v1_0.toInt64) + (p1.toInt64))), .second, .val (.long (v7_0.toInt64)), .second, .unset] [(.int (1 : Int32))])) _
          refine XS.istore X0.here hx rfl (hb hby at_112) rfl (l' := #[.val (.int p0), .val (.int p1), .val (.int p2), .val (.int p3), .val (.int p4), .val (.int v1_0), .val (.int ((p4 >>> ((1 : Int32) &&& 31)) &&& (3 : Int32))), .val (.int v7_0), .val (.long (v1_0.toInt64)), .second, .val (.long ((v1_0.toInt64) + (p1.toInt64))), .second, .val (.long (v7_0.toInt64)), .second, .val (.int (1 : Int32))]) rfl ?_
          show Steps p.tables e below (s₁.setTop (mkF m 114 #[.val (.int p0), .val (.int p1), .val (.int p2), .val (.int p3), .val (.int p4), .val (.int v1_0), .val (.int ((p4 >>> ((1 : Int32) &&& 31)) &&& (3 : Int32))), .val (.int v7_0), .val (.long (v1_0.toInt64)), .second, .val (.long ((v1_0.toInt64) + (p1.toInt64))), .second, .val (.long (v7_0.toInt64)), .second, .val (.int (1 : Int32))] [])) _
          refine XS.iload X0.here hx rfl (hb hby at_114) rfl ?_
          show Steps p.tables e below (s₁.setTop (mkF m 116 #[.val (.int p0), .val (.int p1), .val (.int p2), .val (.int p3), .val (.int p4), .val (.int v1_0), .val (.int ((p4 >>> ((1 : Int32) &&& 31)) &&& (3 : Int32))), .val (.int v7_0), .val (.long (v1_0.toInt64)), .second, .val (.long ((v1_0.toInt64) + (p1.toInt64))), .second, .val (.long (v7_0.toInt64)), .second, .val (.int (1 : Int32))] [(.int v1_0)])) _
          refine XS.iloadN X0.here hx rfl (hb hby at_116) rfl ?_
          show Steps p.tables e below (s₁.setTop (mkF m 117 #[.val (.int p0), .val (.int p1), .val (.int p2), .val (.int p3), .val (.int p4), .val (.int v1_0), .val (.int ((p4 >>> ((1 : Int32) &&& 31)) &&& (3 : Int32))), .val (.int v7_0), .val (.long (v1_0.toInt64)), .second, .val (.long ((v1_0.toInt64) + (p1.toInt64))), .second, .val (.long (v7_0.toInt64)), .second, .val (.int (1 : Int32))] [(.int p1), (.int v1_0)])) _
          refine XS.iload X0.here hx rfl (hb hby at_117) rfl ?_
          show Steps p.tables e below (s₁.setTop (mkF m 119 #[.val (.int p0), .val (.int p1), .val (.int p2), .val (.int p3), .val (.int p4), .val (.int v1_0), .val (.int ((p4 >>> ((1 : Int32) &&& 31)) &&& (3 : Int32))), .val (.int v7_0), .val (.long (v1_0.toInt64)), .second, .val (.long ((v1_0.toInt64) + (p1.toInt64))), .second, .val (.long (v7_0.toInt64)), .second, .val (.int (1 : Int32))] [(.int v7_0), (.int p1), (.int v1_0)])) _
          refine st31 _ ?_
          show Steps p.tables e below (T31.setTop (mkF m 122 #[.val (.int p0), .val (.int p1), .val (.int p2), .val (.int p3), .val (.int p4), .val (.int v1_0), .val (.int ((p4 >>> ((1 : Int32) &&& 31)) &&& (3 : Int32))), .val (.int v7_0), .val (.long (v1_0.toInt64)), .second, .val (.long ((v1_0.toInt64) + (p1.toInt64))), .second, .val (.long (v7_0.toInt64)), .second, .val (.int (1 : Int32))] [(.int (if ((0 : Int32) ≤ v1_0 ∧ v1_0 ≤ v7_0 ∧ (v7_0 - v1_0) < p1) then (1 : Int32) else 0))])) _
          refine XS.iload X31.here hx rfl (hb hby at_122) rfl ?_
          exact k)
        by_cases hc124_33 : ((0 : Int32) ≤ v1_0 ∧ v1_0 ≤ v7_0 ∧ (v7_0 - v1_0) < p1)
        · have pre34 : ∀ t, Steps p.tables e below (T31.setTop (mkF m 132 #[.val (.int p0), .val (.int p1), .val (.int p2), .val (.int p3), .val (.int p4), .val (.int v1_0), .val (.int ((p4 >>> ((1 : Int32) &&& 31)) &&& (3 : Int32))), .val (.int v7_0), .val (.long (v1_0.toInt64)), .second, .val (.long ((v1_0.toInt64) + (p1.toInt64))), .second, .val (.long (v7_0.toInt64)), .second, .val (.int (1 : Int32))] [(.int (1 : Int32))])) t → Steps p.tables e below (s₁.setTop (entryFrame m #[(.int p0), (.int p1), (.int p2), (.int p3), (.int p4)] maxLocals)) t := fun t k => pre32 t (by
            show Steps p.tables e below (T31.setTop (mkF m 124 #[.val (.int p0), .val (.int p1), .val (.int p2), .val (.int p3), .val (.int p4), .val (.int v1_0), .val (.int ((p4 >>> ((1 : Int32) &&& 31)) &&& (3 : Int32))), .val (.int v7_0), .val (.long (v1_0.toInt64)), .second, .val (.long ((v1_0.toInt64) + (p1.toInt64))), .second, .val (.long (v7_0.toInt64)), .second, .val (.int (1 : Int32))] [(.int (1 : Int32)), (.int (if ((0 : Int32) ≤ v1_0 ∧ v1_0 ≤ v7_0 ∧ (v7_0 - v1_0) < p1) then (1 : Int32) else 0))])) _
            refine XS.icmpNo X31.here hx rfl (hb hby at_124) rfl (teq (own_c1 hc124_33)).2 ?_
            show Steps p.tables e below (T31.setTop (mkF m 127 #[.val (.int p0), .val (.int p1), .val (.int p2), .val (.int p3), .val (.int p4), .val (.int v1_0), .val (.int ((p4 >>> ((1 : Int32) &&& 31)) &&& (3 : Int32))), .val (.int v7_0), .val (.long (v1_0.toInt64)), .second, .val (.long ((v1_0.toInt64) + (p1.toInt64))), .second, .val (.long (v7_0.toInt64)), .second, .val (.int (1 : Int32))] [])) _
            refine XS.iconst X31.here hx rfl (hb hby at_127) ?_
            show Steps p.tables e below (T31.setTop (mkF m 128 #[.val (.int p0), .val (.int p1), .val (.int p2), .val (.int p3), .val (.int p4), .val (.int v1_0), .val (.int ((p4 >>> ((1 : Int32) &&& 31)) &&& (3 : Int32))), .val (.int v7_0), .val (.long (v1_0.toInt64)), .second, .val (.long ((v1_0.toInt64) + (p1.toInt64))), .second, .val (.long (v7_0.toInt64)), .second, .val (.int (1 : Int32))] [(.int (1 : Int32))])) _
            refine XS.goto X31.here hx rfl (pc0 := 128) (pc' := 132) rfl (hb hby at_128) (by decide) (by decide) ?_
            exact k)
          obtain ⟨fs, hr, hrun, hended, hW, hsame⟩ := X31.leave (v := some (.int (1 : Int32))) (fun h => by rw [Bd.returns] at h; cases h)
          refine ⟨_, _, pre34 _ ?_, hrun, hended, _, _, rfl, ?_, ⟨_, rfl⟩, hW, hsame.mono (by decide) (by decide)⟩
          · exact retN X31 hx (t := .boolean) Bd.returns (by simp) (hb hby at_132) hr
          · show Q0 Z p0 p1 p2 p3 p4 h0 n0 _ T31.heap _
            rw [hh31]
            exact ⟨rfl, N31⟩
        · have pre35 : ∀ t, Steps p.tables e below (T31.setTop (mkF m 132 #[.val (.int p0), .val (.int p1), .val (.int p2), .val (.int p3), .val (.int p4), .val (.int v1_0), .val (.int ((p4 >>> ((1 : Int32) &&& 31)) &&& (3 : Int32))), .val (.int v7_0), .val (.long (v1_0.toInt64)), .second, .val (.long ((v1_0.toInt64) + (p1.toInt64))), .second, .val (.long (v7_0.toInt64)), .second, .val (.int (1 : Int32))] [(.int (0 : Int32))])) t → Steps p.tables e below (s₁.setTop (entryFrame m #[(.int p0), (.int p1), (.int p2), (.int p3), (.int p4)] maxLocals)) t := fun t k => pre32 t (by
            show Steps p.tables e below (T31.setTop (mkF m 124 #[.val (.int p0), .val (.int p1), .val (.int p2), .val (.int p3), .val (.int p4), .val (.int v1_0), .val (.int ((p4 >>> ((1 : Int32) &&& 31)) &&& (3 : Int32))), .val (.int v7_0), .val (.long (v1_0.toInt64)), .second, .val (.long ((v1_0.toInt64) + (p1.toInt64))), .second, .val (.long (v7_0.toInt64)), .second, .val (.int (1 : Int32))] [(.int (1 : Int32)), (.int (if ((0 : Int32) ≤ v1_0 ∧ v1_0 ≤ v7_0 ∧ (v7_0 - v1_0) < p1) then (1 : Int32) else 0))])) _
            refine XS.icmpYes X31.here hx rfl (pc0 := 124) (pc' := 131) rfl (hb hby at_124) rfl (feq (own_c0 hc124_33)).2 (by decide) (by decide) ?_
            show Steps p.tables e below (T31.setTop (mkF m 131 #[.val (.int p0), .val (.int p1), .val (.int p2), .val (.int p3), .val (.int p4), .val (.int v1_0), .val (.int ((p4 >>> ((1 : Int32) &&& 31)) &&& (3 : Int32))), .val (.int v7_0), .val (.long (v1_0.toInt64)), .second, .val (.long ((v1_0.toInt64) + (p1.toInt64))), .second, .val (.long (v7_0.toInt64)), .second, .val (.int (1 : Int32))] [])) _
            refine XS.iconst X31.here hx rfl (hb hby at_131) ?_
            exact k)
          obtain ⟨fs, hr, hrun, hended, hW, hsame⟩ := X31.leave (v := some (.int (0 : Int32))) (fun h => by rw [Bd.returns] at h; cases h)
          refine ⟨_, _, pre35 _ ?_, hrun, hended, _, _, rfl, ?_, ⟨_, rfl⟩, hW, hsame.mono (by decide) (by decide)⟩
          · exact retN X31 hx (t := .boolean) Bd.returns (by simp) (hb hby at_132) hr
          · show Q0 Z p0 p1 p2 p3 p4 h0 n0 _ T31.heap _
            rw [hh31]
            exact absurd ((own_win v1_0 p1 v7_0).mp ⟨hc88_16, hc96_23, hc104_30⟩) hc124_33
      · obtain ⟨_, _, ⟨T36, L36, k36, n36⟩, -, X36, ⟨Lc36, hQ36, l36, y36, z36⟩, st36⟩ := Jvm.LawKit.callS X0 hx (y := (⟨"com/example/octatom/octatom/model/WindowLookahead", "holds", "(III)Z"⟩ : MethodName)) hown (mvT hZ (hw _ (List.mem_of_getElem? (i := 0) rfl))) (mvT hZ (hw _ (List.mem_of_getElem? (i := 1) rfl))) (mvT hZ (hw _ (List.mem_of_getElem? (i := 2) rfl))) (mvT hZ (hw _ (List.mem_of_getElem? (i := 3) rfl))) (by decide) (backOf (W := 0) (rm1 l Z a0 hw [] v1_0 p1 v7_0 h0 n0 Z0 ) hZ (hw _ (List.mem_of_getElem? (i := 3) rfl)) (hw _ (List.mem_of_getElem? (i := 2) rfl)) (by decide) (by decide)) (g := (mkF m 119 #[.val (.int p0), .val (.int p1), .val (.int p2), .val (.int p3), .val (.int p4), .val (.int v1_0), .val (.int ((p4 >>> ((1 : Int32) &&& 31)) &&& (3 : Int32))), .val (.int v7_0), .val (.long (v1_0.toInt64)), .second, .val (.long ((v1_0.toInt64) + (p1.toInt64))), .second, .val (.long (v7_0.toInt64)), .second, .val (.int (0 : Int32))] [(.int v7_0), (.int p1), (.int v1_0)])) rfl (by rw [hml]; rfl) (argsL := [(.int v1_0), (.int p1), (.int v7_0)]) (rest := []) (lenOf pd_0 rfl) rfl (by show 2 * 0 + _ ≤ _; exact Nat.le_of_eq rfl) (hb hby at_119) (fun _ _ => ⟨rfl, e0, (by decide : 0 + 0 ≤ _), (by decide : 0 + 0 ≤ _)⟩)
        dsimp only [Pt.U, Pt.locs, Pt.cells, Pt.slots] at X36 l36 y36 z36 st36 hQ36
        subst l36 y36 z36
        obtain ⟨rfl, N36q, hh36⟩ := hQ36
        have N36 := Fr.app N0 N36q
        have pre37 : ∀ t, Steps p.tables e below (T36.setTop (mkF m 124 #[.val (.int p0), .val (.int p1), .val (.int p2), .val (.int p3), .val (.int p4), .val (.int v1_0), .val (.int ((p4 >>> ((1 : Int32) &&& 31)) &&& (3 : Int32))), .val (.int v7_0), .val (.long (v1_0.toInt64)), .second, .val (.long ((v1_0.toInt64) + (p1.toInt64))), .second, .val (.long (v7_0.toInt64)), .second, .val (.int (0 : Int32))] [(.int (0 : Int32)), (.int (if ((0 : Int32) ≤ v1_0 ∧ v1_0 ≤ v7_0 ∧ (v7_0 - v1_0) < p1) then (1 : Int32) else 0))])) t → Steps p.tables e below (s₁.setTop (entryFrame m #[(.int p0), (.int p1), (.int p2), (.int p3), (.int p4)] maxLocals)) t := fun t k => pre29 t (by
          show Steps p.tables e below (s₁.setTop (mkF m 104 #[.val (.int p0), .val (.int p1), .val (.int p2), .val (.int p3), .val (.int p4), .val (.int v1_0), .val (.int ((p4 >>> ((1 : Int32) &&& 31)) &&& (3 : Int32))), .val (.int v7_0), .val (.long (v1_0.toInt64)), .second, .val (.long ((v1_0.toInt64) + (p1.toInt64))), .second, .val (.long (v7_0.toInt64)), .second, .unset] [(.int (lcmpW (v7_0.toInt64) ((v1_0.toInt64) + (p1.toInt64))))])) _
          refine XS.ifYes X0.here hx rfl (pc0 := 104) (pc' := 111) rfl (hb hby at_104) rfl ((if0 _ _).trans (flt (fun q => hc104_30 ((lw_lt _ _).mp q))).2.1) (by decide) (by decide) ?_
          show Steps p.tables e below (s₁.setTop (mkF m 111 #[.val (.int p0), .val (.int p1), .val (.int p2), .val (.int p3), .val (.int p4), .val (.int v1_0), .val (.int ((p4 >>> ((1 : Int32) &&& 31)) &&& (3 : Int32))), .val (.int v7_0), .val (.long (v1_0.toInt64)), .second, .val (.long ((v1_0.toInt64) + (p1.toInt64))), .second, .val (.long (v7_0.toInt64)), .second, .unset] [])) _
          refine XS.iconst X0.here hx rfl (hb hby at_111) ?_
          show Steps p.tables e below (s₁.setTop (mkF m 112 #[.val (.int p0), .val (.int p1), .val (.int p2), .val (.int p3), .val (.int p4), .val (.int v1_0), .val (.int ((p4 >>> ((1 : Int32) &&& 31)) &&& (3 : Int32))), .val (.int v7_0), .val (.long (v1_0.toInt64)), .second, .val (.long ((v1_0.toInt64) + (p1.toInt64))), .second, .val (.long (v7_0.toInt64)), .second, .unset] [(.int (0 : Int32))])) _
          refine XS.istore X0.here hx rfl (hb hby at_112) rfl (l' := #[.val (.int p0), .val (.int p1), .val (.int p2), .val (.int p3), .val (.int p4), .val (.int v1_0), .val (.int ((p4 >>> ((1 : Int32) &&& 31)) &&& (3 : Int32))), .val (.int v7_0), .val (.long (v1_0.toInt64)), .second, .val (.long ((v1_0.toInt64) + (p1.toInt64))), .second, .val (.long (v7_0.toInt64)), .second, .val (.int (0 : Int32))]) rfl ?_
          show Steps p.tables e below (s₁.setTop (mkF m 114 #[.val (.int p0), .val (.int p1), .val (.int p2), .val (.int p3), .val (.int p4), .val (.int v1_0), .val (.int ((p4 >>> ((1 : Int32) &&& 31)) &&& (3 : Int32))), .val (.int v7_0), .val (.long (v1_0.toInt64)), .second, .val (.long ((v1_0.toInt64) + (p1.toInt64))), .second, .val (.long (v7_0.toInt64)), .second, .val (.int (0 : Int32))] [])) _
          refine XS.iload X0.here hx rfl (hb hby at_114) rfl ?_
          show Steps p.tables e below (s₁.setTop (mkF m 116 #[.val (.int p0), .val (.int p1), .val (.int p2), .val (.int p3), .val (.int p4), .val (.int v1_0), .val (.int ((p4 >>> ((1 : Int32) &&& 31)) &&& (3 : Int32))), .val (.int v7_0), .val (.long (v1_0.toInt64)), .second, .val (.long ((v1_0.toInt64) + (p1.toInt64))), .second, .val (.long (v7_0.toInt64)), .second, .val (.int (0 : Int32))] [(.int v1_0)])) _
          refine XS.iloadN X0.here hx rfl (hb hby at_116) rfl ?_
          show Steps p.tables e below (s₁.setTop (mkF m 117 #[.val (.int p0), .val (.int p1), .val (.int p2), .val (.int p3), .val (.int p4), .val (.int v1_0), .val (.int ((p4 >>> ((1 : Int32) &&& 31)) &&& (3 : Int32))), .val (.int v7_0), .val (.long (v1_0.toInt64)), .second, .val (.long ((v1_0.toInt64) + (p1.toInt64))), .second, .val (.long (v7_0.toInt64)), .second, .val (.int (0 : Int32))] [(.int p1), (.int v1_0)])) _
          refine XS.iload X0.here hx rfl (hb hby at_117) rfl ?_
          show Steps p.tables e below (s₁.setTop (mkF m 119 #[.val (.int p0), .val (.int p1), .val (.int p2), .val (.int p3), .val (.int p4), .val (.int v1_0), .val (.int ((p4 >>> ((1 : Int32) &&& 31)) &&& (3 : Int32))), .val (.int v7_0), .val (.long (v1_0.toInt64)), .second, .val (.long ((v1_0.toInt64) + (p1.toInt64))), .second, .val (.long (v7_0.toInt64)), .second, .val (.int (0 : Int32))] [(.int v7_0), (.int p1), (.int v1_0)])) _
          refine st36 _ ?_
          show Steps p.tables e below (T36.setTop (mkF m 122 #[.val (.int p0), .val (.int p1), .val (.int p2), .val (.int p3), .val (.int p4), .val (.int v1_0), .val (.int ((p4 >>> ((1 : Int32) &&& 31)) &&& (3 : Int32))), .val (.int v7_0), .val (.long (v1_0.toInt64)), .second, .val (.long ((v1_0.toInt64) + (p1.toInt64))), .second, .val (.long (v7_0.toInt64)), .second, .val (.int (0 : Int32))] [(.int (if ((0 : Int32) ≤ v1_0 ∧ v1_0 ≤ v7_0 ∧ (v7_0 - v1_0) < p1) then (1 : Int32) else 0))])) _
          refine XS.iload X36.here hx rfl (hb hby at_122) rfl ?_
          exact k)
        by_cases hc124_38 : ((0 : Int32) ≤ v1_0 ∧ v1_0 ≤ v7_0 ∧ (v7_0 - v1_0) < p1)
        · have pre39 : ∀ t, Steps p.tables e below (T36.setTop (mkF m 132 #[.val (.int p0), .val (.int p1), .val (.int p2), .val (.int p3), .val (.int p4), .val (.int v1_0), .val (.int ((p4 >>> ((1 : Int32) &&& 31)) &&& (3 : Int32))), .val (.int v7_0), .val (.long (v1_0.toInt64)), .second, .val (.long ((v1_0.toInt64) + (p1.toInt64))), .second, .val (.long (v7_0.toInt64)), .second, .val (.int (0 : Int32))] [(.int (0 : Int32))])) t → Steps p.tables e below (s₁.setTop (entryFrame m #[(.int p0), (.int p1), (.int p2), (.int p3), (.int p4)] maxLocals)) t := fun t k => pre37 t (by
            show Steps p.tables e below (T36.setTop (mkF m 124 #[.val (.int p0), .val (.int p1), .val (.int p2), .val (.int p3), .val (.int p4), .val (.int v1_0), .val (.int ((p4 >>> ((1 : Int32) &&& 31)) &&& (3 : Int32))), .val (.int v7_0), .val (.long (v1_0.toInt64)), .second, .val (.long ((v1_0.toInt64) + (p1.toInt64))), .second, .val (.long (v7_0.toInt64)), .second, .val (.int (0 : Int32))] [(.int (0 : Int32)), (.int (if ((0 : Int32) ≤ v1_0 ∧ v1_0 ≤ v7_0 ∧ (v7_0 - v1_0) < p1) then (1 : Int32) else 0))])) _
            refine XS.icmpYes X36.here hx rfl (pc0 := 124) (pc' := 131) rfl (hb hby at_124) rfl (feq (own_b1 hc124_38)).2 (by decide) (by decide) ?_
            show Steps p.tables e below (T36.setTop (mkF m 131 #[.val (.int p0), .val (.int p1), .val (.int p2), .val (.int p3), .val (.int p4), .val (.int v1_0), .val (.int ((p4 >>> ((1 : Int32) &&& 31)) &&& (3 : Int32))), .val (.int v7_0), .val (.long (v1_0.toInt64)), .second, .val (.long ((v1_0.toInt64) + (p1.toInt64))), .second, .val (.long (v7_0.toInt64)), .second, .val (.int (0 : Int32))] [])) _
            refine XS.iconst X36.here hx rfl (hb hby at_131) ?_
            exact k)
          obtain ⟨fs, hr, hrun, hended, hW, hsame⟩ := X36.leave (v := some (.int (0 : Int32))) (fun h => by rw [Bd.returns] at h; cases h)
          refine ⟨_, _, pre39 _ ?_, hrun, hended, _, _, rfl, ?_, ⟨_, rfl⟩, hW, hsame.mono (by decide) (by decide)⟩
          · exact retN X36 hx (t := .boolean) Bd.returns (by simp) (hb hby at_132) hr
          · show Q0 Z p0 p1 p2 p3 p4 h0 n0 _ T36.heap _
            rw [hh36]
            exfalso
            obtain ⟨qa, qb, qc⟩ := (own_win v1_0 p1 v7_0).mpr hc124_38
            exact hc104_30 qc
        · have pre40 : ∀ t, Steps p.tables e below (T36.setTop (mkF m 132 #[.val (.int p0), .val (.int p1), .val (.int p2), .val (.int p3), .val (.int p4), .val (.int v1_0), .val (.int ((p4 >>> ((1 : Int32) &&& 31)) &&& (3 : Int32))), .val (.int v7_0), .val (.long (v1_0.toInt64)), .second, .val (.long ((v1_0.toInt64) + (p1.toInt64))), .second, .val (.long (v7_0.toInt64)), .second, .val (.int (0 : Int32))] [(.int (1 : Int32))])) t → Steps p.tables e below (s₁.setTop (entryFrame m #[(.int p0), (.int p1), (.int p2), (.int p3), (.int p4)] maxLocals)) t := fun t k => pre37 t (by
            show Steps p.tables e below (T36.setTop (mkF m 124 #[.val (.int p0), .val (.int p1), .val (.int p2), .val (.int p3), .val (.int p4), .val (.int v1_0), .val (.int ((p4 >>> ((1 : Int32) &&& 31)) &&& (3 : Int32))), .val (.int v7_0), .val (.long (v1_0.toInt64)), .second, .val (.long ((v1_0.toInt64) + (p1.toInt64))), .second, .val (.long (v7_0.toInt64)), .second, .val (.int (0 : Int32))] [(.int (0 : Int32)), (.int (if ((0 : Int32) ≤ v1_0 ∧ v1_0 ≤ v7_0 ∧ (v7_0 - v1_0) < p1) then (1 : Int32) else 0))])) _
            refine XS.icmpNo X36.here hx rfl (hb hby at_124) rfl (teq (own_b0 hc124_38)).2 ?_
            show Steps p.tables e below (T36.setTop (mkF m 127 #[.val (.int p0), .val (.int p1), .val (.int p2), .val (.int p3), .val (.int p4), .val (.int v1_0), .val (.int ((p4 >>> ((1 : Int32) &&& 31)) &&& (3 : Int32))), .val (.int v7_0), .val (.long (v1_0.toInt64)), .second, .val (.long ((v1_0.toInt64) + (p1.toInt64))), .second, .val (.long (v7_0.toInt64)), .second, .val (.int (0 : Int32))] [])) _
            refine XS.iconst X36.here hx rfl (hb hby at_127) ?_
            show Steps p.tables e below (T36.setTop (mkF m 128 #[.val (.int p0), .val (.int p1), .val (.int p2), .val (.int p3), .val (.int p4), .val (.int v1_0), .val (.int ((p4 >>> ((1 : Int32) &&& 31)) &&& (3 : Int32))), .val (.int v7_0), .val (.long (v1_0.toInt64)), .second, .val (.long ((v1_0.toInt64) + (p1.toInt64))), .second, .val (.long (v7_0.toInt64)), .second, .val (.int (0 : Int32))] [(.int (1 : Int32))])) _
            refine XS.goto X36.here hx rfl (pc0 := 128) (pc' := 132) rfl (hb hby at_128) (by decide) (by decide) ?_
            exact k)
          obtain ⟨fs, hr, hrun, hended, hW, hsame⟩ := X36.leave (v := some (.int (1 : Int32))) (fun h => by rw [Bd.returns] at h; cases h)
          refine ⟨_, _, pre40 _ ?_, hrun, hended, _, _, rfl, ?_, ⟨_, rfl⟩, hW, hsame.mono (by decide) (by decide)⟩
          · exact retN X36 hx (t := .boolean) Bd.returns (by simp) (hb hby at_132) hr
          · show Q0 Z p0 p1 p2 p3 p4 h0 n0 _ T36.heap _
            rw [hh36]
            exact ⟨rfl, N36⟩
set_option maxRecDepth 65536 in
set_option maxHeartbeats 40000000 in
theorem comes_1 {Post : Tables → Env → Array Value → State → Outcome → State → Prop} (hpost : ∀ tb e args s v u, (limb_1_1.after args s (.returned v) u = true ∧ limb_1_2.after args s (.returned v) u = true ∧ True) → FrameEnd s (.returned v) u (Jvm.fieldLocs frame_1_writes args s ++ Jvm.arrayLocs frame_1_arrays args s ++ Jvm.staticLocs frame_1_statics s) 0 0 → Post tb e args s (.returned v) u) :
    ArmFor flags0 classFile x code maxLocals ret World_1 tables_1 room_1 Calls_1 rest_1 Pre_1 Post := by
  intro l hfl _ _ p e ha hc hk s m args below hf hA hF happ hP
  obtain ⟨hcalls, hrest, hpre⟩ := hP
  obtain ⟨-, -, -, hnamed, -, -, -, hat⟩ := (Spec.applies_iff hf).mp happ
  obtain ⟨hg, hn⟩ := and_e (Cond.before_iff.mp (show (Jvm.Cond.and given_1 narrow_1).before args s = true from hpre))
  obtain ⟨g1, g2⟩ := and_e hg
  obtain ⟨g3, g4⟩ := and_e g2
  obtain ⟨g5, g6⟩ := and_e g4
  obtain ⟨g7, g8⟩ := and_e g6
  obtain ⟨g9, g10⟩ := and_e g8
  obtain ⟨w0, w1, w2, w3, w4, rfl⟩ : ∃ w0 w1 w2 w3 w4 : Value, args = #[w0, w1, w2, w3, w4] := by
    have hs : args.size = 5 := by simpa [Cond.value, given_1] using g1
    obtain ⟨L⟩ := args
    match L, hs with
    | [w0, w1, w2, w3, w4], _ => exact ⟨w0, w1, w2, w3, w4, rfl⟩
  have hw := fun d (hd : d ∈ tables_1) => atoms_spec (ws := Jvm.Cond.code x code maxLocals ret :: tables_1) hat d (List.mem_cons_of_mem _ hd)
  have hfit : Fit s := fun {y c} hc i hi => by
    obtain ⟨ha, rfl⟩ := Array.getElem?_eq_some_iff.mp hc
    have q := List.all_eq_true.mp ((Array.all_eq_true_iff_forall_mem.mp hF) _ (Array.getElem_mem ha)) i (List.mem_range.mpr hi)
    simpa [Array.getElem?_eq_getElem hi] using q
  obtain ⟨i0, ei0⟩ := is_v g3
  obtain rfl : w0 = (.int i0) := Option.some.inj ei0
  obtain ⟨i1, ei1⟩ := is_v g5
  obtain rfl : w1 = (.int i1) := Option.some.inj ei1
  obtain ⟨i2, ei2⟩ := is_v g7
  obtain rfl : w2 = (.int i2) := Option.some.inj ei2
  obtain ⟨i3, ei3⟩ := is_v g9
  obtain rfl : w3 = (.int i3) := Option.some.inj ei3
  obtain ⟨i4, ei4⟩ := is_v g10
  obtain rfl : w4 = (.int i4) := Option.some.inj ei4
  obtain ⟨n, o, h1, h2, h3, _, L, rfl, ⟨rfl, N⟩, hq⟩ := rm0 l s _ hw tables_1 i0 i1 i2 i3 i4 s.heap s.heap.size (Nat.le_refl _) p e ha hc hk s m _ below hf ((Spec.applies_iff_loose hf).mp happ).1 ⟨rfl, State.Warmed39.refl s, rfl⟩ trivial
  refine ⟨n, _, h1, h2, h3, hpost _ _ _ _ _ _ ⟨Cond.after_iff.mpr rfl, Cond.after_iff.mpr (eq_i res_at (Term.int_eval (1)) rfl), trivial⟩ ⟨hq.1, hq.2.1, (hq.2.2.sift fun y hy => Or.inr (N y hy)).mono (by decide) (by decide)⟩⟩
theorem main_1_1 : Claimed_1_1 := comes_1 fun _ _ _ _ _ _ h hF => ⟨h.1, hF⟩
theorem main_1_2 : Claimed_1_2 := comes_1 fun _ _ _ _ _ _ h hF => ⟨h.2.1, hF⟩
end Jvm.Pilot.@@N@@
namespace Jvm.Pilot.@@N@@
open Jvm Jvm.ClassFile Sem Op Lib Jvm.Free Jvm.Stand Jvm.Pilot.@@N@@.Jvm.D
/-! MADE BY PROGRAM (witnessworld.py) out of the Statement's table words and the real class files: 9 classes; the members and pool entries that the words name. The judged class is class 1, her method 1. -/
namespace start1
open Jvm.ClassFile
def u (s : String) : CpInfo := .utf8 (stringToUtf16 s)
/-- a pool by its gaps: so many unusable entries, then the entry; so many at the end -/
def gap : Nat → List CpInfo → List CpInfo
  | 0, r => r
  | n + 1, r => .unusable :: gap n r
def poolList (es : List (Nat × CpInfo)) (last : Nat) : List CpInfo := es.foldr (fun e r => gap e.1 (e.2 :: r)) (gap last [])
def pool (es : List (Nat × CpInfo)) (last : Nat) : Array CpInfo := ⟨poolList es last⟩
def fileOf (pool : Array CpInfo) (this : Nat) (attrs : Array Attribute := #[]) (ms : Array MethodInfo := #[]) (fl : Nat := 33) (sup : Nat := 0) (ifs : Array Nat := #[]) (fds : Array FieldInfo := #[]) : ClassFile where
  minorVersion := 0
  majorVersion := 65
  constantPool := pool
  accessFlags := fl
  thisClass := this
  superClass := sup
  interfaces := ifs
  fields := fds
  methods := ms
  attributes := attrs
def plain (name : String) (sup : Option ClassId) : Class where
  name := name
  kind := .ordinary
  loader := none
  accessFlags := 33
  super := sup
  interfaces := #[]
  cf := none
  fields := #[]
  methods := #[]
  instanceTypes := #[]
  staticTypes := #[]
  resolved := #[]
  callSites := []
  init := .initialized
  statics := none
  mirror := none

def pool0 : Array CpInfo := pool [(5, u "<init>"), (0, u "()V"), (1, .class_ 10), (1, u "java/lang/Object")] 113

def k0m0 : Method := { name := "<init>", desc := "()V", sig := { parameters := [], returnType := none }, accessFlags := 1, code := none }
/-- java/lang/Object -/
def k0 : Class := { plain "java/lang/Object" none with
  accessFlags := 33
  interfaces := #[]
  cf := some (fileOf pool0 8 #[] #[{ accessFlags := 1, nameIndex := 5, descriptorIndex := 6, attributes := #[] }] 33 0 #[] #[])
  fields := #[]
  methods := #[k0m0]
  instanceTypes := #[]
  staticTypes := #[]
  resolved := Array.replicate 124 none
  statics := none }

def pool1 : Array CpInfo := pool [(2, .class_ 4), (1, u "java/lang/Object"), (0, u "<init>"), (0, u "()V"), (0, .methodref 8 9), (0, .class_ 10), (0, .nameAndType 11 12), (0, u "com/example/octatom/octatom/model/WindowLookahead"), (0, u "holds"), (0, u "(III)Z"), (0, .class_ 14), (0, u "com/example/octatom/octatom/model/WindowLookaheadHoldsPinLaw"), (2, u "law"), (0, u "(IIIII)Z")] 3

def k1m0 : Method := { name := "<init>", desc := "()V", sig := { parameters := [], returnType := none }, accessFlags := 2, code := none }
def k1c1 : Code := { maxStack := 4, maxLocals := 15, code := code, exceptionTable := #[], attributes := #[] }
def k1m1 : Method := { name := "law", desc := "(IIIII)Z", sig := { parameters := [.int, .int, .int, .int, .int], returnType := some .boolean }, accessFlags := 9, code := some k1c1 }
/-- com/example/octatom/octatom/model/WindowLookaheadHoldsPinLaw -/
def k1 : Class := { plain "com/example/octatom/octatom/model/WindowLookaheadHoldsPinLaw" (some 0) with
  accessFlags := 49
  interfaces := #[]
  cf := some (fileOf pool1 13 #[] #[{ accessFlags := 2, nameIndex := 5, descriptorIndex := 6, attributes := #[] }, { accessFlags := 9, nameIndex := 17, descriptorIndex := 18, attributes := #[] }] 49 2 #[] #[])
  fields := #[]
  methods := #[k1m0, k1m1]
  instanceTypes := #[]
  staticTypes := #[]
  resolved := Array.replicate 22 none
  statics := none }

def pool2 : Array CpInfo := pool [(2, .class_ 4), (1, u "java/lang/Object"), (23, .class_ 30), (1, u "com/example/octatom/octatom/model/WindowLookahead"), (0, u "outside"), (0, u "[I"), (8, u "current"), (0, u "I"), (2, u "holds"), (0, u "(III)Z")] 38

def k2c0 : Code := { maxStack := 2, maxLocals := 3, code := prog_51_method_2_code, exceptionTable := #[], attributes := #[] }
def k2m0 : Method := { name := "holds", desc := "(III)Z", sig := { parameters := [.int, .int, .int], returnType := some .boolean }, accessFlags := 9, code := some k2c0 }
/-- com/example/octatom/octatom/model/WindowLookahead -/
def k2 : Class := { plain "com/example/octatom/octatom/model/WindowLookahead" (some 0) with
  accessFlags := 49
  interfaces := #[]
  cf := some (fileOf pool2 28 #[] #[{ accessFlags := 9, nameIndex := 45, descriptorIndex := 46, attributes := #[] }] 49 2 #[] #[{ accessFlags := 18, nameIndex := 31, descriptorIndex := 32, attributes := #[] }, { accessFlags := 2, nameIndex := 41, descriptorIndex := 42, attributes := #[] }])
  fields := #[{ name := "outside", type := (.array .int), accessFlags := 18, slot := 0, constantValue := 0 }, { name := "current", type := .int, accessFlags := 2, slot := 1, constantValue := 0 }]
  methods := #[k2m0]
  instanceTypes := #[(.array .int), .int]
  staticTypes := #[]
  resolved := Array.replicate 85 none
  statics := none }

def pool3 : Array CpInfo := pool [(1, u "java/lang/Cloneable"), (0, .class_ 1), (0, u "java/lang/Object"), (0, .class_ 3)] 3

/-- java/lang/Cloneable -/
def k3 : Class := { plain "java/lang/Cloneable" (some 0) with
  accessFlags := 1537
  interfaces := #[]
  cf := some (fileOf pool3 2 #[] #[] 1537 4 #[] #[])
  fields := #[]
  methods := #[]
  instanceTypes := #[]
  staticTypes := #[]
  resolved := Array.replicate 8 none
  statics := none }

def pool4 : Array CpInfo := pool [(1, u "java/io/Serializable"), (0, .class_ 1), (0, u "java/lang/Object"), (0, .class_ 3)] 3

/-- java/io/Serializable -/
def k4 : Class := { plain "java/io/Serializable" (some 0) with
  accessFlags := 1537
  interfaces := #[]
  cf := some (fileOf pool4 2 #[] #[] 1537 4 #[] #[])
  fields := #[]
  methods := #[]
  instanceTypes := #[]
  staticTypes := #[]
  resolved := Array.replicate 8 none
  statics := none }

/-- the primitive byte -/
def k5 : Class := { plain "byte" none with kind := .primitive 'B', accessFlags := 0x411 }
/-- [B -/
def k6 : Class := { plain "[B" (some 0) with kind := .array 5 .byte, interfaces := #[3, 4], accessFlags := 1041 }

/-- the primitive int -/
def k7 : Class := { plain "int" none with kind := .primitive 'I', accessFlags := 0x411 }
/-- [I -/
def k8 : Class := { plain "[I" (some 0) with kind := .array 7 .int, interfaces := #[3, 4], accessFlags := 1041 }

def heap : Heap := #[]
def classes : Array Class := #[k0, k1, k2, k3, k4, k5, k6, k7, k8]
def interned : List (Array UInt16 × Addr) := []
def slotsUsed : Nat := 0
def theMethod : MethodId := ⟨1, 1⟩
def args0 : Array Value := #[.int 5, .int 3, .int 6, .int 1, .int 0]
def aboutOver (below : List Frame) : State where
  vm := { classes := classes, interned := interned.toArray }
  heap := heap
  slotsUsed := slotsUsed
  threads := #[{ frames := .invoking theMethod args0 :: below }]
def below0 : List Frame := [.native { method := ⟨0, 0⟩, args := #[] }]
def about1 : State := aboutOver below0
def p0 : Program := .bare "" "" ""
def e0 : Env := launch0.env 0 0 0
theorem w_frames : about1.frames = Frame.invoking theMethod args0 :: below0 := rfl
set_option maxRecDepth 65536 in
theorem w_args : argsFit about1.vm theMethod args0 = true := by decide +kernel
set_option maxRecDepth 65536 in
theorem w_heap : heapFits about1 = true := by decide +kernel
set_option maxRecDepth 65536 in
theorem w_runnable : about1.curStatus? = some .runnable := by decide +kernel
set_option maxRecDepth 65536 in
theorem w_alone : about1.alone = true := by decide +kernel
set_option maxRecDepth 65536 in
theorem w_named : about1.methodNamed? x = some theMethod := by decide +kernel
set_option maxRecDepth 65536 in
theorem w_hears : about1.hears theMethod below0 = true := by decide +kernel
set_option maxRecDepth 65536 in
theorem w_ripe : about1.ripe theMethod args0 below0 = true := by decide +kernel
theorem w_running : about1.status = .running := rfl
set_option maxRecDepth 65536 in
theorem w_room : about1.hasRoom e0.platform room_1 = true :=
  launch0.hasRoom_least _ room_1 (by decide +kernel) (by decide +kernel) (by decide +kernel) (by decide +kernel) (by decide +kernel) (by decide +kernel)
theorem allAtoms_all (ts : List Jvm.Cond) (a : Array Jvm.Value) (st : Jvm.State) : (allAtoms ts).before a st = ts.all (fun c => c.before a st) := by
  induction ts with
  | nil => rfl
  | cons c t ih =>
    show (Jvm.Cond.and c (allAtoms t)).before a st = _
    rw [Jvm.Cond.before_and, ih, List.all_cons]
def words1 : List Jvm.Cond := Jvm.Cond.code x code maxLocals ret :: tables_1
/-- a 'code' word, met by the world's own term for the bytes: nothing is compared byte by byte -/
theorem code_word {y : MethodName} {bytes : ByteArray} {mx : Nat} {rt : Option FieldType} {a : Array Value} {s : State} {m : MethodId} {meth : Method} {c : Code} (h1 : s.methodNamed? y = some m) (h2 : s.vm.method? m = some meth) (h3 : meth.code = some c) (h4 : c.code = bytes)
    (h5 : (c.maxLocals == mx && c.exceptionTable.isEmpty && decide (c.maxStack ≤ mostOperands) && decide (meth.sig.returnType = rt) && !meth.locks && decide (parseMethodDescriptor y.desc = some meth.sig)) = true) : (Jvm.Cond.code y bytes mx rt).before a s = true := by
  simp only [Bool.and_eq_true, beq_iff_eq, Bool.not_eq_true', decide_eq_true_eq] at h5
  obtain ⟨⟨⟨⟨⟨g1, g2⟩, g3⟩, g4⟩, g5⟩, g6⟩ := h5
  simp [Cond.before, Cond.holds, Cond.value, h1, h2, h3, h4, g1, g2, g3, g4, g5, g6]
def isCode : Jvm.Cond → Bool
  | .code _ _ _ _ => true
  | _ => false
theorem all_split {L : List Jvm.Cond} {P : Jvm.Cond → Bool} (h1 : L.all (fun c => isCode c || P c) = true) (h2 : ∀ c ∈ L.filter isCode, P c = true) : L.all P = true := by
  refine List.all_eq_true.mpr fun c hc => ?_
  have h := List.all_eq_true.mp h1 c hc
  rcases Bool.eq_false_or_eq_true (isCode c) with hi | hi
  · exact h2 c (List.mem_filter.mpr ⟨hc, hi⟩)
  · simpa [hi] using h
set_option maxRecDepth 65536 in
theorem w_c0 : (Jvm.Cond.code x code maxLocals ret).before args0 about1 = true := code_word (m := ⟨1, 1⟩) (meth := k1m1) (c := k1c1) (by decide +kernel) rfl rfl rfl (by decide +kernel)
set_option maxRecDepth 65536 in
theorem w_c1 : (Jvm.Cond.code ({ cls := "com/example/octatom/octatom/model/WindowLookahead", name := "holds", desc := "(III)Z" } : Jvm.MethodName) prog_51_method_2_code (3 : Nat) (Option.some Jvm.ClassFile.FieldType.boolean)).before args0 about1 = true := code_word (m := ⟨2, 0⟩) (meth := k2m0) (c := k2c0) (by decide +kernel) rfl rfl rfl (by decide +kernel)
def codes1 : List Jvm.Cond := [Jvm.Cond.code x code maxLocals ret, Jvm.Cond.code ({ cls := "com/example/octatom/octatom/model/WindowLookahead", name := "holds", desc := "(III)Z" } : Jvm.MethodName) prog_51_method_2_code (3 : Nat) (Option.some Jvm.ClassFile.FieldType.boolean)]
set_option maxRecDepth 65536 in
theorem codes_eq : words1.filter isCode = codes1 := rfl
theorem w_codes : ∀ c ∈ words1.filter isCode, c.before args0 about1 = true := by
  rw [codes_eq]
  intro c hc
  simp only [codes1, List.mem_cons, List.not_mem_nil, or_false] at hc
  rcases hc with rfl | rfl
  · exact w_c0
  · exact w_c1
set_option maxRecDepth 65536 in
theorem w_t1 : words1.all (fun c => isCode c || c.before args0 about1) = true := by decide +kernel
theorem w_tables : (allAtoms (Jvm.Cond.code x code maxLocals ret :: tables_1)).before args0 about1 = true := by
  rw [allAtoms_all]
  show words1.all (fun c => c.before args0 about1) = true
  refine all_split ?_ w_codes
  rw [w_t1]
set_option maxRecDepth 65536 in
theorem w_case : (Jvm.Cond.and given_1 narrow_1).before args0 about1 = true := by decide +kernel
theorem w_applies : (headSpec (Jvm.Cond.code x code maxLocals ret :: tables_1) room_1).applies x e0.platform about1 = true :=
  (Spec.applies_iff w_frames).mpr ⟨w_running, w_runnable, w_alone, w_named, w_hears, w_ripe, w_room, w_tables⟩
theorem atStart : AtStart classFile x code maxLocals ret World_1 tables_1 room_1 Calls_1 rest_1 Pre_1 launch0 p0 e0 about1 theMethod args0 below0 :=
  ⟨lists_1, trivial, launch0.admits_env _ _ _, launch0.least_env, fairChoices_fair.cas, fairChoices_fair.clock, w_frames, w_args, w_heap, w_applies, trivial, trivial, w_case⟩
end start1
theorem witness_1 : WitnessClaimed_1 := ⟨start1.p0, start1.e0, start1.about1, start1.theMethod, start1.args0, start1.below0, start1.atStart⟩
end Jvm.Pilot.@@N@@
