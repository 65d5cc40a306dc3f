import JvmDerived
import JvmDerived.Pilot.@@N@@Statement
import JvmDerived.Pilot.@@N@@Code
set_option linter.unusedVariables false
set_option linter.unusedSimpArgs false
namespace Jvm.RoadKit
open Sem ClassFile Op Lib Jvm.Stand Jvm.Free Jvm.LawKit
section New
variable {p : Program} {l : Launch} {e : Env} {R : Room} {s : State} {m : MethodId} {args : Array Value} {below : List Frame} {meth : Method} {c : Code} {T : State} {locs : List Loc} {cells slots : Nat}
theorem retI (X : Stand p l e R s m args below meth c T locs cells slots) (hx : p.tables.exec = Jvm.exec) {pc : Nat} {Ls : Array Slot} {z : Int32} {rest : List Value} (hret : meth.sig.returnType = some .int) (hd : decode c.code pc = .ok (.ireturn, 1)) {fs : List Frame}
    (hl : ∀ (f : JFrame) (acts : List Action), f.method = m → f.locked = none → f.entered = [] → (doReturn e (T.setTop f) acts (some (.int z))).1 = T.setFrames fs) : Steps p.tables e below (T.setTop (mkF m pc Ls (.int z :: rest))) (T.setFrames fs) := by
  have hm' : T.vm.method? m = some meth := X.method'
  have hn : narrow .int (.int z) = .int z := rfl
  show Steps p.tables e below (T.setTop { method := m, pc := pc, locals := Ls, stack := _ :: rest, locked := none }) _
  jvm_step X.here [X.here.top, hx, hd, hm', hret, hn]
  first | (intro acts; rw [hl _ acts rfl rfl rfl]) | rw [hl _ _ rfl rfl rfl]
  exact Steps.refl _
theorem own_lrem {g : JFrame} {target : State} (X : Stand p l e R s m args below meth c T locs cells slots) (hx : p.tables.exec = Jvm.exec) (hg : g.method = m) {x y : Int64} {rest : List Value} (hd : decode c.code g.pc = .ok (.lrem, 1)) (hs : g.stack = .long y :: .long x :: rest) (hy : y ≠ 0)
    (hr : Steps p.tables e below (T.setTop { g with pc := g.pc + 1, stack := .long (x % y) :: rest }) target) : Steps p.tables e below (T.setTop g) target := by
  have q : x - (x / y) * y = x % y := lrem_mod x y
  exact XS.lrem X.here hx hg hd hs hy (by rw [q]; exact hr)
theorem own_b1 {P : Prop} [Decidable P] (h : P) : ¬ ((if P then (1 : Int32) else 0) = 0) := by rw [if_pos h]; decide
theorem own_b0 {P : Prop} [Decidable P] (h : ¬ P) : (if P then (1 : Int32) else 0) = 0 := if_neg h
theorem own_c1 {P : Prop} [Decidable P] (h : P) : (if P then (1 : Int32) else 0) = 1 := if_pos h
theorem own_c0 {P : Prop} [Decidable P] (h : ¬ P) : ¬ ((if P then (1 : Int32) else 0) = 1) := by rw [if_neg h]; decide
theorem own_bb {P Q : Prop} [Decidable P] [Decidable Q] (h : P ↔ Q) : (if P then (1 : Int32) else 0) = (if Q then (1 : Int32) else 0) := by
  by_cases p : P
  · rw [if_pos p, if_pos (h.mp p)]
  · rw [if_neg p, if_neg (fun q => p (h.mpr q))]
theorem own_bn {P Q : Prop} [Decidable P] [Decidable Q] (h : ¬ (P ↔ Q)) : ¬ ((if P then (1 : Int32) else 0) = (if Q then (1 : Int32) else 0)) := fun e => h (by
  by_cases p : P <;> by_cases q : Q
  · exact ⟨fun _ => q, fun _ => p⟩
  · rw [if_pos p, if_neg q] at e; exact absurd e (by decide)
  · rw [if_neg p, if_pos q] at e; exact absurd e (by decide)
  · exact ⟨fun a => absurd a p, fun a => absurd a q⟩)
theorem own_t {P : Prop} [Decidable P] (h : P) : some (Value.int 1) = some (Value.int (if P then (1 : Int32) else 0)) := by rw [if_pos h]
theorem own_f {P : Prop} [Decidable P] (h : ¬ P) : some (Value.int 0) = some (Value.int (if P then (1 : Int32) else 0)) := by rw [if_neg h]
end New
end Jvm.RoadKit
namespace Jvm.Pilot.@@N@@
open Jvm Jvm.ClassFile Sem Op Lib Jvm.Free Jvm.Stand Jvm.LawKit Jvm.RoadKit Bundle Jvm.Pilot.@@N@@.Jvm.D
def own_min (a b : Int64) : Int64 := if b < a then b else a
def own_max (a b : Int64) : Int64 := if a < b then b else a
def own_last (lo hi i : Int64) : Int64 := if i < hi then (if i < lo then (-9223372036854775808 : Int64) else lo) else hi
theorem own_max_toInt (a b : Int64) : (own_max a b).toInt = max a.toInt b.toInt := by
  unfold own_max
  simp only [Int64.lt_iff_toInt_lt]
  split <;> omega
theorem own_minmax (a b : Int64) : ¬ own_max a b < own_min a b := by
  unfold own_max own_min
  simp only [Int64.lt_iff_toInt_lt]
  split <;> split <;> omega
theorem own_fin (lo hi i : Int64) (h : ¬ hi < lo) : (own_last lo hi i).toInt = if i.toInt < hi.toInt then (if i.toInt < lo.toInt then -9223372036854775808 else lo.toInt) else hi.toInt := by
  unfold own_last
  simp only [Int64.lt_iff_toInt_lt]
  split
  · split <;> rfl
  · rfl
theorem d1_0 : decode jdk_29_method_70_code 0 = .ok (.lload_n 0, 1) := by decide +kernel
theorem d1_1 : decode jdk_29_method_70_code 1 = .ok (.lload_n 2, 1) := by decide +kernel
theorem d1_2 : decode jdk_29_method_70_code 2 = .ok (.lcmp, 1) := by decide +kernel
theorem d1_3 : decode jdk_29_method_70_code 3 = .ok (.ifCond .gt 7, 3) := by decide +kernel
theorem d1_10 : decode jdk_29_method_70_code 10 = .ok (.lload_n 2, 1) := by decide +kernel
theorem d1_11 : decode jdk_29_method_70_code 11 = .ok (.lreturn, 1) := by decide +kernel
theorem d1_6 : decode jdk_29_method_70_code 6 = .ok (.lload_n 0, 1) := by decide +kernel
theorem d1_7 : decode jdk_29_method_70_code 7 = .ok (.goto 4, 3) := by decide +kernel
theorem ef_1 (m : MethodId) (x0 : Int64) (x1 : Int64) : entryFrame m #[(.long x0), (.long x1)] 4 = mkF m 0 #[.val (.long x0), .second, .val (.long x1), .second] [] := by first | (simp [entryFrame, mkF, argsToLocals, Value.category]; done) | rfl
def Q1 (Z : State) (q0 : Int64) (q1 : Int64) (h0 : Heap) (n0 : Nat) (v : Option Value) (h : Heap) (L : List Loc) : Prop := v = some (.long (own_min q0 q1)) ∧ Fr n0 L ∧ h = h0
set_option maxRecDepth 65536 in
set_option maxHeartbeats 40000000 in
theorem rm1 (l : Launch) (Z : State) (a0 : Array Value) (hw : ∀ d ∈ tables_1, d.before a0 Z = true) (ws : List Jvm.Cond) (q0 : Int64) (q1 : Int64) (h0 : Heap) (n0 : Nat) (Z0 : n0 ≤ h0.size) :
    MetFree l (⟨"java/lang/Math", "min", "(JJ)J"⟩ : MethodName) (head1 (Jvm.Cond.code (⟨"java/lang/Math", "min", "(JJ)J"⟩ : MethodName) jdk_29_method_70_code 4 (some .long) :: ws) ({ frames := 0, cells := 0, slots := 0, locals := 0 } : Room)) (fun a U => a = #[(.long q0), (.long q1)] ∧ Z.Warmed39 U.vm ∧ U.heap = h0) (fun _ _ _ _ _ => True) (fun _ U o U' => ∃ v L, o = .returned v ∧ Q1 Z q0 q1 h0 n0 v U'.heap L ∧ FrameEnd U o U' L ({ frames := 0, cells := 0, slots := 0, locals := 0 } : Room).cells ({ frames := 0, cells := 0, slots := 0, locals := 0 } : Room).slots) := by
  refine MetFree.of_bodySF (Jvm.Free.JP.mathPlain rfl (by decide +kernel)) hisR ?_
  intro p e s m args below meth c s₁ Bd hml0 hP hK
  obtain ⟨rfl, hZ, hh⟩ := hP
  have hx := Bd.exec
  have hby := Bd.bytes
  have hml : c.maxLocals = 4 := hml0
  have hown : s.vm.findClass "java/lang/Math" = some m.cls := findClass_of_methodNamed Bd.named
  have hnm := (name_of_methodNamed Bd.named Bd.method).1
  have X0 : Stand p l e ({ frames := 0, cells := 0, slots := 0, locals := 0 } : Room) s m #[(.long q0), (.long q1)] below meth c s₁ [] 0 0 := Stand.of_body Bd
  have e0 : s₁.heap = h0 := by rw [← hh, Bd.state]; rfl
  have N0 := Fr.nil n0
  have pre0 : ∀ t, Steps p.tables e below (s₁.setTop (mkF m 0 #[.val (.long q0), .second, .val (.long q1), .second] [])) t → Steps p.tables e below (s₁.setTop (entryFrame m #[(.long q0), (.long q1)] 4)) t := fun t k => castTop (ef_1 m q0 q1) k
  have pre1 : ∀ t, Steps p.tables e below (s₁.setTop (mkF m 3 #[.val (.long q0), .second, .val (.long q1), .second] [(.int (lcmpW q0 q1))])) t → Steps p.tables e below (s₁.setTop (entryFrame m #[(.long q0), (.long q1)] 4)) t := fun t k => pre0 t (by
    show Steps p.tables e below (s₁.setTop (mkF m 0 #[.val (.long q0), .second, .val (.long q1), .second] [])) _
    refine XS.lloadN X0.here hx rfl (hb hby d1_0) rfl ?_
    show Steps p.tables e below (s₁.setTop (mkF m 1 #[.val (.long q0), .second, .val (.long q1), .second] [(.long q0)])) _
    refine XS.lloadN X0.here hx rfl (hb hby d1_1) rfl ?_
    show Steps p.tables e below (s₁.setTop (mkF m 2 #[.val (.long q0), .second, .val (.long q1), .second] [(.long q1), (.long q0)])) _
    refine XS.lcmp X0.here hx rfl (hb hby d1_2) rfl ?_
    exact k)
  by_cases hc3_2 : q1 < q0
  · have pre3 : ∀ t, Steps p.tables e below (s₁.setTop (mkF m 11 #[.val (.long q0), .second, .val (.long q1), .second] [(.long q1)])) t → Steps p.tables e below (s₁.setTop (entryFrame m #[(.long q0), (.long q1)] 4)) t := fun t k => pre1 t (by
      show Steps p.tables e below (s₁.setTop (mkF m 3 #[.val (.long q0), .second, .val (.long q1), .second] [(.int (lcmpW q0 q1))])) _
      refine XS.ifYes X0.here hx rfl (pc0 := 3) (pc' := 10) rfl (hb hby d1_3) rfl ((if0 _ _).trans (tlt ((lw_gt _ _).mpr hc3_2)).2.2.1) (by decide) (by decide) ?_
      show Steps p.tables e below (s₁.setTop (mkF m 10 #[.val (.long q0), .second, .val (.long q1), .second] [])) _
      refine XS.lloadN X0.here hx rfl (hb hby d1_10) rfl ?_
      exact k)
    obtain ⟨fs, hr, hrun, hended, hW, hsame⟩ := X0.leave (v := some (.long q1)) (fun h => by rw [Bd.returns] at h; cases h)
    refine ⟨_, _, pre3 _ ?_, hrun, hended, _, _, rfl, ?_, ⟨_, rfl⟩, hW, hsame.mono (by decide) (by decide)⟩
    · show Steps p.tables e below (s₁.setTop (mkF m 11 #[.val (.long q0), .second, .val (.long q1), .second] [(.long q1)])) _
      jvm_step X0.here [X0.here.top, hx, (hb hby d1_11), X0.method', Bd.returns, narrow]
      first | (intro acts; rw [hr _ acts rfl rfl rfl]) | rw [hr _ _ rfl rfl rfl]
      exact Steps.refl _
    · show Q1 Z q0 q1 h0 n0 _ s₁.heap _
      rw [e0]
      exact ⟨by unfold own_min; rw [if_pos hc3_2], N0, rfl⟩
  · have pre4 : ∀ t, Steps p.tables e below (s₁.setTop (mkF m 11 #[.val (.long q0), .second, .val (.long q1), .second] [(.long q0)])) t → Steps p.tables e below (s₁.setTop (entryFrame m #[(.long q0), (.long q1)] 4)) t := fun t k => pre1 t (by
      show Steps p.tables e below (s₁.setTop (mkF m 3 #[.val (.long q0), .second, .val (.long q1), .second] [(.int (lcmpW q0 q1))])) _
      refine XS.ifNo X0.here hx rfl (hb hby d1_3) rfl ((if0 _ _).trans (flt (fun q => hc3_2 ((lw_gt _ _).mp q))).2.2.1) ?_
      show Steps p.tables e below (s₁.setTop (mkF m 6 #[.val (.long q0), .second, .val (.long q1), .second] [])) _
      refine XS.lloadN X0.here hx rfl (hb hby d1_6) rfl ?_
      show Steps p.tables e below (s₁.setTop (mkF m 7 #[.val (.long q0), .second, .val (.long q1), .second] [(.long q0)])) _
      refine XS.goto X0.here hx rfl (pc0 := 7) (pc' := 11) rfl (hb hby d1_7) (by decide) (by decide) ?_
      exact k)
    obtain ⟨fs, hr, hrun, hended, hW, hsame⟩ := X0.leave (v := some (.long q0)) (fun h => by rw [Bd.returns] at h; cases h)
    refine ⟨_, _, pre4 _ ?_, hrun, hended, _, _, rfl, ?_, ⟨_, rfl⟩, hW, hsame.mono (by decide) (by decide)⟩
    · show Steps p.tables e below (s₁.setTop (mkF m 11 #[.val (.long q0), .second, .val (.long q1), .second] [(.long q0)])) _
      jvm_step X0.here [X0.here.top, hx, (hb hby d1_11), X0.method', Bd.returns, narrow]
      first | (intro acts; rw [hr _ acts rfl rfl rfl]) | rw [hr _ _ rfl rfl rfl]
      exact Steps.refl _
    · show Q1 Z q0 q1 h0 n0 _ s₁.heap _
      rw [e0]
      exact ⟨by unfold own_min; rw [if_neg hc3_2], N0, rfl⟩
theorem d2_0 : decode jdk_29_method_66_code 0 = .ok (.lload_n 0, 1) := by decide +kernel
theorem d2_1 : decode jdk_29_method_66_code 1 = .ok (.lload_n 2, 1) := by decide +kernel
theorem d2_2 : decode jdk_29_method_66_code 2 = .ok (.lcmp, 1) := by decide +kernel
theorem d2_3 : decode jdk_29_method_66_code 3 = .ok (.ifCond .lt 7, 3) := by decide +kernel
theorem d2_10 : decode jdk_29_method_66_code 10 = .ok (.lload_n 2, 1) := by decide +kernel
theorem d2_11 : decode jdk_29_method_66_code 11 = .ok (.lreturn, 1) := by decide +kernel
theorem d2_6 : decode jdk_29_method_66_code 6 = .ok (.lload_n 0, 1) := by decide +kernel
theorem d2_7 : decode jdk_29_method_66_code 7 = .ok (.goto 4, 3) := by decide +kernel
theorem ef_2 (m : MethodId) (x0 : Int64) (x1 : Int64) : entryFrame m #[(.long x0), (.long x1)] 4 = mkF m 0 #[.val (.long x0), .second, .val (.long x1), .second] [] := by first | (simp [entryFrame, mkF, argsToLocals, Value.category]; done) | rfl
def Q2 (Z : State) (q0 : Int64) (q1 : Int64) (h0 : Heap) (n0 : Nat) (v : Option Value) (h : Heap) (L : List Loc) : Prop := v = some (.long (own_max q0 q1)) ∧ Fr n0 L ∧ h = h0
set_option maxRecDepth 65536 in
set_option maxHeartbeats 40000000 in
theorem rm2 (l : Launch) (Z : State) (a0 : Array Value) (hw : ∀ d ∈ tables_1, d.before a0 Z = true) (ws : List Jvm.Cond) (q0 : Int64) (q1 : Int64) (h0 : Heap) (n0 : Nat) (Z0 : n0 ≤ h0.size) :
    MetFree l (⟨"java/lang/Math", "max", "(JJ)J"⟩ : MethodName) (head1 (Jvm.Cond.code (⟨"java/lang/Math", "max", "(JJ)J"⟩ : MethodName) jdk_29_method_66_code 4 (some .long) :: ws) ({ frames := 0, cells := 0, slots := 0, locals := 0 } : Room)) (fun a U => a = #[(.long q0), (.long q1)] ∧ Z.Warmed39 U.vm ∧ U.heap = h0) (fun _ _ _ _ _ => True) (fun _ U o U' => ∃ v L, o = .returned v ∧ Q2 Z q0 q1 h0 n0 v U'.heap L ∧ FrameEnd U o U' L ({ frames := 0, cells := 0, slots := 0, locals := 0 } : Room).cells ({ frames := 0, cells := 0, slots := 0, locals := 0 } : Room).slots) := by
  refine MetFree.of_bodySF (Jvm.Free.JP.mathPlain rfl (by decide +kernel)) hisR ?_
  intro p e s m args below meth c s₁ Bd hml0 hP hK
  obtain ⟨rfl, hZ, hh⟩ := hP
  have hx := Bd.exec
  have hby := Bd.bytes
  have hml : c.maxLocals = 4 := hml0
  have hown : s.vm.findClass "java/lang/Math" = some m.cls := findClass_of_methodNamed Bd.named
  have hnm := (name_of_methodNamed Bd.named Bd.method).1
  have X0 : Stand p l e ({ frames := 0, cells := 0, slots := 0, locals := 0 } : Room) s m #[(.long q0), (.long q1)] below meth c s₁ [] 0 0 := Stand.of_body Bd
  have e0 : s₁.heap = h0 := by rw [← hh, Bd.state]; rfl
  have N0 := Fr.nil n0
  have pre0 : ∀ t, Steps p.tables e below (s₁.setTop (mkF m 0 #[.val (.long q0), .second, .val (.long q1), .second] [])) t → Steps p.tables e below (s₁.setTop (entryFrame m #[(.long q0), (.long q1)] 4)) t := fun t k => castTop (ef_2 m q0 q1) k
  have pre1 : ∀ t, Steps p.tables e below (s₁.setTop (mkF m 3 #[.val (.long q0), .second, .val (.long q1), .second] [(.int (lcmpW q0 q1))])) t → Steps p.tables e below (s₁.setTop (entryFrame m #[(.long q0), (.long q1)] 4)) t := fun t k => pre0 t (by
    show Steps p.tables e below (s₁.setTop (mkF m 0 #[.val (.long q0), .second, .val (.long q1), .second] [])) _
    refine XS.lloadN X0.here hx rfl (hb hby d2_0) rfl ?_
    show Steps p.tables e below (s₁.setTop (mkF m 1 #[.val (.long q0), .second, .val (.long q1), .second] [(.long q0)])) _
    refine XS.lloadN X0.here hx rfl (hb hby d2_1) rfl ?_
    show Steps p.tables e below (s₁.setTop (mkF m 2 #[.val (.long q0), .second, .val (.long q1), .second] [(.long q1), (.long q0)])) _
    refine XS.lcmp X0.here hx rfl (hb hby d2_2) rfl ?_
    exact k)
  by_cases hc3_2 : q0 < q1
  · have pre3 : ∀ t, Steps p.tables e below (s₁.setTop (mkF m 11 #[.val (.long q0), .second, .val (.long q1), .second] [(.long q1)])) t → Steps p.tables e below (s₁.setTop (entryFrame m #[(.long q0), (.long q1)] 4)) t := fun t k => pre1 t (by
      show Steps p.tables e below (s₁.setTop (mkF m 3 #[.val (.long q0), .second, .val (.long q1), .second] [(.int (lcmpW q0 q1))])) _
      refine XS.ifYes X0.here hx rfl (pc0 := 3) (pc' := 10) rfl (hb hby d2_3) rfl ((if0 _ _).trans (tlt ((lw_lt _ _).mpr hc3_2)).1) (by decide) (by decide) ?_
      show Steps p.tables e below (s₁.setTop (mkF m 10 #[.val (.long q0), .second, .val (.long q1), .second] [])) _
      refine XS.lloadN X0.here hx rfl (hb hby d2_10) rfl ?_
      exact k)
    obtain ⟨fs, hr, hrun, hended, hW, hsame⟩ := X0.leave (v := some (.long q1)) (fun h => by rw [Bd.returns] at h; cases h)
    refine ⟨_, _, pre3 _ ?_, hrun, hended, _, _, rfl, ?_, ⟨_, rfl⟩, hW, hsame.mono (by decide) (by decide)⟩
    · show Steps p.tables e below (s₁.setTop (mkF m 11 #[.val (.long q0), .second, .val (.long q1), .second] [(.long q1)])) _
      jvm_step X0.here [X0.here.top, hx, (hb hby d2_11), X0.method', Bd.returns, narrow]
      first | (intro acts; rw [hr _ acts rfl rfl rfl]) | rw [hr _ _ rfl rfl rfl]
      exact Steps.refl _
    · show Q2 Z q0 q1 h0 n0 _ s₁.heap _
      rw [e0]
      exact ⟨by unfold own_max; rw [if_pos hc3_2], N0, rfl⟩
  · have pre4 : ∀ t, Steps p.tables e below (s₁.setTop (mkF m 11 #[.val (.long q0), .second, .val (.long q1), .second] [(.long q0)])) t → Steps p.tables e below (s₁.setTop (entryFrame m #[(.long q0), (.long q1)] 4)) t := fun t k => pre1 t (by
      show Steps p.tables e below (s₁.setTop (mkF m 3 #[.val (.long q0), .second, .val (.long q1), .second] [(.int (lcmpW q0 q1))])) _
      refine XS.ifNo X0.here hx rfl (hb hby d2_3) rfl ((if0 _ _).trans (flt (fun q => hc3_2 ((lw_lt _ _).mp q))).1) ?_
      show Steps p.tables e below (s₁.setTop (mkF m 6 #[.val (.long q0), .second, .val (.long q1), .second] [])) _
      refine XS.lloadN X0.here hx rfl (hb hby d2_6) rfl ?_
      show Steps p.tables e below (s₁.setTop (mkF m 7 #[.val (.long q0), .second, .val (.long q1), .second] [(.long q0)])) _
      refine XS.goto X0.here hx rfl (pc0 := 7) (pc' := 11) rfl (hb hby d2_7) (by decide) (by decide) ?_
      exact k)
    obtain ⟨fs, hr, hrun, hended, hW, hsame⟩ := X0.leave (v := some (.long q0)) (fun h => by rw [Bd.returns] at h; cases h)
    refine ⟨_, _, pre4 _ ?_, hrun, hended, _, _, rfl, ?_, ⟨_, rfl⟩, hW, hsame.mono (by decide) (by decide)⟩
    · show Steps p.tables e below (s₁.setTop (mkF m 11 #[.val (.long q0), .second, .val (.long q1), .second] [(.long q0)])) _
      jvm_step X0.here [X0.here.top, hx, (hb hby d2_11), X0.method', Bd.returns, narrow]
      first | (intro acts; rw [hr _ acts rfl rfl rfl]) | rw [hr _ _ rfl rfl rfl]
      exact Steps.refl _
    · show Q2 Z q0 q1 h0 n0 _ s₁.heap _
      rw [e0]
      exact ⟨by unfold own_max; rw [if_neg hc3_2], N0, rfl⟩
theorem pn_0 : plainName "java/lang/Record" = true := by first | (simp [plainName, overriddenIn]; done) | decide +kernel
theorem d4_0 : decode jdk_30_method_1_code 0 = .ok (.aload_n 0, 1) := by decide +kernel
theorem d4_1 : decode jdk_30_method_1_code 1 = .ok (.invokespecial 1, 3) := by decide +kernel
theorem d4_4 : decode jdk_30_method_1_code 4 = .ok (.return_, 1) := by decide +kernel
theorem ef_4 (m : MethodId) (x0 : Addr) : entryFrame m #[(.ref x0)] 1 = mkF m 0 #[.val (.ref x0)] [] := by first | (simp [entryFrame, mkF, argsToLocals, Value.category]; done) | rfl
def Q4 (Z : State) (o0 : Addr) (h0 : Heap) (n0 : Nat) (v : Option Value) (h : Heap) (L : List Loc) : Prop := v = none ∧ Fr n0 L ∧ h = h0
set_option maxRecDepth 65536 in
set_option maxHeartbeats 40000000 in
theorem rm4 (l : Launch) (Z : State) (a0 : Array Value) (hw : ∀ d ∈ tables_1, d.before a0 Z = true) (ws : List Jvm.Cond) (o0 : Addr) (h0 : Heap) (n0 : Nat) (Z0 : n0 ≤ h0.size) :
    MetFree l (⟨"java/lang/Record", "<init>", "()V"⟩ : MethodName) (head1 (Jvm.Cond.code (⟨"java/lang/Record", "<init>", "()V"⟩ : MethodName) jdk_30_method_1_code 1 none :: ws) ({ frames := 1, cells := 0, slots := 0, locals := 12 } : Room)) (fun a U => a = #[(.ref o0)] ∧ Z.Warmed39 U.vm ∧ U.heap = h0) (fun _ _ _ _ _ => True) (fun _ U o U' => ∃ v L, o = .returned v ∧ Q4 Z o0 h0 n0 v U'.heap L ∧ FrameEnd U o U' L ({ frames := 1, cells := 0, slots := 0, locals := 12 } : Room).cells ({ frames := 1, cells := 0, slots := 0, locals := 12 } : Room).slots) := by
  refine MetFree.of_bodySF (plainFor_of_name pn_0) hisR ?_
  intro p e s m args below meth c s₁ Bd hml0 hP hK
  obtain ⟨rfl, hZ, hh⟩ := hP
  have hx := Bd.exec
  have hby := Bd.bytes
  have hml : c.maxLocals = 1 := hml0
  have hown : s.vm.findClass "java/lang/Record" = some m.cls := findClass_of_methodNamed Bd.named
  have hnm := (name_of_methodNamed Bd.named Bd.method).1
  have X0 : Stand p l e ({ frames := 1, cells := 0, slots := 0, locals := 12 } : Room) s m #[(.ref o0)] below meth c s₁ [] 0 0 := Stand.of_body Bd
  have e0 : s₁.heap = h0 := by rw [← hh, Bd.state]; rfl
  have N0 := Fr.nil n0
  have pre0 : ∀ t, Steps p.tables e below (s₁.setTop (mkF m 0 #[.val (.ref o0)] [])) t → Steps p.tables e below (s₁.setTop (entryFrame m #[(.ref o0)] 1)) t := fun t k => castTop (ef_4 m o0) k
  obtain ⟨T1, X1, e1, st1⟩ := initO X0 hx hZ hown (hw _ (List.mem_of_getElem? (i := 18) rfl)) (hw _ (List.mem_of_getElem? (i := 19) rfl)) (hw _ (List.mem_of_getElem? (i := 20) rfl)) e0 (g := (mkF m 1 #[.val (.ref o0)] [(.ref o0)])) rfl (by rw [hml]; rfl) rfl (hb hby d4_1) (by decide) (W := 0) (by show 2 * 0 + _ ≤ _; exact Nat.le_of_eq rfl) (by decide)
  have pre2 : ∀ t, Steps p.tables e below (T1.setTop (mkF m 4 #[.val (.ref o0)] [])) t → Steps p.tables e below (s₁.setTop (entryFrame m #[(.ref o0)] 1)) t := fun t k => pre0 t (by
    show Steps p.tables e below (s₁.setTop (mkF m 0 #[.val (.ref o0)] [])) _
    refine XS.aloadN X0.here hx rfl (hb hby d4_0) rfl rfl ?_
    show Steps p.tables e below (s₁.setTop (mkF m 1 #[.val (.ref o0)] [(.ref o0)])) _
    refine st1 _ ?_
    exact k)
  obtain ⟨fs, hr, hrun, hended, hW, hsame⟩ := X1.leave (v := none) (fun _ => rfl)
  refine ⟨_, _, pre2 _ ?_, hrun, hended, _, _, rfl, ?_, ⟨_, rfl⟩, hW, hsame.mono (by decide) (by decide)⟩
  · exact X1.returnOut hx Bd.returns (hb hby d4_4) hr
  · show Q4 Z o0 h0 n0 _ T1.heap _
    rw [e1]
    exact ⟨rfl, N0, rfl⟩
theorem pn_1 : plainName "com/example/almanac/almanac/plan/OverWindow$Correction" = true := by first | (simp [plainName, overriddenIn]; done) | decide +kernel
theorem d3_0 : decode prog_30_method_1_code 0 = .ok (.aload_n 0, 1) := by decide +kernel
theorem pd_0 : parseMethodDescriptor "()V" = some ⟨[], none⟩ := by decide +kernel
theorem d3_1 : decode prog_30_method_1_code 1 = .ok (.invokespecial 1, 3) := by decide +kernel
theorem d3_4 : decode prog_30_method_1_code 4 = .ok (.aload_n 0, 1) := by decide +kernel
theorem d3_5 : decode prog_30_method_1_code 5 = .ok (.aload_n 1, 1) := by decide +kernel
theorem d3_6 : decode prog_30_method_1_code 6 = .ok (.putfield 7, 3) := by decide +kernel
theorem d3_9 : decode prog_30_method_1_code 9 = .ok (.aload_n 0, 1) := by decide +kernel
theorem d3_10 : decode prog_30_method_1_code 10 = .ok (.lload_n 2, 1) := by decide +kernel
theorem d3_11 : decode prog_30_method_1_code 11 = .ok (.putfield 13, 3) := by decide +kernel
theorem d3_14 : decode prog_30_method_1_code 14 = .ok (.aload_n 0, 1) := by decide +kernel
theorem d3_15 : decode prog_30_method_1_code 15 = .ok (.lload 4, 2) := by decide +kernel
theorem d3_17 : decode prog_30_method_1_code 17 = .ok (.putfield 17, 3) := by decide +kernel
theorem d3_20 : decode prog_30_method_1_code 20 = .ok (.return_, 1) := by decide +kernel
theorem ef_3 (m : MethodId) (x0 : Addr) (x2 : Int64) (x3 : Int64) : entryFrame m #[(.ref x0), .null, (.long x2), (.long x3)] 6 = mkF m 0 #[.val (.ref x0), .val .null, .val (.long x2), .second, .val (.long x3), .second] [] := by first | (simp [entryFrame, mkF, argsToLocals, Value.category]; done) | rfl
def Q3 (Z : State) (o0 : Addr) (q2 : Int64) (q3 : Int64) (u0 : Value) (u1 : Value) (u2 : Value) (h0 : Heap) (n0 : Nat) (v : Option Value) (h : Heap) (L : List Loc) : Prop := v = none ∧ Fr n0 L ∧ Keep h0 h [o0] ∧ Exa Z h o0 "com/example/almanac/almanac/plan/OverWindow$Correction" ∧ Fld Z h o0 "com/example/almanac/almanac/plan/OverWindow$Correction" "start" "J" (.long q2) ∧ Fld Z h o0 "com/example/almanac/almanac/plan/OverWindow$Correction" "end" "J" (.long q3)
set_option maxRecDepth 65536 in
set_option maxHeartbeats 40000000 in
theorem rm3 (l : Launch) (Z : State) (a0 : Array Value) (hw : ∀ d ∈ tables_1, d.before a0 Z = true) (ws : List Jvm.Cond) (o0 : Addr) (q2 : Int64) (q3 : Int64) (u0 : Value) (u1 : Value) (u2 : Value) (h0 : Heap) (n0 : Nat) (Z0 : n0 ≤ h0.size) (F_negated_o0 : Fld Z h0 o0 "com/example/almanac/almanac/plan/OverWindow$Correction" "negated" "Lcom/example/almanac/almanac/plan/Fold;" u0) (F_start_o0 : Fld Z h0 o0 "com/example/almanac/almanac/plan/OverWindow$Correction" "start" "J" u1) (F_end_o0 : Fld Z h0 o0 "com/example/almanac/almanac/plan/OverWindow$Correction" "end" "J" u2) (E_o0 : Exa Z h0 o0 "com/example/almanac/almanac/plan/OverWindow$Correction") (g_o0 : n0 ≤ o0) :
    MetFree l (⟨"com/example/almanac/almanac/plan/OverWindow$Correction", "<init>", "(Lcom/example/almanac/almanac/plan/Fold;JJ)V"⟩ : MethodName) (head1 (Jvm.Cond.code (⟨"com/example/almanac/almanac/plan/OverWindow$Correction", "<init>", "(Lcom/example/almanac/almanac/plan/Fold;JJ)V"⟩ : MethodName) prog_30_method_1_code 6 none :: ws) ({ frames := 2, cells := 0, slots := 0, locals := 24 } : Room)) (fun a U => a = #[(.ref o0), .null, (.long q2), (.long q3)] ∧ Z.Warmed39 U.vm ∧ U.heap = h0) (fun _ _ _ _ _ => True) (fun _ U o U' => ∃ v L, o = .returned v ∧ Q3 Z o0 q2 q3 u0 u1 u2 h0 n0 v U'.heap L ∧ FrameEnd U o U' L ({ frames := 2, cells := 0, slots := 0, locals := 24 } : Room).cells ({ frames := 2, cells := 0, slots := 0, locals := 24 } : Room).slots) := by
  refine MetFree.of_bodySF (plainFor_of_name pn_1) hisR ?_
  intro p e s m args below meth c s₁ Bd hml0 hP hK
  obtain ⟨rfl, hZ, hh⟩ := hP
  have hx := Bd.exec
  have hby := Bd.bytes
  have hml : c.maxLocals = 6 := hml0
  have hown : s.vm.findClass "com/example/almanac/almanac/plan/OverWindow$Correction" = some m.cls := findClass_of_methodNamed Bd.named
  have hnm := (name_of_methodNamed Bd.named Bd.method).1
  have X0 : Stand p l e ({ frames := 2, cells := 0, slots := 0, locals := 24 } : Room) s m #[(.ref o0), .null, (.long q2), (.long q3)] below meth c s₁ [] 0 0 := Stand.of_body Bd
  have e0 : s₁.heap = h0 := by rw [← hh, Bd.state]; rfl
  have N0 := Fr.nil n0
  have pre0 : ∀ t, Steps p.tables e below (s₁.setTop (mkF m 0 #[.val (.ref o0), .val .null, .val (.long q2), .second, .val (.long q3), .second] [])) t → Steps p.tables e below (s₁.setTop (entryFrame m #[(.ref o0), .null, (.long q2), (.long q3)] 6)) t := fun t k => castTop (ef_3 m o0 q2 q3) k
  obtain ⟨_, _, ⟨T1, L1, k1, n1⟩, -, X1, ⟨Lc1, hQ1, l1, y1, z1⟩, st1⟩ := X0.specialBack hx (y := (⟨"java/lang/Record", "<init>", "()V"⟩ : MethodName)) rfl hown (mvT hZ (hw _ (List.mem_of_getElem? (i := 13) rfl))) (mvT hZ (hw _ (List.mem_of_getElem? (i := 14) rfl))) (mvT hZ (hw _ (List.mem_of_getElem? (i := 17) rfl))) (by decide) (backOf (W := 0) (rm4 l Z a0 hw [] o0 h0 n0 Z0 ) hZ (hw _ (List.mem_of_getElem? (i := 17) rfl)) (hw _ (List.mem_of_getElem? (i := 16) rfl)) (by decide) (by decide)) (g := (mkF m 1 #[.val (.ref o0), .val .null, .val (.long q2), .second, .val (.long q3), .second] [(.ref o0)])) rfl (by rw [hml]; rfl) (Steps.refl _) (a := o0) (argsL := []) (rest := []) (lenOf pd_0 rfl) rfl (by show 2 * 0 + _ ≤ _; exact Nat.le_of_eq rfl) (hb hby d3_1) (fun _ _ => ⟨rfl, e0, (by decide : 0 + 0 ≤ _), (by decide : 0 + 0 ≤ _)⟩)
  dsimp only [Pt.U, Pt.locs, Pt.cells, Pt.slots] at X1 l1 y1 z1 st1 hQ1
  subst l1 y1 z1
  obtain ⟨rfl, N1q, hh1⟩ := hQ1
  have N1 := Fr.app N0 N1q
  obtain ⟨T2, h2, X2, e2, W2, st2⟩ := putF X1 hx hZ hown (host := "") (Or.inl (hw _ (List.mem_of_getElem? (i := 21) rfl))) Via.refl hh1 F_negated_o0 E_o0 (Or.inr ⟨(hw _ (List.mem_of_getElem? (i := 22) rfl)), rfl, hnm⟩) (hw _ (List.mem_of_getElem? (i := 8) rfl)) (ty := (.object "com/example/almanac/almanac/plan/Fold")) (by decide) rfl rfl (g := (mkF m 6 #[.val (.ref o0), .val .null, .val (.long q2), .second, .val (.long q3), .second] [.null, (.ref o0)])) rfl rfl (hb hby d3_6)
  have Fw2 := F_negated_o0.same W2
  have KK2 : Keep h0 h2 [o0] := (Keep.refl h0 [o0]).wr W2 (Or.inl (List.mem_of_getElem? (i := 0) rfl))
  have N2 := Fr.snoc X2 N1 g_o0
  obtain ⟨T3, h3, X3, e3, W3, st3⟩ := putF X2 hx hZ hown (host := "") (Or.inl (hw _ (List.mem_of_getElem? (i := 23) rfl))) Via.refl e2 (F_start_o0.other W2 (Or.inr (slot_ne (Or.inr (hw _ (List.mem_of_getElem? (i := 24) rfl))) (Or.inr (hw _ (List.mem_of_getElem? (i := 22) rfl))) (by decide) (t := .long) (t' := (.object "com/example/almanac/almanac/plan/Fold")) (by decide) (by decide)))) (E_o0.wr W2) (Or.inr ⟨(hw _ (List.mem_of_getElem? (i := 24) rfl)), rfl, hnm⟩) (hw _ (List.mem_of_getElem? (i := 8) rfl)) (ty := .long) (by decide) rfl rfl (g := (mkF m 11 #[.val (.ref o0), .val .null, .val (.long q2), .second, .val (.long q3), .second] [(.long q2), (.ref o0)])) rfl rfl (hb hby d3_11)
  have Fw3 := (F_start_o0.other W2 (Or.inr (slot_ne (Or.inr (hw _ (List.mem_of_getElem? (i := 24) rfl))) (Or.inr (hw _ (List.mem_of_getElem? (i := 22) rfl))) (by decide) (t := .long) (t' := (.object "com/example/almanac/almanac/plan/Fold")) (by decide) (by decide)))).same W3
  have KK3 : Keep h0 h3 [o0] := KK2.wr W3 (Or.inl (List.mem_of_getElem? (i := 0) rfl))
  have N3 := Fr.snoc X3 N2 g_o0
  obtain ⟨T4, h4, X4, e4, W4, st4⟩ := putF X3 hx hZ hown (host := "") (Or.inl (hw _ (List.mem_of_getElem? (i := 25) rfl))) Via.refl e3 ((F_end_o0.other W2 (Or.inr (slot_ne (Or.inr (hw _ (List.mem_of_getElem? (i := 26) rfl))) (Or.inr (hw _ (List.mem_of_getElem? (i := 22) rfl))) (by decide) (t := .long) (t' := (.object "com/example/almanac/almanac/plan/Fold")) (by decide) (by decide)))).other W3 (Or.inr (slot_ne (Or.inr (hw _ (List.mem_of_getElem? (i := 26) rfl))) (Or.inr (hw _ (List.mem_of_getElem? (i := 24) rfl))) (by decide) (t := .long) (t' := .long) (by decide) (by decide)))) ((E_o0.wr W2).wr W3) (Or.inr ⟨(hw _ (List.mem_of_getElem? (i := 26) rfl)), rfl, hnm⟩) (hw _ (List.mem_of_getElem? (i := 8) rfl)) (ty := .long) (by decide) rfl rfl (g := (mkF m 17 #[.val (.ref o0), .val .null, .val (.long q2), .second, .val (.long q3), .second] [(.long q3), (.ref o0)])) rfl rfl (hb hby d3_17)
  have Fw4 := ((F_end_o0.other W2 (Or.inr (slot_ne (Or.inr (hw _ (List.mem_of_getElem? (i := 26) rfl))) (Or.inr (hw _ (List.mem_of_getElem? (i := 22) rfl))) (by decide) (t := .long) (t' := (.object "com/example/almanac/almanac/plan/Fold")) (by decide) (by decide)))).other W3 (Or.inr (slot_ne (Or.inr (hw _ (List.mem_of_getElem? (i := 26) rfl))) (Or.inr (hw _ (List.mem_of_getElem? (i := 24) rfl))) (by decide) (t := .long) (t' := .long) (by decide) (by decide)))).same W4
  have KK4 : Keep h0 h4 [o0] := KK3.wr W4 (Or.inl (List.mem_of_getElem? (i := 0) rfl))
  have N4 := Fr.snoc X4 N3 g_o0
  have pre5 : ∀ t, Steps p.tables e below (T4.setTop (mkF m 20 #[.val (.ref o0), .val .null, .val (.long q2), .second, .val (.long q3), .second] [])) t → Steps p.tables e below (s₁.setTop (entryFrame m #[(.ref o0), .null, (.long q2), (.long q3)] 6)) t := fun t k => pre0 t (by
    show Steps p.tables e below (s₁.setTop (mkF m 0 #[.val (.ref o0), .val .null, .val (.long q2), .second, .val (.long q3), .second] [])) _
    refine XS.aloadN X0.here hx rfl (hb hby d3_0) rfl rfl ?_
    show Steps p.tables e below (s₁.setTop (mkF m 1 #[.val (.ref o0), .val .null, .val (.long q2), .second, .val (.long q3), .second] [(.ref o0)])) _
    refine st1.trans ?_
    show Steps p.tables e below (T1.setTop (mkF m 4 #[.val (.ref o0), .val .null, .val (.long q2), .second, .val (.long q3), .second] [])) _
    refine XS.aloadN X1.here hx rfl (hb hby d3_4) rfl rfl ?_
    show Steps p.tables e below (T1.setTop (mkF m 5 #[.val (.ref o0), .val .null, .val (.long q2), .second, .val (.long q3), .second] [(.ref o0)])) _
    refine XS.aloadN X1.here hx rfl (hb hby d3_5) rfl rfl ?_
    show Steps p.tables e below (T1.setTop (mkF m 6 #[.val (.ref o0), .val .null, .val (.long q2), .second, .val (.long q3), .second] [.null, (.ref o0)])) _
    refine st2 _ ?_
    show Steps p.tables e below (T2.setTop (mkF m 9 #[.val (.ref o0), .val .null, .val (.long q2), .second, .val (.long q3), .second] [])) _
    refine XS.aloadN X2.here hx rfl (hb hby d3_9) rfl rfl ?_
    show Steps p.tables e below (T2.setTop (mkF m 10 #[.val (.ref o0), .val .null, .val (.long q2), .second, .val (.long q3), .second] [(.ref o0)])) _
    refine XS.lloadN X2.here hx rfl (hb hby d3_10) rfl ?_
    show Steps p.tables e below (T2.setTop (mkF m 11 #[.val (.ref o0), .val .null, .val (.long q2), .second, .val (.long q3), .second] [(.long q2), (.ref o0)])) _
    refine st3 _ ?_
    show Steps p.tables e below (T3.setTop (mkF m 14 #[.val (.ref o0), .val .null, .val (.long q2), .second, .val (.long q3), .second] [])) _
    refine XS.aloadN X3.here hx rfl (hb hby d3_14) rfl rfl ?_
    show Steps p.tables e below (T3.setTop (mkF m 15 #[.val (.ref o0), .val .null, .val (.long q2), .second, .val (.long q3), .second] [(.ref o0)])) _
    refine XS.lload X3.here hx rfl (hb hby d3_15) rfl ?_
    show Steps p.tables e below (T3.setTop (mkF m 17 #[.val (.ref o0), .val .null, .val (.long q2), .second, .val (.long q3), .second] [(.long q3), (.ref o0)])) _
    refine st4 _ ?_
    exact k)
  obtain ⟨fs, hr, hrun, hended, hW, hsame⟩ := X4.leave (v := none) (fun _ => rfl)
  refine ⟨_, _, pre5 _ ?_, hrun, hended, _, _, rfl, ?_, ⟨_, rfl⟩, hW, hsame.mono (by decide) (by decide)⟩
  · exact X4.returnOut hx Bd.returns (hb hby d3_20) hr
  · show Q3 Z o0 q2 q3 u0 u1 u2 h0 n0 _ T4.heap _
    rw [e4]
    exact ⟨rfl, N4, KK4, (((E_o0.wr W2).wr W3).wr W4), (Fw3.other W4 (Or.inr (slot_ne (Or.inr (hw _ (List.mem_of_getElem? (i := 24) rfl))) (Or.inr (hw _ (List.mem_of_getElem? (i := 26) rfl))) (by decide) (t := .long) (t' := .long) (by decide) (by decide)))), Fw4⟩
theorem d6_0 : decode prog_30_method_6_code 0 = .ok (.aload_n 0, 1) := by decide +kernel
theorem d6_1 : decode prog_30_method_6_code 1 = .ok (.getfield 17, 3) := by decide +kernel
theorem d6_4 : decode prog_30_method_6_code 4 = .ok (.lload_n 1, 1) := by decide +kernel
theorem d6_5 : decode prog_30_method_6_code 5 = .ok (.lcmp, 1) := by decide +kernel
theorem d6_6 : decode prog_30_method_6_code 6 = .ok (.ifCond .gt 8, 3) := by decide +kernel
theorem d6_14 : decode prog_30_method_6_code 14 = .ok (.aload_n 0, 1) := by decide +kernel
theorem d6_15 : decode prog_30_method_6_code 15 = .ok (.getfield 13, 3) := by decide +kernel
theorem d6_18 : decode prog_30_method_6_code 18 = .ok (.lload_n 1, 1) := by decide +kernel
theorem d6_19 : decode prog_30_method_6_code 19 = .ok (.lcmp, 1) := by decide +kernel
theorem d6_20 : decode prog_30_method_6_code 20 = .ok (.ifCond .gt 10, 3) := by decide +kernel
theorem d6_30 : decode prog_30_method_6_code 30 = .ok (.ldc2_w 53, 3) := by decide +kernel
theorem d6_33 : decode prog_30_method_6_code 33 = .ok (.lreturn, 1) := by decide +kernel
theorem d6_23 : decode prog_30_method_6_code 23 = .ok (.aload_n 0, 1) := by decide +kernel
theorem d6_24 : decode prog_30_method_6_code 24 = .ok (.getfield 13, 3) := by decide +kernel
theorem d6_27 : decode prog_30_method_6_code 27 = .ok (.goto 6, 3) := by decide +kernel
theorem d6_9 : decode prog_30_method_6_code 9 = .ok (.aload_n 0, 1) := by decide +kernel
theorem d6_10 : decode prog_30_method_6_code 10 = .ok (.getfield 17, 3) := by decide +kernel
theorem d6_13 : decode prog_30_method_6_code 13 = .ok (.lreturn, 1) := by decide +kernel
theorem ef_6 (m : MethodId) (x0 : Addr) (x1 : Int64) : entryFrame m #[(.ref x0), (.long x1)] 3 = mkF m 0 #[.val (.ref x0), .val (.long x1), .second] [] := by first | (simp [entryFrame, mkF, argsToLocals, Value.category]; done) | rfl
def Q6 (Z : State) (o0 : Addr) (q1 : Int64) (lo : Int64) (hi : Int64) (h0 : Heap) (n0 : Nat) (v : Option Value) (h : Heap) (L : List Loc) : Prop := v = some (.long (own_last lo hi q1)) ∧ Fr n0 L ∧ h = h0
set_option maxRecDepth 65536 in
set_option maxHeartbeats 40000000 in
theorem rm6 (l : Launch) (Z : State) (a0 : Array Value) (hw : ∀ d ∈ tables_1, d.before a0 Z = true) (ws : List Jvm.Cond) (o0 : Addr) (q1 : Int64) (lo : Int64) (hi : Int64) (h0 : Heap) (n0 : Nat) (Z0 : n0 ≤ h0.size) (F_start_o0 : Fld Z h0 o0 "com/example/almanac/almanac/plan/OverWindow$Correction" "start" "J" (.long lo)) (F_end_o0 : Fld Z h0 o0 "com/example/almanac/almanac/plan/OverWindow$Correction" "end" "J" (.long hi)) :
    MetFree l (⟨"com/example/almanac/almanac/plan/OverWindow$Correction", "lastEdgeAtOrBefore", "(J)J"⟩ : MethodName) (head1 (Jvm.Cond.code (⟨"com/example/almanac/almanac/plan/OverWindow$Correction", "lastEdgeAtOrBefore", "(J)J"⟩ : MethodName) prog_30_method_6_code 3 (some .long) :: ws) ({ frames := 0, cells := 0, slots := 0, locals := 0 } : Room)) (fun a U => a = #[(.ref o0), (.long q1)] ∧ Z.Warmed39 U.vm ∧ U.heap = h0) (fun _ _ _ _ _ => True) (fun _ U o U' => ∃ v L, o = .returned v ∧ Q6 Z o0 q1 lo hi h0 n0 v U'.heap L ∧ FrameEnd U o U' L ({ frames := 0, cells := 0, slots := 0, locals := 0 } : Room).cells ({ frames := 0, cells := 0, slots := 0, locals := 0 } : Room).slots) := by
  refine MetFree.of_bodySF (plainFor_of_name pn_1) hisR ?_
  intro p e s m args below meth c s₁ Bd hml0 hP hK
  obtain ⟨rfl, hZ, hh⟩ := hP
  have hx := Bd.exec
  have hby := Bd.bytes
  have hml : c.maxLocals = 3 := hml0
  have hown : s.vm.findClass "com/example/almanac/almanac/plan/OverWindow$Correction" = some m.cls := findClass_of_methodNamed Bd.named
  have hnm := (name_of_methodNamed Bd.named Bd.method).1
  have X0 : Stand p l e ({ frames := 0, cells := 0, slots := 0, locals := 0 } : Room) s m #[(.ref o0), (.long q1)] below meth c s₁ [] 0 0 := Stand.of_body Bd
  have e0 : s₁.heap = h0 := by rw [← hh, Bd.state]; rfl
  have N0 := Fr.nil n0
  have pre0 : ∀ t, Steps p.tables e below (s₁.setTop (mkF m 0 #[.val (.ref o0), .val (.long q1), .second] [])) t → Steps p.tables e below (s₁.setTop (entryFrame m #[(.ref o0), (.long q1)] 3)) t := fun t k => castTop (ef_6 m o0 q1) k
  obtain ⟨T1, X1, e1, st1⟩ := getF X0 hx hZ hown (host := "") (Or.inl (hw _ (List.mem_of_getElem? (i := 25) rfl))) Via.refl e0 F_end_o0 (g := (mkF m 1 #[.val (.ref o0), .val (.long q1), .second] [(.ref o0)])) rfl rfl (hb hby d6_1)
  have pre2 : ∀ t, Steps p.tables e below (T1.setTop (mkF m 6 #[.val (.ref o0), .val (.long q1), .second] [(.int (lcmpW hi q1))])) t → Steps p.tables e below (s₁.setTop (entryFrame m #[(.ref o0), (.long q1)] 3)) t := fun t k => pre0 t (by
    show Steps p.tables e below (s₁.setTop (mkF m 0 #[.val (.ref o0), .val (.long q1), .second] [])) _
    refine XS.aloadN X0.here hx rfl (hb hby d6_0) rfl rfl ?_
    show Steps p.tables e below (s₁.setTop (mkF m 1 #[.val (.ref o0), .val (.long q1), .second] [(.ref o0)])) _
    refine st1 _ ?_
    show Steps p.tables e below (T1.setTop (mkF m 4 #[.val (.ref o0), .val (.long q1), .second] [(.long hi)])) _
    refine XS.lloadN X1.here hx rfl (hb hby d6_4) rfl ?_
    show Steps p.tables e below (T1.setTop (mkF m 5 #[.val (.ref o0), .val (.long q1), .second] [(.long q1), (.long hi)])) _
    refine XS.lcmp X1.here hx rfl (hb hby d6_5) rfl ?_
    exact k)
  by_cases hc6_3 : q1 < hi
  · obtain ⟨T4, X4, e4, st4⟩ := getF X1 hx hZ hown (host := "") (Or.inl (hw _ (List.mem_of_getElem? (i := 23) rfl))) Via.refl e1 F_start_o0 (g := (mkF m 15 #[.val (.ref o0), .val (.long q1), .second] [(.ref o0)])) rfl rfl (hb hby d6_15)
    have pre5 : ∀ t, Steps p.tables e below (T4.setTop (mkF m 20 #[.val (.ref o0), .val (.long q1), .second] [(.int (lcmpW lo q1))])) t → Steps p.tables e below (s₁.setTop (entryFrame m #[(.ref o0), (.long q1)] 3)) t := fun t k => pre2 t (by
      show Steps p.tables e below (T1.setTop (mkF m 6 #[.val (.ref o0), .val (.long q1), .second] [(.int (lcmpW hi q1))])) _
      refine XS.ifYes X1.here hx rfl (pc0 := 6) (pc' := 14) rfl (hb hby d6_6) rfl ((if0 _ _).trans (tlt ((lw_gt _ _).mpr hc6_3)).2.2.1) (by decide) (by decide) ?_
      show Steps p.tables e below (T1.setTop (mkF m 14 #[.val (.ref o0), .val (.long q1), .second] [])) _
      refine XS.aloadN X1.here hx rfl (hb hby d6_14) rfl rfl ?_
      show Steps p.tables e below (T1.setTop (mkF m 15 #[.val (.ref o0), .val (.long q1), .second] [(.ref o0)])) _
      refine st4 _ ?_
      show Steps p.tables e below (T4.setTop (mkF m 18 #[.val (.ref o0), .val (.long q1), .second] [(.long lo)])) _
      refine XS.lloadN X4.here hx rfl (hb hby d6_18) rfl ?_
      show Steps p.tables e below (T4.setTop (mkF m 19 #[.val (.ref o0), .val (.long q1), .second] [(.long q1), (.long lo)])) _
      refine XS.lcmp X4.here hx rfl (hb hby d6_19) rfl ?_
      exact k)
    by_cases hc20_6 : q1 < lo
    · have pre7 : ∀ t, Steps p.tables e below (T4.setTop (mkF m 33 #[.val (.ref o0), .val (.long q1), .second] [(.long (-9223372036854775808 : Int64))])) t → Steps p.tables e below (s₁.setTop (entryFrame m #[(.ref o0), (.long q1)] 3)) t := fun t k => pre5 t (by
        show Steps p.tables e below (T4.setTop (mkF m 20 #[.val (.ref o0), .val (.long q1), .second] [(.int (lcmpW lo q1))])) _
        refine XS.ifYes X4.here hx rfl (pc0 := 20) (pc' := 30) rfl (hb hby d6_20) rfl ((if0 _ _).trans (tlt ((lw_gt _ _).mpr hc20_6)).2.2.1) (by decide) (by decide) ?_
        show Steps p.tables e below (T4.setTop (mkF m 30 #[.val (.ref o0), .val (.long q1), .second] [])) _
        refine X4.ldc2Long hx hown (mvT hZ (hw _ (List.mem_of_getElem? (i := 33) rfl))) (g := (mkF m 30 #[.val (.ref o0), .val (.long q1), .second] [])) rfl (hb hby d6_30) _ ?_
        exact k)
      obtain ⟨fs, hr, hrun, hended, hW, hsame⟩ := X4.leave (v := some (.long (-9223372036854775808 : Int64))) (fun h => by rw [Bd.returns] at h; cases h)
      refine ⟨_, _, pre7 _ ?_, hrun, hended, _, _, rfl, ?_, ⟨_, rfl⟩, hW, hsame.mono (by decide) (by decide)⟩
      · show Steps p.tables e below (T4.setTop (mkF m 33 #[.val (.ref o0), .val (.long q1), .second] [(.long (-9223372036854775808 : Int64))])) _
        jvm_step X4.here [X4.here.top, hx, (hb hby d6_33), X4.method', Bd.returns, narrow]
        first | (intro acts; rw [hr _ acts rfl rfl rfl]) | rw [hr _ _ rfl rfl rfl]
        exact Steps.refl _
      · show Q6 Z o0 q1 lo hi h0 n0 _ T4.heap _
        rw [e4]
        exact ⟨by unfold own_last; simp only [hc6_3, hc20_6, if_true, if_false, reduceIte], N0, rfl⟩
    · obtain ⟨T8, X8, e8, st8⟩ := getF X4 hx hZ hown (host := "") (Or.inl (hw _ (List.mem_of_getElem? (i := 23) rfl))) Via.refl e4 F_start_o0 (g := (mkF m 24 #[.val (.ref o0), .val (.long q1), .second] [(.ref o0)])) rfl rfl (hb hby d6_24)
      have pre9 : ∀ t, Steps p.tables e below (T8.setTop (mkF m 33 #[.val (.ref o0), .val (.long q1), .second] [(.long lo)])) t → Steps p.tables e below (s₁.setTop (entryFrame m #[(.ref o0), (.long q1)] 3)) t := fun t k => pre5 t (by
        show Steps p.tables e below (T4.setTop (mkF m 20 #[.val (.ref o0), .val (.long q1), .second] [(.int (lcmpW lo q1))])) _
        refine XS.ifNo X4.here hx rfl (hb hby d6_20) rfl ((if0 _ _).trans (flt (fun q => hc20_6 ((lw_gt _ _).mp q))).2.2.1) ?_
        show Steps p.tables e below (T4.setTop (mkF m 23 #[.val (.ref o0), .val (.long q1), .second] [])) _
        refine XS.aloadN X4.here hx rfl (hb hby d6_23) rfl rfl ?_
        show Steps p.tables e below (T4.setTop (mkF m 24 #[.val (.ref o0), .val (.long q1), .second] [(.ref o0)])) _
        refine st8 _ ?_
        show Steps p.tables e below (T8.setTop (mkF m 27 #[.val (.ref o0), .val (.long q1), .second] [(.long lo)])) _
        refine XS.goto X8.here hx rfl (pc0 := 27) (pc' := 33) rfl (hb hby d6_27) (by decide) (by decide) ?_
        exact k)
      obtain ⟨fs, hr, hrun, hended, hW, hsame⟩ := X8.leave (v := some (.long lo)) (fun h => by rw [Bd.returns] at h; cases h)
      refine ⟨_, _, pre9 _ ?_, hrun, hended, _, _, rfl, ?_, ⟨_, rfl⟩, hW, hsame.mono (by decide) (by decide)⟩
      · show Steps p.tables e below (T8.setTop (mkF m 33 #[.val (.ref o0), .val (.long q1), .second] [(.long lo)])) _
        jvm_step X8.here [X8.here.top, hx, (hb hby d6_33), X8.method', Bd.returns, narrow]
        first | (intro acts; rw [hr _ acts rfl rfl rfl]) | rw [hr _ _ rfl rfl rfl]
        exact Steps.refl _
      · show Q6 Z o0 q1 lo hi h0 n0 _ T8.heap _
        rw [e8]
        exact ⟨by unfold own_last; simp only [hc6_3, hc20_6, if_true, if_false, reduceIte], N0, rfl⟩
  · obtain ⟨T10, X10, e10, st10⟩ := getF X1 hx hZ hown (host := "") (Or.inl (hw _ (List.mem_of_getElem? (i := 25) rfl))) Via.refl e1 F_end_o0 (g := (mkF m 10 #[.val (.ref o0), .val (.long q1), .second] [(.ref o0)])) rfl rfl (hb hby d6_10)
    have pre11 : ∀ t, Steps p.tables e below (T10.setTop (mkF m 13 #[.val (.ref o0), .val (.long q1), .second] [(.long hi)])) t → Steps p.tables e below (s₁.setTop (entryFrame m #[(.ref o0), (.long q1)] 3)) t := fun t k => pre2 t (by
      show Steps p.tables e below (T1.setTop (mkF m 6 #[.val (.ref o0), .val (.long q1), .second] [(.int (lcmpW hi q1))])) _
      refine XS.ifNo X1.here hx rfl (hb hby d6_6) rfl ((if0 _ _).trans (flt (fun q => hc6_3 ((lw_gt _ _).mp q))).2.2.1) ?_
      show Steps p.tables e below (T1.setTop (mkF m 9 #[.val (.ref o0), .val (.long q1), .second] [])) _
      refine XS.aloadN X1.here hx rfl (hb hby d6_9) rfl rfl ?_
      show Steps p.tables e below (T1.setTop (mkF m 10 #[.val (.ref o0), .val (.long q1), .second] [(.ref o0)])) _
      refine st10 _ ?_
      exact k)
    obtain ⟨fs, hr, hrun, hended, hW, hsame⟩ := X10.leave (v := some (.long hi)) (fun h => by rw [Bd.returns] at h; cases h)
    refine ⟨_, _, pre11 _ ?_, hrun, hended, _, _, rfl, ?_, ⟨_, rfl⟩, hW, hsame.mono (by decide) (by decide)⟩
    · show Steps p.tables e below (T10.setTop (mkF m 13 #[.val (.ref o0), .val (.long q1), .second] [(.long hi)])) _
      jvm_step X10.here [X10.here.top, hx, (hb hby d6_13), X10.method', Bd.returns, narrow]
      first | (intro acts; rw [hr _ acts rfl rfl rfl]) | rw [hr _ _ rfl rfl rfl]
      exact Steps.refl _
    · show Q6 Z o0 q1 lo hi h0 n0 _ T10.heap _
      rw [e10]
      exact ⟨by unfold own_last; simp only [hc6_3, if_true, if_false, reduceIte], N0, rfl⟩
theorem pn_2 : plainName "com/example/almanac/almanac/plan/CorrectionLastEdgeAtOrBeforePinLaw" = true := by first | (simp [plainName, overriddenIn]; done) | decide +kernel
theorem pd_1 : parseMethodDescriptor "(JJ)J" = some ⟨[.long, .long], some .long⟩ := by decide +kernel
theorem pd_2 : parseMethodDescriptor "(Lcom/example/almanac/almanac/plan/Fold;JJ)V" = some ⟨[(.object "com/example/almanac/almanac/plan/Fold"), .long, .long], none⟩ := by decide +kernel
theorem pd_3 : parseMethodDescriptor "(J)J" = some ⟨[.long], some .long⟩ := by decide +kernel
theorem ef_0 (m : MethodId) (x0 : Int64) (x1 : Int64) (x2 : Int64) (x3 : Int32) : entryFrame m #[(.long x0), (.long x1), (.long x2), (.int x3)] maxLocals = mkF m 0 #[.val (.long x0), .second, .val (.long x1), .second, .val (.long x2), .second, .val (.int x3), .unset, .unset, .unset, .unset, .unset, .unset, .unset, .unset, .unset, .unset, .unset, .unset] [] := by first | (simp [entryFrame, mkF, argsToLocals, Value.category, maxLocals]; done) | rfl
def Q0 (Z : State) (q0 : Int64) (q1 : Int64) (q2 : Int64) (p3 : Int32) (h0 : Heap) (n0 : Nat) (v : Option Value) (h : Heap) (L : List Loc) : Prop := v = some (.int 1) ∧ Fr n0 L
set_option maxRecDepth 65536 in
set_option maxHeartbeats 40000000 in
theorem rm0 (l : Launch) (Z : State) (a0 : Array Value) (hw : ∀ d ∈ tables_1, d.before a0 Z = true) (ws : List Jvm.Cond) (q0 : Int64) (q1 : Int64) (q2 : Int64) (p3 : Int32) (h0 : Heap) (n0 : Nat) (Z0 : n0 ≤ h0.size) :
    MetFree l x (head1 (Jvm.Cond.code x code maxLocals ret :: ws) room_1) (fun a U => a = #[(.long q0), (.long q1), (.long q2), (.int p3)] ∧ Z.Warmed39 U.vm ∧ U.heap = h0) (fun _ _ _ _ _ => True) (fun _ U o U' => ∃ v L, o = .returned v ∧ Q0 Z q0 q1 q2 p3 h0 n0 v U'.heap L ∧ FrameEnd U o U' L room_1.cells room_1.slots) := by
  refine MetFree.of_bodySF (plainFor_of_name pn_2) hisR ?_
  intro p e s m args below meth c s₁ Bd hml0 hP hK
  obtain ⟨rfl, hZ, hh⟩ := hP
  have hx := Bd.exec
  have hby := Bd.bytes
  have hml : c.maxLocals = 19 := hml0
  have hown : s.vm.findClass "com/example/almanac/almanac/plan/CorrectionLastEdgeAtOrBeforePinLaw" = some m.cls := findClass_of_methodNamed Bd.named
  have hnm := (name_of_methodNamed Bd.named Bd.method).1
  have X0 : Stand p l e room_1 s m #[(.long q0), (.long q1), (.long q2), (.int p3)] below meth c s₁ [] 0 0 := Stand.of_body Bd
  have e0 : s₁.heap = h0 := by rw [← hh, Bd.state]; rfl
  have N0 := Fr.nil n0
  have pre0 : ∀ t, Steps p.tables e below (s₁.setTop (mkF m 0 #[.val (.long q0), .second, .val (.long q1), .second, .val (.long q2), .second, .val (.int p3), .unset, .unset, .unset, .unset, .unset, .unset, .unset, .unset, .unset, .unset, .unset, .unset] [])) t → Steps p.tables e below (s₁.setTop (entryFrame m #[(.long q0), (.long q1), (.long q2), (.int p3)] maxLocals)) t := fun t k => castTop (ef_0 m q0 q1 q2 p3) k
  obtain ⟨_, _, ⟨T1, L1, k1, n1⟩, -, X1, ⟨Lc1, hQ1, l1, y1, z1⟩, st1⟩ := Jvm.LawKit.callS X0 hx (y := (⟨"java/lang/Math", "min", "(JJ)J"⟩ : MethodName)) hown (mvT hZ (hw _ (List.mem_of_getElem? (i := 0) rfl))) (mvT hZ (hw _ (List.mem_of_getElem? (i := 1) rfl))) (mvT hZ (hw _ (List.mem_of_getElem? (i := 2) rfl))) (mvT hZ (hw _ (List.mem_of_getElem? (i := 3) rfl))) (by decide) (backOf (W := 0) (rm1 l Z a0 hw [] q0 q1 h0 n0 Z0 ) hZ (hw _ (List.mem_of_getElem? (i := 3) rfl)) (hw _ (List.mem_of_getElem? (i := 2) rfl)) (by decide) (by decide)) (g := (mkF m 2 #[.val (.long q0), .second, .val (.long q1), .second, .val (.long q2), .second, .val (.int p3), .unset, .unset, .unset, .unset, .unset, .unset, .unset, .unset, .unset, .unset, .unset, .unset] [(.long q1), (.long q0)])) rfl (by rw [hml]; rfl) (argsL := [(.long q0), (.long q1)]) (rest := []) (lenOf pd_1 rfl) rfl (by show 2 * 0 + _ ≤ _; exact Nat.le_of_eq rfl) (hb hby at_2) (fun _ _ => ⟨rfl, e0, (by decide : 0 + 0 ≤ _), (by decide : 0 + 0 ≤ _)⟩)
  dsimp only [Pt.U, Pt.locs, Pt.cells, Pt.slots] at X1 l1 y1 z1 st1 hQ1
  subst l1 y1 z1
  obtain ⟨rfl, N1q, hh1⟩ := hQ1
  have N1 := Fr.app N0 N1q
  obtain ⟨_, _, ⟨T2, L2, k2, n2⟩, -, X2, ⟨Lc2, hQ2, l2, y2, z2⟩, st2⟩ := Jvm.LawKit.callS X1 hx (y := (⟨"java/lang/Math", "max", "(JJ)J"⟩ : MethodName)) hown (mvT hZ (hw _ (List.mem_of_getElem? (i := 4) rfl))) (mvT hZ (hw _ (List.mem_of_getElem? (i := 5) rfl))) (mvT hZ (hw _ (List.mem_of_getElem? (i := 2) rfl))) (mvT hZ (hw _ (List.mem_of_getElem? (i := 6) rfl))) (by decide) (backOf (W := 0) (rm2 l Z a0 hw [] q0 q1 h0 n0 Z0 ) hZ (hw _ (List.mem_of_getElem? (i := 6) rfl)) (hw _ (List.mem_of_getElem? (i := 2) rfl)) (by decide) (by decide)) (g := (mkF m 9 #[.val (.long q0), .second, .val (.long q1), .second, .val (.long q2), .second, .val (.int p3), .val (.long (own_min q0 q1)), .second, .unset, .unset, .unset, .unset, .unset, .unset, .unset, .unset, .unset, .unset] [(.long q1), (.long q0)])) rfl (by rw [hml]; rfl) (argsL := [(.long q0), (.long q1)]) (rest := []) (lenOf pd_1 rfl) rfl (by show 2 * 0 + _ ≤ _; exact Nat.le_of_eq rfl) (hb hby at_9) (fun _ _ => ⟨rfl, hh1, (by decide : 0 + 0 ≤ _), (by decide : 0 + 0 ≤ _)⟩)
  dsimp only [Pt.U, Pt.locs, Pt.cells, Pt.slots] at X2 l2 y2 z2 st2 hQ2
  subst l2 y2 z2
  obtain ⟨rfl, N2q, hh2⟩ := hQ2
  have N2 := Fr.app N1 N2q
  have pre3 : ∀ t, Steps p.tables e below (T2.setTop (mkF m 14 #[.val (.long q0), .second, .val (.long q1), .second, .val (.long q2), .second, .val (.int p3), .val (.long (own_min q0 q1)), .second, .val (.long (own_max q0 q1)), .second, .unset, .unset, .unset, .unset, .unset, .unset, .unset, .unset] [])) t → Steps p.tables e below (s₁.setTop (entryFrame m #[(.long q0), (.long q1), (.long q2), (.int p3)] maxLocals)) t := fun t k => pre0 t (by
    show Steps p.tables e below (s₁.setTop (mkF m 0 #[.val (.long q0), .second, .val (.long q1), .second, .val (.long q2), .second, .val (.int p3), .unset, .unset, .unset, .unset, .unset, .unset, .unset, .unset, .unset, .unset, .unset, .unset] [])) _
    refine XS.lloadN X0.here hx rfl (hb hby at_0) rfl ?_
    show Steps p.tables e below (s₁.setTop (mkF m 1 #[.val (.long q0), .second, .val (.long q1), .second, .val (.long q2), .second, .val (.int p3), .unset, .unset, .unset, .unset, .unset, .unset, .unset, .unset, .unset, .unset, .unset, .unset] [(.long q0)])) _
    refine XS.lloadN X0.here hx rfl (hb hby at_1) rfl ?_
    show Steps p.tables e below (s₁.setTop (mkF m 2 #[.val (.long q0), .second, .val (.long q1), .second, .val (.long q2), .second, .val (.int p3), .unset, .unset, .unset, .unset, .unset, .unset, .unset, .unset, .unset, .unset, .unset, .unset] [(.long q1), (.long q0)])) _
    refine st1 _ ?_
    show Steps p.tables e below (T1.setTop (mkF m 5 #[.val (.long q0), .second, .val (.long q1), .second, .val (.long q2), .second, .val (.int p3), .unset, .unset, .unset, .unset, .unset, .unset, .unset, .unset, .unset, .unset, .unset, .unset] [(.long (own_min q0 q1))])) _
    refine XS.lstore X1.here hx rfl (hb hby at_5) rfl (l' := #[.val (.long q0), .second, .val (.long q1), .second, .val (.long q2), .second, .val (.int p3), .val (.long (own_min q0 q1)), .second, .unset, .unset, .unset, .unset, .unset, .unset, .unset, .unset, .unset, .unset]) rfl ?_
    show Steps p.tables e below (T1.setTop (mkF m 7 #[.val (.long q0), .second, .val (.long q1), .second, .val (.long q2), .second, .val (.int p3), .val (.long (own_min q0 q1)), .second, .unset, .unset, .unset, .unset, .unset, .unset, .unset, .unset, .unset, .unset] [])) _
    refine XS.lloadN X1.here hx rfl (hb hby at_7) rfl ?_
    show Steps p.tables e below (T1.setTop (mkF m 8 #[.val (.long q0), .second, .val (.long q1), .second, .val (.long q2), .second, .val (.int p3), .val (.long (own_min q0 q1)), .second, .unset, .unset, .unset, .unset, .unset, .unset, .unset, .unset, .unset, .unset] [(.long q0)])) _
    refine XS.lloadN X1.here hx rfl (hb hby at_8) rfl ?_
    show Steps p.tables e below (T1.setTop (mkF m 9 #[.val (.long q0), .second, .val (.long q1), .second, .val (.long q2), .second, .val (.int p3), .val (.long (own_min q0 q1)), .second, .unset, .unset, .unset, .unset, .unset, .unset, .unset, .unset, .unset, .unset] [(.long q1), (.long q0)])) _
    refine st2 _ ?_
    show Steps p.tables e below (T2.setTop (mkF m 12 #[.val (.long q0), .second, .val (.long q1), .second, .val (.long q2), .second, .val (.int p3), .val (.long (own_min q0 q1)), .second, .unset, .unset, .unset, .unset, .unset, .unset, .unset, .unset, .unset, .unset] [(.long (own_max q0 q1))])) _
    refine XS.lstore X2.here hx rfl (hb hby at_12) rfl (l' := #[.val (.long q0), .second, .val (.long q1), .second, .val (.long q2), .second, .val (.int p3), .val (.long (own_min q0 q1)), .second, .val (.long (own_max q0 q1)), .second, .unset, .unset, .unset, .unset, .unset, .unset, .unset, .unset]) rfl ?_
    exact k)
  obtain ⟨v4_0, v4_1, hv4, prem4⟩ : ∃ (v4_0 : Int64) (v4_1 : Int64), ¬ v4_1 < v4_0 ∧ ∀ t, Steps p.tables e below (T2.setTop (mkF m 33 #[.val (.long q0), .second, .val (.long q1), .second, .val (.long q2), .second, .val (.int p3), .val (.long v4_0), .second, .val (.long v4_1), .second, .unset, .unset, .unset, .unset, .unset, .unset, .unset, .unset] [])) t → Steps p.tables e below (s₁.setTop (entryFrame m #[(.long q0), (.long q1), (.long q2), (.int p3)] maxLocals)) t := by
    have pre5 : ∀ t, Steps p.tables e below (T2.setTop (mkF m 20 #[.val (.long q0), .second, .val (.long q1), .second, .val (.long q2), .second, .val (.int p3), .val (.long (own_min q0 q1)), .second, .val (.long (own_max q0 q1)), .second, .unset, .unset, .unset, .unset, .unset, .unset, .unset, .unset] [(.int ((p3 >>> ((3 : Int32) &&& 31)) &&& (1 : Int32)))])) t → Steps p.tables e below (s₁.setTop (entryFrame m #[(.long q0), (.long q1), (.long q2), (.int p3)] maxLocals)) t := fun t k => pre3 t (by
      show Steps p.tables e below (T2.setTop (mkF m 14 #[.val (.long q0), .second, .val (.long q1), .second, .val (.long q2), .second, .val (.int p3), .val (.long (own_min q0 q1)), .second, .val (.long (own_max q0 q1)), .second, .unset, .unset, .unset, .unset, .unset, .unset, .unset, .unset] [])) _
      refine XS.iload X2.here hx rfl (hb hby at_14) rfl ?_
      show Steps p.tables e below (T2.setTop (mkF m 16 #[.val (.long q0), .second, .val (.long q1), .second, .val (.long q2), .second, .val (.int p3), .val (.long (own_min q0 q1)), .second, .val (.long (own_max q0 q1)), .second, .unset, .unset, .unset, .unset, .unset, .unset, .unset, .unset] [(.int p3)])) _
      refine XS.iconst X2.here hx rfl (hb hby at_16) ?_
      show Steps p.tables e below (T2.setTop (mkF m 17 #[.val (.long q0), .second, .val (.long q1), .second, .val (.long q2), .second, .val (.int p3), .val (.long (own_min q0 q1)), .second, .val (.long (own_max q0 q1)), .second, .unset, .unset, .unset, .unset, .unset, .unset, .unset, .unset] [(.int (3 : Int32)), (.int p3)])) _
      refine XS.ishr X2.here hx rfl (hb hby at_17) rfl ?_
      show Steps p.tables e below (T2.setTop (mkF m 18 #[.val (.long q0), .second, .val (.long q1), .second, .val (.long q2), .second, .val (.int p3), .val (.long (own_min q0 q1)), .second, .val (.long (own_max q0 q1)), .second, .unset, .unset, .unset, .unset, .unset, .unset, .unset, .unset] [(.int (p3 >>> ((3 : Int32) &&& 31)))])) _
      refine XS.iconst X2.here hx rfl (hb hby at_18) ?_
      show Steps p.tables e below (T2.setTop (mkF m 19 #[.val (.long q0), .second, .val (.long q1), .second, .val (.long q2), .second, .val (.int p3), .val (.long (own_min q0 q1)), .second, .val (.long (own_max q0 q1)), .second, .unset, .unset, .unset, .unset, .unset, .unset, .unset, .unset] [(.int (1 : Int32)), (.int (p3 >>> ((3 : Int32) &&& 31)))])) _
      refine XS.iand X2.here hx rfl (hb hby at_19) rfl ?_
      exact k)
    by_cases hc20_6 : ((p3 >>> ((3 : Int32) &&& 31)) &&& (1 : Int32)) = (0 : Int32)
    · have pre7 : ∀ t, Steps p.tables e below (T2.setTop (mkF m 33 #[.val (.long q0), .second, .val (.long q1), .second, .val (.long q2), .second, .val (.int p3), .val (.long (own_min q0 q1)), .second, .val (.long (own_max q0 q1)), .second, .unset, .unset, .unset, .unset, .unset, .unset, .unset, .unset] [])) t → Steps p.tables e below (s₁.setTop (entryFrame m #[(.long q0), (.long q1), (.long q2), (.int p3)] maxLocals)) t := fun t k => pre5 t (by
        show Steps p.tables e below (T2.setTop (mkF m 20 #[.val (.long q0), .second, .val (.long q1), .second, .val (.long q2), .second, .val (.int p3), .val (.long (own_min q0 q1)), .second, .val (.long (own_max q0 q1)), .second, .unset, .unset, .unset, .unset, .unset, .unset, .unset, .unset] [(.int ((p3 >>> ((3 : Int32) &&& 31)) &&& (1 : Int32)))])) _
        refine XS.ifYes X2.here hx rfl (pc0 := 20) (pc' := 33) rfl (hb hby at_20) rfl ((if0 _ _).trans (teq hc20_6).1) (by decide) (by decide) ?_
        exact k)
      exact ⟨(own_min q0 q1), (own_max q0 q1), (own_minmax q0 q1), pre7⟩
    · have pre8 : ∀ t, Steps p.tables e below (T2.setTop (mkF m 33 #[.val (.long q0), .second, .val (.long q1), .second, .val (.long q2), .second, .val (.int p3), .val (.long (9223372036854775807 : Int64)), .second, .val (.long (9223372036854775807 : Int64)), .second, .unset, .unset, .unset, .unset, .unset, .unset, .unset, .unset] [])) t → Steps p.tables e below (s₁.setTop (entryFrame m #[(.long q0), (.long q1), (.long q2), (.int p3)] maxLocals)) t := fun t k => pre5 t (by
        show Steps p.tables e below (T2.setTop (mkF m 20 #[.val (.long q0), .second, .val (.long q1), .second, .val (.long q2), .second, .val (.int p3), .val (.long (own_min q0 q1)), .second, .val (.long (own_max q0 q1)), .second, .unset, .unset, .unset, .unset, .unset, .unset, .unset, .unset] [(.int ((p3 >>> ((3 : Int32) &&& 31)) &&& (1 : Int32)))])) _
        refine XS.ifNo X2.here hx rfl (hb hby at_20) rfl ((if0 _ _).trans (feq hc20_6).1) ?_
        show Steps p.tables e below (T2.setTop (mkF m 23 #[.val (.long q0), .second, .val (.long q1), .second, .val (.long q2), .second, .val (.int p3), .val (.long (own_min q0 q1)), .second, .val (.long (own_max q0 q1)), .second, .unset, .unset, .unset, .unset, .unset, .unset, .unset, .unset] [])) _
        refine X2.ldc2Long hx hown (mvT hZ (hw _ (List.mem_of_getElem? (i := 34) rfl))) (g := (mkF m 23 #[.val (.long q0), .second, .val (.long q1), .second, .val (.long q2), .second, .val (.int p3), .val (.long (own_min q0 q1)), .second, .val (.long (own_max q0 q1)), .second, .unset, .unset, .unset, .unset, .unset, .unset, .unset, .unset] [])) rfl (hb hby at_23) _ ?_
        show Steps p.tables e below (T2.setTop (mkF m 26 #[.val (.long q0), .second, .val (.long q1), .second, .val (.long q2), .second, .val (.int p3), .val (.long (own_min q0 q1)), .second, .val (.long (own_max q0 q1)), .second, .unset, .unset, .unset, .unset, .unset, .unset, .unset, .unset] [(.long (9223372036854775807 : Int64))])) _
        refine XS.lstore X2.here hx rfl (hb hby at_26) rfl (l' := #[.val (.long q0), .second, .val (.long q1), .second, .val (.long q2), .second, .val (.int p3), .val (.long (9223372036854775807 : Int64)), .second, .val (.long (own_max q0 q1)), .second, .unset, .unset, .unset, .unset, .unset, .unset, .unset, .unset]) rfl ?_
        show Steps p.tables e below (T2.setTop (mkF m 28 #[.val (.long q0), .second, .val (.long q1), .second, .val (.long q2), .second, .val (.int p3), .val (.long (9223372036854775807 : Int64)), .second, .val (.long (own_max q0 q1)), .second, .unset, .unset, .unset, .unset, .unset, .unset, .unset, .unset] [])) _
        refine X2.ldc2Long hx hown (mvT hZ (hw _ (List.mem_of_getElem? (i := 34) rfl))) (g := (mkF m 28 #[.val (.long q0), .second, .val (.long q1), .second, .val (.long q2), .second, .val (.int p3), .val (.long (9223372036854775807 : Int64)), .second, .val (.long (own_max q0 q1)), .second, .unset, .unset, .unset, .unset, .unset, .unset, .unset, .unset] [])) rfl (hb hby at_28) _ ?_
        show Steps p.tables e below (T2.setTop (mkF m 31 #[.val (.long q0), .second, .val (.long q1), .second, .val (.long q2), .second, .val (.int p3), .val (.long (9223372036854775807 : Int64)), .second, .val (.long (own_max q0 q1)), .second, .unset, .unset, .unset, .unset, .unset, .unset, .unset, .unset] [(.long (9223372036854775807 : Int64))])) _
        refine XS.lstore X2.here hx rfl (hb hby at_31) rfl (l' := #[.val (.long q0), .second, .val (.long q1), .second, .val (.long q2), .second, .val (.int p3), .val (.long (9223372036854775807 : Int64)), .second, .val (.long (9223372036854775807 : Int64)), .second, .unset, .unset, .unset, .unset, .unset, .unset, .unset, .unset]) rfl ?_
        exact k)
      exact ⟨(9223372036854775807 : Int64), (9223372036854775807 : Int64), (by decide), pre8⟩
  have pre9 : ∀ t, Steps p.tables e below (T2.setTop (mkF m 44 #[.val (.long q0), .second, .val (.long q1), .second, .val (.long q2), .second, .val (.int p3), .val (.long v4_0), .second, .val (.long v4_1), .second, .val (.int (p3 &&& (7 : Int32))), .val (.long q2), .second, .unset, .unset, .unset, .unset, .unset] [])) t → Steps p.tables e below (s₁.setTop (entryFrame m #[(.long q0), (.long q1), (.long q2), (.int p3)] maxLocals)) t := fun t k => prem4 t (by
    show Steps p.tables e below (T2.setTop (mkF m 33 #[.val (.long q0), .second, .val (.long q1), .second, .val (.long q2), .second, .val (.int p3), .val (.long v4_0), .second, .val (.long v4_1), .second, .unset, .unset, .unset, .unset, .unset, .unset, .unset, .unset] [])) _
    refine XS.iload X2.here hx rfl (hb hby at_33) rfl ?_
    show Steps p.tables e below (T2.setTop (mkF m 35 #[.val (.long q0), .second, .val (.long q1), .second, .val (.long q2), .second, .val (.int p3), .val (.long v4_0), .second, .val (.long v4_1), .second, .unset, .unset, .unset, .unset, .unset, .unset, .unset, .unset] [(.int p3)])) _
    refine XS.bipush X2.here hx rfl (hb hby at_35) ?_
    show Steps p.tables e below (T2.setTop (mkF m 37 #[.val (.long q0), .second, .val (.long q1), .second, .val (.long q2), .second, .val (.int p3), .val (.long v4_0), .second, .val (.long v4_1), .second, .unset, .unset, .unset, .unset, .unset, .unset, .unset, .unset] [(.int (7 : Int32)), (.int p3)])) _
    refine XS.iand X2.here hx rfl (hb hby at_37) rfl ?_
    show Steps p.tables e below (T2.setTop (mkF m 38 #[.val (.long q0), .second, .val (.long q1), .second, .val (.long q2), .second, .val (.int p3), .val (.long v4_0), .second, .val (.long v4_1), .second, .unset, .unset, .unset, .unset, .unset, .unset, .unset, .unset] [(.int (p3 &&& (7 : Int32)))])) _
    refine XS.istore X2.here hx rfl (hb hby at_38) rfl (l' := #[.val (.long q0), .second, .val (.long q1), .second, .val (.long q2), .second, .val (.int p3), .val (.long v4_0), .second, .val (.long v4_1), .second, .val (.int (p3 &&& (7 : Int32))), .unset, .unset, .unset, .unset, .unset, .unset, .unset]) rfl ?_
    show Steps p.tables e below (T2.setTop (mkF m 40 #[.val (.long q0), .second, .val (.long q1), .second, .val (.long q2), .second, .val (.int p3), .val (.long v4_0), .second, .val (.long v4_1), .second, .val (.int (p3 &&& (7 : Int32))), .unset, .unset, .unset, .unset, .unset, .unset, .unset] [])) _
    refine XS.lload X2.here hx rfl (hb hby at_40) rfl ?_
    show Steps p.tables e below (T2.setTop (mkF m 42 #[.val (.long q0), .second, .val (.long q1), .second, .val (.long q2), .second, .val (.int p3), .val (.long v4_0), .second, .val (.long v4_1), .second, .val (.int (p3 &&& (7 : Int32))), .unset, .unset, .unset, .unset, .unset, .unset, .unset] [(.long q2)])) _
    refine XS.lstore X2.here hx rfl (hb hby at_42) rfl (l' := #[.val (.long q0), .second, .val (.long q1), .second, .val (.long q2), .second, .val (.int p3), .val (.long v4_0), .second, .val (.long v4_1), .second, .val (.int (p3 &&& (7 : Int32))), .val (.long q2), .second, .unset, .unset, .unset, .unset, .unset]) rfl ?_
    exact k)
  obtain ⟨v10_0, prem10⟩ : ∃ (v10_0 : Int64), ∀ t, Steps p.tables e below (T2.setTop (mkF m 128 #[.val (.long q0), .second, .val (.long q1), .second, .val (.long q2), .second, .val (.int p3), .val (.long v4_0), .second, .val (.long v4_1), .second, .val (.int (p3 &&& (7 : Int32))), .val (.long v10_0), .second, .unset, .unset, .unset, .unset, .unset] [])) t → Steps p.tables e below (s₁.setTop (entryFrame m #[(.long q0), (.long q1), (.long q2), (.int p3)] maxLocals)) t := by
    have pre11 : ∀ t, Steps p.tables e below (T2.setTop (mkF m 47 #[.val (.long q0), .second, .val (.long q1), .second, .val (.long q2), .second, .val (.int p3), .val (.long v4_0), .second, .val (.long v4_1), .second, .val (.int (p3 &&& (7 : Int32))), .val (.long q2), .second, .unset, .unset, .unset, .unset, .unset] [(.int (1 : Int32)), (.int (p3 &&& (7 : Int32)))])) t → Steps p.tables e below (s₁.setTop (entryFrame m #[(.long q0), (.long q1), (.long q2), (.int p3)] maxLocals)) t := fun t k => pre9 t (by
      show Steps p.tables e below (T2.setTop (mkF m 44 #[.val (.long q0), .second, .val (.long q1), .second, .val (.long q2), .second, .val (.int p3), .val (.long v4_0), .second, .val (.long v4_1), .second, .val (.int (p3 &&& (7 : Int32))), .val (.long q2), .second, .unset, .unset, .unset, .unset, .unset] [])) _
      refine XS.iload X2.here hx rfl (hb hby at_44) rfl ?_
      show Steps p.tables e below (T2.setTop (mkF m 46 #[.val (.long q0), .second, .val (.long q1), .second, .val (.long q2), .second, .val (.int p3), .val (.long v4_0), .second, .val (.long v4_1), .second, .val (.int (p3 &&& (7 : Int32))), .val (.long q2), .second, .unset, .unset, .unset, .unset, .unset] [(.int (p3 &&& (7 : Int32)))])) _
      refine XS.iconst X2.here hx rfl (hb hby at_46) ?_
      exact k)
    by_cases hc47_12 : (p3 &&& (7 : Int32)) = (1 : Int32)
    · have pre13 : ∀ t, Steps p.tables e below (T2.setTop (mkF m 128 #[.val (.long q0), .second, .val (.long q1), .second, .val (.long q2), .second, .val (.int p3), .val (.long v4_0), .second, .val (.long v4_1), .second, .val (.int (p3 &&& (7 : Int32))), .val (.long v4_0), .second, .unset, .unset, .unset, .unset, .unset] [])) t → Steps p.tables e below (s₁.setTop (entryFrame m #[(.long q0), (.long q1), (.long q2), (.int p3)] maxLocals)) t := fun t k => pre11 t (by
        show Steps p.tables e below (T2.setTop (mkF m 47 #[.val (.long q0), .second, .val (.long q1), .second, .val (.long q2), .second, .val (.int p3), .val (.long v4_0), .second, .val (.long v4_1), .second, .val (.int (p3 &&& (7 : Int32))), .val (.long q2), .second, .unset, .unset, .unset, .unset, .unset] [(.int (1 : Int32)), (.int (p3 &&& (7 : Int32)))])) _
        refine XS.icmpNo X2.here hx rfl (hb hby at_47) rfl (teq hc47_12).2 ?_
        show Steps p.tables e below (T2.setTop (mkF m 50 #[.val (.long q0), .second, .val (.long q1), .second, .val (.long q2), .second, .val (.int p3), .val (.long v4_0), .second, .val (.long v4_1), .second, .val (.int (p3 &&& (7 : Int32))), .val (.long q2), .second, .unset, .unset, .unset, .unset, .unset] [])) _
        refine XS.lload X2.here hx rfl (hb hby at_50) rfl ?_
        show Steps p.tables e below (T2.setTop (mkF m 52 #[.val (.long q0), .second, .val (.long q1), .second, .val (.long q2), .second, .val (.int p3), .val (.long v4_0), .second, .val (.long v4_1), .second, .val (.int (p3 &&& (7 : Int32))), .val (.long q2), .second, .unset, .unset, .unset, .unset, .unset] [(.long v4_0)])) _
        refine XS.lstore X2.here hx rfl (hb hby at_52) rfl (l' := #[.val (.long q0), .second, .val (.long q1), .second, .val (.long q2), .second, .val (.int p3), .val (.long v4_0), .second, .val (.long v4_1), .second, .val (.int (p3 &&& (7 : Int32))), .val (.long v4_0), .second, .unset, .unset, .unset, .unset, .unset]) rfl ?_
        show Steps p.tables e below (T2.setTop (mkF m 54 #[.val (.long q0), .second, .val (.long q1), .second, .val (.long q2), .second, .val (.int p3), .val (.long v4_0), .second, .val (.long v4_1), .second, .val (.int (p3 &&& (7 : Int32))), .val (.long v4_0), .second, .unset, .unset, .unset, .unset, .unset] [])) _
        refine XS.goto X2.here hx rfl (pc0 := 54) (pc' := 128) rfl (hb hby at_54) (by decide) (by decide) ?_
        exact k)
      exact ⟨v4_0, pre13⟩
    · have pre14 : ∀ t, Steps p.tables e below (T2.setTop (mkF m 60 #[.val (.long q0), .second, .val (.long q1), .second, .val (.long q2), .second, .val (.int p3), .val (.long v4_0), .second, .val (.long v4_1), .second, .val (.int (p3 &&& (7 : Int32))), .val (.long q2), .second, .unset, .unset, .unset, .unset, .unset] [(.int (2 : Int32)), (.int (p3 &&& (7 : Int32)))])) t → Steps p.tables e below (s₁.setTop (entryFrame m #[(.long q0), (.long q1), (.long q2), (.int p3)] maxLocals)) t := fun t k => pre11 t (by
        show Steps p.tables e below (T2.setTop (mkF m 47 #[.val (.long q0), .second, .val (.long q1), .second, .val (.long q2), .second, .val (.int p3), .val (.long v4_0), .second, .val (.long v4_1), .second, .val (.int (p3 &&& (7 : Int32))), .val (.long q2), .second, .unset, .unset, .unset, .unset, .unset] [(.int (1 : Int32)), (.int (p3 &&& (7 : Int32)))])) _
        refine XS.icmpYes X2.here hx rfl (pc0 := 47) (pc' := 57) rfl (hb hby at_47) rfl (feq hc47_12).2 (by decide) (by decide) ?_
        show Steps p.tables e below (T2.setTop (mkF m 57 #[.val (.long q0), .second, .val (.long q1), .second, .val (.long q2), .second, .val (.int p3), .val (.long v4_0), .second, .val (.long v4_1), .second, .val (.int (p3 &&& (7 : Int32))), .val (.long q2), .second, .unset, .unset, .unset, .unset, .unset] [])) _
        refine XS.iload X2.here hx rfl (hb hby at_57) rfl ?_
        show Steps p.tables e below (T2.setTop (mkF m 59 #[.val (.long q0), .second, .val (.long q1), .second, .val (.long q2), .second, .val (.int p3), .val (.long v4_0), .second, .val (.long v4_1), .second, .val (.int (p3 &&& (7 : Int32))), .val (.long q2), .second, .unset, .unset, .unset, .unset, .unset] [(.int (p3 &&& (7 : Int32)))])) _
        refine XS.iconst X2.here hx rfl (hb hby at_59) ?_
        exact k)
      by_cases hc60_15 : (p3 &&& (7 : Int32)) = (2 : Int32)
      · have pre16 : ∀ t, Steps p.tables e below (T2.setTop (mkF m 128 #[.val (.long q0), .second, .val (.long q1), .second, .val (.long q2), .second, .val (.int p3), .val (.long v4_0), .second, .val (.long v4_1), .second, .val (.int (p3 &&& (7 : Int32))), .val (.long v4_1), .second, .unset, .unset, .unset, .unset, .unset] [])) t → Steps p.tables e below (s₁.setTop (entryFrame m #[(.long q0), (.long q1), (.long q2), (.int p3)] maxLocals)) t := fun t k => pre14 t (by
          show Steps p.tables e below (T2.setTop (mkF m 60 #[.val (.long q0), .second, .val (.long q1), .second, .val (.long q2), .second, .val (.int p3), .val (.long v4_0), .second, .val (.long v4_1), .second, .val (.int (p3 &&& (7 : Int32))), .val (.long q2), .second, .unset, .unset, .unset, .unset, .unset] [(.int (2 : Int32)), (.int (p3 &&& (7 : Int32)))])) _
          refine XS.icmpNo X2.here hx rfl (hb hby at_60) rfl (teq hc60_15).2 ?_
          show Steps p.tables e below (T2.setTop (mkF m 63 #[.val (.long q0), .second, .val (.long q1), .second, .val (.long q2), .second, .val (.int p3), .val (.long v4_0), .second, .val (.long v4_1), .second, .val (.int (p3 &&& (7 : Int32))), .val (.long q2), .second, .unset, .unset, .unset, .unset, .unset] [])) _
          refine XS.lload X2.here hx rfl (hb hby at_63) rfl ?_
          show Steps p.tables e below (T2.setTop (mkF m 65 #[.val (.long q0), .second, .val (.long q1), .second, .val (.long q2), .second, .val (.int p3), .val (.long v4_0), .second, .val (.long v4_1), .second, .val (.int (p3 &&& (7 : Int32))), .val (.long q2), .second, .unset, .unset, .unset, .unset, .unset] [(.long v4_1)])) _
          refine XS.lstore X2.here hx rfl (hb hby at_65) rfl (l' := #[.val (.long q0), .second, .val (.long q1), .second, .val (.long q2), .second, .val (.int p3), .val (.long v4_0), .second, .val (.long v4_1), .second, .val (.int (p3 &&& (7 : Int32))), .val (.long v4_1), .second, .unset, .unset, .unset, .unset, .unset]) rfl ?_
          show Steps p.tables e below (T2.setTop (mkF m 67 #[.val (.long q0), .second, .val (.long q1), .second, .val (.long q2), .second, .val (.int p3), .val (.long v4_0), .second, .val (.long v4_1), .second, .val (.int (p3 &&& (7 : Int32))), .val (.long v4_1), .second, .unset, .unset, .unset, .unset, .unset] [])) _
          refine XS.goto X2.here hx rfl (pc0 := 67) (pc' := 128) rfl (hb hby at_67) (by decide) (by decide) ?_
          exact k)
        exact ⟨v4_1, pre16⟩
      · have pre17 : ∀ t, Steps p.tables e below (T2.setTop (mkF m 73 #[.val (.long q0), .second, .val (.long q1), .second, .val (.long q2), .second, .val (.int p3), .val (.long v4_0), .second, .val (.long v4_1), .second, .val (.int (p3 &&& (7 : Int32))), .val (.long q2), .second, .unset, .unset, .unset, .unset, .unset] [(.int (3 : Int32)), (.int (p3 &&& (7 : Int32)))])) t → Steps p.tables e below (s₁.setTop (entryFrame m #[(.long q0), (.long q1), (.long q2), (.int p3)] maxLocals)) t := fun t k => pre14 t (by
          show Steps p.tables e below (T2.setTop (mkF m 60 #[.val (.long q0), .second, .val (.long q1), .second, .val (.long q2), .second, .val (.int p3), .val (.long v4_0), .second, .val (.long v4_1), .second, .val (.int (p3 &&& (7 : Int32))), .val (.long q2), .second, .unset, .unset, .unset, .unset, .unset] [(.int (2 : Int32)), (.int (p3 &&& (7 : Int32)))])) _
          refine XS.icmpYes X2.here hx rfl (pc0 := 60) (pc' := 70) rfl (hb hby at_60) rfl (feq hc60_15).2 (by decide) (by decide) ?_
          show Steps p.tables e below (T2.setTop (mkF m 70 #[.val (.long q0), .second, .val (.long q1), .second, .val (.long q2), .second, .val (.int p3), .val (.long v4_0), .second, .val (.long v4_1), .second, .val (.int (p3 &&& (7 : Int32))), .val (.long q2), .second, .unset, .unset, .unset, .unset, .unset] [])) _
          refine XS.iload X2.here hx rfl (hb hby at_70) rfl ?_
          show Steps p.tables e below (T2.setTop (mkF m 72 #[.val (.long q0), .second, .val (.long q1), .second, .val (.long q2), .second, .val (.int p3), .val (.long v4_0), .second, .val (.long v4_1), .second, .val (.int (p3 &&& (7 : Int32))), .val (.long q2), .second, .unset, .unset, .unset, .unset, .unset] [(.int (p3 &&& (7 : Int32)))])) _
          refine XS.iconst X2.here hx rfl (hb hby at_72) ?_
          exact k)
        by_cases hc73_18 : (p3 &&& (7 : Int32)) = (3 : Int32)
        · have pre19 : ∀ t, Steps p.tables e below (T2.setTop (mkF m 128 #[.val (.long q0), .second, .val (.long q1), .second, .val (.long q2), .second, .val (.int p3), .val (.long v4_0), .second, .val (.long v4_1), .second, .val (.int (p3 &&& (7 : Int32))), .val (.long (v4_0 - (1 : Int64))), .second, .unset, .unset, .unset, .unset, .unset] [])) t → Steps p.tables e below (s₁.setTop (entryFrame m #[(.long q0), (.long q1), (.long q2), (.int p3)] maxLocals)) t := fun t k => pre17 t (by
            show Steps p.tables e below (T2.setTop (mkF m 73 #[.val (.long q0), .second, .val (.long q1), .second, .val (.long q2), .second, .val (.int p3), .val (.long v4_0), .second, .val (.long v4_1), .second, .val (.int (p3 &&& (7 : Int32))), .val (.long q2), .second, .unset, .unset, .unset, .unset, .unset] [(.int (3 : Int32)), (.int (p3 &&& (7 : Int32)))])) _
            refine XS.icmpNo X2.here hx rfl (hb hby at_73) rfl (teq hc73_18).2 ?_
            show Steps p.tables e below (T2.setTop (mkF m 76 #[.val (.long q0), .second, .val (.long q1), .second, .val (.long q2), .second, .val (.int p3), .val (.long v4_0), .second, .val (.long v4_1), .second, .val (.int (p3 &&& (7 : Int32))), .val (.long q2), .second, .unset, .unset, .unset, .unset, .unset] [])) _
            refine XS.lload X2.here hx rfl (hb hby at_76) rfl ?_
            show Steps p.tables e below (T2.setTop (mkF m 78 #[.val (.long q0), .second, .val (.long q1), .second, .val (.long q2), .second, .val (.int p3), .val (.long v4_0), .second, .val (.long v4_1), .second, .val (.int (p3 &&& (7 : Int32))), .val (.long q2), .second, .unset, .unset, .unset, .unset, .unset] [(.long v4_0)])) _
            refine XS.lconst X2.here hx rfl (hb hby at_78) ?_
            show Steps p.tables e below (T2.setTop (mkF m 79 #[.val (.long q0), .second, .val (.long q1), .second, .val (.long q2), .second, .val (.int p3), .val (.long v4_0), .second, .val (.long v4_1), .second, .val (.int (p3 &&& (7 : Int32))), .val (.long q2), .second, .unset, .unset, .unset, .unset, .unset] [(.long (1 : Int64)), (.long v4_0)])) _
            refine XS.lsub X2.here hx rfl (hb hby at_79) rfl ?_
            show Steps p.tables e below (T2.setTop (mkF m 80 #[.val (.long q0), .second, .val (.long q1), .second, .val (.long q2), .second, .val (.int p3), .val (.long v4_0), .second, .val (.long v4_1), .second, .val (.int (p3 &&& (7 : Int32))), .val (.long q2), .second, .unset, .unset, .unset, .unset, .unset] [(.long (v4_0 - (1 : Int64)))])) _
            refine XS.lstore X2.here hx rfl (hb hby at_80) rfl (l' := #[.val (.long q0), .second, .val (.long q1), .second, .val (.long q2), .second, .val (.int p3), .val (.long v4_0), .second, .val (.long v4_1), .second, .val (.int (p3 &&& (7 : Int32))), .val (.long (v4_0 - (1 : Int64))), .second, .unset, .unset, .unset, .unset, .unset]) rfl ?_
            show Steps p.tables e below (T2.setTop (mkF m 82 #[.val (.long q0), .second, .val (.long q1), .second, .val (.long q2), .second, .val (.int p3), .val (.long v4_0), .second, .val (.long v4_1), .second, .val (.int (p3 &&& (7 : Int32))), .val (.long (v4_0 - (1 : Int64))), .second, .unset, .unset, .unset, .unset, .unset] [])) _
            refine XS.goto X2.here hx rfl (pc0 := 82) (pc' := 128) rfl (hb hby at_82) (by decide) (by decide) ?_
            exact k)
          exact ⟨(v4_0 - (1 : Int64)), pre19⟩
        · have pre20 : ∀ t, Steps p.tables e below (T2.setTop (mkF m 88 #[.val (.long q0), .second, .val (.long q1), .second, .val (.long q2), .second, .val (.int p3), .val (.long v4_0), .second, .val (.long v4_1), .second, .val (.int (p3 &&& (7 : Int32))), .val (.long q2), .second, .unset, .unset, .unset, .unset, .unset] [(.int (4 : Int32)), (.int (p3 &&& (7 : Int32)))])) t → Steps p.tables e below (s₁.setTop (entryFrame m #[(.long q0), (.long q1), (.long q2), (.int p3)] maxLocals)) t := fun t k => pre17 t (by
            show Steps p.tables e below (T2.setTop (mkF m 73 #[.val (.long q0), .second, .val (.long q1), .second, .val (.long q2), .second, .val (.int p3), .val (.long v4_0), .second, .val (.long v4_1), .second, .val (.int (p3 &&& (7 : Int32))), .val (.long q2), .second, .unset, .unset, .unset, .unset, .unset] [(.int (3 : Int32)), (.int (p3 &&& (7 : Int32)))])) _
            refine XS.icmpYes X2.here hx rfl (pc0 := 73) (pc' := 85) rfl (hb hby at_73) rfl (feq hc73_18).2 (by decide) (by decide) ?_
            show Steps p.tables e below (T2.setTop (mkF m 85 #[.val (.long q0), .second, .val (.long q1), .second, .val (.long q2), .second, .val (.int p3), .val (.long v4_0), .second, .val (.long v4_1), .second, .val (.int (p3 &&& (7 : Int32))), .val (.long q2), .second, .unset, .unset, .unset, .unset, .unset] [])) _
            refine XS.iload X2.here hx rfl (hb hby at_85) rfl ?_
            show Steps p.tables e below (T2.setTop (mkF m 87 #[.val (.long q0), .second, .val (.long q1), .second, .val (.long q2), .second, .val (.int p3), .val (.long v4_0), .second, .val (.long v4_1), .second, .val (.int (p3 &&& (7 : Int32))), .val (.long q2), .second, .unset, .unset, .unset, .unset, .unset] [(.int (p3 &&& (7 : Int32)))])) _
            refine XS.iconst X2.here hx rfl (hb hby at_87) ?_
            exact k)
          by_cases hc88_21 : (p3 &&& (7 : Int32)) = (4 : Int32)
          · have pre22 : ∀ t, Steps p.tables e below (T2.setTop (mkF m 128 #[.val (.long q0), .second, .val (.long q1), .second, .val (.long q2), .second, .val (.int p3), .val (.long v4_0), .second, .val (.long v4_1), .second, .val (.int (p3 &&& (7 : Int32))), .val (.long (v4_1 - (1 : Int64))), .second, .unset, .unset, .unset, .unset, .unset] [])) t → Steps p.tables e below (s₁.setTop (entryFrame m #[(.long q0), (.long q1), (.long q2), (.int p3)] maxLocals)) t := fun t k => pre20 t (by
              show Steps p.tables e below (T2.setTop (mkF m 88 #[.val (.long q0), .second, .val (.long q1), .second, .val (.long q2), .second, .val (.int p3), .val (.long v4_0), .second, .val (.long v4_1), .second, .val (.int (p3 &&& (7 : Int32))), .val (.long q2), .second, .unset, .unset, .unset, .unset, .unset] [(.int (4 : Int32)), (.int (p3 &&& (7 : Int32)))])) _
              refine XS.icmpNo X2.here hx rfl (hb hby at_88) rfl (teq hc88_21).2 ?_
              show Steps p.tables e below (T2.setTop (mkF m 91 #[.val (.long q0), .second, .val (.long q1), .second, .val (.long q2), .second, .val (.int p3), .val (.long v4_0), .second, .val (.long v4_1), .second, .val (.int (p3 &&& (7 : Int32))), .val (.long q2), .second, .unset, .unset, .unset, .unset, .unset] [])) _
              refine XS.lload X2.here hx rfl (hb hby at_91) rfl ?_
              show Steps p.tables e below (T2.setTop (mkF m 93 #[.val (.long q0), .second, .val (.long q1), .second, .val (.long q2), .second, .val (.int p3), .val (.long v4_0), .second, .val (.long v4_1), .second, .val (.int (p3 &&& (7 : Int32))), .val (.long q2), .second, .unset, .unset, .unset, .unset, .unset] [(.long v4_1)])) _
              refine XS.lconst X2.here hx rfl (hb hby at_93) ?_
              show Steps p.tables e below (T2.setTop (mkF m 94 #[.val (.long q0), .second, .val (.long q1), .second, .val (.long q2), .second, .val (.int p3), .val (.long v4_0), .second, .val (.long v4_1), .second, .val (.int (p3 &&& (7 : Int32))), .val (.long q2), .second, .unset, .unset, .unset, .unset, .unset] [(.long (1 : Int64)), (.long v4_1)])) _
              refine XS.lsub X2.here hx rfl (hb hby at_94) rfl ?_
              show Steps p.tables e below (T2.setTop (mkF m 95 #[.val (.long q0), .second, .val (.long q1), .second, .val (.long q2), .second, .val (.int p3), .val (.long v4_0), .second, .val (.long v4_1), .second, .val (.int (p3 &&& (7 : Int32))), .val (.long q2), .second, .unset, .unset, .unset, .unset, .unset] [(.long (v4_1 - (1 : Int64)))])) _
              refine XS.lstore X2.here hx rfl (hb hby at_95) rfl (l' := #[.val (.long q0), .second, .val (.long q1), .second, .val (.long q2), .second, .val (.int p3), .val (.long v4_0), .second, .val (.long v4_1), .second, .val (.int (p3 &&& (7 : Int32))), .val (.long (v4_1 - (1 : Int64))), .second, .unset, .unset, .unset, .unset, .unset]) rfl ?_
              show Steps p.tables e below (T2.setTop (mkF m 97 #[.val (.long q0), .second, .val (.long q1), .second, .val (.long q2), .second, .val (.int p3), .val (.long v4_0), .second, .val (.long v4_1), .second, .val (.int (p3 &&& (7 : Int32))), .val (.long (v4_1 - (1 : Int64))), .second, .unset, .unset, .unset, .unset, .unset] [])) _
              refine XS.goto X2.here hx rfl (pc0 := 97) (pc' := 128) rfl (hb hby at_97) (by decide) (by decide) ?_
              exact k)
            exact ⟨(v4_1 - (1 : Int64)), pre22⟩
          · have pre23 : ∀ t, Steps p.tables e below (T2.setTop (mkF m 103 #[.val (.long q0), .second, .val (.long q1), .second, .val (.long q2), .second, .val (.int p3), .val (.long v4_0), .second, .val (.long v4_1), .second, .val (.int (p3 &&& (7 : Int32))), .val (.long q2), .second, .unset, .unset, .unset, .unset, .unset] [(.int (5 : Int32)), (.int (p3 &&& (7 : Int32)))])) t → Steps p.tables e below (s₁.setTop (entryFrame m #[(.long q0), (.long q1), (.long q2), (.int p3)] maxLocals)) t := fun t k => pre20 t (by
              show Steps p.tables e below (T2.setTop (mkF m 88 #[.val (.long q0), .second, .val (.long q1), .second, .val (.long q2), .second, .val (.int p3), .val (.long v4_0), .second, .val (.long v4_1), .second, .val (.int (p3 &&& (7 : Int32))), .val (.long q2), .second, .unset, .unset, .unset, .unset, .unset] [(.int (4 : Int32)), (.int (p3 &&& (7 : Int32)))])) _
              refine XS.icmpYes X2.here hx rfl (pc0 := 88) (pc' := 100) rfl (hb hby at_88) rfl (feq hc88_21).2 (by decide) (by decide) ?_
              show Steps p.tables e below (T2.setTop (mkF m 100 #[.val (.long q0), .second, .val (.long q1), .second, .val (.long q2), .second, .val (.int p3), .val (.long v4_0), .second, .val (.long v4_1), .second, .val (.int (p3 &&& (7 : Int32))), .val (.long q2), .second, .unset, .unset, .unset, .unset, .unset] [])) _
              refine XS.iload X2.here hx rfl (hb hby at_100) rfl ?_
              show Steps p.tables e below (T2.setTop (mkF m 102 #[.val (.long q0), .second, .val (.long q1), .second, .val (.long q2), .second, .val (.int p3), .val (.long v4_0), .second, .val (.long v4_1), .second, .val (.int (p3 &&& (7 : Int32))), .val (.long q2), .second, .unset, .unset, .unset, .unset, .unset] [(.int (p3 &&& (7 : Int32)))])) _
              refine XS.iconst X2.here hx rfl (hb hby at_102) ?_
              exact k)
            by_cases hc103_24 : (p3 &&& (7 : Int32)) = (5 : Int32)
            · have pre25 : ∀ t, Steps p.tables e below (T2.setTop (mkF m 128 #[.val (.long q0), .second, .val (.long q1), .second, .val (.long q2), .second, .val (.int p3), .val (.long v4_0), .second, .val (.long v4_1), .second, .val (.int (p3 &&& (7 : Int32))), .val (.long (v4_0 + (1 : Int64))), .second, .unset, .unset, .unset, .unset, .unset] [])) t → Steps p.tables e below (s₁.setTop (entryFrame m #[(.long q0), (.long q1), (.long q2), (.int p3)] maxLocals)) t := fun t k => pre23 t (by
                show Steps p.tables e below (T2.setTop (mkF m 103 #[.val (.long q0), .second, .val (.long q1), .second, .val (.long q2), .second, .val (.int p3), .val (.long v4_0), .second, .val (.long v4_1), .second, .val (.int (p3 &&& (7 : Int32))), .val (.long q2), .second, .unset, .unset, .unset, .unset, .unset] [(.int (5 : Int32)), (.int (p3 &&& (7 : Int32)))])) _
                refine XS.icmpNo X2.here hx rfl (hb hby at_103) rfl (teq hc103_24).2 ?_
                show Steps p.tables e below (T2.setTop (mkF m 106 #[.val (.long q0), .second, .val (.long q1), .second, .val (.long q2), .second, .val (.int p3), .val (.long v4_0), .second, .val (.long v4_1), .second, .val (.int (p3 &&& (7 : Int32))), .val (.long q2), .second, .unset, .unset, .unset, .unset, .unset] [])) _
                refine XS.lload X2.here hx rfl (hb hby at_106) rfl ?_
                show Steps p.tables e below (T2.setTop (mkF m 108 #[.val (.long q0), .second, .val (.long q1), .second, .val (.long q2), .second, .val (.int p3), .val (.long v4_0), .second, .val (.long v4_1), .second, .val (.int (p3 &&& (7 : Int32))), .val (.long q2), .second, .unset, .unset, .unset, .unset, .unset] [(.long v4_0)])) _
                refine XS.lconst X2.here hx rfl (hb hby at_108) ?_
                show Steps p.tables e below (T2.setTop (mkF m 109 #[.val (.long q0), .second, .val (.long q1), .second, .val (.long q2), .second, .val (.int p3), .val (.long v4_0), .second, .val (.long v4_1), .second, .val (.int (p3 &&& (7 : Int32))), .val (.long q2), .second, .unset, .unset, .unset, .unset, .unset] [(.long (1 : Int64)), (.long v4_0)])) _
                refine XS.ladd X2.here hx rfl (hb hby at_109) rfl ?_
                show Steps p.tables e below (T2.setTop (mkF m 110 #[.val (.long q0), .second, .val (.long q1), .second, .val (.long q2), .second, .val (.int p3), .val (.long v4_0), .second, .val (.long v4_1), .second, .val (.int (p3 &&& (7 : Int32))), .val (.long q2), .second, .unset, .unset, .unset, .unset, .unset] [(.long (v4_0 + (1 : Int64)))])) _
                refine XS.lstore X2.here hx rfl (hb hby at_110) rfl (l' := #[.val (.long q0), .second, .val (.long q1), .second, .val (.long q2), .second, .val (.int p3), .val (.long v4_0), .second, .val (.long v4_1), .second, .val (.int (p3 &&& (7 : Int32))), .val (.long (v4_0 + (1 : Int64))), .second, .unset, .unset, .unset, .unset, .unset]) rfl ?_
                show Steps p.tables e below (T2.setTop (mkF m 112 #[.val (.long q0), .second, .val (.long q1), .second, .val (.long q2), .second, .val (.int p3), .val (.long v4_0), .second, .val (.long v4_1), .second, .val (.int (p3 &&& (7 : Int32))), .val (.long (v4_0 + (1 : Int64))), .second, .unset, .unset, .unset, .unset, .unset] [])) _
                refine XS.goto X2.here hx rfl (pc0 := 112) (pc' := 128) rfl (hb hby at_112) (by decide) (by decide) ?_
                exact k)
              exact ⟨(v4_0 + (1 : Int64)), pre25⟩
            · have pre26 : ∀ t, Steps p.tables e below (T2.setTop (mkF m 119 #[.val (.long q0), .second, .val (.long q1), .second, .val (.long q2), .second, .val (.int p3), .val (.long v4_0), .second, .val (.long v4_1), .second, .val (.int (p3 &&& (7 : Int32))), .val (.long q2), .second, .unset, .unset, .unset, .unset, .unset] [(.int (6 : Int32)), (.int (p3 &&& (7 : Int32)))])) t → Steps p.tables e below (s₁.setTop (entryFrame m #[(.long q0), (.long q1), (.long q2), (.int p3)] maxLocals)) t := fun t k => pre23 t (by
                show Steps p.tables e below (T2.setTop (mkF m 103 #[.val (.long q0), .second, .val (.long q1), .second, .val (.long q2), .second, .val (.int p3), .val (.long v4_0), .second, .val (.long v4_1), .second, .val (.int (p3 &&& (7 : Int32))), .val (.long q2), .second, .unset, .unset, .unset, .unset, .unset] [(.int (5 : Int32)), (.int (p3 &&& (7 : Int32)))])) _
                refine XS.icmpYes X2.here hx rfl (pc0 := 103) (pc' := 115) rfl (hb hby at_103) rfl (feq hc103_24).2 (by decide) (by decide) ?_
                show Steps p.tables e below (T2.setTop (mkF m 115 #[.val (.long q0), .second, .val (.long q1), .second, .val (.long q2), .second, .val (.int p3), .val (.long v4_0), .second, .val (.long v4_1), .second, .val (.int (p3 &&& (7 : Int32))), .val (.long q2), .second, .unset, .unset, .unset, .unset, .unset] [])) _
                refine XS.iload X2.here hx rfl (hb hby at_115) rfl ?_
                show Steps p.tables e below (T2.setTop (mkF m 117 #[.val (.long q0), .second, .val (.long q1), .second, .val (.long q2), .second, .val (.int p3), .val (.long v4_0), .second, .val (.long v4_1), .second, .val (.int (p3 &&& (7 : Int32))), .val (.long q2), .second, .unset, .unset, .unset, .unset, .unset] [(.int (p3 &&& (7 : Int32)))])) _
                refine XS.bipush X2.here hx rfl (hb hby at_117) ?_
                exact k)
              by_cases hc119_27 : (p3 &&& (7 : Int32)) = (6 : Int32)
              · have pre28 : ∀ t, Steps p.tables e below (T2.setTop (mkF m 128 #[.val (.long q0), .second, .val (.long q1), .second, .val (.long q2), .second, .val (.int p3), .val (.long v4_0), .second, .val (.long v4_1), .second, .val (.int (p3 &&& (7 : Int32))), .val (.long (v4_1 + (1 : Int64))), .second, .unset, .unset, .unset, .unset, .unset] [])) t → Steps p.tables e below (s₁.setTop (entryFrame m #[(.long q0), (.long q1), (.long q2), (.int p3)] maxLocals)) t := fun t k => pre26 t (by
                  show Steps p.tables e below (T2.setTop (mkF m 119 #[.val (.long q0), .second, .val (.long q1), .second, .val (.long q2), .second, .val (.int p3), .val (.long v4_0), .second, .val (.long v4_1), .second, .val (.int (p3 &&& (7 : Int32))), .val (.long q2), .second, .unset, .unset, .unset, .unset, .unset] [(.int (6 : Int32)), (.int (p3 &&& (7 : Int32)))])) _
                  refine XS.icmpNo X2.here hx rfl (hb hby at_119) rfl (teq hc119_27).2 ?_
                  show Steps p.tables e below (T2.setTop (mkF m 122 #[.val (.long q0), .second, .val (.long q1), .second, .val (.long q2), .second, .val (.int p3), .val (.long v4_0), .second, .val (.long v4_1), .second, .val (.int (p3 &&& (7 : Int32))), .val (.long q2), .second, .unset, .unset, .unset, .unset, .unset] [])) _
                  refine XS.lload X2.here hx rfl (hb hby at_122) rfl ?_
                  show Steps p.tables e below (T2.setTop (mkF m 124 #[.val (.long q0), .second, .val (.long q1), .second, .val (.long q2), .second, .val (.int p3), .val (.long v4_0), .second, .val (.long v4_1), .second, .val (.int (p3 &&& (7 : Int32))), .val (.long q2), .second, .unset, .unset, .unset, .unset, .unset] [(.long v4_1)])) _
                  refine XS.lconst X2.here hx rfl (hb hby at_124) ?_
                  show Steps p.tables e below (T2.setTop (mkF m 125 #[.val (.long q0), .second, .val (.long q1), .second, .val (.long q2), .second, .val (.int p3), .val (.long v4_0), .second, .val (.long v4_1), .second, .val (.int (p3 &&& (7 : Int32))), .val (.long q2), .second, .unset, .unset, .unset, .unset, .unset] [(.long (1 : Int64)), (.long v4_1)])) _
                  refine XS.ladd X2.here hx rfl (hb hby at_125) rfl ?_
                  show Steps p.tables e below (T2.setTop (mkF m 126 #[.val (.long q0), .second, .val (.long q1), .second, .val (.long q2), .second, .val (.int p3), .val (.long v4_0), .second, .val (.long v4_1), .second, .val (.int (p3 &&& (7 : Int32))), .val (.long q2), .second, .unset, .unset, .unset, .unset, .unset] [(.long (v4_1 + (1 : Int64)))])) _
                  refine XS.lstore X2.here hx rfl (hb hby at_126) rfl (l' := #[.val (.long q0), .second, .val (.long q1), .second, .val (.long q2), .second, .val (.int p3), .val (.long v4_0), .second, .val (.long v4_1), .second, .val (.int (p3 &&& (7 : Int32))), .val (.long (v4_1 + (1 : Int64))), .second, .unset, .unset, .unset, .unset, .unset]) rfl ?_
                  exact k)
                exact ⟨(v4_1 + (1 : Int64)), pre28⟩
              · have pre29 : ∀ t, Steps p.tables e below (T2.setTop (mkF m 128 #[.val (.long q0), .second, .val (.long q1), .second, .val (.long q2), .second, .val (.int p3), .val (.long v4_0), .second, .val (.long v4_1), .second, .val (.int (p3 &&& (7 : Int32))), .val (.long q2), .second, .unset, .unset, .unset, .unset, .unset] [])) t → Steps p.tables e below (s₁.setTop (entryFrame m #[(.long q0), (.long q1), (.long q2), (.int p3)] maxLocals)) t := fun t k => pre26 t (by
                  show Steps p.tables e below (T2.setTop (mkF m 119 #[.val (.long q0), .second, .val (.long q1), .second, .val (.long q2), .second, .val (.int p3), .val (.long v4_0), .second, .val (.long v4_1), .second, .val (.int (p3 &&& (7 : Int32))), .val (.long q2), .second, .unset, .unset, .unset, .unset, .unset] [(.int (6 : Int32)), (.int (p3 &&& (7 : Int32)))])) _
                  refine XS.icmpYes X2.here hx rfl (pc0 := 119) (pc' := 128) rfl (hb hby at_119) rfl (feq hc119_27).2 (by decide) (by decide) ?_
                  exact k)
                exact ⟨q2, pre29⟩
  obtain ⟨T30, h30, X30, e30, E30, A30, D30, -, st30⟩ := newO X2 hx hZ hown (hw _ (List.mem_of_getElem? (i := 7) rfl)) (hw _ (List.mem_of_getElem? (i := 8) rfl)) (hw _ (List.mem_of_getElem? (i := 9) rfl)) hh2 (g := (mkF m 128 #[.val (.long q0), .second, .val (.long q1), .second, .val (.long q2), .second, .val (.int p3), .val (.long v4_0), .second, .val (.long v4_1), .second, .val (.int (p3 &&& (7 : Int32))), .val (.long v10_0), .second, .unset, .unset, .unset, .unset, .unset] [])) rfl (hb hby at_128) (by decide) (by decide)
  obtain ⟨b30, g30⟩ : ∃ z, z = h0.size := ⟨_, rfl⟩
  rw [← g30] at A30 D30 st30
  have F_negated_b30 : Fld Z h30 b30 "com/example/almanac/almanac/plan/OverWindow$Correction" "negated" "Lcom/example/almanac/almanac/plan/Fold;" .null := D30 (Or.inr (hw _ (List.mem_of_getElem? (i := 22) rfl))) (ty := (.object "com/example/almanac/almanac/plan/Fold")) (by decide)
  have F_start_b30 : Fld Z h30 b30 "com/example/almanac/almanac/plan/OverWindow$Correction" "start" "J" (.long (0 : Int64)) := D30 (Or.inr (hw _ (List.mem_of_getElem? (i := 24) rfl))) (ty := .long) (by decide)
  have F_end_b30 : Fld Z h30 b30 "com/example/almanac/almanac/plan/OverWindow$Correction" "end" "J" (.long (0 : Int64)) := D30 (Or.inr (hw _ (List.mem_of_getElem? (i := 26) rfl))) (ty := .long) (by decide)
  have g_b30 : n0 ≤ b30 := Nat.le_trans Z0 (Nat.le_of_eq g30.symm)
  have sz_b30 : h0.size ≤ b30 := Nat.le_trans (Keep.refl h0 []).1 (Nat.le_of_eq g30.symm)
  have KK30 : Keep h0 h30 [] := (Keep.refl h0 []).ext E30
  obtain ⟨_, _, ⟨T31, L31, k31, n31⟩, -, X31, ⟨Lc31, hQ31, l31, y31, z31⟩, st31⟩ := X30.specialBack hx (y := (⟨"com/example/almanac/almanac/plan/OverWindow$Correction", "<init>", "(Lcom/example/almanac/almanac/plan/Fold;JJ)V"⟩ : MethodName)) rfl hown (mvT hZ (hw _ (List.mem_of_getElem? (i := 10) rfl))) (mvT hZ (hw _ (List.mem_of_getElem? (i := 11) rfl))) (mvT hZ (hw _ (List.mem_of_getElem? (i := 12) rfl))) (by decide) (backOf (W := 1) (rm3 l Z a0 hw [] b30 v4_0 v4_1 .null (.long (0 : Int64)) (.long (0 : Int64)) h30 n0 (Nat.le_trans Z0 E30.1) F_negated_b30 F_start_b30 F_end_b30 A30 g_b30) hZ (hw _ (List.mem_of_getElem? (i := 12) rfl)) (hw _ (List.mem_of_getElem? (i := 9) rfl)) (by decide) (by decide)) (g := (mkF m 137 #[.val (.long q0), .second, .val (.long q1), .second, .val (.long q2), .second, .val (.int p3), .val (.long v4_0), .second, .val (.long v4_1), .second, .val (.int (p3 &&& (7 : Int32))), .val (.long v10_0), .second, .unset, .unset, .unset, .unset, .unset] [(.long v4_1), (.long v4_0), .null, (.ref b30), (.ref b30)])) rfl (by rw [hml]; rfl) (Steps.refl _) (a := b30) (argsL := [.null, (.long v4_0), (.long v4_1)]) (rest := [(.ref b30)]) (lenOf pd_2 rfl) rfl (by show 2 * 0 + _ ≤ _; exact Nat.le_of_eq rfl) (hb hby at_137) (fun _ _ => ⟨rfl, e30, (by decide : 1 + 0 ≤ _), (by decide : 3 + 0 ≤ _)⟩)
  dsimp only [Pt.U, Pt.locs, Pt.cells, Pt.slots] at X31 l31 y31 z31 st31 hQ31
  subst l31 y31 z31
  obtain ⟨rfl, N31q, K31, P31_0, P31_1, P31_2⟩ := hQ31
  have N31 := Fr.app N2 N31q
  have KK31 : Keep h0 T31.heap [] := KK30.trans K31 (allS (Or.inr sz_b30) all0)
  obtain ⟨cq32, kq32, q32a, q32b, q32c⟩ := isOf hZ rfl P31_0
  obtain ⟨_, _, ⟨T32, L32, k32, n32⟩, -, X32, ⟨Lc32, hQ32, l32, y32, z32⟩, st32⟩ := X31.virtualBack hx (y := (⟨"com/example/almanac/almanac/plan/OverWindow$Correction", "lastEdgeAtOrBefore", "(J)J"⟩ : MethodName)) (z := (⟨"com/example/almanac/almanac/plan/OverWindow$Correction", "lastEdgeAtOrBefore", "(J)J"⟩ : MethodName)) hown (mvT hZ (hw _ (List.mem_of_getElem? (i := 27) rfl))) (mvT hZ (hw _ (List.mem_of_getElem? (i := 28) rfl))) (notFace_of_selects (args := #[]) (mvT hZ (hw _ (List.mem_of_getElem? (i := 30) rfl)))) (mvT hZ (hw _ (List.mem_of_getElem? (i := 30) rfl))) (mvT hZ (hw _ (List.mem_of_getElem? (i := 29) rfl))) (by decide) (backOf (W := 0) (rm6 l Z a0 hw [] b30 v10_0 v4_0 v4_1 T31.heap n0 (Nat.le_trans (Nat.le_trans Z0 E30.1) K31.1) P31_1 P31_2) hZ (hw _ (List.mem_of_getElem? (i := 31) rfl)) (hw _ (List.mem_of_getElem? (i := 9) rfl)) (by decide) (by decide)) q32a q32c (g := (mkF m 146 #[.val (.long q0), .second, .val (.long q1), .second, .val (.long q2), .second, .val (.int p3), .val (.long v4_0), .second, .val (.long v4_1), .second, .val (.int (p3 &&& (7 : Int32))), .val (.long v10_0), .second, .val (.ref b30), .unset, .unset, .unset, .unset] [(.long v10_0), (.ref b30)])) rfl (by rw [hml]; rfl) (Steps.refl _) (argsL := [(.long v10_0)]) (rest := []) (lenOf pd_3 rfl) rfl (by show 2 * 0 + _ ≤ _; exact Nat.le_of_eq rfl) (hb hby at_146) (fun _ _ => ⟨rfl, rfl, (by decide : 1 + 0 ≤ _), (by decide : 3 + 0 ≤ _)⟩)
  dsimp only [Pt.U, Pt.locs, Pt.cells, Pt.slots] at X32 l32 y32 z32 st32 hQ32
  subst l32 y32 z32
  obtain ⟨rfl, N32q, hh32⟩ := hQ32
  have N32 := Fr.app N31 N32q
  have pre33 : ∀ t, Steps p.tables e below (T32.setTop (mkF m 161 #[.val (.long q0), .second, .val (.long q1), .second, .val (.long q2), .second, .val (.int p3), .val (.long v4_0), .second, .val (.long v4_1), .second, .val (.int (p3 &&& (7 : Int32))), .val (.long v10_0), .second, .val (.ref b30), .val (.long (own_last v4_0 v4_1 v10_0)), .second, .val (.long (-9223372036854775808 : Int64)), .second] [(.int (lcmpW v4_0 v10_0))])) t → Steps p.tables e below (s₁.setTop (entryFrame m #[(.long q0), (.long q1), (.long q2), (.int p3)] maxLocals)) t := fun t k => prem10 t (by
    show Steps p.tables e below (T2.setTop (mkF m 128 #[.val (.long q0), .second, .val (.long q1), .second, .val (.long q2), .second, .val (.int p3), .val (.long v4_0), .second, .val (.long v4_1), .second, .val (.int (p3 &&& (7 : Int32))), .val (.long v10_0), .second, .unset, .unset, .unset, .unset, .unset] [])) _
    refine st30 _ ?_
    show Steps p.tables e below (T30.setTop (mkF m 131 #[.val (.long q0), .second, .val (.long q1), .second, .val (.long q2), .second, .val (.int p3), .val (.long v4_0), .second, .val (.long v4_1), .second, .val (.int (p3 &&& (7 : Int32))), .val (.long v10_0), .second, .unset, .unset, .unset, .unset, .unset] [(.ref b30)])) _
    refine XS.dup X30.here hx rfl (hb hby at_131) rfl rfl ?_
    show Steps p.tables e below (T30.setTop (mkF m 132 #[.val (.long q0), .second, .val (.long q1), .second, .val (.long q2), .second, .val (.int p3), .val (.long v4_0), .second, .val (.long v4_1), .second, .val (.int (p3 &&& (7 : Int32))), .val (.long v10_0), .second, .unset, .unset, .unset, .unset, .unset] [(.ref b30), (.ref b30)])) _
    refine XS.aconstNull X30.here hx rfl (hb hby at_132) ?_
    show Steps p.tables e below (T30.setTop (mkF m 133 #[.val (.long q0), .second, .val (.long q1), .second, .val (.long q2), .second, .val (.int p3), .val (.long v4_0), .second, .val (.long v4_1), .second, .val (.int (p3 &&& (7 : Int32))), .val (.long v10_0), .second, .unset, .unset, .unset, .unset, .unset] [.null, (.ref b30), (.ref b30)])) _
    refine XS.lload X30.here hx rfl (hb hby at_133) rfl ?_
    show Steps p.tables e below (T30.setTop (mkF m 135 #[.val (.long q0), .second, .val (.long q1), .second, .val (.long q2), .second, .val (.int p3), .val (.long v4_0), .second, .val (.long v4_1), .second, .val (.int (p3 &&& (7 : Int32))), .val (.long v10_0), .second, .unset, .unset, .unset, .unset, .unset] [(.long v4_0), .null, (.ref b30), (.ref b30)])) _
    refine XS.lload X30.here hx rfl (hb hby at_135) rfl ?_
    show Steps p.tables e below (T30.setTop (mkF m 137 #[.val (.long q0), .second, .val (.long q1), .second, .val (.long q2), .second, .val (.int p3), .val (.long v4_0), .second, .val (.long v4_1), .second, .val (.int (p3 &&& (7 : Int32))), .val (.long v10_0), .second, .unset, .unset, .unset, .unset, .unset] [(.long v4_1), (.long v4_0), .null, (.ref b30), (.ref b30)])) _
    refine st31.trans ?_
    show Steps p.tables e below (T31.setTop (mkF m 140 #[.val (.long q0), .second, .val (.long q1), .second, .val (.long q2), .second, .val (.int p3), .val (.long v4_0), .second, .val (.long v4_1), .second, .val (.int (p3 &&& (7 : Int32))), .val (.long v10_0), .second, .unset, .unset, .unset, .unset, .unset] [(.ref b30)])) _
    refine XS.astore X31.here hx rfl (hb hby at_140) rfl rfl (l' := #[.val (.long q0), .second, .val (.long q1), .second, .val (.long q2), .second, .val (.int p3), .val (.long v4_0), .second, .val (.long v4_1), .second, .val (.int (p3 &&& (7 : Int32))), .val (.long v10_0), .second, .val (.ref b30), .unset, .unset, .unset, .unset]) rfl ?_
    show Steps p.tables e below (T31.setTop (mkF m 142 #[.val (.long q0), .second, .val (.long q1), .second, .val (.long q2), .second, .val (.int p3), .val (.long v4_0), .second, .val (.long v4_1), .second, .val (.int (p3 &&& (7 : Int32))), .val (.long v10_0), .second, .val (.ref b30), .unset, .unset, .unset, .unset] [])) _
    refine XS.aload X31.here hx rfl (hb hby at_142) rfl rfl ?_
    show Steps p.tables e below (T31.setTop (mkF m 144 #[.val (.long q0), .second, .val (.long q1), .second, .val (.long q2), .second, .val (.int p3), .val (.long v4_0), .second, .val (.long v4_1), .second, .val (.int (p3 &&& (7 : Int32))), .val (.long v10_0), .second, .val (.ref b30), .unset, .unset, .unset, .unset] [(.ref b30)])) _
    refine XS.lload X31.here hx rfl (hb hby at_144) rfl ?_
    show Steps p.tables e below (T31.setTop (mkF m 146 #[.val (.long q0), .second, .val (.long q1), .second, .val (.long q2), .second, .val (.int p3), .val (.long v4_0), .second, .val (.long v4_1), .second, .val (.int (p3 &&& (7 : Int32))), .val (.long v10_0), .second, .val (.ref b30), .unset, .unset, .unset, .unset] [(.long v10_0), (.ref b30)])) _
    refine st32.trans ?_
    show Steps p.tables e below (T32.setTop (mkF m 149 #[.val (.long q0), .second, .val (.long q1), .second, .val (.long q2), .second, .val (.int p3), .val (.long v4_0), .second, .val (.long v4_1), .second, .val (.int (p3 &&& (7 : Int32))), .val (.long v10_0), .second, .val (.ref b30), .unset, .unset, .unset, .unset] [(.long (own_last v4_0 v4_1 v10_0))])) _
    refine XS.lstore X32.here hx rfl (hb hby at_149) rfl (l' := #[.val (.long q0), .second, .val (.long q1), .second, .val (.long q2), .second, .val (.int p3), .val (.long v4_0), .second, .val (.long v4_1), .second, .val (.int (p3 &&& (7 : Int32))), .val (.long v10_0), .second, .val (.ref b30), .val (.long (own_last v4_0 v4_1 v10_0)), .second, .unset, .unset]) rfl ?_
    show Steps p.tables e below (T32.setTop (mkF m 151 #[.val (.long q0), .second, .val (.long q1), .second, .val (.long q2), .second, .val (.int p3), .val (.long v4_0), .second, .val (.long v4_1), .second, .val (.int (p3 &&& (7 : Int32))), .val (.long v10_0), .second, .val (.ref b30), .val (.long (own_last v4_0 v4_1 v10_0)), .second, .unset, .unset] [])) _
    refine X32.ldc2Long hx hown (mvT hZ (hw _ (List.mem_of_getElem? (i := 32) rfl))) (g := (mkF m 151 #[.val (.long q0), .second, .val (.long q1), .second, .val (.long q2), .second, .val (.int p3), .val (.long v4_0), .second, .val (.long v4_1), .second, .val (.int (p3 &&& (7 : Int32))), .val (.long v10_0), .second, .val (.ref b30), .val (.long (own_last v4_0 v4_1 v10_0)), .second, .unset, .unset] [])) rfl (hb hby at_151) _ ?_
    show Steps p.tables e below (T32.setTop (mkF m 154 #[.val (.long q0), .second, .val (.long q1), .second, .val (.long q2), .second, .val (.int p3), .val (.long v4_0), .second, .val (.long v4_1), .second, .val (.int (p3 &&& (7 : Int32))), .val (.long v10_0), .second, .val (.ref b30), .val (.long (own_last v4_0 v4_1 v10_0)), .second, .unset, .unset] [(.long (-9223372036854775808 : Int64))])) _
    refine XS.lstore X32.here hx rfl (hb hby at_154) rfl (l' := #[.val (.long q0), .second, .val (.long q1), .second, .val (.long q2), .second, .val (.int p3), .val (.long v4_0), .second, .val (.long v4_1), .second, .val (.int (p3 &&& (7 : Int32))), .val (.long v10_0), .second, .val (.ref b30), .val (.long (own_last v4_0 v4_1 v10_0)), .second, .val (.long (-9223372036854775808 : Int64)), .second]) rfl ?_
    show Steps p.tables e below (T32.setTop (mkF m 156 #[.val (.long q0), .second, .val (.long q1), .second, .val (.long q2), .second, .val (.int p3), .val (.long v4_0), .second, .val (.long v4_1), .second, .val (.int (p3 &&& (7 : Int32))), .val (.long v10_0), .second, .val (.ref b30), .val (.long (own_last v4_0 v4_1 v10_0)), .second, .val (.long (-9223372036854775808 : Int64)), .second] [])) _
    refine XS.lload X32.here hx rfl (hb hby at_156) rfl ?_
    show Steps p.tables e below (T32.setTop (mkF m 158 #[.val (.long q0), .second, .val (.long q1), .second, .val (.long q2), .second, .val (.int p3), .val (.long v4_0), .second, .val (.long v4_1), .second, .val (.int (p3 &&& (7 : Int32))), .val (.long v10_0), .second, .val (.ref b30), .val (.long (own_last v4_0 v4_1 v10_0)), .second, .val (.long (-9223372036854775808 : Int64)), .second] [(.long v4_0)])) _
    refine XS.lload X32.here hx rfl (hb hby at_158) rfl ?_
    show Steps p.tables e below (T32.setTop (mkF m 160 #[.val (.long q0), .second, .val (.long q1), .second, .val (.long q2), .second, .val (.int p3), .val (.long v4_0), .second, .val (.long v4_1), .second, .val (.int (p3 &&& (7 : Int32))), .val (.long v10_0), .second, .val (.ref b30), .val (.long (own_last v4_0 v4_1 v10_0)), .second, .val (.long (-9223372036854775808 : Int64)), .second] [(.long v10_0), (.long v4_0)])) _
    refine XS.lcmp X32.here hx rfl (hb hby at_160) rfl ?_
    exact k)
  by_cases hc161_34 : v10_0 < v4_0
  · have pre35 : ∀ t, Steps p.tables e below (T32.setTop (mkF m 173 #[.val (.long q0), .second, .val (.long q1), .second, .val (.long q2), .second, .val (.int p3), .val (.long v4_0), .second, .val (.long v4_1), .second, .val (.int (p3 &&& (7 : Int32))), .val (.long v10_0), .second, .val (.ref b30), .val (.long (own_last v4_0 v4_1 v10_0)), .second, .val (.long (-9223372036854775808 : Int64)), .second] [(.int (lcmpW v4_1 v10_0))])) t → Steps p.tables e below (s₁.setTop (entryFrame m #[(.long q0), (.long q1), (.long q2), (.int p3)] maxLocals)) t := fun t k => pre33 t (by
      show Steps p.tables e below (T32.setTop (mkF m 161 #[.val (.long q0), .second, .val (.long q1), .second, .val (.long q2), .second, .val (.int p3), .val (.long v4_0), .second, .val (.long v4_1), .second, .val (.int (p3 &&& (7 : Int32))), .val (.long v10_0), .second, .val (.ref b30), .val (.long (own_last v4_0 v4_1 v10_0)), .second, .val (.long (-9223372036854775808 : Int64)), .second] [(.int (lcmpW v4_0 v10_0))])) _
      refine XS.ifYes X32.here hx rfl (pc0 := 161) (pc' := 168) rfl (hb hby at_161) rfl ((if0 _ _).trans (tlt ((lw_gt _ _).mpr hc161_34)).2.2.1) (by decide) (by decide) ?_
      show Steps p.tables e below (T32.setTop (mkF m 168 #[.val (.long q0), .second, .val (.long q1), .second, .val (.long q2), .second, .val (.int p3), .val (.long v4_0), .second, .val (.long v4_1), .second, .val (.int (p3 &&& (7 : Int32))), .val (.long v10_0), .second, .val (.ref b30), .val (.long (own_last v4_0 v4_1 v10_0)), .second, .val (.long (-9223372036854775808 : Int64)), .second] [])) _
      refine XS.lload X32.here hx rfl (hb hby at_168) rfl ?_
      show Steps p.tables e below (T32.setTop (mkF m 170 #[.val (.long q0), .second, .val (.long q1), .second, .val (.long q2), .second, .val (.int p3), .val (.long v4_0), .second, .val (.long v4_1), .second, .val (.int (p3 &&& (7 : Int32))), .val (.long v10_0), .second, .val (.ref b30), .val (.long (own_last v4_0 v4_1 v10_0)), .second, .val (.long (-9223372036854775808 : Int64)), .second] [(.long v4_1)])) _
      refine XS.lload X32.here hx rfl (hb hby at_170) rfl ?_
      show Steps p.tables e below (T32.setTop (mkF m 172 #[.val (.long q0), .second, .val (.long q1), .second, .val (.long q2), .second, .val (.int p3), .val (.long v4_0), .second, .val (.long v4_1), .second, .val (.int (p3 &&& (7 : Int32))), .val (.long v10_0), .second, .val (.ref b30), .val (.long (own_last v4_0 v4_1 v10_0)), .second, .val (.long (-9223372036854775808 : Int64)), .second] [(.long v10_0), (.long v4_1)])) _
      refine XS.lcmp X32.here hx rfl (hb hby at_172) rfl ?_
      exact k)
    by_cases hc173_36 : v10_0 < v4_1
    · have pre37 : ∀ t, Steps p.tables e below (T32.setTop (mkF m 190 #[.val (.long q0), .second, .val (.long q1), .second, .val (.long q2), .second, .val (.int p3), .val (.long v4_0), .second, .val (.long v4_1), .second, .val (.int (p3 &&& (7 : Int32))), .val (.long v10_0), .second, .val (.ref b30), .val (.long (own_last v4_0 v4_1 v10_0)), .second, .val (.long (-9223372036854775808 : Int64)), .second] [(.int (lcmpW (own_last v4_0 v4_1 v10_0) (-9223372036854775808 : Int64)))])) t → Steps p.tables e below (s₁.setTop (entryFrame m #[(.long q0), (.long q1), (.long q2), (.int p3)] maxLocals)) t := fun t k => pre35 t (by
        show Steps p.tables e below (T32.setTop (mkF m 173 #[.val (.long q0), .second, .val (.long q1), .second, .val (.long q2), .second, .val (.int p3), .val (.long v4_0), .second, .val (.long v4_1), .second, .val (.int (p3 &&& (7 : Int32))), .val (.long v10_0), .second, .val (.ref b30), .val (.long (own_last v4_0 v4_1 v10_0)), .second, .val (.long (-9223372036854775808 : Int64)), .second] [(.int (lcmpW v4_1 v10_0))])) _
        refine XS.ifYes X32.here hx rfl (pc0 := 173) (pc' := 185) rfl (hb hby at_173) rfl ((if0 _ _).trans (tlt ((lw_gt _ _).mpr hc173_36)).2.2.1) (by decide) (by decide) ?_
        show Steps p.tables e below (T32.setTop (mkF m 185 #[.val (.long q0), .second, .val (.long q1), .second, .val (.long q2), .second, .val (.int p3), .val (.long v4_0), .second, .val (.long v4_1), .second, .val (.int (p3 &&& (7 : Int32))), .val (.long v10_0), .second, .val (.ref b30), .val (.long (own_last v4_0 v4_1 v10_0)), .second, .val (.long (-9223372036854775808 : Int64)), .second] [])) _
        refine XS.lload X32.here hx rfl (hb hby at_185) rfl ?_
        show Steps p.tables e below (T32.setTop (mkF m 187 #[.val (.long q0), .second, .val (.long q1), .second, .val (.long q2), .second, .val (.int p3), .val (.long v4_0), .second, .val (.long v4_1), .second, .val (.int (p3 &&& (7 : Int32))), .val (.long v10_0), .second, .val (.ref b30), .val (.long (own_last v4_0 v4_1 v10_0)), .second, .val (.long (-9223372036854775808 : Int64)), .second] [(.long (own_last v4_0 v4_1 v10_0))])) _
        refine XS.lload X32.here hx rfl (hb hby at_187) rfl ?_
        show Steps p.tables e below (T32.setTop (mkF m 189 #[.val (.long q0), .second, .val (.long q1), .second, .val (.long q2), .second, .val (.int p3), .val (.long v4_0), .second, .val (.long v4_1), .second, .val (.int (p3 &&& (7 : Int32))), .val (.long v10_0), .second, .val (.ref b30), .val (.long (own_last v4_0 v4_1 v10_0)), .second, .val (.long (-9223372036854775808 : Int64)), .second] [(.long (-9223372036854775808 : Int64)), (.long (own_last v4_0 v4_1 v10_0))])) _
        refine XS.lcmp X32.here hx rfl (hb hby at_189) rfl ?_
        exact k)
      by_cases hc190_38 : (own_last v4_0 v4_1 v10_0) = (-9223372036854775808 : Int64)
      · have pre39 : ∀ t, Steps p.tables e below (T32.setTop (mkF m 198 #[.val (.long q0), .second, .val (.long q1), .second, .val (.long q2), .second, .val (.int p3), .val (.long v4_0), .second, .val (.long v4_1), .second, .val (.int (p3 &&& (7 : Int32))), .val (.long v10_0), .second, .val (.ref b30), .val (.long (own_last v4_0 v4_1 v10_0)), .second, .val (.long (-9223372036854775808 : Int64)), .second] [(.int (1 : Int32))])) t → Steps p.tables e below (s₁.setTop (entryFrame m #[(.long q0), (.long q1), (.long q2), (.int p3)] maxLocals)) t := fun t k => pre37 t (by
          show Steps p.tables e below (T32.setTop (mkF m 190 #[.val (.long q0), .second, .val (.long q1), .second, .val (.long q2), .second, .val (.int p3), .val (.long v4_0), .second, .val (.long v4_1), .second, .val (.int (p3 &&& (7 : Int32))), .val (.long v10_0), .second, .val (.ref b30), .val (.long (own_last v4_0 v4_1 v10_0)), .second, .val (.long (-9223372036854775808 : Int64)), .second] [(.int (lcmpW (own_last v4_0 v4_1 v10_0) (-9223372036854775808 : Int64)))])) _
          refine XS.ifNo X32.here hx rfl (hb hby at_190) rfl ((if0 _ _).trans (teq ((lw_eq _ _).mpr hc190_38)).2) ?_
          show Steps p.tables e below (T32.setTop (mkF m 193 #[.val (.long q0), .second, .val (.long q1), .second, .val (.long q2), .second, .val (.int p3), .val (.long v4_0), .second, .val (.long v4_1), .second, .val (.int (p3 &&& (7 : Int32))), .val (.long v10_0), .second, .val (.ref b30), .val (.long (own_last v4_0 v4_1 v10_0)), .second, .val (.long (-9223372036854775808 : Int64)), .second] [])) _
          refine XS.iconst X32.here hx rfl (hb hby at_193) ?_
          show Steps p.tables e below (T32.setTop (mkF m 194 #[.val (.long q0), .second, .val (.long q1), .second, .val (.long q2), .second, .val (.int p3), .val (.long v4_0), .second, .val (.long v4_1), .second, .val (.int (p3 &&& (7 : Int32))), .val (.long v10_0), .second, .val (.ref b30), .val (.long (own_last v4_0 v4_1 v10_0)), .second, .val (.long (-9223372036854775808 : Int64)), .second] [(.int (1 : Int32))])) _
          refine XS.goto X32.here hx rfl (pc0 := 194) (pc' := 198) rfl (hb hby at_194) (by decide) (by decide) ?_
          exact k)
        obtain ⟨fs, hr, hrun, hended, hW, hsame⟩ := X32.leave (v := some (.int (1 : Int32))) (fun h => by rw [Bd.returns] at h; cases h)
        refine ⟨_, _, pre39 _ ?_, hrun, hended, _, _, rfl, ?_, ⟨_, rfl⟩, hW, hsame.mono (by decide) (by decide)⟩
        · exact retN X32 hx (t := .boolean) Bd.returns (by simp) (hb hby at_198) hr
        · show Q0 Z q0 q1 q2 p3 h0 n0 _ T32.heap _
          rw [hh32]
          exact ⟨rfl, N32⟩
      · have pre40 : ∀ t, Steps p.tables e below (T32.setTop (mkF m 198 #[.val (.long q0), .second, .val (.long q1), .second, .val (.long q2), .second, .val (.int p3), .val (.long v4_0), .second, .val (.long v4_1), .second, .val (.int (p3 &&& (7 : Int32))), .val (.long v10_0), .second, .val (.ref b30), .val (.long (own_last v4_0 v4_1 v10_0)), .second, .val (.long (-9223372036854775808 : Int64)), .second] [(.int (0 : Int32))])) t → Steps p.tables e below (s₁.setTop (entryFrame m #[(.long q0), (.long q1), (.long q2), (.int p3)] maxLocals)) t := fun t k => pre37 t (by
          show Steps p.tables e below (T32.setTop (mkF m 190 #[.val (.long q0), .second, .val (.long q1), .second, .val (.long q2), .second, .val (.int p3), .val (.long v4_0), .second, .val (.long v4_1), .second, .val (.int (p3 &&& (7 : Int32))), .val (.long v10_0), .second, .val (.ref b30), .val (.long (own_last v4_0 v4_1 v10_0)), .second, .val (.long (-9223372036854775808 : Int64)), .second] [(.int (lcmpW (own_last v4_0 v4_1 v10_0) (-9223372036854775808 : Int64)))])) _
          refine XS.ifYes X32.here hx rfl (pc0 := 190) (pc' := 197) rfl (hb hby at_190) rfl ((if0 _ _).trans (feq (fun q => hc190_38 ((lw_eq _ _).mp q))).2) (by decide) (by decide) ?_
          show Steps p.tables e below (T32.setTop (mkF m 197 #[.val (.long q0), .second, .val (.long q1), .second, .val (.long q2), .second, .val (.int p3), .val (.long v4_0), .second, .val (.long v4_1), .second, .val (.int (p3 &&& (7 : Int32))), .val (.long v10_0), .second, .val (.ref b30), .val (.long (own_last v4_0 v4_1 v10_0)), .second, .val (.long (-9223372036854775808 : Int64)), .second] [])) _
          refine XS.iconst X32.here hx rfl (hb hby at_197) ?_
          exact k)
        obtain ⟨fs, hr, hrun, hended, hW, hsame⟩ := X32.leave (v := some (.int (0 : Int32))) (fun h => by rw [Bd.returns] at h; cases h)
        refine ⟨_, _, pre40 _ ?_, hrun, hended, _, _, rfl, ?_, ⟨_, rfl⟩, hW, hsame.mono (by decide) (by decide)⟩
        · exact retN X32 hx (t := .boolean) Bd.returns (by simp) (hb hby at_198) hr
        · show Q0 Z q0 q1 q2 p3 h0 n0 _ T32.heap _
          rw [hh32]
          exfalso
          have q := own_fin v4_0 v4_1 v10_0 hv4
          simp only [own_max_toInt, ← Int64.toInt_inj, Int64.lt_iff_toInt_lt, Int64.reduceToInt] at q hv4 hc161_34 hc173_36 hc190_38
          have r0 := rng64 v4_0
          have r1 := rng64 v4_1
          omega
    · obtain ⟨_, _, ⟨T41, L41, k41, n41⟩, -, X41, ⟨Lc41, hQ41, l41, y41, z41⟩, st41⟩ := Jvm.LawKit.callS X32 hx (y := (⟨"java/lang/Math", "max", "(JJ)J"⟩ : MethodName)) hown (mvT hZ (hw _ (List.mem_of_getElem? (i := 4) rfl))) (mvT hZ (hw _ (List.mem_of_getElem? (i := 5) rfl))) (mvT hZ (hw _ (List.mem_of_getElem? (i := 2) rfl))) (mvT hZ (hw _ (List.mem_of_getElem? (i := 6) rfl))) (by decide) (backOf (W := 0) (rm2 l Z a0 hw [] (-9223372036854775808 : Int64) v4_1 T31.heap n0 (Nat.le_trans (Nat.le_trans Z0 E30.1) K31.1) ) hZ (hw _ (List.mem_of_getElem? (i := 6) rfl)) (hw _ (List.mem_of_getElem? (i := 2) rfl)) (by decide) (by decide)) (g := (mkF m 180 #[.val (.long q0), .second, .val (.long q1), .second, .val (.long q2), .second, .val (.int p3), .val (.long v4_0), .second, .val (.long v4_1), .second, .val (.int (p3 &&& (7 : Int32))), .val (.long v10_0), .second, .val (.ref b30), .val (.long (own_last v4_0 v4_1 v10_0)), .second, .val (.long (-9223372036854775808 : Int64)), .second] [(.long v4_1), (.long (-9223372036854775808 : Int64))])) rfl (by rw [hml]; rfl) (argsL := [(.long (-9223372036854775808 : Int64)), (.long v4_1)]) (rest := []) (lenOf pd_1 rfl) rfl (by show 2 * 0 + _ ≤ _; exact Nat.le_of_eq rfl) (hb hby at_180) (fun _ _ => ⟨rfl, hh32, (by decide : 1 + 0 ≤ _), (by decide : 3 + 0 ≤ _)⟩)
      dsimp only [Pt.U, Pt.locs, Pt.cells, Pt.slots] at X41 l41 y41 z41 st41 hQ41
      subst l41 y41 z41
      obtain ⟨rfl, N41q, hh41⟩ := hQ41
      have N41 := Fr.app N32 N41q
      have pre42 : ∀ t, Steps p.tables e below (T41.setTop (mkF m 190 #[.val (.long q0), .second, .val (.long q1), .second, .val (.long q2), .second, .val (.int p3), .val (.long v4_0), .second, .val (.long v4_1), .second, .val (.int (p3 &&& (7 : Int32))), .val (.long v10_0), .second, .val (.ref b30), .val (.long (own_last v4_0 v4_1 v10_0)), .second, .val (.long (own_max (-9223372036854775808 : Int64) v4_1)), .second] [(.int (lcmpW (own_last v4_0 v4_1 v10_0) (own_max (-9223372036854775808 : Int64) v4_1)))])) t → Steps p.tables e below (s₁.setTop (entryFrame m #[(.long q0), (.long q1), (.long q2), (.int p3)] maxLocals)) t := fun t k => pre35 t (by
        show Steps p.tables e below (T32.setTop (mkF m 173 #[.val (.long q0), .second, .val (.long q1), .second, .val (.long q2), .second, .val (.int p3), .val (.long v4_0), .second, .val (.long v4_1), .second, .val (.int (p3 &&& (7 : Int32))), .val (.long v10_0), .second, .val (.ref b30), .val (.long (own_last v4_0 v4_1 v10_0)), .second, .val (.long (-9223372036854775808 : Int64)), .second] [(.int (lcmpW v4_1 v10_0))])) _
        refine XS.ifNo X32.here hx rfl (hb hby at_173) rfl ((if0 _ _).trans (flt (fun q => hc173_36 ((lw_gt _ _).mp q))).2.2.1) ?_
        show Steps p.tables e below (T32.setTop (mkF m 176 #[.val (.long q0), .second, .val (.long q1), .second, .val (.long q2), .second, .val (.int p3), .val (.long v4_0), .second, .val (.long v4_1), .second, .val (.int (p3 &&& (7 : Int32))), .val (.long v10_0), .second, .val (.ref b30), .val (.long (own_last v4_0 v4_1 v10_0)), .second, .val (.long (-9223372036854775808 : Int64)), .second] [])) _
        refine XS.lload X32.here hx rfl (hb hby at_176) rfl ?_
        show Steps p.tables e below (T32.setTop (mkF m 178 #[.val (.long q0), .second, .val (.long q1), .second, .val (.long q2), .second, .val (.int p3), .val (.long v4_0), .second, .val (.long v4_1), .second, .val (.int (p3 &&& (7 : Int32))), .val (.long v10_0), .second, .val (.ref b30), .val (.long (own_last v4_0 v4_1 v10_0)), .second, .val (.long (-9223372036854775808 : Int64)), .second] [(.long (-9223372036854775808 : Int64))])) _
        refine XS.lload X32.here hx rfl (hb hby at_178) rfl ?_
        show Steps p.tables e below (T32.setTop (mkF m 180 #[.val (.long q0), .second, .val (.long q1), .second, .val (.long q2), .second, .val (.int p3), .val (.long v4_0), .second, .val (.long v4_1), .second, .val (.int (p3 &&& (7 : Int32))), .val (.long v10_0), .second, .val (.ref b30), .val (.long (own_last v4_0 v4_1 v10_0)), .second, .val (.long (-9223372036854775808 : Int64)), .second] [(.long v4_1), (.long (-9223372036854775808 : Int64))])) _
        refine st41 _ ?_
        show Steps p.tables e below (T41.setTop (mkF m 183 #[.val (.long q0), .second, .val (.long q1), .second, .val (.long q2), .second, .val (.int p3), .val (.long v4_0), .second, .val (.long v4_1), .second, .val (.int (p3 &&& (7 : Int32))), .val (.long v10_0), .second, .val (.ref b30), .val (.long (own_last v4_0 v4_1 v10_0)), .second, .val (.long (-9223372036854775808 : Int64)), .second] [(.long (own_max (-9223372036854775808 : Int64) v4_1))])) _
        refine XS.lstore X41.here hx rfl (hb hby at_183) rfl (l' := #[.val (.long q0), .second, .val (.long q1), .second, .val (.long q2), .second, .val (.int p3), .val (.long v4_0), .second, .val (.long v4_1), .second, .val (.int (p3 &&& (7 : Int32))), .val (.long v10_0), .second, .val (.ref b30), .val (.long (own_last v4_0 v4_1 v10_0)), .second, .val (.long (own_max (-9223372036854775808 : Int64) v4_1)), .second]) rfl ?_
        show Steps p.tables e below (T41.setTop (mkF m 185 #[.val (.long q0), .second, .val (.long q1), .second, .val (.long q2), .second, .val (.int p3), .val (.long v4_0), .second, .val (.long v4_1), .second, .val (.int (p3 &&& (7 : Int32))), .val (.long v10_0), .second, .val (.ref b30), .val (.long (own_last v4_0 v4_1 v10_0)), .second, .val (.long (own_max (-9223372036854775808 : Int64) v4_1)), .second] [])) _
        refine XS.lload X41.here hx rfl (hb hby at_185) rfl ?_
        show Steps p.tables e below (T41.setTop (mkF m 187 #[.val (.long q0), .second, .val (.long q1), .second, .val (.long q2), .second, .val (.int p3), .val (.long v4_0), .second, .val (.long v4_1), .second, .val (.int (p3 &&& (7 : Int32))), .val (.long v10_0), .second, .val (.ref b30), .val (.long (own_last v4_0 v4_1 v10_0)), .second, .val (.long (own_max (-9223372036854775808 : Int64) v4_1)), .second] [(.long (own_last v4_0 v4_1 v10_0))])) _
        refine XS.lload X41.here hx rfl (hb hby at_187) rfl ?_
        show Steps p.tables e below (T41.setTop (mkF m 189 #[.val (.long q0), .second, .val (.long q1), .second, .val (.long q2), .second, .val (.int p3), .val (.long v4_0), .second, .val (.long v4_1), .second, .val (.int (p3 &&& (7 : Int32))), .val (.long v10_0), .second, .val (.ref b30), .val (.long (own_last v4_0 v4_1 v10_0)), .second, .val (.long (own_max (-9223372036854775808 : Int64) v4_1)), .second] [(.long (own_max (-9223372036854775808 : Int64) v4_1)), (.long (own_last v4_0 v4_1 v10_0))])) _
        refine XS.lcmp X41.here hx rfl (hb hby at_189) rfl ?_
        exact k)
      by_cases hc190_43 : (own_last v4_0 v4_1 v10_0) = (own_max (-9223372036854775808 : Int64) v4_1)
      · have pre44 : ∀ t, Steps p.tables e below (T41.setTop (mkF m 198 #[.val (.long q0), .second, .val (.long q1), .second, .val (.long q2), .second, .val (.int p3), .val (.long v4_0), .second, .val (.long v4_1), .second, .val (.int (p3 &&& (7 : Int32))), .val (.long v10_0), .second, .val (.ref b30), .val (.long (own_last v4_0 v4_1 v10_0)), .second, .val (.long (own_max (-9223372036854775808 : Int64) v4_1)), .second] [(.int (1 : Int32))])) t → Steps p.tables e below (s₁.setTop (entryFrame m #[(.long q0), (.long q1), (.long q2), (.int p3)] maxLocals)) t := fun t k => pre42 t (by
          show Steps p.tables e below (T41.setTop (mkF m 190 #[.val (.long q0), .second, .val (.long q1), .second, .val (.long q2), .second, .val (.int p3), .val (.long v4_0), .second, .val (.long v4_1), .second, .val (.int (p3 &&& (7 : Int32))), .val (.long v10_0), .second, .val (.ref b30), .val (.long (own_last v4_0 v4_1 v10_0)), .second, .val (.long (own_max (-9223372036854775808 : Int64) v4_1)), .second] [(.int (lcmpW (own_last v4_0 v4_1 v10_0) (own_max (-9223372036854775808 : Int64) v4_1)))])) _
          refine XS.ifNo X41.here hx rfl (hb hby at_190) rfl ((if0 _ _).trans (teq ((lw_eq _ _).mpr hc190_43)).2) ?_
          show Steps p.tables e below (T41.setTop (mkF m 193 #[.val (.long q0), .second, .val (.long q1), .second, .val (.long q2), .second, .val (.int p3), .val (.long v4_0), .second, .val (.long v4_1), .second, .val (.int (p3 &&& (7 : Int32))), .val (.long v10_0), .second, .val (.ref b30), .val (.long (own_last v4_0 v4_1 v10_0)), .second, .val (.long (own_max (-9223372036854775808 : Int64) v4_1)), .second] [])) _
          refine XS.iconst X41.here hx rfl (hb hby at_193) ?_
          show Steps p.tables e below (T41.setTop (mkF m 194 #[.val (.long q0), .second, .val (.long q1), .second, .val (.long q2), .second, .val (.int p3), .val (.long v4_0), .second, .val (.long v4_1), .second, .val (.int (p3 &&& (7 : Int32))), .val (.long v10_0), .second, .val (.ref b30), .val (.long (own_last v4_0 v4_1 v10_0)), .second, .val (.long (own_max (-9223372036854775808 : Int64) v4_1)), .second] [(.int (1 : Int32))])) _
          refine XS.goto X41.here hx rfl (pc0 := 194) (pc' := 198) rfl (hb hby at_194) (by decide) (by decide) ?_
          exact k)
        obtain ⟨fs, hr, hrun, hended, hW, hsame⟩ := X41.leave (v := some (.int (1 : Int32))) (fun h => by rw [Bd.returns] at h; cases h)
        refine ⟨_, _, pre44 _ ?_, hrun, hended, _, _, rfl, ?_, ⟨_, rfl⟩, hW, hsame.mono (by decide) (by decide)⟩
        · exact retN X41 hx (t := .boolean) Bd.returns (by simp) (hb hby at_198) hr
        · show Q0 Z q0 q1 q2 p3 h0 n0 _ T41.heap _
          rw [hh41]
          exact ⟨rfl, N41⟩
      · have pre45 : ∀ t, Steps p.tables e below (T41.setTop (mkF m 198 #[.val (.long q0), .second, .val (.long q1), .second, .val (.long q2), .second, .val (.int p3), .val (.long v4_0), .second, .val (.long v4_1), .second, .val (.int (p3 &&& (7 : Int32))), .val (.long v10_0), .second, .val (.ref b30), .val (.long (own_last v4_0 v4_1 v10_0)), .second, .val (.long (own_max (-9223372036854775808 : Int64) v4_1)), .second] [(.int (0 : Int32))])) t → Steps p.tables e below (s₁.setTop (entryFrame m #[(.long q0), (.long q1), (.long q2), (.int p3)] maxLocals)) t := fun t k => pre42 t (by
          show Steps p.tables e below (T41.setTop (mkF m 190 #[.val (.long q0), .second, .val (.long q1), .second, .val (.long q2), .second, .val (.int p3), .val (.long v4_0), .second, .val (.long v4_1), .second, .val (.int (p3 &&& (7 : Int32))), .val (.long v10_0), .second, .val (.ref b30), .val (.long (own_last v4_0 v4_1 v10_0)), .second, .val (.long (own_max (-9223372036854775808 : Int64) v4_1)), .second] [(.int (lcmpW (own_last v4_0 v4_1 v10_0) (own_max (-9223372036854775808 : Int64) v4_1)))])) _
          refine XS.ifYes X41.here hx rfl (pc0 := 190) (pc' := 197) rfl (hb hby at_190) rfl ((if0 _ _).trans (feq (fun q => hc190_43 ((lw_eq _ _).mp q))).2) (by decide) (by decide) ?_
          show Steps p.tables e below (T41.setTop (mkF m 197 #[.val (.long q0), .second, .val (.long q1), .second, .val (.long q2), .second, .val (.int p3), .val (.long v4_0), .second, .val (.long v4_1), .second, .val (.int (p3 &&& (7 : Int32))), .val (.long v10_0), .second, .val (.ref b30), .val (.long (own_last v4_0 v4_1 v10_0)), .second, .val (.long (own_max (-9223372036854775808 : Int64) v4_1)), .second] [])) _
          refine XS.iconst X41.here hx rfl (hb hby at_197) ?_
          exact k)
        obtain ⟨fs, hr, hrun, hended, hW, hsame⟩ := X41.leave (v := some (.int (0 : Int32))) (fun h => by rw [Bd.returns] at h; cases h)
        refine ⟨_, _, pre45 _ ?_, hrun, hended, _, _, rfl, ?_, ⟨_, rfl⟩, hW, hsame.mono (by decide) (by decide)⟩
        · exact retN X41 hx (t := .boolean) Bd.returns (by simp) (hb hby at_198) hr
        · show Q0 Z q0 q1 q2 p3 h0 n0 _ T41.heap _
          rw [hh41]
          exfalso
          have q := own_fin v4_0 v4_1 v10_0 hv4
          simp only [own_max_toInt, ← Int64.toInt_inj, Int64.lt_iff_toInt_lt, Int64.reduceToInt] at q hv4 hc161_34 hc173_36 hc190_43
          have r0 := rng64 v4_0
          have r1 := rng64 v4_1
          omega
  · have pre46 : ∀ t, Steps p.tables e below (T32.setTop (mkF m 173 #[.val (.long q0), .second, .val (.long q1), .second, .val (.long q2), .second, .val (.int p3), .val (.long v4_0), .second, .val (.long v4_1), .second, .val (.int (p3 &&& (7 : Int32))), .val (.long v10_0), .second, .val (.ref b30), .val (.long (own_last v4_0 v4_1 v10_0)), .second, .val (.long v4_0), .second] [(.int (lcmpW v4_1 v10_0))])) t → Steps p.tables e below (s₁.setTop (entryFrame m #[(.long q0), (.long q1), (.long q2), (.int p3)] maxLocals)) t := fun t k => pre33 t (by
      show Steps p.tables e below (T32.setTop (mkF m 161 #[.val (.long q0), .second, .val (.long q1), .second, .val (.long q2), .second, .val (.int p3), .val (.long v4_0), .second, .val (.long v4_1), .second, .val (.int (p3 &&& (7 : Int32))), .val (.long v10_0), .second, .val (.ref b30), .val (.long (own_last v4_0 v4_1 v10_0)), .second, .val (.long (-9223372036854775808 : Int64)), .second] [(.int (lcmpW v4_0 v10_0))])) _
      refine XS.ifNo X32.here hx rfl (hb hby at_161) rfl ((if0 _ _).trans (flt (fun q => hc161_34 ((lw_gt _ _).mp q))).2.2.1) ?_
      show Steps p.tables e below (T32.setTop (mkF m 164 #[.val (.long q0), .second, .val (.long q1), .second, .val (.long q2), .second, .val (.int p3), .val (.long v4_0), .second, .val (.long v4_1), .second, .val (.int (p3 &&& (7 : Int32))), .val (.long v10_0), .second, .val (.ref b30), .val (.long (own_last v4_0 v4_1 v10_0)), .second, .val (.long (-9223372036854775808 : Int64)), .second] [])) _
      refine XS.lload X32.here hx rfl (hb hby at_164) rfl ?_
      show Steps p.tables e below (T32.setTop (mkF m 166 #[.val (.long q0), .second, .val (.long q1), .second, .val (.long q2), .second, .val (.int p3), .val (.long v4_0), .second, .val (.long v4_1), .second, .val (.int (p3 &&& (7 : Int32))), .val (.long v10_0), .second, .val (.ref b30), .val (.long (own_last v4_0 v4_1 v10_0)), .second, .val (.long (-9223372036854775808 : Int64)), .second] [(.long v4_0)])) _
      refine XS.lstore X32.here hx rfl (hb hby at_166) rfl (l' := #[.val (.long q0), .second, .val (.long q1), .second, .val (.long q2), .second, .val (.int p3), .val (.long v4_0), .second, .val (.long v4_1), .second, .val (.int (p3 &&& (7 : Int32))), .val (.long v10_0), .second, .val (.ref b30), .val (.long (own_last v4_0 v4_1 v10_0)), .second, .val (.long v4_0), .second]) rfl ?_
      show Steps p.tables e below (T32.setTop (mkF m 168 #[.val (.long q0), .second, .val (.long q1), .second, .val (.long q2), .second, .val (.int p3), .val (.long v4_0), .second, .val (.long v4_1), .second, .val (.int (p3 &&& (7 : Int32))), .val (.long v10_0), .second, .val (.ref b30), .val (.long (own_last v4_0 v4_1 v10_0)), .second, .val (.long v4_0), .second] [])) _
      refine XS.lload X32.here hx rfl (hb hby at_168) rfl ?_
      show Steps p.tables e below (T32.setTop (mkF m 170 #[.val (.long q0), .second, .val (.long q1), .second, .val (.long q2), .second, .val (.int p3), .val (.long v4_0), .second, .val (.long v4_1), .second, .val (.int (p3 &&& (7 : Int32))), .val (.long v10_0), .second, .val (.ref b30), .val (.long (own_last v4_0 v4_1 v10_0)), .second, .val (.long v4_0), .second] [(.long v4_1)])) _
      refine XS.lload X32.here hx rfl (hb hby at_170) rfl ?_
      show Steps p.tables e below (T32.setTop (mkF m 172 #[.val (.long q0), .second, .val (.long q1), .second, .val (.long q2), .second, .val (.int p3), .val (.long v4_0), .second, .val (.long v4_1), .second, .val (.int (p3 &&& (7 : Int32))), .val (.long v10_0), .second, .val (.ref b30), .val (.long (own_last v4_0 v4_1 v10_0)), .second, .val (.long v4_0), .second] [(.long v10_0), (.long v4_1)])) _
      refine XS.lcmp X32.here hx rfl (hb hby at_172) rfl ?_
      exact k)
    by_cases hc173_47 : v10_0 < v4_1
    · have pre48 : ∀ t, Steps p.tables e below (T32.setTop (mkF m 190 #[.val (.long q0), .second, .val (.long q1), .second, .val (.long q2), .second, .val (.int p3), .val (.long v4_0), .second, .val (.long v4_1), .second, .val (.int (p3 &&& (7 : Int32))), .val (.long v10_0), .second, .val (.ref b30), .val (.long (own_last v4_0 v4_1 v10_0)), .second, .val (.long v4_0), .second] [(.int (lcmpW (own_last v4_0 v4_1 v10_0) v4_0))])) t → Steps p.tables e below (s₁.setTop (entryFrame m #[(.long q0), (.long q1), (.long q2), (.int p3)] maxLocals)) t := fun t k => pre46 t (by
        show Steps p.tables e below (T32.setTop (mkF m 173 #[.val (.long q0), .second, .val (.long q1), .second, .val (.long q2), .second, .val (.int p3), .val (.long v4_0), .second, .val (.long v4_1), .second, .val (.int (p3 &&& (7 : Int32))), .val (.long v10_0), .second, .val (.ref b30), .val (.long (own_last v4_0 v4_1 v10_0)), .second, .val (.long v4_0), .second] [(.int (lcmpW v4_1 v10_0))])) _
        refine XS.ifYes X32.here hx rfl (pc0 := 173) (pc' := 185) rfl (hb hby at_173) rfl ((if0 _ _).trans (tlt ((lw_gt _ _).mpr hc173_47)).2.2.1) (by decide) (by decide) ?_
        show Steps p.tables e below (T32.setTop (mkF m 185 #[.val (.long q0), .second, .val (.long q1), .second, .val (.long q2), .second, .val (.int p3), .val (.long v4_0), .second, .val (.long v4_1), .second, .val (.int (p3 &&& (7 : Int32))), .val (.long v10_0), .second, .val (.ref b30), .val (.long (own_last v4_0 v4_1 v10_0)), .second, .val (.long v4_0), .second] [])) _
        refine XS.lload X32.here hx rfl (hb hby at_185) rfl ?_
        show Steps p.tables e below (T32.setTop (mkF m 187 #[.val (.long q0), .second, .val (.long q1), .second, .val (.long q2), .second, .val (.int p3), .val (.long v4_0), .second, .val (.long v4_1), .second, .val (.int (p3 &&& (7 : Int32))), .val (.long v10_0), .second, .val (.ref b30), .val (.long (own_last v4_0 v4_1 v10_0)), .second, .val (.long v4_0), .second] [(.long (own_last v4_0 v4_1 v10_0))])) _
        refine XS.lload X32.here hx rfl (hb hby at_187) rfl ?_
        show Steps p.tables e below (T32.setTop (mkF m 189 #[.val (.long q0), .second, .val (.long q1), .second, .val (.long q2), .second, .val (.int p3), .val (.long v4_0), .second, .val (.long v4_1), .second, .val (.int (p3 &&& (7 : Int32))), .val (.long v10_0), .second, .val (.ref b30), .val (.long (own_last v4_0 v4_1 v10_0)), .second, .val (.long v4_0), .second] [(.long v4_0), (.long (own_last v4_0 v4_1 v10_0))])) _
        refine XS.lcmp X32.here hx rfl (hb hby at_189) rfl ?_
        exact k)
      by_cases hc190_49 : (own_last v4_0 v4_1 v10_0) = v4_0
      · have pre50 : ∀ t, Steps p.tables e below (T32.setTop (mkF m 198 #[.val (.long q0), .second, .val (.long q1), .second, .val (.long q2), .second, .val (.int p3), .val (.long v4_0), .second, .val (.long v4_1), .second, .val (.int (p3 &&& (7 : Int32))), .val (.long v10_0), .second, .val (.ref b30), .val (.long (own_last v4_0 v4_1 v10_0)), .second, .val (.long v4_0), .second] [(.int (1 : Int32))])) t → Steps p.tables e below (s₁.setTop (entryFrame m #[(.long q0), (.long q1), (.long q2), (.int p3)] maxLocals)) t := fun t k => pre48 t (by
          show Steps p.tables e below (T32.setTop (mkF m 190 #[.val (.long q0), .second, .val (.long q1), .second, .val (.long q2), .second, .val (.int p3), .val (.long v4_0), .second, .val (.long v4_1), .second, .val (.int (p3 &&& (7 : Int32))), .val (.long v10_0), .second, .val (.ref b30), .val (.long (own_last v4_0 v4_1 v10_0)), .second, .val (.long v4_0), .second] [(.int (lcmpW (own_last v4_0 v4_1 v10_0) v4_0))])) _
          refine XS.ifNo X32.here hx rfl (hb hby at_190) rfl ((if0 _ _).trans (teq ((lw_eq _ _).mpr hc190_49)).2) ?_
          show Steps p.tables e below (T32.setTop (mkF m 193 #[.val (.long q0), .second, .val (.long q1), .second, .val (.long q2), .second, .val (.int p3), .val (.long v4_0), .second, .val (.long v4_1), .second, .val (.int (p3 &&& (7 : Int32))), .val (.long v10_0), .second, .val (.ref b30), .val (.long (own_last v4_0 v4_1 v10_0)), .second, .val (.long v4_0), .second] [])) _
          refine XS.iconst X32.here hx rfl (hb hby at_193) ?_
          show Steps p.tables e below (T32.setTop (mkF m 194 #[.val (.long q0), .second, .val (.long q1), .second, .val (.long q2), .second, .val (.int p3), .val (.long v4_0), .second, .val (.long v4_1), .second, .val (.int (p3 &&& (7 : Int32))), .val (.long v10_0), .second, .val (.ref b30), .val (.long (own_last v4_0 v4_1 v10_0)), .second, .val (.long v4_0), .second] [(.int (1 : Int32))])) _
          refine XS.goto X32.here hx rfl (pc0 := 194) (pc' := 198) rfl (hb hby at_194) (by decide) (by decide) ?_
          exact k)
        obtain ⟨fs, hr, hrun, hended, hW, hsame⟩ := X32.leave (v := some (.int (1 : Int32))) (fun h => by rw [Bd.returns] at h; cases h)
        refine ⟨_, _, pre50 _ ?_, hrun, hended, _, _, rfl, ?_, ⟨_, rfl⟩, hW, hsame.mono (by decide) (by decide)⟩
        · exact retN X32 hx (t := .boolean) Bd.returns (by simp) (hb hby at_198) hr
        · show Q0 Z q0 q1 q2 p3 h0 n0 _ T32.heap _
          rw [hh32]
          exact ⟨rfl, N32⟩
      · have pre51 : ∀ t, Steps p.tables e below (T32.setTop (mkF m 198 #[.val (.long q0), .second, .val (.long q1), .second, .val (.long q2), .second, .val (.int p3), .val (.long v4_0), .second, .val (.long v4_1), .second, .val (.int (p3 &&& (7 : Int32))), .val (.long v10_0), .second, .val (.ref b30), .val (.long (own_last v4_0 v4_1 v10_0)), .second, .val (.long v4_0), .second] [(.int (0 : Int32))])) t → Steps p.tables e below (s₁.setTop (entryFrame m #[(.long q0), (.long q1), (.long q2), (.int p3)] maxLocals)) t := fun t k => pre48 t (by
          show Steps p.tables e below (T32.setTop (mkF m 190 #[.val (.long q0), .second, .val (.long q1), .second, .val (.long q2), .second, .val (.int p3), .val (.long v4_0), .second, .val (.long v4_1), .second, .val (.int (p3 &&& (7 : Int32))), .val (.long v10_0), .second, .val (.ref b30), .val (.long (own_last v4_0 v4_1 v10_0)), .second, .val (.long v4_0), .second] [(.int (lcmpW (own_last v4_0 v4_1 v10_0) v4_0))])) _
          refine XS.ifYes X32.here hx rfl (pc0 := 190) (pc' := 197) rfl (hb hby at_190) rfl ((if0 _ _).trans (feq (fun q => hc190_49 ((lw_eq _ _).mp q))).2) (by decide) (by decide) ?_
          show Steps p.tables e below (T32.setTop (mkF m 197 #[.val (.long q0), .second, .val (.long q1), .second, .val (.long q2), .second, .val (.int p3), .val (.long v4_0), .second, .val (.long v4_1), .second, .val (.int (p3 &&& (7 : Int32))), .val (.long v10_0), .second, .val (.ref b30), .val (.long (own_last v4_0 v4_1 v10_0)), .second, .val (.long v4_0), .second] [])) _
          refine XS.iconst X32.here hx rfl (hb hby at_197) ?_
          exact k)
        obtain ⟨fs, hr, hrun, hended, hW, hsame⟩ := X32.leave (v := some (.int (0 : Int32))) (fun h => by rw [Bd.returns] at h; cases h)
        refine ⟨_, _, pre51 _ ?_, hrun, hended, _, _, rfl, ?_, ⟨_, rfl⟩, hW, hsame.mono (by decide) (by decide)⟩
        · exact retN X32 hx (t := .boolean) Bd.returns (by simp) (hb hby at_198) hr
        · show Q0 Z q0 q1 q2 p3 h0 n0 _ T32.heap _
          rw [hh32]
          exfalso
          have q := own_fin v4_0 v4_1 v10_0 hv4
          simp only [own_max_toInt, ← Int64.toInt_inj, Int64.lt_iff_toInt_lt, Int64.reduceToInt] at q hv4 hc161_34 hc173_47 hc190_49
          have r0 := rng64 v4_0
          have r1 := rng64 v4_1
          omega
    · obtain ⟨_, _, ⟨T52, L52, k52, n52⟩, -, X52, ⟨Lc52, hQ52, l52, y52, z52⟩, st52⟩ := Jvm.LawKit.callS X32 hx (y := (⟨"java/lang/Math", "max", "(JJ)J"⟩ : MethodName)) hown (mvT hZ (hw _ (List.mem_of_getElem? (i := 4) rfl))) (mvT hZ (hw _ (List.mem_of_getElem? (i := 5) rfl))) (mvT hZ (hw _ (List.mem_of_getElem? (i := 2) rfl))) (mvT hZ (hw _ (List.mem_of_getElem? (i := 6) rfl))) (by decide) (backOf (W := 0) (rm2 l Z a0 hw [] v4_0 v4_1 T31.heap n0 (Nat.le_trans (Nat.le_trans Z0 E30.1) K31.1) ) hZ (hw _ (List.mem_of_getElem? (i := 6) rfl)) (hw _ (List.mem_of_getElem? (i := 2) rfl)) (by decide) (by decide)) (g := (mkF m 180 #[.val (.long q0), .second, .val (.long q1), .second, .val (.long q2), .second, .val (.int p3), .val (.long v4_0), .second, .val (.long v4_1), .second, .val (.int (p3 &&& (7 : Int32))), .val (.long v10_0), .second, .val (.ref b30), .val (.long (own_last v4_0 v4_1 v10_0)), .second, .val (.long v4_0), .second] [(.long v4_1), (.long v4_0)])) rfl (by rw [hml]; rfl) (argsL := [(.long v4_0), (.long v4_1)]) (rest := []) (lenOf pd_1 rfl) rfl (by show 2 * 0 + _ ≤ _; exact Nat.le_of_eq rfl) (hb hby at_180) (fun _ _ => ⟨rfl, hh32, (by decide : 1 + 0 ≤ _), (by decide : 3 + 0 ≤ _)⟩)
      dsimp only [Pt.U, Pt.locs, Pt.cells, Pt.slots] at X52 l52 y52 z52 st52 hQ52
      subst l52 y52 z52
      obtain ⟨rfl, N52q, hh52⟩ := hQ52
      have N52 := Fr.app N32 N52q
      have pre53 : ∀ t, Steps p.tables e below (T52.setTop (mkF m 190 #[.val (.long q0), .second, .val (.long q1), .second, .val (.long q2), .second, .val (.int p3), .val (.long v4_0), .second, .val (.long v4_1), .second, .val (.int (p3 &&& (7 : Int32))), .val (.long v10_0), .second, .val (.ref b30), .val (.long (own_last v4_0 v4_1 v10_0)), .second, .val (.long (own_max v4_0 v4_1)), .second] [(.int (lcmpW (own_last v4_0 v4_1 v10_0) (own_max v4_0 v4_1)))])) t → Steps p.tables e below (s₁.setTop (entryFrame m #[(.long q0), (.long q1), (.long q2), (.int p3)] maxLocals)) t := fun t k => pre46 t (by
        show Steps p.tables e below (T32.setTop (mkF m 173 #[.val (.long q0), .second, .val (.long q1), .second, .val (.long q2), .second, .val (.int p3), .val (.long v4_0), .second, .val (.long v4_1), .second, .val (.int (p3 &&& (7 : Int32))), .val (.long v10_0), .second, .val (.ref b30), .val (.long (own_last v4_0 v4_1 v10_0)), .second, .val (.long v4_0), .second] [(.int (lcmpW v4_1 v10_0))])) _
        refine XS.ifNo X32.here hx rfl (hb hby at_173) rfl ((if0 _ _).trans (flt (fun q => hc173_47 ((lw_gt _ _).mp q))).2.2.1) ?_
        show Steps p.tables e below (T32.setTop (mkF m 176 #[.val (.long q0), .second, .val (.long q1), .second, .val (.long q2), .second, .val (.int p3), .val (.long v4_0), .second, .val (.long v4_1), .second, .val (.int (p3 &&& (7 : Int32))), .val (.long v10_0), .second, .val (.ref b30), .val (.long (own_last v4_0 v4_1 v10_0)), .second, .val (.long v4_0), .second] [])) _
        refine XS.lload X32.here hx rfl (hb hby at_176) rfl ?_
        show Steps p.tables e below (T32.setTop (mkF m 178 #[.val (.long q0), .second, .val (.long q1), .second, .val (.long q2), .second, .val (.int p3), .val (.long v4_0), .second, .val (.long v4_1), .second, .val (.int (p3 &&& (7 : Int32))), .val (.long v10_0), .second, .val (.ref b30), .val (.long (own_last v4_0 v4_1 v10_0)), .second, .val (.long v4_0), .second] [(.long v4_0)])) _
        refine XS.lload X32.here hx rfl (hb hby at_178) rfl ?_
        show Steps p.tables e below (T32.setTop (mkF m 180 #[.val (.long q0), .second, .val (.long q1), .second, .val (.long q2), .second, .val (.int p3), .val (.long v4_0), .second, .val (.long v4_1), .second, .val (.int (p3 &&& (7 : Int32))), .val (.long v10_0), .second, .val (.ref b30), .val (.long (own_last v4_0 v4_1 v10_0)), .second, .val (.long v4_0), .second] [(.long v4_1), (.long v4_0)])) _
        refine st52 _ ?_
        show Steps p.tables e below (T52.setTop (mkF m 183 #[.val (.long q0), .second, .val (.long q1), .second, .val (.long q2), .second, .val (.int p3), .val (.long v4_0), .second, .val (.long v4_1), .second, .val (.int (p3 &&& (7 : Int32))), .val (.long v10_0), .second, .val (.ref b30), .val (.long (own_last v4_0 v4_1 v10_0)), .second, .val (.long v4_0), .second] [(.long (own_max v4_0 v4_1))])) _
        refine XS.lstore X52.here hx rfl (hb hby at_183) rfl (l' := #[.val (.long q0), .second, .val (.long q1), .second, .val (.long q2), .second, .val (.int p3), .val (.long v4_0), .second, .val (.long v4_1), .second, .val (.int (p3 &&& (7 : Int32))), .val (.long v10_0), .second, .val (.ref b30), .val (.long (own_last v4_0 v4_1 v10_0)), .second, .val (.long (own_max v4_0 v4_1)), .second]) rfl ?_
        show Steps p.tables e below (T52.setTop (mkF m 185 #[.val (.long q0), .second, .val (.long q1), .second, .val (.long q2), .second, .val (.int p3), .val (.long v4_0), .second, .val (.long v4_1), .second, .val (.int (p3 &&& (7 : Int32))), .val (.long v10_0), .second, .val (.ref b30), .val (.long (own_last v4_0 v4_1 v10_0)), .second, .val (.long (own_max v4_0 v4_1)), .second] [])) _
        refine XS.lload X52.here hx rfl (hb hby at_185) rfl ?_
        show Steps p.tables e below (T52.setTop (mkF m 187 #[.val (.long q0), .second, .val (.long q1), .second, .val (.long q2), .second, .val (.int p3), .val (.long v4_0), .second, .val (.long v4_1), .second, .val (.int (p3 &&& (7 : Int32))), .val (.long v10_0), .second, .val (.ref b30), .val (.long (own_last v4_0 v4_1 v10_0)), .second, .val (.long (own_max v4_0 v4_1)), .second] [(.long (own_last v4_0 v4_1 v10_0))])) _
        refine XS.lload X52.here hx rfl (hb hby at_187) rfl ?_
        show Steps p.tables e below (T52.setTop (mkF m 189 #[.val (.long q0), .second, .val (.long q1), .second, .val (.long q2), .second, .val (.int p3), .val (.long v4_0), .second, .val (.long v4_1), .second, .val (.int (p3 &&& (7 : Int32))), .val (.long v10_0), .second, .val (.ref b30), .val (.long (own_last v4_0 v4_1 v10_0)), .second, .val (.long (own_max v4_0 v4_1)), .second] [(.long (own_max v4_0 v4_1)), (.long (own_last v4_0 v4_1 v10_0))])) _
        refine XS.lcmp X52.here hx rfl (hb hby at_189) rfl ?_
        exact k)
      by_cases hc190_54 : (own_last v4_0 v4_1 v10_0) = (own_max v4_0 v4_1)
      · have pre55 : ∀ t, Steps p.tables e below (T52.setTop (mkF m 198 #[.val (.long q0), .second, .val (.long q1), .second, .val (.long q2), .second, .val (.int p3), .val (.long v4_0), .second, .val (.long v4_1), .second, .val (.int (p3 &&& (7 : Int32))), .val (.long v10_0), .second, .val (.ref b30), .val (.long (own_last v4_0 v4_1 v10_0)), .second, .val (.long (own_max v4_0 v4_1)), .second] [(.int (1 : Int32))])) t → Steps p.tables e below (s₁.setTop (entryFrame m #[(.long q0), (.long q1), (.long q2), (.int p3)] maxLocals)) t := fun t k => pre53 t (by
          show Steps p.tables e below (T52.setTop (mkF m 190 #[.val (.long q0), .second, .val (.long q1), .second, .val (.long q2), .second, .val (.int p3), .val (.long v4_0), .second, .val (.long v4_1), .second, .val (.int (p3 &&& (7 : Int32))), .val (.long v10_0), .second, .val (.ref b30), .val (.long (own_last v4_0 v4_1 v10_0)), .second, .val (.long (own_max v4_0 v4_1)), .second] [(.int (lcmpW (own_last v4_0 v4_1 v10_0) (own_max v4_0 v4_1)))])) _
          refine XS.ifNo X52.here hx rfl (hb hby at_190) rfl ((if0 _ _).trans (teq ((lw_eq _ _).mpr hc190_54)).2) ?_
          show Steps p.tables e below (T52.setTop (mkF m 193 #[.val (.long q0), .second, .val (.long q1), .second, .val (.long q2), .second, .val (.int p3), .val (.long v4_0), .second, .val (.long v4_1), .second, .val (.int (p3 &&& (7 : Int32))), .val (.long v10_0), .second, .val (.ref b30), .val (.long (own_last v4_0 v4_1 v10_0)), .second, .val (.long (own_max v4_0 v4_1)), .second] [])) _
          refine XS.iconst X52.here hx rfl (hb hby at_193) ?_
          show Steps p.tables e below (T52.setTop (mkF m 194 #[.val (.long q0), .second, .val (.long q1), .second, .val (.long q2), .second, .val (.int p3), .val (.long v4_0), .second, .val (.long v4_1), .second, .val (.int (p3 &&& (7 : Int32))), .val (.long v10_0), .second, .val (.ref b30), .val (.long (own_last v4_0 v4_1 v10_0)), .second, .val (.long (own_max v4_0 v4_1)), .second] [(.int (1 : Int32))])) _
          refine XS.goto X52.here hx rfl (pc0 := 194) (pc' := 198) rfl (hb hby at_194) (by decide) (by decide) ?_
          exact k)
        obtain ⟨fs, hr, hrun, hended, hW, hsame⟩ := X52.leave (v := some (.int (1 : Int32))) (fun h => by rw [Bd.returns] at h; cases h)
        refine ⟨_, _, pre55 _ ?_, hrun, hended, _, _, rfl, ?_, ⟨_, rfl⟩, hW, hsame.mono (by decide) (by decide)⟩
        · exact retN X52 hx (t := .boolean) Bd.returns (by simp) (hb hby at_198) hr
        · show Q0 Z q0 q1 q2 p3 h0 n0 _ T52.heap _
          rw [hh52]
          exact ⟨rfl, N52⟩
      · have pre56 : ∀ t, Steps p.tables e below (T52.setTop (mkF m 198 #[.val (.long q0), .second, .val (.long q1), .second, .val (.long q2), .second, .val (.int p3), .val (.long v4_0), .second, .val (.long v4_1), .second, .val (.int (p3 &&& (7 : Int32))), .val (.long v10_0), .second, .val (.ref b30), .val (.long (own_last v4_0 v4_1 v10_0)), .second, .val (.long (own_max v4_0 v4_1)), .second] [(.int (0 : Int32))])) t → Steps p.tables e below (s₁.setTop (entryFrame m #[(.long q0), (.long q1), (.long q2), (.int p3)] maxLocals)) t := fun t k => pre53 t (by
          show Steps p.tables e below (T52.setTop (mkF m 190 #[.val (.long q0), .second, .val (.long q1), .second, .val (.long q2), .second, .val (.int p3), .val (.long v4_0), .second, .val (.long v4_1), .second, .val (.int (p3 &&& (7 : Int32))), .val (.long v10_0), .second, .val (.ref b30), .val (.long (own_last v4_0 v4_1 v10_0)), .second, .val (.long (own_max v4_0 v4_1)), .second] [(.int (lcmpW (own_last v4_0 v4_1 v10_0) (own_max v4_0 v4_1)))])) _
          refine XS.ifYes X52.here hx rfl (pc0 := 190) (pc' := 197) rfl (hb hby at_190) rfl ((if0 _ _).trans (feq (fun q => hc190_54 ((lw_eq _ _).mp q))).2) (by decide) (by decide) ?_
          show Steps p.tables e below (T52.setTop (mkF m 197 #[.val (.long q0), .second, .val (.long q1), .second, .val (.long q2), .second, .val (.int p3), .val (.long v4_0), .second, .val (.long v4_1), .second, .val (.int (p3 &&& (7 : Int32))), .val (.long v10_0), .second, .val (.ref b30), .val (.long (own_last v4_0 v4_1 v10_0)), .second, .val (.long (own_max v4_0 v4_1)), .second] [])) _
          refine XS.iconst X52.here hx rfl (hb hby at_197) ?_
          exact k)
        obtain ⟨fs, hr, hrun, hended, hW, hsame⟩ := X52.leave (v := some (.int (0 : Int32))) (fun h => by rw [Bd.returns] at h; cases h)
        refine ⟨_, _, pre56 _ ?_, hrun, hended, _, _, rfl, ?_, ⟨_, rfl⟩, hW, hsame.mono (by decide) (by decide)⟩
        · exact retN X52 hx (t := .boolean) Bd.returns (by simp) (hb hby at_198) hr
        · show Q0 Z q0 q1 q2 p3 h0 n0 _ T52.heap _
          rw [hh52]
          exfalso
          have q := own_fin v4_0 v4_1 v10_0 hv4
          simp only [own_max_toInt, ← Int64.toInt_inj, Int64.lt_iff_toInt_lt, Int64.reduceToInt] at q hv4 hc161_34 hc173_47 hc190_54
          have r0 := rng64 v4_0
          have r1 := rng64 v4_1
          omega
set_option maxRecDepth 65536 in
set_option maxHeartbeats 40000000 in
theorem comes_1 {Post : Tables → Env → Array Value → State → Outcome → State → Prop} (hpost : ∀ tb e args s v u, (limb_1_1.after args s (.returned v) u = true ∧ limb_1_2.after args s (.returned v) u = true ∧ True) → FrameEnd s (.returned v) u (Jvm.fieldLocs frame_1_writes args s ++ Jvm.arrayLocs frame_1_arrays args s ++ Jvm.staticLocs frame_1_statics s) 16 128 → Post tb e args s (.returned v) u) :
    ArmFor flags0 classFile x code maxLocals ret World_1 tables_1 room_1 Calls_1 rest_1 Pre_1 Post := by
  intro l hfl _ _ p e ha hc hk s m args below hf hA hF happ hP
  obtain ⟨hcalls, hrest, hpre⟩ := hP
  obtain ⟨-, -, -, hnamed, -, -, -, hat⟩ := (Spec.applies_iff hf).mp happ
  obtain ⟨hg, hn⟩ := and_e (Cond.before_iff.mp (show (Jvm.Cond.and given_1 narrow_1).before args s = true from hpre))
  obtain ⟨g1, g2⟩ := and_e hg
  obtain ⟨g3, g4⟩ := and_e g2
  obtain ⟨g5, g6⟩ := and_e g4
  obtain ⟨g7, g8⟩ := and_e g6
  obtain ⟨w0, w1, w2, w3, rfl⟩ : ∃ w0 w1 w2 w3 : Value, args = #[w0, w1, w2, w3] := by
    have hs : args.size = 4 := by simpa [Cond.value, given_1] using g1
    obtain ⟨L⟩ := args
    match L, hs with
    | [w0, w1, w2, w3], _ => exact ⟨w0, w1, w2, w3, rfl⟩
  have hw := fun d (hd : d ∈ tables_1) => atoms_spec (ws := Jvm.Cond.code x code maxLocals ret :: tables_1) hat d (List.mem_cons_of_mem _ hd)
  have hfit : Fit s := fun {y c} hc i hi => by
    obtain ⟨ha, rfl⟩ := Array.getElem?_eq_some_iff.mp hc
    have q := List.all_eq_true.mp ((Array.all_eq_true_iff_forall_mem.mp hF) _ (Array.getElem_mem ha)) i (List.mem_range.mpr hi)
    simpa [Array.getElem?_eq_getElem hi] using q
  obtain ⟨i0, ei0⟩ := isL_v g3
  obtain rfl : w0 = (.long i0) := Option.some.inj ei0
  obtain ⟨i1, ei1⟩ := isL_v g5
  obtain rfl : w1 = (.long i1) := Option.some.inj ei1
  obtain ⟨i2, ei2⟩ := isL_v g7
  obtain rfl : w2 = (.long i2) := Option.some.inj ei2
  obtain ⟨i3, ei3⟩ := is_v g8
  obtain rfl : w3 = (.int i3) := Option.some.inj ei3
  obtain ⟨n, o, h1, h2, h3, _, L, rfl, ⟨rfl, N⟩, hq⟩ := rm0 l s _ hw tables_1 i0 i1 i2 i3 s.heap s.heap.size (Nat.le_refl _) p e ha hc hk s m _ below hf ((Spec.applies_iff_loose hf).mp happ).1 ⟨rfl, State.Warmed39.refl s, rfl⟩ trivial
  refine ⟨n, _, h1, h2, h3, hpost _ _ _ _ _ _ ⟨Cond.after_iff.mpr rfl, Cond.after_iff.mpr (eq_i res_at (Term.int_eval (1)) rfl), trivial⟩ ⟨hq.1, hq.2.1, (hq.2.2.sift fun y hy => Or.inr (N y hy)).mono (by decide) (by decide)⟩⟩
theorem main_1_1 : Claimed_1_1 := comes_1 fun _ _ _ _ _ _ h hF => ⟨h.1, hF⟩
theorem main_1_2 : Claimed_1_2 := comes_1 fun _ _ _ _ _ _ h hF => ⟨h.2.1, hF⟩
end Jvm.Pilot.@@N@@
namespace Jvm.Pilot.@@N@@
open Jvm Jvm.ClassFile Sem Op Lib Jvm.Free Jvm.Stand Jvm.Pilot.@@N@@.Jvm.D
/-! MADE BY PROGRAM (witnessworld.py) out of the Statement's table words and the real class files: 12 classes; the members and pool entries that the words name. The judged class is class 1, her method 1. -/
namespace start1
open Jvm.ClassFile
def u (s : String) : CpInfo := .utf8 (stringToUtf16 s)
/-- a pool by its gaps: so many unusable entries, then the entry; so many at the end -/
def gap : Nat → List CpInfo → List CpInfo
  | 0, r => r
  | n + 1, r => .unusable :: gap n r
def poolList (es : List (Nat × CpInfo)) (last : Nat) : List CpInfo := es.foldr (fun e r => gap e.1 (e.2 :: r)) (gap last [])
def pool (es : List (Nat × CpInfo)) (last : Nat) : Array CpInfo := ⟨poolList es last⟩
def fileOf (pool : Array CpInfo) (this : Nat) (attrs : Array Attribute := #[]) (ms : Array MethodInfo := #[]) (fl : Nat := 33) (sup : Nat := 0) (ifs : Array Nat := #[]) (fds : Array FieldInfo := #[]) : ClassFile where
  minorVersion := 0
  majorVersion := 65
  constantPool := pool
  accessFlags := fl
  thisClass := this
  superClass := sup
  interfaces := ifs
  fields := fds
  methods := ms
  attributes := attrs
def plain (name : String) (sup : Option ClassId) : Class where
  name := name
  kind := .ordinary
  loader := none
  accessFlags := 33
  super := sup
  interfaces := #[]
  cf := none
  fields := #[]
  methods := #[]
  instanceTypes := #[]
  staticTypes := #[]
  resolved := #[]
  callSites := []
  init := .initialized
  statics := none
  mirror := none

def pool0 : Array CpInfo := pool [(5, u "<init>"), (0, u "()V"), (1, .class_ 10), (1, u "java/lang/Object")] 113

def k0c0 : Code := { maxStack := 0, maxLocals := 1, code := object_method_1_code, exceptionTable := #[], attributes := #[] }
def k0m0 : Method := { name := "<init>", desc := "()V", sig := { parameters := [], returnType := none }, accessFlags := 1, code := some k0c0 }
/-- java/lang/Object -/
def k0 : Class := { plain "java/lang/Object" none with
  accessFlags := 33
  interfaces := #[]
  cf := some (fileOf pool0 8 #[] #[{ accessFlags := 1, nameIndex := 5, descriptorIndex := 6, attributes := #[] }] 33 0 #[] #[])
  fields := #[]
  methods := #[k0m0]
  instanceTypes := #[]
  staticTypes := #[]
  resolved := Array.replicate 124 none
  statics := none }

def pool1 : Array CpInfo := pool [(2, .class_ 4), (1, u "java/lang/Object"), (0, u "<init>"), (0, u "()V"), (0, .methodref 8 9), (0, .class_ 10), (0, .nameAndType 11 12), (0, u "java/lang/Math"), (0, u "min"), (0, u "(JJ)J"), (0, .methodref 8 14), (0, .nameAndType 15 12), (0, u "max"), (2, .long 9223372036854775807), (1, .class_ 21), (0, u "com/example/almanac/almanac/plan/OverWindow$Correction"), (0, .methodref 20 23), (0, .nameAndType 5 24), (0, u "(Lcom/example/almanac/almanac/plan/Fold;JJ)V"), (0, .methodref 20 26), (0, .nameAndType 27 28), (0, u "lastEdgeAtOrBefore"), (0, u "(J)J"), (0, .long 9223372036854775808), (1, .class_ 32), (0, u "com/example/almanac/almanac/plan/CorrectionLastEdgeAtOrBeforePinLaw"), (2, u "law"), (0, u "(JJJI)Z")] 7

def k1m0 : Method := { name := "<init>", desc := "()V", sig := { parameters := [], returnType := none }, accessFlags := 1, code := none }
def k1c1 : Code := { maxStack := 7, maxLocals := 19, code := code, exceptionTable := #[], attributes := #[] }
def k1m1 : Method := { name := "law", desc := "(JJJI)Z", sig := { parameters := [.long, .long, .long, .int], returnType := some .boolean }, accessFlags := 9, code := some k1c1 }
/-- com/example/almanac/almanac/plan/CorrectionLastEdgeAtOrBeforePinLaw -/
def k1 : Class := { plain "com/example/almanac/almanac/plan/CorrectionLastEdgeAtOrBeforePinLaw" (some 0) with
  accessFlags := 49
  interfaces := #[]
  cf := some (fileOf pool1 31 #[] #[{ accessFlags := 1, nameIndex := 5, descriptorIndex := 6, attributes := #[] }, { accessFlags := 9, nameIndex := 35, descriptorIndex := 36, attributes := #[] }] 49 2 #[] #[])
  fields := #[]
  methods := #[k1m0, k1m1]
  instanceTypes := #[]
  staticTypes := #[]
  resolved := Array.replicate 44 none
  statics := none }

def pool2 : Array CpInfo := pool [(1, .class_ 2), (0, u "java/lang/Math"), (1, .class_ 6), (1, u "java/lang/Object"), (0, u "<init>"), (0, u "()V"), (89, .class_ 100), (1, u "java/lang/Math$RandomNumberGeneratorHolder"), (20, u "(JJ)J"), (50, u "negativeZeroFloatBits"), (0, u "J"), (2, u "negativeZeroDoubleBits"), (21, u "max"), (2, u "min"), (43, u "$assertionsDisabled"), (0, u "Z"), (91, u "twoToTheDoubleScaleDown"), (0, u "D"), (4, u "twoToTheDoubleScaleUp"), (9, u "E"), (3, u "PI"), (2, u "TAU"), (2, u "DEGREES_TO_RADIANS"), (0, u "RADIANS_TO_DEGREES")] 94

def k2m0 : Method := { name := "<init>", desc := "()V", sig := { parameters := [], returnType := none }, accessFlags := 2, code := none }
def k2c1 : Code := { maxStack := 4, maxLocals := 4, code := jdk_29_method_66_code, exceptionTable := #[], attributes := #[] }
def k2m1 : Method := { name := "max", desc := "(JJ)J", sig := { parameters := [.long, .long], returnType := some .long }, accessFlags := 9, code := some k2c1 }
def k2c2 : Code := { maxStack := 4, maxLocals := 4, code := jdk_29_method_70_code, exceptionTable := #[], attributes := #[] }
def k2m2 : Method := { name := "min", desc := "(JJ)J", sig := { parameters := [.long, .long], returnType := some .long }, accessFlags := 9, code := some k2c2 }
/-- java/lang/Math -/
def k2 : Class := { plain "java/lang/Math" (some 0) with
  accessFlags := 49
  interfaces := #[]
  cf := some (fileOf pool2 1 #[.nestMembers #[98]] #[{ accessFlags := 2, nameIndex := 7, descriptorIndex := 8, attributes := #[] }, { accessFlags := 9, nameIndex := 198, descriptorIndex := 121, attributes := #[] }, { accessFlags := 9, nameIndex := 201, descriptorIndex := 121, attributes := #[] }] 49 4 #[] #[{ accessFlags := 25, nameIndex := 354, descriptorIndex := 339, attributes := #[] }, { accessFlags := 25, nameIndex := 358, descriptorIndex := 339, attributes := #[] }, { accessFlags := 25, nameIndex := 361, descriptorIndex := 339, attributes := #[] }, { accessFlags := 26, nameIndex := 364, descriptorIndex := 339, attributes := #[] }, { accessFlags := 26, nameIndex := 365, descriptorIndex := 339, attributes := #[] }, { accessFlags := 26, nameIndex := 172, descriptorIndex := 173, attributes := #[] }, { accessFlags := 26, nameIndex := 176, descriptorIndex := 173, attributes := #[] }, { accessFlags := 8, nameIndex := 344, descriptorIndex := 339, attributes := #[] }, { accessFlags := 8, nameIndex := 338, descriptorIndex := 339, attributes := #[] }, { accessFlags := 4120, nameIndex := 245, descriptorIndex := 246, attributes := #[] }])
  fields := #[{ name := "E", type := .double, accessFlags := 25, slot := 0, constantValue := 0 }, { name := "PI", type := .double, accessFlags := 25, slot := 1, constantValue := 0 }, { name := "TAU", type := .double, accessFlags := 25, slot := 2, constantValue := 0 }, { name := "DEGREES_TO_RADIANS", type := .double, accessFlags := 26, slot := 3, constantValue := 0 }, { name := "RADIANS_TO_DEGREES", type := .double, accessFlags := 26, slot := 4, constantValue := 0 }, { name := "negativeZeroFloatBits", type := .long, accessFlags := 26, slot := 5, constantValue := 0 }, { name := "negativeZeroDoubleBits", type := .long, accessFlags := 26, slot := 6, constantValue := 0 }, { name := "twoToTheDoubleScaleUp", type := .double, accessFlags := 8, slot := 7, constantValue := 0 }, { name := "twoToTheDoubleScaleDown", type := .double, accessFlags := 8, slot := 8, constantValue := 0 }, { name := "$assertionsDisabled", type := .boolean, accessFlags := 4120, slot := 9, constantValue := 0 }]
  methods := #[k2m0, k2m1, k2m2]
  instanceTypes := #[]
  staticTypes := #[.double, .double, .double, .double, .double, .long, .long, .double, .double, .boolean]
  resolved := Array.replicate 460 none
  statics := none }

def pool3 : Array CpInfo := pool [(1, .methodref 2 3), (0, .class_ 4), (0, .nameAndType 5 6), (0, u "java/lang/Object"), (0, u "<init>"), (0, u "()V"), (0, .class_ 8), (0, u "java/lang/Record")] 13

def k3c0 : Code := { maxStack := 1, maxLocals := 1, code := jdk_30_method_1_code, exceptionTable := #[], attributes := #[] }
def k3m0 : Method := { name := "<init>", desc := "()V", sig := { parameters := [], returnType := none }, accessFlags := 4, code := some k3c0 }
/-- java/lang/Record -/
def k3 : Class := { plain "java/lang/Record" (some 0) with
  accessFlags := 1057
  interfaces := #[]
  cf := some (fileOf pool3 7 #[] #[{ accessFlags := 4, nameIndex := 5, descriptorIndex := 6, attributes := #[] }] 1057 2 #[] #[])
  fields := #[]
  methods := #[k3m0]
  instanceTypes := #[]
  staticTypes := #[]
  resolved := Array.replicate 22 none
  statics := none }

def pool4 : Array CpInfo := pool [(7, .class_ 8), (0, u "com/example/almanac/almanac/plan/PiecewiseLoad$Sum"), (8, .class_ 18), (0, u "com/example/almanac/almanac/plan/PiecewiseLoad$Spliced"), (3, .class_ 23), (0, u "com/example/almanac/almanac/plan/PiecewiseLoad"), (0, .class_ 25), (0, u "java/lang/Object")] 20

/-- com/example/almanac/almanac/plan/PiecewiseLoad -/
def k4 : Class := { plain "com/example/almanac/almanac/plan/PiecewiseLoad" (some 0) with
  accessFlags := 1536
  interfaces := #[]
  cf := some (fileOf pool4 22 #[.nestMembers #[17, 7]] #[] 1536 24 #[] #[])
  fields := #[]
  methods := #[]
  instanceTypes := #[]
  staticTypes := #[]
  resolved := Array.replicate 46 none
  statics := none }

def pool5 : Array CpInfo := pool [(1, .methodref 2 3), (0, .class_ 4), (0, .nameAndType 5 6), (0, u "java/lang/Record"), (0, u "<init>"), (0, u "()V"), (0, .fieldref 8 9), (0, .class_ 10), (0, .nameAndType 11 12), (0, u "com/example/almanac/almanac/plan/OverWindow$Correction"), (0, u "negated"), (0, u "Lcom/example/almanac/almanac/plan/Fold;"), (0, .fieldref 8 14), (0, .nameAndType 15 16), (0, u "start"), (0, u "J"), (0, .fieldref 8 18), (0, .nameAndType 19 16), (0, u "end"), (6, u "(Lcom/example/almanac/almanac/plan/Fold;JJ)V"), (26, .long 9223372036854775808), (4, u "(J)J"), (37, .class_ 97), (0, u "com/example/almanac/almanac/plan/PiecewiseLoad"), (6, u "lastEdgeAtOrBefore"), (10, .class_ 116), (0, u "com/example/almanac/almanac/plan/OverWindow")] 21

def k5c0 : Code := { maxStack := 3, maxLocals := 6, code := prog_30_method_1_code, exceptionTable := #[], attributes := #[] }
def k5m0 : Method := { name := "<init>", desc := "(Lcom/example/almanac/almanac/plan/Fold;JJ)V", sig := { parameters := [(.object "com/example/almanac/almanac/plan/Fold"), .long, .long], returnType := none }, accessFlags := 0, code := some k5c0 }
def k5c1 : Code := { maxStack := 4, maxLocals := 3, code := prog_30_method_6_code, exceptionTable := #[], attributes := #[] }
def k5m1 : Method := { name := "lastEdgeAtOrBefore", desc := "(J)J", sig := { parameters := [.long], returnType := some .long }, accessFlags := 0, code := some k5c1 }
/-- com/example/almanac/almanac/plan/OverWindow$Correction -/
def k5 : Class := { plain "com/example/almanac/almanac/plan/OverWindow$Correction" (some 3) with
  accessFlags := 48
  interfaces := #[4]
  cf := some (fileOf pool5 8 #[.nestHost 115] #[{ accessFlags := 0, nameIndex := 5, descriptorIndex := 26, attributes := #[] }, { accessFlags := 0, nameIndex := 104, descriptorIndex := 58, attributes := #[] }] 48 2 #[96] #[{ accessFlags := 18, nameIndex := 11, descriptorIndex := 12, attributes := #[] }, { accessFlags := 18, nameIndex := 15, descriptorIndex := 16, attributes := #[] }, { accessFlags := 18, nameIndex := 19, descriptorIndex := 16, attributes := #[] }])
  fields := #[{ name := "negated", type := (.object "com/example/almanac/almanac/plan/Fold"), accessFlags := 18, slot := 0, constantValue := 0 }, { name := "start", type := .long, accessFlags := 18, slot := 1, constantValue := 0 }, { name := "end", type := .long, accessFlags := 18, slot := 2, constantValue := 0 }]
  methods := #[k5m0, k5m1]
  instanceTypes := #[(.object "com/example/almanac/almanac/plan/Fold"), .long, .long]
  staticTypes := #[]
  resolved := Array.replicate 138 none
  statics := none }

def pool6 : Array CpInfo := pool [(1, u "java/lang/Cloneable"), (0, .class_ 1), (0, u "java/lang/Object"), (0, .class_ 3)] 3

/-- java/lang/Cloneable -/
def k6 : Class := { plain "java/lang/Cloneable" (some 0) with
  accessFlags := 1537
  interfaces := #[]
  cf := some (fileOf pool6 2 #[] #[] 1537 4 #[] #[])
  fields := #[]
  methods := #[]
  instanceTypes := #[]
  staticTypes := #[]
  resolved := Array.replicate 8 none
  statics := none }

def pool7 : Array CpInfo := pool [(1, u "java/io/Serializable"), (0, .class_ 1), (0, u "java/lang/Object"), (0, .class_ 3)] 3

/-- java/io/Serializable -/
def k7 : Class := { plain "java/io/Serializable" (some 0) with
  accessFlags := 1537
  interfaces := #[]
  cf := some (fileOf pool7 2 #[] #[] 1537 4 #[] #[])
  fields := #[]
  methods := #[]
  instanceTypes := #[]
  staticTypes := #[]
  resolved := Array.replicate 8 none
  statics := none }

/-- the primitive byte -/
def k8 : Class := { plain "byte" none with kind := .primitive 'B', accessFlags := 0x411 }
/-- [B -/
def k9 : Class := { plain "[B" (some 0) with kind := .array 8 .byte, interfaces := #[6, 7], accessFlags := 1041 }

/-- the primitive int -/
def k10 : Class := { plain "int" none with kind := .primitive 'I', accessFlags := 0x411 }
/-- [I -/
def k11 : Class := { plain "[I" (some 0) with kind := .array 10 .int, interfaces := #[6, 7], accessFlags := 1041 }

def heap : Heap := #[]
def classes : Array Class := #[k0, k1, k2, k3, k4, k5, k6, k7, k8, k9, k10, k11]
def interned : List (Array UInt16 × Addr) := []
def slotsUsed : Nat := 0
def theMethod : MethodId := ⟨1, 1⟩
def args0 : Array Value := #[.long 5, .long 3, .long 4, .int 2]
def aboutOver (below : List Frame) : State where
  vm := { classes := classes, interned := interned.toArray }
  heap := heap
  slotsUsed := slotsUsed
  threads := #[{ frames := .invoking theMethod args0 :: below }]
def below0 : List Frame := [.native { method := ⟨0, 0⟩, args := #[] }]
def about1 : State := aboutOver below0
def p0 : Program := .bare "" "" ""
def e0 : Env := launch0.env 0 0 0
theorem w_frames : about1.frames = Frame.invoking theMethod args0 :: below0 := rfl
set_option maxRecDepth 65536 in
theorem w_args : argsFit about1.vm theMethod args0 = true := by decide +kernel
set_option maxRecDepth 65536 in
theorem w_heap : heapFits about1 = true := by decide +kernel
set_option maxRecDepth 65536 in
theorem w_runnable : about1.curStatus? = some .runnable := by decide +kernel
set_option maxRecDepth 65536 in
theorem w_alone : about1.alone = true := by decide +kernel
set_option maxRecDepth 65536 in
theorem w_named : about1.methodNamed? x = some theMethod := by decide +kernel
set_option maxRecDepth 65536 in
theorem w_hears : about1.hears theMethod below0 = true := by decide +kernel
set_option maxRecDepth 65536 in
theorem w_ripe : about1.ripe theMethod args0 below0 = true := by decide +kernel
theorem w_running : about1.status = .running := rfl
set_option maxRecDepth 65536 in
theorem w_room : about1.hasRoom e0.platform room_1 = true :=
  launch0.hasRoom_least _ room_1 (by decide +kernel) (by decide +kernel) (by decide +kernel) (by decide +kernel) (by decide +kernel) (by decide +kernel)
theorem allAtoms_all (ts : List Jvm.Cond) (a : Array Jvm.Value) (st : Jvm.State) : (allAtoms ts).before a st = ts.all (fun c => c.before a st) := by
  induction ts with
  | nil => rfl
  | cons c t ih =>
    show (Jvm.Cond.and c (allAtoms t)).before a st = _
    rw [Jvm.Cond.before_and, ih, List.all_cons]
def words1 : List Jvm.Cond := Jvm.Cond.code x code maxLocals ret :: tables_1
/-- a 'code' word, met by the world's own term for the bytes: nothing is compared byte by byte -/
theorem code_word {y : MethodName} {bytes : ByteArray} {mx : Nat} {rt : Option FieldType} {a : Array Value} {s : State} {m : MethodId} {meth : Method} {c : Code} (h1 : s.methodNamed? y = some m) (h2 : s.vm.method? m = some meth) (h3 : meth.code = some c) (h4 : c.code = bytes)
    (h5 : (c.maxLocals == mx && c.exceptionTable.isEmpty && decide (c.maxStack ≤ mostOperands) && decide (meth.sig.returnType = rt) && !meth.locks && decide (parseMethodDescriptor y.desc = some meth.sig)) = true) : (Jvm.Cond.code y bytes mx rt).before a s = true := by
  simp only [Bool.and_eq_true, beq_iff_eq, Bool.not_eq_true', decide_eq_true_eq] at h5
  obtain ⟨⟨⟨⟨⟨g1, g2⟩, g3⟩, g4⟩, g5⟩, g6⟩ := h5
  simp [Cond.before, Cond.holds, Cond.value, h1, h2, h3, h4, g1, g2, g3, g4, g5, g6]
def isCode : Jvm.Cond → Bool
  | .code _ _ _ _ => true
  | _ => false
theorem all_split {L : List Jvm.Cond} {P : Jvm.Cond → Bool} (h1 : L.all (fun c => isCode c || P c) = true) (h2 : ∀ c ∈ L.filter isCode, P c = true) : L.all P = true := by
  refine List.all_eq_true.mpr fun c hc => ?_
  have h := List.all_eq_true.mp h1 c hc
  rcases Bool.eq_false_or_eq_true (isCode c) with hi | hi
  · exact h2 c (List.mem_filter.mpr ⟨hc, hi⟩)
  · simpa [hi] using h
set_option maxRecDepth 65536 in
theorem w_c0 : (Jvm.Cond.code x code maxLocals ret).before args0 about1 = true := code_word (m := ⟨1, 1⟩) (meth := k1m1) (c := k1c1) (by decide +kernel) rfl rfl rfl (by decide +kernel)
set_option maxRecDepth 65536 in
theorem w_c1 : (Jvm.Cond.code ({ cls := "java/lang/Math", name := "min", desc := "(JJ)J" } : Jvm.MethodName) jdk_29_method_70_code (4 : Nat) (Option.some Jvm.ClassFile.FieldType.long)).before args0 about1 = true := code_word (m := ⟨2, 2⟩) (meth := k2m2) (c := k2c2) (by decide +kernel) rfl rfl rfl (by decide +kernel)
set_option maxRecDepth 65536 in
theorem w_c2 : (Jvm.Cond.code ({ cls := "java/lang/Math", name := "max", desc := "(JJ)J" } : Jvm.MethodName) jdk_29_method_66_code (4 : Nat) (Option.some Jvm.ClassFile.FieldType.long)).before args0 about1 = true := code_word (m := ⟨2, 1⟩) (meth := k2m1) (c := k2c1) (by decide +kernel) rfl rfl rfl (by decide +kernel)
set_option maxRecDepth 65536 in
theorem w_c3 : (Jvm.Cond.code ({ cls := "com/example/almanac/almanac/plan/OverWindow$Correction", name := "<init>", desc := "(Lcom/example/almanac/almanac/plan/Fold;JJ)V" } : Jvm.MethodName) prog_30_method_1_code (6 : Nat) (Option.none : Option Jvm.ClassFile.FieldType)).before args0 about1 = true := code_word (m := ⟨5, 0⟩) (meth := k5m0) (c := k5c0) (by decide +kernel) rfl rfl rfl (by decide +kernel)
set_option maxRecDepth 65536 in
theorem w_c4 : (Jvm.Cond.code ({ cls := "java/lang/Record", name := "<init>", desc := "()V" } : Jvm.MethodName) jdk_30_method_1_code (1 : Nat) (Option.none : Option Jvm.ClassFile.FieldType)).before args0 about1 = true := code_word (m := ⟨3, 0⟩) (meth := k3m0) (c := k3c0) (by decide +kernel) rfl rfl rfl (by decide +kernel)
set_option maxRecDepth 65536 in
theorem w_c5 : (Jvm.Cond.code ({ cls := "java/lang/Object", name := "<init>", desc := "()V" } : Jvm.MethodName) object_method_1_code (1 : Nat) (Option.none : Option Jvm.ClassFile.FieldType)).before args0 about1 = true := code_word (m := ⟨0, 0⟩) (meth := k0m0) (c := k0c0) (by decide +kernel) rfl rfl rfl (by decide +kernel)
set_option maxRecDepth 65536 in
theorem w_c6 : (Jvm.Cond.code ({ cls := "com/example/almanac/almanac/plan/OverWindow$Correction", name := "lastEdgeAtOrBefore", desc := "(J)J" } : Jvm.MethodName) prog_30_method_6_code (3 : Nat) (Option.some Jvm.ClassFile.FieldType.long)).before args0 about1 = true := code_word (m := ⟨5, 1⟩) (meth := k5m1) (c := k5c1) (by decide +kernel) rfl rfl rfl (by decide +kernel)
def codes1 : List Jvm.Cond := [Jvm.Cond.code x code maxLocals ret, Jvm.Cond.code ({ cls := "java/lang/Math", name := "min", desc := "(JJ)J" } : Jvm.MethodName) jdk_29_method_70_code (4 : Nat) (Option.some Jvm.ClassFile.FieldType.long), Jvm.Cond.code ({ cls := "java/lang/Math", name := "max", desc := "(JJ)J" } : Jvm.MethodName) jdk_29_method_66_code (4 : Nat) (Option.some Jvm.ClassFile.FieldType.long), Jvm.Cond.code ({ cls := "com/example/almanac/almanac/plan/OverWindow$Correction", name := "<init>", desc := "(Lcom/example/almanac/almanac/plan/Fold;JJ)V" } : Jvm.MethodName) prog_30_method_1_code (6 : Nat) (Option.none : Option Jvm.ClassFile.FieldType), Jvm.Cond.code ({ cls := "java/lang/Record", name := "<init>", desc := "()V" } : Jvm.MethodName) jdk_30_method_1_code (1 : Nat) (Option.none : Option Jvm.ClassFile.FieldType), Jvm.Cond.code ({ cls := "java/lang/Object", name := "<init>", desc := "()V" } : Jvm.MethodName) object_method_1_code (1 : Nat) (Option.none : Option Jvm.ClassFile.FieldType), Jvm.Cond.code ({ cls := "com/example/almanac/almanac/plan/OverWindow$Correction", name := "lastEdgeAtOrBefore", desc := "(J)J" } : Jvm.MethodName) prog_30_method_6_code (3 : Nat) (Option.some Jvm.ClassFile.FieldType.long)]
set_option maxRecDepth 65536 in
theorem codes_eq : words1.filter isCode = codes1 := rfl
theorem w_codes : ∀ c ∈ words1.filter isCode, c.before args0 about1 = true := by
  rw [codes_eq]
  intro c hc
  simp only [codes1, List.mem_cons, List.not_mem_nil, or_false] at hc
  rcases hc with rfl | rfl | rfl | rfl | rfl | rfl | rfl
  · exact w_c0
  · exact w_c1
  · exact w_c2
  · exact w_c3
  · exact w_c4
  · exact w_c5
  · exact w_c6
set_option maxRecDepth 65536 in
theorem w_t1 : (words1.take 24).all (fun c => isCode c || c.before args0 about1) = true := by decide +kernel
set_option maxRecDepth 65536 in
theorem w_t2 : (words1.drop 24).all (fun c => isCode c || c.before args0 about1) = true := by decide +kernel
theorem w_tables : (allAtoms (Jvm.Cond.code x code maxLocals ret :: tables_1)).before args0 about1 = true := by
  rw [allAtoms_all]
  show words1.all (fun c => c.before args0 about1) = true
  refine all_split ?_ w_codes
  rw [← List.take_append_drop 24 words1, List.all_append, w_t1, w_t2]
  rfl
set_option maxRecDepth 65536 in
theorem w_case : (Jvm.Cond.and given_1 narrow_1).before args0 about1 = true := by decide +kernel
theorem w_applies : (headSpec (Jvm.Cond.code x code maxLocals ret :: tables_1) room_1).applies x e0.platform about1 = true :=
  (Spec.applies_iff w_frames).mpr ⟨w_running, w_runnable, w_alone, w_named, w_hears, w_ripe, w_room, w_tables⟩
theorem atStart : AtStart classFile x code maxLocals ret World_1 tables_1 room_1 Calls_1 rest_1 Pre_1 launch0 p0 e0 about1 theMethod args0 below0 :=
  ⟨lists_1, trivial, launch0.admits_env _ _ _, launch0.least_env, fairChoices_fair.cas, fairChoices_fair.clock, w_frames, w_args, w_heap, w_applies, trivial, trivial, w_case⟩
end start1
theorem witness_1 : WitnessClaimed_1 := ⟨start1.p0, start1.e0, start1.about1, start1.theMethod, start1.args0, start1.below0, start1.atStart⟩
end Jvm.Pilot.@@N@@
